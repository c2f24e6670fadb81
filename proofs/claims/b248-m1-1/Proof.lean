import JvmDerived
import JvmDerived.Pilot.@@N@@Statement
import JvmDerived.Pilot.@@N@@Code
set_option linter.unusedVariables false
set_option linter.unusedSimpArgs false
namespace Jvm.Pilot.@@N@@
open Jvm Jvm.ClassFile Sem Op Lib Jvm.Free Jvm.Stand Jvm.LawKit Jvm.RoadKit Bundle Jvm.Pilot.@@N@@.Jvm.D
section OwnKit
variable {p : Program} {l : Launch} {e : Env} {R : Room} {s : State} {m : MethodId} {args : Array Value} {below : List Frame} {meth : Method} {c : Code} {T : State} {locs : List Loc} {cells slots : Nat} {Q : Option Value → Heap → List Loc → Prop} {C S : Nat}
/-- from x the run ends, returning, with what Q says -/
def own_End (p : Program) (e : Env) (below : List Frame) (s : State) (Q : Option Value → Heap → List Loc → Prop) (C S : Nat) (x : State) : Prop :=
  ∃ t o, Steps p.tables e below x t ∧ t.status = .running ∧ Ended t below o ∧ ∃ v L, o = .returned v ∧ Q v t.heap L ∧ FrameEnd s o t L C S
theorem own_go {x x' : State} (h : ∀ t, Steps p.tables e below x' t → Steps p.tables e below x t) (k : own_End p e below s Q C S x') : own_End p e below s Q C S x := by
  obtain ⟨t, o, h1, h2⟩ := k
  exact ⟨t, o, h t h1, h2⟩
theorem own_mono {Q' : Option Value → Heap → List Loc → Prop} {x : State} (h : ∀ v h L, Q v h L → Q' v h L) (k : own_End p e below s Q C S x) : own_End p e below s Q' C S x := by
  obtain ⟨t, o, h1, h2, h3, v, L, h4, h5, h6⟩ := k
  exact ⟨t, o, h1, h2, h3, v, L, h4, h _ _ _ h5, h6⟩
theorem own_out (X : Stand p l e R s m args below meth c T locs cells slots) (hlk : meth.locks = false) {v : Option Value} (hv : meth.sig.returnType = none → v = none) {x : State}
    (h : ∀ fs, (∀ (f : JFrame) (acts : List Action), f.method = m → f.locked = none → f.entered = [] → (doReturn e (T.setTop f) acts v).1 = T.setFrames fs) → Steps p.tables e below x (T.setFrames fs))
    (hq : Q v T.heap locs) (hc : cells ≤ C) (hs : slots ≤ S) : own_End p e below s Q C S x := by
  obtain ⟨fs, hr, hrun, hended, hW, hsame⟩ := X.leave hv hlk
  exact ⟨_, _, h fs hr, hrun, hended, _, _, rfl, hq, ⟨_, rfl⟩, hW, hsame.mono hc hs⟩
theorem own_retV (X : Stand p l e R s m args below meth c T locs cells slots) (hx : p.tables.exec = Jvm.exec) (hlk : meth.locks = false) {pc : Nat} {Ls : Array Slot} (hret : meth.sig.returnType = none) (hd : decode c.code pc = .ok (.return_, 1))
    (hq : Q none T.heap locs) (hc : cells ≤ C) (hs : slots ≤ S) : own_End p e below s Q C S (T.setTop (mkF m pc Ls [])) :=
  own_out X hlk (fun _ => rfl) (fun fs hr => X.returnOut hx hret hd hr) hq hc hs
theorem own_retN (X : Stand p l e R s m args below meth c T locs cells slots) (hx : p.tables.exec = Jvm.exec) (hlk : meth.locks = false) {pc : Nat} {Ls : Array Slot} {z w : Int32} {t : FieldType} {rest : List Value} (hret : meth.sig.returnType = some t) (ht : t = .boolean ∨ t = .byte ∨ t = .char ∨ t = .short) (hd : decode c.code pc = .ok (.ireturn, 1))
    (hz : nar t z = w) (hq : Q (some (.int w)) T.heap locs) (hc : cells ≤ C) (hs : slots ≤ S) : own_End p e below s Q C S (T.setTop (mkF m pc Ls (.int z :: rest))) := by
  subst hz
  exact own_out X hlk (fun h => by rw [hret] at h; cases h) (fun fs hr => retN X hx hret ht hd hr) hq hc hs
theorem own_retI (X : Stand p l e R s m args below meth c T locs cells slots) (hx : p.tables.exec = Jvm.exec) (hlk : meth.locks = false) {pc : Nat} {Ls : Array Slot} {z : Int32} {rest : List Value} (hret : meth.sig.returnType = some .int) (hd : decode c.code pc = .ok (.ireturn, 1))
    (hq : Q (some (.int z)) T.heap locs) (hc : cells ≤ C) (hs : slots ≤ S) : own_End p e below s Q C S (T.setTop (mkF m pc Ls (.int z :: rest))) :=
  own_out X hlk (fun h => by rw [hret] at h; cases h) (fun fs hr => retOut X hx hret rfl (Or.inl ⟨rfl, Or.inl rfl, _, rfl⟩) hd hr) hq hc hs
theorem own_retJ (X : Stand p l e R s m args below meth c T locs cells slots) (hx : p.tables.exec = Jvm.exec) (hlk : meth.locks = false) {pc : Nat} {Ls : Array Slot} {z : Int64} {rest : List Value} (hret : meth.sig.returnType = some .long) (hd : decode c.code pc = .ok (.lreturn, 1))
    (hq : Q (some (.long z)) T.heap locs) (hc : cells ≤ C) (hs : slots ≤ S) : own_End p e below s Q C S (T.setTop (mkF m pc Ls (.long z :: rest))) :=
  own_out X hlk (fun h => by rw [hret] at h; cases h) (fun fs hr => retOut X hx hret rfl (Or.inr (Or.inl ⟨rfl, rfl, _, rfl⟩)) hd hr) hq hc hs
theorem own_retR (X : Stand p l e R s m args below meth c T locs cells slots) (hx : p.tables.exec = Jvm.exec) (hlk : meth.locks = false) {pc : Nat} {Ls : Array Slot} {z : Value} {t : FieldType} {rest : List Value} (hret : meth.sig.returnType = some t) (ht : t.isReference = true) (hv : z.isRef = true) (hd : decode c.code pc = .ok (.areturn, 1))
    (hq : Q (some z) T.heap locs) (hc : cells ≤ C) (hs : slots ≤ S) : own_End p e below s Q C S (T.setTop (mkF m pc Ls (z :: rest))) :=
  own_out X hlk (fun h => by rw [hret] at h; cases h) (fun fs hr => retOut X hx hret (by cases t <;> first | rfl | cases ht) (Or.inr (Or.inr (Or.inr (Or.inr ⟨rfl, ht, hv⟩)))) hd hr) hq hc hs
theorem own_w {a0 : Array Value} {Z : State} (hw : ∀ d ∈ tables_1, d.before a0 Z = true) (i : Nat) {d : Jvm.Cond} (h : tables_1[i]? = some d) : d.before a0 Z = true := hw _ (List.mem_of_getElem? h)
theorem own_self {a0 : Array Value} {Z : State} {y : MethodName} {n : Nat} (wi : (Jvm.Cond.instantiable y.cls n).before a0 Z = true) (wm : (Jvm.Cond.instanceMethod y).before a0 Z = true) (wp : (Jvm.Cond.privateMethod y).before a0 Z = true) (hy : y.cls ≠ "java/lang/invoke/MethodHandle" ∧ y.cls ≠ "java/lang/invoke/VarHandle") : (Jvm.Cond.selects y.cls y y).before a0 Z = true := by
  obtain ⟨c, k, h1, h2, -, h4, -⟩ := Cond.instantiable_spec wi
  have h5 : k.isInterface = false := by
    cases hq : k.isInterface
    · rfl
    · rw [hq] at h4; cases h4
  exact selects_self_of_private h1 h2 h5 (Cond.privateMethod_at wp) wm hy
end OwnKit
theorem d9_0 : decode prog_30_method_18_code 0 = .ok (.lload_n 0, 1) := by decide +kernel
theorem d9_1 : decode prog_30_method_18_code 1 = .ok (.lload_n 0, 1) := by decide +kernel
theorem d9_2 : decode prog_30_method_18_code 2 = .ok (.bipush 30, 2) := by decide +kernel
theorem d9_4 : decode prog_30_method_18_code 4 = .ok (.lushr, 1) := by decide +kernel
theorem d9_5 : decode prog_30_method_18_code 5 = .ok (.lxor, 1) := by decide +kernel
theorem d9_6 : decode prog_30_method_18_code 6 = .ok (.ldc2_w 200, 3) := by decide +kernel
theorem d9_9 : decode prog_30_method_18_code 9 = .ok (.lmul, 1) := by decide +kernel
theorem d9_10 : decode prog_30_method_18_code 10 = .ok (.lstore_n 2, 1) := by decide +kernel
theorem d9_11 : decode prog_30_method_18_code 11 = .ok (.lload_n 2, 1) := by decide +kernel
theorem d9_12 : decode prog_30_method_18_code 12 = .ok (.lload_n 2, 1) := by decide +kernel
theorem d9_13 : decode prog_30_method_18_code 13 = .ok (.bipush 27, 2) := by decide +kernel
theorem d9_15 : decode prog_30_method_18_code 15 = .ok (.lushr, 1) := by decide +kernel
theorem d9_16 : decode prog_30_method_18_code 16 = .ok (.lxor, 1) := by decide +kernel
theorem d9_17 : decode prog_30_method_18_code 17 = .ok (.ldc2_w 202, 3) := by decide +kernel
theorem d9_20 : decode prog_30_method_18_code 20 = .ok (.lmul, 1) := by decide +kernel
theorem d9_21 : decode prog_30_method_18_code 21 = .ok (.lstore_n 2, 1) := by decide +kernel
theorem d9_22 : decode prog_30_method_18_code 22 = .ok (.lload_n 2, 1) := by decide +kernel
theorem d9_23 : decode prog_30_method_18_code 23 = .ok (.lload_n 2, 1) := by decide +kernel
theorem d9_24 : decode prog_30_method_18_code 24 = .ok (.bipush 31, 2) := by decide +kernel
theorem d9_26 : decode prog_30_method_18_code 26 = .ok (.lushr, 1) := by decide +kernel
theorem d9_27 : decode prog_30_method_18_code 27 = .ok (.lxor, 1) := by decide +kernel
theorem d9_28 : decode prog_30_method_18_code 28 = .ok (.lreturn, 1) := by decide +kernel
def Q_rm9 (Z : State) (q0 : Int64) (h0 : Heap) (n0 : Nat) (v : Option Value) (h : Heap) (L : List Loc) : Prop := ∃ z : Int64, v = some (.long z) ∧ Fr n0 L ∧ h = h0
theorem pn_rm9 : plainName "com/example/moving_tokens/movingtokens/MarkingSet" = true := by first | (simp [plainName, overriddenIn]; done) | decide +kernel
theorem ef_rm9 (m : MethodId) (x0 : Int64) : entryFrame m #[(.long x0)] 4 = mkF m 0 #[.val (.long x0), .second, .unset, .unset] [] := by first | (simp [entryFrame, mkF, argsToLocals, Value.category]; done) | rfl
set_option maxRecDepth 65536 in
set_option maxHeartbeats 40000000 in
theorem rm9 (l : Launch) (Z : State) (a0 : Array Value) (hw : ∀ d ∈ tables_1, d.before a0 Z = true) (ws : List Jvm.Cond) (q0 : Int64) (h0 : Heap) (n0 : Nat) (Z0 : n0 ≤ h0.size) :
    MetFree l (⟨"com/example/moving_tokens/movingtokens/MarkingSet", "spread", "(J)J"⟩ : MethodName) (head1 (Jvm.Cond.code (⟨"com/example/moving_tokens/movingtokens/MarkingSet", "spread", "(J)J"⟩ : MethodName) prog_30_method_18_code 4 (some .long) :: ws) ({ frames := 0, cells := 0, slots := 0, locals := 0 } : Room)) (fun a U => a = #[(.long q0)] ∧ Z.Warmed39 U.vm ∧ U.heap = h0) (fun _ _ _ _ _ => True) (fun _ U o U' => ∃ v L, o = .returned v ∧ (Q_rm9 Z q0 h0 n0) v U'.heap L ∧ FrameEnd U o U' L ({ frames := 0, cells := 0, slots := 0, locals := 0 } : Room).cells ({ frames := 0, cells := 0, slots := 0, locals := 0 } : Room).slots) := by
  refine MetFree.of_bodySF (plainFor_of_name pn_rm9) hisR ?_
  intro p e s m args below meth c s₁ Bd hml0 hP hK
  obtain ⟨rfl, hZ, hh⟩ := hP
  have hx := Bd.exec
  have hby := Bd.bytes
  have hlk := BodyLoose.notSynchronized Bd
  have hret := Bd.returns
  have hml : c.maxLocals = 4 := hml0
  have hown : s.vm.findClass "com/example/moving_tokens/movingtokens/MarkingSet" = some m.cls := findClass_of_methodNamed Bd.named
  have hnm := (name_of_methodNamed Bd.named Bd.method).1
  have X0 : Stand p l e ({ frames := 0, cells := 0, slots := 0, locals := 0 } : Room) s m #[(.long q0)] below meth c s₁ [] 0 0 := Stand.of_body Bd
  have e0 : s₁.heap = h0 := by rw [← hh, Bd.state]; rfl
  have Nf := Fr.nil n0
  have Zs := Z0
  have Kp : Keep h0 h0 [] := Keep.refl _ _
  show own_End p e below s (Q_rm9 Z q0 h0 n0) ({ frames := 0, cells := 0, slots := 0, locals := 0 } : Room).cells ({ frames := 0, cells := 0, slots := 0, locals := 0 } : Room).slots (s₁.setTop (entryFrame m #[(.long q0)] 4))
  refine own_go (x' := s₁.setTop (mkF m 0 #[.val (.long q0), .second, .unset, .unset] [])) (fun t k => castTop (ef_rm9 m q0) k) ?_
  refine own_go (x' := s₁.setTop (mkF m 6 #[.val (.long q0), .second, .unset, .unset] [(.long (q0 ^^^ ((q0.toUInt64 >>> ((30 : Int32) &&& 0x3f).toInt64.toUInt64).toInt64)))])) (fun _ k => XS.lloadN X0.here hx rfl (hb hby d9_0) rfl (XS.lloadN X0.here hx rfl (hb hby d9_1) rfl (XS.bipush X0.here hx rfl (hb hby d9_2) (XS.lushr X0.here hx rfl (hb hby d9_4) rfl (XS.lxor X0.here hx rfl (hb hby d9_5) rfl k))))) ?_
  refine own_go (x' := s₁.setTop (mkF m 9 #[.val (.long q0), .second, .unset, .unset] [(.long (-4658895280553007687)), (.long (q0 ^^^ ((q0.toUInt64 >>> ((30 : Int32) &&& 0x3f).toInt64.toUInt64).toInt64)))])) (fun t k => X0.ldc2Long hx hown (mvT hZ (own_w hw 52 rfl)) (g := (mkF m 6 #[.val (.long q0), .second, .unset, .unset] [(.long (q0 ^^^ ((q0.toUInt64 >>> ((30 : Int32) &&& 0x3f).toInt64.toUInt64).toInt64)))])) rfl (hb hby d9_6) t k) ?_
  refine own_go (x' := s₁.setTop (mkF m 16 #[.val (.long q0), .second, .val (.long ((q0 ^^^ ((q0.toUInt64 >>> ((30 : Int32) &&& 0x3f).toInt64.toUInt64).toInt64)) * (-4658895280553007687 : Int64))), .second] [(.long ((((q0 ^^^ ((q0.toUInt64 >>> ((30 : Int32) &&& 0x3f).toInt64.toUInt64).toInt64)) * (-4658895280553007687 : Int64)).toUInt64 >>> ((27 : Int32) &&& 0x3f).toInt64.toUInt64).toInt64)), (.long ((q0 ^^^ ((q0.toUInt64 >>> ((30 : Int32) &&& 0x3f).toInt64.toUInt64).toInt64)) * (-4658895280553007687 : Int64)))])) (fun _ k => XS.lmul X0.here hx rfl (hb hby d9_9) rfl (XS.lstoreN X0.here hx rfl (hb hby d9_10) rfl (l' := #[.val (.long q0), .second, .val (.long ((q0 ^^^ ((q0.toUInt64 >>> ((30 : Int32) &&& 0x3f).toInt64.toUInt64).toInt64)) * (-4658895280553007687 : Int64))), .second]) rfl (XS.lloadN X0.here hx rfl (hb hby d9_11) rfl (XS.lloadN X0.here hx rfl (hb hby d9_12) rfl (XS.bipush X0.here hx rfl (hb hby d9_13) (XS.lushr X0.here hx rfl (hb hby d9_15) rfl k)))))) ?_
  refine own_go (x' := s₁.setTop (mkF m 17 #[.val (.long q0), .second, .val (.long ((q0 ^^^ ((q0.toUInt64 >>> ((30 : Int32) &&& 0x3f).toInt64.toUInt64).toInt64)) * (-4658895280553007687 : Int64))), .second] [(.long (((q0 ^^^ ((q0.toUInt64 >>> ((30 : Int32) &&& 0x3f).toInt64.toUInt64).toInt64)) * (-4658895280553007687 : Int64)) ^^^ ((((q0 ^^^ ((q0.toUInt64 >>> ((30 : Int32) &&& 0x3f).toInt64.toUInt64).toInt64)) * (-4658895280553007687 : Int64)).toUInt64 >>> ((27 : Int32) &&& 0x3f).toInt64.toUInt64).toInt64)))])) (fun _ k => XS.lxor X0.here hx rfl (hb hby d9_16) rfl k) ?_
  refine own_go (x' := s₁.setTop (mkF m 20 #[.val (.long q0), .second, .val (.long ((q0 ^^^ ((q0.toUInt64 >>> ((30 : Int32) &&& 0x3f).toInt64.toUInt64).toInt64)) * (-4658895280553007687 : Int64))), .second] [(.long (-7723592293110705685)), (.long (((q0 ^^^ ((q0.toUInt64 >>> ((30 : Int32) &&& 0x3f).toInt64.toUInt64).toInt64)) * (-4658895280553007687 : Int64)) ^^^ ((((q0 ^^^ ((q0.toUInt64 >>> ((30 : Int32) &&& 0x3f).toInt64.toUInt64).toInt64)) * (-4658895280553007687 : Int64)).toUInt64 >>> ((27 : Int32) &&& 0x3f).toInt64.toUInt64).toInt64)))])) (fun t k => X0.ldc2Long hx hown (mvT hZ (own_w hw 53 rfl)) (g := (mkF m 17 #[.val (.long q0), .second, .val (.long ((q0 ^^^ ((q0.toUInt64 >>> ((30 : Int32) &&& 0x3f).toInt64.toUInt64).toInt64)) * (-4658895280553007687 : Int64))), .second] [(.long (((q0 ^^^ ((q0.toUInt64 >>> ((30 : Int32) &&& 0x3f).toInt64.toUInt64).toInt64)) * (-4658895280553007687 : Int64)) ^^^ ((((q0 ^^^ ((q0.toUInt64 >>> ((30 : Int32) &&& 0x3f).toInt64.toUInt64).toInt64)) * (-4658895280553007687 : Int64)).toUInt64 >>> ((27 : Int32) &&& 0x3f).toInt64.toUInt64).toInt64)))])) rfl (hb hby d9_17) t k) ?_
  refine own_go (x' := s₁.setTop (mkF m 27 #[.val (.long q0), .second, .val (.long ((((q0 ^^^ ((q0.toUInt64 >>> ((30 : Int32) &&& 0x3f).toInt64.toUInt64).toInt64)) * (-4658895280553007687 : Int64)) ^^^ ((((q0 ^^^ ((q0.toUInt64 >>> ((30 : Int32) &&& 0x3f).toInt64.toUInt64).toInt64)) * (-4658895280553007687 : Int64)).toUInt64 >>> ((27 : Int32) &&& 0x3f).toInt64.toUInt64).toInt64)) * (-7723592293110705685 : Int64))), .second] [(.long ((((((q0 ^^^ ((q0.toUInt64 >>> ((30 : Int32) &&& 0x3f).toInt64.toUInt64).toInt64)) * (-4658895280553007687 : Int64)) ^^^ ((((q0 ^^^ ((q0.toUInt64 >>> ((30 : Int32) &&& 0x3f).toInt64.toUInt64).toInt64)) * (-4658895280553007687 : Int64)).toUInt64 >>> ((27 : Int32) &&& 0x3f).toInt64.toUInt64).toInt64)) * (-7723592293110705685 : Int64)).toUInt64 >>> ((31 : Int32) &&& 0x3f).toInt64.toUInt64).toInt64)), (.long ((((q0 ^^^ ((q0.toUInt64 >>> ((30 : Int32) &&& 0x3f).toInt64.toUInt64).toInt64)) * (-4658895280553007687 : Int64)) ^^^ ((((q0 ^^^ ((q0.toUInt64 >>> ((30 : Int32) &&& 0x3f).toInt64.toUInt64).toInt64)) * (-4658895280553007687 : Int64)).toUInt64 >>> ((27 : Int32) &&& 0x3f).toInt64.toUInt64).toInt64)) * (-7723592293110705685 : Int64)))])) (fun _ k => XS.lmul X0.here hx rfl (hb hby d9_20) rfl (XS.lstoreN X0.here hx rfl (hb hby d9_21) rfl (l' := #[.val (.long q0), .second, .val (.long ((((q0 ^^^ ((q0.toUInt64 >>> ((30 : Int32) &&& 0x3f).toInt64.toUInt64).toInt64)) * (-4658895280553007687 : Int64)) ^^^ ((((q0 ^^^ ((q0.toUInt64 >>> ((30 : Int32) &&& 0x3f).toInt64.toUInt64).toInt64)) * (-4658895280553007687 : Int64)).toUInt64 >>> ((27 : Int32) &&& 0x3f).toInt64.toUInt64).toInt64)) * (-7723592293110705685 : Int64))), .second]) rfl (XS.lloadN X0.here hx rfl (hb hby d9_22) rfl (XS.lloadN X0.here hx rfl (hb hby d9_23) rfl (XS.bipush X0.here hx rfl (hb hby d9_24) (XS.lushr X0.here hx rfl (hb hby d9_26) rfl k)))))) ?_
  refine own_go (x' := s₁.setTop (mkF m 28 #[.val (.long q0), .second, .val (.long ((((q0 ^^^ ((q0.toUInt64 >>> ((30 : Int32) &&& 0x3f).toInt64.toUInt64).toInt64)) * (-4658895280553007687 : Int64)) ^^^ ((((q0 ^^^ ((q0.toUInt64 >>> ((30 : Int32) &&& 0x3f).toInt64.toUInt64).toInt64)) * (-4658895280553007687 : Int64)).toUInt64 >>> ((27 : Int32) &&& 0x3f).toInt64.toUInt64).toInt64)) * (-7723592293110705685 : Int64))), .second] [(.long (((((q0 ^^^ ((q0.toUInt64 >>> ((30 : Int32) &&& 0x3f).toInt64.toUInt64).toInt64)) * (-4658895280553007687 : Int64)) ^^^ ((((q0 ^^^ ((q0.toUInt64 >>> ((30 : Int32) &&& 0x3f).toInt64.toUInt64).toInt64)) * (-4658895280553007687 : Int64)).toUInt64 >>> ((27 : Int32) &&& 0x3f).toInt64.toUInt64).toInt64)) * (-7723592293110705685 : Int64)) ^^^ ((((((q0 ^^^ ((q0.toUInt64 >>> ((30 : Int32) &&& 0x3f).toInt64.toUInt64).toInt64)) * (-4658895280553007687 : Int64)) ^^^ ((((q0 ^^^ ((q0.toUInt64 >>> ((30 : Int32) &&& 0x3f).toInt64.toUInt64).toInt64)) * (-4658895280553007687 : Int64)).toUInt64 >>> ((27 : Int32) &&& 0x3f).toInt64.toUInt64).toInt64)) * (-7723592293110705685 : Int64)).toUInt64 >>> ((31 : Int32) &&& 0x3f).toInt64.toUInt64).toInt64)))])) (fun _ k => XS.lxor X0.here hx rfl (hb hby d9_27) rfl k) ?_
  refine own_retJ X0 hx hlk hret (hb hby d9_28) ?_ (by decide) (by decide)
  rw [e0]
  exact ⟨_, rfl, Nf, rfl⟩
theorem pd_0 : parseMethodDescriptor "(J)J" = some ⟨[.long], some .long⟩ := by decide +kernel
theorem d8_0 : decode prog_30_method_17_code 0 = .ok (.lload_n 0, 1) := by decide +kernel
theorem d8_1 : decode prog_30_method_17_code 1 = .ok (.iload_n 2, 1) := by decide +kernel
theorem d8_2 : decode prog_30_method_17_code 2 = .ok (.iconst 1, 1) := by decide +kernel
theorem d8_3 : decode prog_30_method_17_code 3 = .ok (.iadd, 1) := by decide +kernel
theorem d8_4 : decode prog_30_method_17_code 4 = .ok (.i2l, 1) := by decide +kernel
theorem d8_5 : decode prog_30_method_17_code 5 = .ok (.ldc2_w 198, 3) := by decide +kernel
theorem d8_8 : decode prog_30_method_17_code 8 = .ok (.lmul, 1) := by decide +kernel
theorem d8_9 : decode prog_30_method_17_code 9 = .ok (.lxor, 1) := by decide +kernel
theorem d8_10 : decode prog_30_method_17_code 10 = .ok (.invokestatic 132, 3) := by decide +kernel
theorem d8_13 : decode prog_30_method_17_code 13 = .ok (.lreturn, 1) := by decide +kernel
def Q_rm8 (Z : State) (q0 : Int64) (p1 : Int32) (h0 : Heap) (n0 : Nat) (v : Option Value) (h : Heap) (L : List Loc) : Prop := ∃ z : Int64, v = some (.long z) ∧ Fr n0 L ∧ h = h0
theorem pn_rm8 : plainName "com/example/moving_tokens/movingtokens/MarkingSet" = true := by first | (simp [plainName, overriddenIn]; done) | decide +kernel
theorem ef_rm8 (m : MethodId) (x0 : Int64) (x1 : Int32) : entryFrame m #[(.long x0), (.int x1)] 3 = mkF m 0 #[.val (.long x0), .second, .val (.int x1)] [] := by first | (simp [entryFrame, mkF, argsToLocals, Value.category]; done) | rfl
set_option maxRecDepth 65536 in
set_option maxHeartbeats 40000000 in
theorem rm8 (l : Launch) (Z : State) (a0 : Array Value) (hw : ∀ d ∈ tables_1, d.before a0 Z = true) (ws : List Jvm.Cond) (q0 : Int64) (p1 : Int32) (h0 : Heap) (n0 : Nat) (Z0 : n0 ≤ h0.size) :
    MetFree l (⟨"com/example/moving_tokens/movingtokens/MarkingSet", "share", "(JI)J"⟩ : MethodName) (head1 (Jvm.Cond.code (⟨"com/example/moving_tokens/movingtokens/MarkingSet", "share", "(JI)J"⟩ : MethodName) prog_30_method_17_code 3 (some .long) :: ws) ({ frames := 1, cells := 0, slots := 0, locals := 15 } : Room)) (fun a U => a = #[(.long q0), (.int p1)] ∧ Z.Warmed39 U.vm ∧ U.heap = h0) (fun _ _ _ _ _ => True) (fun _ U o U' => ∃ v L, o = .returned v ∧ (Q_rm8 Z q0 p1 h0 n0) v U'.heap L ∧ FrameEnd U o U' L ({ frames := 1, cells := 0, slots := 0, locals := 15 } : Room).cells ({ frames := 1, cells := 0, slots := 0, locals := 15 } : Room).slots) := by
  refine MetFree.of_bodySF (plainFor_of_name pn_rm8) hisR ?_
  intro p e s m args below meth c s₁ Bd hml0 hP hK
  obtain ⟨rfl, hZ, hh⟩ := hP
  have hx := Bd.exec
  have hby := Bd.bytes
  have hlk := BodyLoose.notSynchronized Bd
  have hret := Bd.returns
  have hml : c.maxLocals = 3 := hml0
  have hown : s.vm.findClass "com/example/moving_tokens/movingtokens/MarkingSet" = some m.cls := findClass_of_methodNamed Bd.named
  have hnm := (name_of_methodNamed Bd.named Bd.method).1
  have X0 : Stand p l e ({ frames := 1, cells := 0, slots := 0, locals := 15 } : Room) s m #[(.long q0), (.int p1)] below meth c s₁ [] 0 0 := Stand.of_body Bd
  have e0 : s₁.heap = h0 := by rw [← hh, Bd.state]; rfl
  have Nf := Fr.nil n0
  have Zs := Z0
  have Kp : Keep h0 h0 [] := Keep.refl _ _
  show own_End p e below s (Q_rm8 Z q0 p1 h0 n0) ({ frames := 1, cells := 0, slots := 0, locals := 15 } : Room).cells ({ frames := 1, cells := 0, slots := 0, locals := 15 } : Room).slots (s₁.setTop (entryFrame m #[(.long q0), (.int p1)] 3))
  refine own_go (x' := s₁.setTop (mkF m 0 #[.val (.long q0), .second, .val (.int p1)] [])) (fun t k => castTop (ef_rm8 m q0 p1) k) ?_
  refine own_go (x' := s₁.setTop (mkF m 5 #[.val (.long q0), .second, .val (.int p1)] [(.long ((p1 + (1 : Int32)).toInt64)), (.long q0)])) (fun _ k => XS.lloadN X0.here hx rfl (hb hby d8_0) rfl (XS.iloadN X0.here hx rfl (hb hby d8_1) rfl (XS.iconst X0.here hx rfl (hb hby d8_2) (XS.iadd X0.here hx rfl (hb hby d8_3) rfl (XS.i2l X0.here hx rfl (hb hby d8_4) rfl k))))) ?_
  refine own_go (x' := s₁.setTop (mkF m 8 #[.val (.long q0), .second, .val (.int p1)] [(.long (-7046029254386353131)), (.long ((p1 + (1 : Int32)).toInt64)), (.long q0)])) (fun t k => X0.ldc2Long hx hown (mvT hZ (own_w hw 48 rfl)) (g := (mkF m 5 #[.val (.long q0), .second, .val (.int p1)] [(.long ((p1 + (1 : Int32)).toInt64)), (.long q0)])) rfl (hb hby d8_5) t k) ?_
  refine own_go (x' := s₁.setTop (mkF m 10 #[.val (.long q0), .second, .val (.int p1)] [(.long (q0 ^^^ (((p1 + (1 : Int32)).toInt64) * (-7046029254386353131 : Int64))))])) (fun _ k => XS.lmul X0.here hx rfl (hb hby d8_8) rfl (XS.lxor X0.here hx rfl (hb hby d8_9) rfl k)) ?_
  obtain ⟨_, _, ⟨T1, L1, k1, n1⟩, -, X1, ⟨Lc1, hQ1, l1, y1, z1⟩, st1⟩ := Jvm.LawKit.callS X0 hx (y := (⟨"com/example/moving_tokens/movingtokens/MarkingSet", "spread", "(J)J"⟩ : MethodName)) hown (mvT hZ (own_w hw 49 rfl)) (mvT hZ (own_w hw 50 rfl)) (mvT hZ (own_w hw 40 rfl)) (mvT hZ (own_w hw 51 rfl)) (by decide) (backOf (W := 0) (rm9 l Z a0 hw [] (q0 ^^^ (((p1 + (1 : Int32)).toInt64) * (-7046029254386353131 : Int64)))  h0 n0 Zs ) hZ (own_w hw 51 rfl) (own_w hw 40 rfl) (by decide) (by decide)) (g := (mkF m 10 #[.val (.long q0), .second, .val (.int p1)] [(.long (q0 ^^^ (((p1 + (1 : Int32)).toInt64) * (-7046029254386353131 : Int64))))])) rfl (by rw [hml]; rfl) (argsL := [(.long (q0 ^^^ (((p1 + (1 : Int32)).toInt64) * (-7046029254386353131 : Int64))))]) (rest := []) (lenOf pd_0 rfl) rfl (by show 2 * 0 + _ ≤ _; exact Nat.le_of_eq rfl) (hb hby d8_10) (fun _ _ => ⟨rfl, e0, (by decide : 0 + 0 ≤ _), (by decide : 0 + 0 ≤ _)⟩)
  dsimp only [Pt.U, Pt.locs, Pt.cells, Pt.slots] at X1 l1 y1 z1 st1 hQ1
  subst l1 y1 z1
  obtain ⟨z1', hv1, Nq1, eq1⟩ := hQ1
  subst hv1
  replace Nf := Fr.app Nf Nq1
  refine own_go (x' := T1.setTop (mkF m 13 #[.val (.long q0), .second, .val (.int p1)] [(.long z1')])) st1 ?_
  refine own_retJ X1 hx hlk hret (hb hby d8_13) ?_ (by decide) (by decide)
  rw [eq1]
  exact ⟨_, rfl, Nf, rfl⟩
theorem pd_1 : parseMethodDescriptor "(JI)J" = some ⟨[.long, .int], some .long⟩ := by decide +kernel
theorem d7_0 : decode prog_30_method_16_code 0 = .ok (.lconst 0, 1) := by decide +kernel
theorem d7_1 : decode prog_30_method_16_code 1 = .ok (.lstore_n 3, 1) := by decide +kernel
theorem d7_2 : decode prog_30_method_16_code 2 = .ok (.iconst 0, 1) := by decide +kernel
theorem d7_3 : decode prog_30_method_16_code 3 = .ok (.istore 5, 2) := by decide +kernel
theorem d7_5 : decode prog_30_method_16_code 5 = .ok (.iload 5, 2) := by decide +kernel
theorem d7_7 : decode prog_30_method_16_code 7 = .ok (.iload_n 2, 1) := by decide +kernel
theorem d7_8 : decode prog_30_method_16_code 8 = .ok (.if_icmp .ge 23, 3) := by decide +kernel
theorem d7_11 : decode prog_30_method_16_code 11 = .ok (.lload_n 3, 1) := by decide +kernel
theorem d7_12 : decode prog_30_method_16_code 12 = .ok (.aload_n 0, 1) := by decide +kernel
theorem d7_13 : decode prog_30_method_16_code 13 = .ok (.iload_n 1, 1) := by decide +kernel
theorem d7_14 : decode prog_30_method_16_code 14 = .ok (.iload 5, 2) := by decide +kernel
theorem d7_16 : decode prog_30_method_16_code 16 = .ok (.iadd, 1) := by decide +kernel
theorem d7_17 : decode prog_30_method_16_code 17 = .ok (.laload, 1) := by decide +kernel
theorem d7_18 : decode prog_30_method_16_code 18 = .ok (.iload 5, 2) := by decide +kernel
theorem d7_20 : decode prog_30_method_16_code 20 = .ok (.invokestatic 128, 3) := by decide +kernel
theorem d7_23 : decode prog_30_method_16_code 23 = .ok (.ladd, 1) := by decide +kernel
theorem d7_24 : decode prog_30_method_16_code 24 = .ok (.lstore_n 3, 1) := by decide +kernel
theorem d7_25 : decode prog_30_method_16_code 25 = .ok (.iinc 5 1, 3) := by decide +kernel
theorem d7_28 : decode prog_30_method_16_code 28 = .ok (.goto (-23), 3) := by decide +kernel
theorem d7_31 : decode prog_30_method_16_code 31 = .ok (.lload_n 3, 1) := by decide +kernel
theorem d7_32 : decode prog_30_method_16_code 32 = .ok (.lreturn, 1) := by decide +kernel
def Q_rm7_1 (Z : State) (ao0 : Addr) (kx : ClassId) (x0 x1 x2 x3 : Int64) (h0 : Heap) (n0 : Nat) (v : Option Value) (h : Heap) (L : List Loc) : Prop := ∃ z : Int64, v = some (.long z) ∧ Fr n0 L ∧ h = h0
theorem pn_rm7_1 : plainName "com/example/moving_tokens/movingtokens/MarkingSet" = true := by first | (simp [plainName, overriddenIn]; done) | decide +kernel
theorem ef_rm7_1 (m : MethodId) (x0 : Addr) (x1 : Int32) (x2 : Int32) : entryFrame m #[(.ref x0), (.int x1), (.int x2)] 6 = mkF m 0 #[.val (.ref x0), .val (.int x1), .val (.int x2), .unset, .unset, .unset] [] := by first | (simp [entryFrame, mkF, argsToLocals, Value.category]; done) | rfl
set_option maxRecDepth 65536 in
set_option maxHeartbeats 40000000 in
theorem rm7_1 (l : Launch) (Z : State) (a0 : Array Value) (hw : ∀ d ∈ tables_1, d.before a0 Z = true) (ws : List Jvm.Cond) (ao0 : Addr) (kx : ClassId) (x0 x1 x2 x3 : Int64) (h0 : Heap) (n0 : Nat) (Z0 : n0 ≤ h0.size) (V_ao0 : Arv Z h0 ao0 kx .long (4 : Int32) [.long x0, .long x1, .long x2, .long x3] (.long (0 : Int64))) :
    MetFree l (⟨"com/example/moving_tokens/movingtokens/MarkingSet", "sum", "([JII)J"⟩ : MethodName) (head1 (Jvm.Cond.code (⟨"com/example/moving_tokens/movingtokens/MarkingSet", "sum", "([JII)J"⟩ : MethodName) prog_30_method_16_code 6 (some .long) :: ws) ({ frames := 2, cells := 0, slots := 0, locals := 31 } : Room)) (fun a U => a = #[(.ref ao0), (.int 0), (.int 1)] ∧ Z.Warmed39 U.vm ∧ U.heap = h0) (fun _ _ _ _ _ => True) (fun _ U o U' => ∃ v L, o = .returned v ∧ (Q_rm7_1 Z ao0 kx x0 x1 x2 x3 h0 n0) v U'.heap L ∧ FrameEnd U o U' L ({ frames := 2, cells := 0, slots := 0, locals := 31 } : Room).cells ({ frames := 2, cells := 0, slots := 0, locals := 31 } : Room).slots) := by
  refine MetFree.of_bodySF (plainFor_of_name pn_rm7_1) hisR ?_
  intro p e s m args below meth c s₁ Bd hml0 hP hK
  obtain ⟨rfl, hZ, hh⟩ := hP
  have hx := Bd.exec
  have hby := Bd.bytes
  have hlk := BodyLoose.notSynchronized Bd
  have hret := Bd.returns
  have hml : c.maxLocals = 6 := hml0
  have hown : s.vm.findClass "com/example/moving_tokens/movingtokens/MarkingSet" = some m.cls := findClass_of_methodNamed Bd.named
  have hnm := (name_of_methodNamed Bd.named Bd.method).1
  have X0 : Stand p l e ({ frames := 2, cells := 0, slots := 0, locals := 31 } : Room) s m #[(.ref ao0), (.int 0), (.int 1)] below meth c s₁ [] 0 0 := Stand.of_body Bd
  have e0 : s₁.heap = h0 := by rw [← hh, Bd.state]; rfl
  have Nf := Fr.nil n0
  have Zs := Z0
  have Kp : Keep h0 h0 [] := Keep.refl _ _
  show own_End p e below s (Q_rm7_1 Z ao0 kx x0 x1 x2 x3 h0 n0) ({ frames := 2, cells := 0, slots := 0, locals := 31 } : Room).cells ({ frames := 2, cells := 0, slots := 0, locals := 31 } : Room).slots (s₁.setTop (entryFrame m #[(.ref ao0), (.int 0), (.int 1)] 6))
  refine own_go (x' := s₁.setTop (mkF m 0 #[.val (.ref ao0), .val (.int 0), .val (.int 1), .unset, .unset, .unset] [])) (fun t k => castTop (ef_rm7_1 m ao0 (0 : Int32) (1 : Int32)) k) ?_
  refine own_go (x' := s₁.setTop (mkF m 8 #[.val (.ref ao0), .val (.int 0), .val (.int 1), .val (.long 0), .second, .val (.int 0)] [(.int 1), (.int 0)])) (fun _ k => XS.lconst X0.here hx rfl (hb hby d7_0) (XS.lstoreN X0.here hx rfl (hb hby d7_1) rfl (l' := #[.val (.ref ao0), .val (.int 0), .val (.int 1), .val (.long 0), .second, .unset]) rfl (XS.iconst X0.here hx rfl (hb hby d7_2) (XS.istore X0.here hx rfl (hb hby d7_3) rfl (l' := #[.val (.ref ao0), .val (.int 0), .val (.int 1), .val (.long 0), .second, .val (.int 0)]) rfl (XS.iload X0.here hx rfl (hb hby d7_5) rfl (XS.iloadN X0.here hx rfl (hb hby d7_7) rfl k)))))) ?_
  refine own_go (x' := s₁.setTop (mkF m 17 #[.val (.ref ao0), .val (.int 0), .val (.int 1), .val (.long 0), .second, .val (.int 0)] [(.int ((0 : Int32) + (0 : Int32))), (.ref ao0), (.long 0)])) (fun _ k => XS.icmpNo X0.here hx rfl (hb hby d7_8) rfl (tlt (by decide +kernel : ((0 : Int32) < (1 : Int32)))).2.1 (XS.lloadN X0.here hx rfl (hb hby d7_11) rfl (XS.aloadN X0.here hx rfl (hb hby d7_12) rfl rfl (XS.iloadN X0.here hx rfl (hb hby d7_13) rfl (XS.iload X0.here hx rfl (hb hby d7_14) rfl (XS.iadd X0.here hx rfl (hb hby d7_16) rfl k)))))) ?_
  rw [show ((0 : Int32) + (0 : Int32)) = (0 : Int32) from by decide +kernel]
  obtain ⟨cl1, Ar1, q1, Sz1, Nn1, Hh1, Gg1⟩ := id V_ao0
  have hin1 : ¬ ((0 : Int32) < 0 ∨ cl1.slots.size ≤ ((0 : Int32)).toNatClampNeg) := inb_of Sz1 ⟨by decide, by decide⟩
  refine own_go (x' := s₁.setTop (mkF m 18 #[.val (.ref ao0), .val (.int 0), .val (.int 1), .val (.long 0), .second, .val (.int 0)] [(.long x0), (.long 0)])) (X0.laload hx (j := (0 : Int32)) (v := (.long x0)) (Eq.trans (congrArg (fun h_ => h_[_]?) e0) Ar1.1) (State.isArrayOf_alike hZ.alike Ar1.2.1) Ar1.2.2 hin1 (Hh1.at hin1 rfl) (g := (mkF m 17 #[.val (.ref ao0), .val (.int 0), .val (.int 1), .val (.long 0), .second, .val (.int 0)] [(.int 0), (.ref ao0), (.long 0)])) rfl rfl (hb hby d7_17)) ?_
  refine own_go (x' := s₁.setTop (mkF m 20 #[.val (.ref ao0), .val (.int 0), .val (.int 1), .val (.long 0), .second, .val (.int 0)] [(.int 0), (.long x0), (.long 0)])) (fun _ k => XS.iload X0.here hx rfl (hb hby d7_18) rfl k) ?_
  obtain ⟨_, _, ⟨T2, L2, k2, n2⟩, -, X2, ⟨Lc2, hQ2, l2, y2, z2⟩, st2⟩ := Jvm.LawKit.callS X0 hx (y := (⟨"com/example/moving_tokens/movingtokens/MarkingSet", "share", "(JI)J"⟩ : MethodName)) hown (mvT hZ (own_w hw 45 rfl)) (mvT hZ (own_w hw 46 rfl)) (mvT hZ (own_w hw 40 rfl)) (mvT hZ (own_w hw 47 rfl)) (by decide) (backOf (W := 2) (rm8 l Z a0 hw [] x0 (0 : Int32) h0 n0 Zs) hZ (own_w hw 47 rfl) (own_w hw 40 rfl) (by decide) (by decide)) (g := (mkF m 20 #[.val (.ref ao0), .val (.int 0), .val (.int 1), .val (.long 0), .second, .val (.int 0)] [(.int 0), (.long x0), (.long 0)])) rfl (by rw [hml]; rfl) (argsL := [(.long x0), (.int 0)]) (rest := [(.long 0)]) (lenOf pd_1 rfl) rfl (by show 2 * 0 + _ ≤ _; exact Nat.le_of_eq rfl) (hb hby d7_20) (fun _ _ => ⟨rfl, e0, (by decide : 0 + 0 ≤ _), (by decide : 0 + 0 ≤ _)⟩)
  dsimp only [Pt.U, Pt.locs, Pt.cells, Pt.slots] at X2 l2 y2 z2 st2 hQ2
  subst l2 y2 z2
  obtain ⟨z2', hv2, Nq2, eq2⟩ := hQ2
  subst hv2
  replace Nf := Fr.app Nf Nq2
  refine own_go (x' := T2.setTop (mkF m 23 #[.val (.ref ao0), .val (.int 0), .val (.int 1), .val (.long 0), .second, .val (.int 0)] [(.long z2'), (.long 0)])) st2 ?_
  refine own_go (x' := T2.setTop (mkF m 5 #[.val (.ref ao0), .val (.int 0), .val (.int 1), .val (.long ((0 : Int64) + z2')), .second, .val (.int ((0 : Int32) + (1 : Int32)))] [])) (fun _ k => XS.ladd X2.here hx rfl (hb hby d7_23) rfl (XS.lstoreN X2.here hx rfl (hb hby d7_24) rfl (l' := #[.val (.ref ao0), .val (.int 0), .val (.int 1), .val (.long ((0 : Int64) + z2')), .second, .val (.int 0)]) rfl (XS.iinc X2.here hx rfl (hb hby d7_25) rfl (l' := #[.val (.ref ao0), .val (.int 0), .val (.int 1), .val (.long ((0 : Int64) + z2')), .second, .val (.int ((0 : Int32) + (1 : Int32)))]) rfl (XS.goto X2.here hx rfl (pc0 := 28) (pc' := 5) rfl (hb hby d7_28) (by decide) (by decide) k)))) ?_
  rw [show ((0 : Int32) + (1 : Int32)) = (1 : Int32) from by decide +kernel]
  refine own_go (x' := T2.setTop (mkF m 32 #[.val (.ref ao0), .val (.int 0), .val (.int 1), .val (.long ((0 : Int64) + z2')), .second, .val (.int 1)] [(.long ((0 : Int64) + z2'))])) (fun _ k => XS.iload X2.here hx rfl (hb hby d7_5) rfl (XS.iloadN X2.here hx rfl (hb hby d7_7) rfl (XS.icmpYes X2.here hx rfl (pc0 := 8) (pc' := 31) rfl (hb hby d7_8) rfl (flt (Int32.lt_irrefl)).2.1 (by decide) (by decide) (XS.lloadN X2.here hx rfl (hb hby d7_31) rfl k)))) ?_
  refine own_retJ X2 hx hlk hret (hb hby d7_32) ?_ (by decide) (by decide)
  rw [eq2]
  exact ⟨_, rfl, Nf, rfl⟩
theorem pd_2 : parseMethodDescriptor "([JII)J" = some ⟨[(.array .long), .int, .int], some .long⟩ := by decide +kernel
theorem d6_0 : decode prog_30_method_15_code 0 = .ok (.aload_n 0, 1) := by decide +kernel
theorem d6_1 : decode prog_30_method_15_code 1 = .ok (.iload_n 1, 1) := by decide +kernel
theorem d6_2 : decode prog_30_method_15_code 2 = .ok (.iload_n 2, 1) := by decide +kernel
theorem d6_3 : decode prog_30_method_15_code 3 = .ok (.invokestatic 113, 3) := by decide +kernel
theorem d6_6 : decode prog_30_method_15_code 6 = .ok (.invokestatic 132, 3) := by decide +kernel
theorem d6_9 : decode prog_30_method_15_code 9 = .ok (.lreturn, 1) := by decide +kernel
def Q_rm6_1 (Z : State) (ao0 : Addr) (kx : ClassId) (x0 x1 x2 x3 : Int64) (h0 : Heap) (n0 : Nat) (v : Option Value) (h : Heap) (L : List Loc) : Prop := ∃ z : Int64, v = some (.long z) ∧ Fr n0 L ∧ h = h0
theorem pn_rm6_1 : plainName "com/example/moving_tokens/movingtokens/MarkingSet" = true := by first | (simp [plainName, overriddenIn]; done) | decide +kernel
theorem ef_rm6_1 (m : MethodId) (x0 : Addr) (x1 : Int32) (x2 : Int32) : entryFrame m #[(.ref x0), (.int x1), (.int x2)] 3 = mkF m 0 #[.val (.ref x0), .val (.int x1), .val (.int x2)] [] := by first | (simp [entryFrame, mkF, argsToLocals, Value.category]; done) | rfl
set_option maxRecDepth 65536 in
set_option maxHeartbeats 40000000 in
theorem rm6_1 (l : Launch) (Z : State) (a0 : Array Value) (hw : ∀ d ∈ tables_1, d.before a0 Z = true) (ws : List Jvm.Cond) (ao0 : Addr) (kx : ClassId) (x0 x1 x2 x3 : Int64) (h0 : Heap) (n0 : Nat) (Z0 : n0 ≤ h0.size) (V_ao0 : Arv Z h0 ao0 kx .long (4 : Int32) [.long x0, .long x1, .long x2, .long x3] (.long (0 : Int64))) :
    MetFree l (⟨"com/example/moving_tokens/movingtokens/MarkingSet", "hash", "([JII)J"⟩ : MethodName) (head1 (Jvm.Cond.code (⟨"com/example/moving_tokens/movingtokens/MarkingSet", "hash", "([JII)J"⟩ : MethodName) prog_30_method_15_code 3 (some .long) :: ws) ({ frames := 3, cells := 0, slots := 0, locals := 48 } : Room)) (fun a U => a = #[(.ref ao0), (.int 0), (.int 1)] ∧ Z.Warmed39 U.vm ∧ U.heap = h0) (fun _ _ _ _ _ => True) (fun _ U o U' => ∃ v L, o = .returned v ∧ (Q_rm6_1 Z ao0 kx x0 x1 x2 x3 h0 n0) v U'.heap L ∧ FrameEnd U o U' L ({ frames := 3, cells := 0, slots := 0, locals := 48 } : Room).cells ({ frames := 3, cells := 0, slots := 0, locals := 48 } : Room).slots) := by
  refine MetFree.of_bodySF (plainFor_of_name pn_rm6_1) hisR ?_
  intro p e s m args below meth c s₁ Bd hml0 hP hK
  obtain ⟨rfl, hZ, hh⟩ := hP
  have hx := Bd.exec
  have hby := Bd.bytes
  have hlk := BodyLoose.notSynchronized Bd
  have hret := Bd.returns
  have hml : c.maxLocals = 3 := hml0
  have hown : s.vm.findClass "com/example/moving_tokens/movingtokens/MarkingSet" = some m.cls := findClass_of_methodNamed Bd.named
  have hnm := (name_of_methodNamed Bd.named Bd.method).1
  have X0 : Stand p l e ({ frames := 3, cells := 0, slots := 0, locals := 48 } : Room) s m #[(.ref ao0), (.int 0), (.int 1)] below meth c s₁ [] 0 0 := Stand.of_body Bd
  have e0 : s₁.heap = h0 := by rw [← hh, Bd.state]; rfl
  have Nf := Fr.nil n0
  have Zs := Z0
  have Kp : Keep h0 h0 [] := Keep.refl _ _
  show own_End p e below s (Q_rm6_1 Z ao0 kx x0 x1 x2 x3 h0 n0) ({ frames := 3, cells := 0, slots := 0, locals := 48 } : Room).cells ({ frames := 3, cells := 0, slots := 0, locals := 48 } : Room).slots (s₁.setTop (entryFrame m #[(.ref ao0), (.int 0), (.int 1)] 3))
  refine own_go (x' := s₁.setTop (mkF m 0 #[.val (.ref ao0), .val (.int 0), .val (.int 1)] [])) (fun t k => castTop (ef_rm6_1 m ao0 (0 : Int32) (1 : Int32)) k) ?_
  refine own_go (x' := s₁.setTop (mkF m 3 #[.val (.ref ao0), .val (.int 0), .val (.int 1)] [(.int 1), (.int 0), (.ref ao0)])) (fun _ k => XS.aloadN X0.here hx rfl (hb hby d6_0) rfl rfl (XS.iloadN X0.here hx rfl (hb hby d6_1) rfl (XS.iloadN X0.here hx rfl (hb hby d6_2) rfl k))) ?_
  obtain ⟨_, _, ⟨T1, L1, k1, n1⟩, -, X1, ⟨Lc1, hQ1, l1, y1, z1⟩, st1⟩ := Jvm.LawKit.callS X0 hx (y := (⟨"com/example/moving_tokens/movingtokens/MarkingSet", "sum", "([JII)J"⟩ : MethodName)) hown (mvT hZ (own_w hw 42 rfl)) (mvT hZ (own_w hw 43 rfl)) (mvT hZ (own_w hw 40 rfl)) (mvT hZ (own_w hw 44 rfl)) (by decide) (backOf (W := 0) (rm7_1 l Z a0 hw [] ao0 kx x0 x1 x2 x3 h0 n0 Zs V_ao0) hZ (own_w hw 44 rfl) (own_w hw 40 rfl) (by decide) (by decide)) (g := (mkF m 3 #[.val (.ref ao0), .val (.int 0), .val (.int 1)] [(.int 1), (.int 0), (.ref ao0)])) rfl (by rw [hml]; rfl) (argsL := [(.ref ao0), (.int 0), (.int 1)]) (rest := []) (lenOf pd_2 rfl) rfl (by show 2 * 0 + _ ≤ _; exact Nat.le_of_eq rfl) (hb hby d6_3) (fun _ _ => ⟨rfl, e0, (by decide : 0 + 0 ≤ _), (by decide : 0 + 0 ≤ _)⟩)
  dsimp only [Pt.U, Pt.locs, Pt.cells, Pt.slots] at X1 l1 y1 z1 st1 hQ1
  subst l1 y1 z1
  obtain ⟨z1', hv1, Nq1, eq1⟩ := hQ1
  subst hv1
  replace Nf := Fr.app Nf Nq1
  refine own_go (x' := T1.setTop (mkF m 6 #[.val (.ref ao0), .val (.int 0), .val (.int 1)] [(.long z1')])) st1 ?_
  obtain ⟨_, _, ⟨T2, L2, k2, n2⟩, -, X2, ⟨Lc2, hQ2, l2, y2, z2⟩, st2⟩ := Jvm.LawKit.callS X1 hx (y := (⟨"com/example/moving_tokens/movingtokens/MarkingSet", "spread", "(J)J"⟩ : MethodName)) hown (mvT hZ (own_w hw 49 rfl)) (mvT hZ (own_w hw 50 rfl)) (mvT hZ (own_w hw 40 rfl)) (mvT hZ (own_w hw 51 rfl)) (by decide) (backOf (W := 0) (rm9 l Z a0 hw [] z1'  h0 n0 Zs ) hZ (own_w hw 51 rfl) (own_w hw 40 rfl) (by decide) (by decide)) (g := (mkF m 6 #[.val (.ref ao0), .val (.int 0), .val (.int 1)] [(.long z1')])) rfl (by rw [hml]; rfl) (argsL := [(.long z1')]) (rest := []) (lenOf pd_0 rfl) rfl (by show 2 * 0 + _ ≤ _; exact Nat.le_of_eq rfl) (hb hby d6_6) (fun _ _ => ⟨rfl, eq1, (by decide : 0 + 0 ≤ _), (by decide : 0 + 0 ≤ _)⟩)
  dsimp only [Pt.U, Pt.locs, Pt.cells, Pt.slots] at X2 l2 y2 z2 st2 hQ2
  subst l2 y2 z2
  obtain ⟨z2', hv2, Nq2, eq2⟩ := hQ2
  subst hv2
  replace Nf := Fr.app Nf Nq2
  refine own_go (x' := T2.setTop (mkF m 9 #[.val (.ref ao0), .val (.int 0), .val (.int 1)] [(.long z2')])) st2 ?_
  refine own_retJ X2 hx hlk hret (hb hby d6_9) ?_ (by decide) (by decide)
  rw [eq2]
  exact ⟨_, rfl, Nf, rfl⟩
def Q_rm7_2 (Z : State) (ao0 : Addr) (kx : ClassId) (x0 x1 x2 x3 : Int64) (h0 : Heap) (n0 : Nat) (v : Option Value) (h : Heap) (L : List Loc) : Prop := ∃ z : Int64, v = some (.long z) ∧ Fr n0 L ∧ h = h0
theorem pn_rm7_2 : plainName "com/example/moving_tokens/movingtokens/MarkingSet" = true := by first | (simp [plainName, overriddenIn]; done) | decide +kernel
theorem ef_rm7_2 (m : MethodId) (x0 : Addr) (x1 : Int32) (x2 : Int32) : entryFrame m #[(.ref x0), (.int x1), (.int x2)] 6 = mkF m 0 #[.val (.ref x0), .val (.int x1), .val (.int x2), .unset, .unset, .unset] [] := by first | (simp [entryFrame, mkF, argsToLocals, Value.category]; done) | rfl
set_option maxRecDepth 65536 in
set_option maxHeartbeats 40000000 in
theorem rm7_2 (l : Launch) (Z : State) (a0 : Array Value) (hw : ∀ d ∈ tables_1, d.before a0 Z = true) (ws : List Jvm.Cond) (ao0 : Addr) (kx : ClassId) (x0 x1 x2 x3 : Int64) (h0 : Heap) (n0 : Nat) (Z0 : n0 ≤ h0.size) (V_ao0 : Arv Z h0 ao0 kx .long (4 : Int32) [.long x0, .long x1, .long x2, .long x3] (.long (0 : Int64))) :
    MetFree l (⟨"com/example/moving_tokens/movingtokens/MarkingSet", "sum", "([JII)J"⟩ : MethodName) (head1 (Jvm.Cond.code (⟨"com/example/moving_tokens/movingtokens/MarkingSet", "sum", "([JII)J"⟩ : MethodName) prog_30_method_16_code 6 (some .long) :: ws) ({ frames := 2, cells := 0, slots := 0, locals := 31 } : Room)) (fun a U => a = #[(.ref ao0), (.int 0), (.int 2)] ∧ Z.Warmed39 U.vm ∧ U.heap = h0) (fun _ _ _ _ _ => True) (fun _ U o U' => ∃ v L, o = .returned v ∧ (Q_rm7_2 Z ao0 kx x0 x1 x2 x3 h0 n0) v U'.heap L ∧ FrameEnd U o U' L ({ frames := 2, cells := 0, slots := 0, locals := 31 } : Room).cells ({ frames := 2, cells := 0, slots := 0, locals := 31 } : Room).slots) := by
  refine MetFree.of_bodySF (plainFor_of_name pn_rm7_2) hisR ?_
  intro p e s m args below meth c s₁ Bd hml0 hP hK
  obtain ⟨rfl, hZ, hh⟩ := hP
  have hx := Bd.exec
  have hby := Bd.bytes
  have hlk := BodyLoose.notSynchronized Bd
  have hret := Bd.returns
  have hml : c.maxLocals = 6 := hml0
  have hown : s.vm.findClass "com/example/moving_tokens/movingtokens/MarkingSet" = some m.cls := findClass_of_methodNamed Bd.named
  have hnm := (name_of_methodNamed Bd.named Bd.method).1
  have X0 : Stand p l e ({ frames := 2, cells := 0, slots := 0, locals := 31 } : Room) s m #[(.ref ao0), (.int 0), (.int 2)] below meth c s₁ [] 0 0 := Stand.of_body Bd
  have e0 : s₁.heap = h0 := by rw [← hh, Bd.state]; rfl
  have Nf := Fr.nil n0
  have Zs := Z0
  have Kp : Keep h0 h0 [] := Keep.refl _ _
  show own_End p e below s (Q_rm7_2 Z ao0 kx x0 x1 x2 x3 h0 n0) ({ frames := 2, cells := 0, slots := 0, locals := 31 } : Room).cells ({ frames := 2, cells := 0, slots := 0, locals := 31 } : Room).slots (s₁.setTop (entryFrame m #[(.ref ao0), (.int 0), (.int 2)] 6))
  refine own_go (x' := s₁.setTop (mkF m 0 #[.val (.ref ao0), .val (.int 0), .val (.int 2), .unset, .unset, .unset] [])) (fun t k => castTop (ef_rm7_2 m ao0 (0 : Int32) (2 : Int32)) k) ?_
  refine own_go (x' := s₁.setTop (mkF m 8 #[.val (.ref ao0), .val (.int 0), .val (.int 2), .val (.long 0), .second, .val (.int 0)] [(.int 2), (.int 0)])) (fun _ k => XS.lconst X0.here hx rfl (hb hby d7_0) (XS.lstoreN X0.here hx rfl (hb hby d7_1) rfl (l' := #[.val (.ref ao0), .val (.int 0), .val (.int 2), .val (.long 0), .second, .unset]) rfl (XS.iconst X0.here hx rfl (hb hby d7_2) (XS.istore X0.here hx rfl (hb hby d7_3) rfl (l' := #[.val (.ref ao0), .val (.int 0), .val (.int 2), .val (.long 0), .second, .val (.int 0)]) rfl (XS.iload X0.here hx rfl (hb hby d7_5) rfl (XS.iloadN X0.here hx rfl (hb hby d7_7) rfl k)))))) ?_
  refine own_go (x' := s₁.setTop (mkF m 17 #[.val (.ref ao0), .val (.int 0), .val (.int 2), .val (.long 0), .second, .val (.int 0)] [(.int ((0 : Int32) + (0 : Int32))), (.ref ao0), (.long 0)])) (fun _ k => XS.icmpNo X0.here hx rfl (hb hby d7_8) rfl (tlt (by decide +kernel : ((0 : Int32) < (2 : Int32)))).2.1 (XS.lloadN X0.here hx rfl (hb hby d7_11) rfl (XS.aloadN X0.here hx rfl (hb hby d7_12) rfl rfl (XS.iloadN X0.here hx rfl (hb hby d7_13) rfl (XS.iload X0.here hx rfl (hb hby d7_14) rfl (XS.iadd X0.here hx rfl (hb hby d7_16) rfl k)))))) ?_
  rw [show ((0 : Int32) + (0 : Int32)) = (0 : Int32) from by decide +kernel]
  obtain ⟨cl1, Ar1, q1, Sz1, Nn1, Hh1, Gg1⟩ := id V_ao0
  have hin1 : ¬ ((0 : Int32) < 0 ∨ cl1.slots.size ≤ ((0 : Int32)).toNatClampNeg) := inb_of Sz1 ⟨by decide, by decide⟩
  refine own_go (x' := s₁.setTop (mkF m 18 #[.val (.ref ao0), .val (.int 0), .val (.int 2), .val (.long 0), .second, .val (.int 0)] [(.long x0), (.long 0)])) (X0.laload hx (j := (0 : Int32)) (v := (.long x0)) (Eq.trans (congrArg (fun h_ => h_[_]?) e0) Ar1.1) (State.isArrayOf_alike hZ.alike Ar1.2.1) Ar1.2.2 hin1 (Hh1.at hin1 rfl) (g := (mkF m 17 #[.val (.ref ao0), .val (.int 0), .val (.int 2), .val (.long 0), .second, .val (.int 0)] [(.int 0), (.ref ao0), (.long 0)])) rfl rfl (hb hby d7_17)) ?_
  refine own_go (x' := s₁.setTop (mkF m 20 #[.val (.ref ao0), .val (.int 0), .val (.int 2), .val (.long 0), .second, .val (.int 0)] [(.int 0), (.long x0), (.long 0)])) (fun _ k => XS.iload X0.here hx rfl (hb hby d7_18) rfl k) ?_
  obtain ⟨_, _, ⟨T2, L2, k2, n2⟩, -, X2, ⟨Lc2, hQ2, l2, y2, z2⟩, st2⟩ := Jvm.LawKit.callS X0 hx (y := (⟨"com/example/moving_tokens/movingtokens/MarkingSet", "share", "(JI)J"⟩ : MethodName)) hown (mvT hZ (own_w hw 45 rfl)) (mvT hZ (own_w hw 46 rfl)) (mvT hZ (own_w hw 40 rfl)) (mvT hZ (own_w hw 47 rfl)) (by decide) (backOf (W := 2) (rm8 l Z a0 hw [] x0 (0 : Int32) h0 n0 Zs) hZ (own_w hw 47 rfl) (own_w hw 40 rfl) (by decide) (by decide)) (g := (mkF m 20 #[.val (.ref ao0), .val (.int 0), .val (.int 2), .val (.long 0), .second, .val (.int 0)] [(.int 0), (.long x0), (.long 0)])) rfl (by rw [hml]; rfl) (argsL := [(.long x0), (.int 0)]) (rest := [(.long 0)]) (lenOf pd_1 rfl) rfl (by show 2 * 0 + _ ≤ _; exact Nat.le_of_eq rfl) (hb hby d7_20) (fun _ _ => ⟨rfl, e0, (by decide : 0 + 0 ≤ _), (by decide : 0 + 0 ≤ _)⟩)
  dsimp only [Pt.U, Pt.locs, Pt.cells, Pt.slots] at X2 l2 y2 z2 st2 hQ2
  subst l2 y2 z2
  obtain ⟨z2', hv2, Nq2, eq2⟩ := hQ2
  subst hv2
  replace Nf := Fr.app Nf Nq2
  refine own_go (x' := T2.setTop (mkF m 23 #[.val (.ref ao0), .val (.int 0), .val (.int 2), .val (.long 0), .second, .val (.int 0)] [(.long z2'), (.long 0)])) st2 ?_
  refine own_go (x' := T2.setTop (mkF m 5 #[.val (.ref ao0), .val (.int 0), .val (.int 2), .val (.long ((0 : Int64) + z2')), .second, .val (.int ((0 : Int32) + (1 : Int32)))] [])) (fun _ k => XS.ladd X2.here hx rfl (hb hby d7_23) rfl (XS.lstoreN X2.here hx rfl (hb hby d7_24) rfl (l' := #[.val (.ref ao0), .val (.int 0), .val (.int 2), .val (.long ((0 : Int64) + z2')), .second, .val (.int 0)]) rfl (XS.iinc X2.here hx rfl (hb hby d7_25) rfl (l' := #[.val (.ref ao0), .val (.int 0), .val (.int 2), .val (.long ((0 : Int64) + z2')), .second, .val (.int ((0 : Int32) + (1 : Int32)))]) rfl (XS.goto X2.here hx rfl (pc0 := 28) (pc' := 5) rfl (hb hby d7_28) (by decide) (by decide) k)))) ?_
  rw [show ((0 : Int32) + (1 : Int32)) = (1 : Int32) from by decide +kernel]
  refine own_go (x' := T2.setTop (mkF m 14 #[.val (.ref ao0), .val (.int 0), .val (.int 2), .val (.long ((0 : Int64) + z2')), .second, .val (.int 1)] [(.int 0), (.ref ao0), (.long ((0 : Int64) + z2'))])) (fun _ k => XS.iload X2.here hx rfl (hb hby d7_5) rfl (XS.iloadN X2.here hx rfl (hb hby d7_7) rfl (XS.icmpNo X2.here hx rfl (hb hby d7_8) rfl (tlt (by decide +kernel : ((1 : Int32) < (2 : Int32)))).2.1 (XS.lloadN X2.here hx rfl (hb hby d7_11) rfl (XS.aloadN X2.here hx rfl (hb hby d7_12) rfl rfl (XS.iloadN X2.here hx rfl (hb hby d7_13) rfl k)))))) ?_
  refine own_go (x' := T2.setTop (mkF m 17 #[.val (.ref ao0), .val (.int 0), .val (.int 2), .val (.long ((0 : Int64) + z2')), .second, .val (.int 1)] [(.int ((0 : Int32) + (1 : Int32))), (.ref ao0), (.long ((0 : Int64) + z2'))])) (fun _ k => XS.iload X2.here hx rfl (hb hby d7_14) rfl (XS.iadd X2.here hx rfl (hb hby d7_16) rfl k)) ?_
  rw [show ((0 : Int32) + (1 : Int32)) = (1 : Int32) from by decide +kernel]
  obtain ⟨cl3, Ar3, q3, Sz3, Nn3, Hh3, Gg3⟩ := id V_ao0
  have hin3 : ¬ ((1 : Int32) < 0 ∨ cl3.slots.size ≤ ((1 : Int32)).toNatClampNeg) := inb_of Sz3 ⟨by decide, by decide⟩
  refine own_go (x' := T2.setTop (mkF m 18 #[.val (.ref ao0), .val (.int 0), .val (.int 2), .val (.long ((0 : Int64) + z2')), .second, .val (.int 1)] [(.long x1), (.long ((0 : Int64) + z2'))])) (X2.laload hx (j := (1 : Int32)) (v := (.long x1)) (Eq.trans (congrArg (fun h_ => h_[_]?) eq2) Ar3.1) (State.isArrayOf_alike hZ.alike Ar3.2.1) Ar3.2.2 hin3 (Hh3.at hin3 rfl) (g := (mkF m 17 #[.val (.ref ao0), .val (.int 0), .val (.int 2), .val (.long ((0 : Int64) + z2')), .second, .val (.int 1)] [(.int 1), (.ref ao0), (.long ((0 : Int64) + z2'))])) rfl rfl (hb hby d7_17)) ?_
  refine own_go (x' := T2.setTop (mkF m 20 #[.val (.ref ao0), .val (.int 0), .val (.int 2), .val (.long ((0 : Int64) + z2')), .second, .val (.int 1)] [(.int 1), (.long x1), (.long ((0 : Int64) + z2'))])) (fun _ k => XS.iload X2.here hx rfl (hb hby d7_18) rfl k) ?_
  obtain ⟨_, _, ⟨T4, L4, k4, n4⟩, -, X4, ⟨Lc4, hQ4, l4, y4, z4⟩, st4⟩ := Jvm.LawKit.callS X2 hx (y := (⟨"com/example/moving_tokens/movingtokens/MarkingSet", "share", "(JI)J"⟩ : MethodName)) hown (mvT hZ (own_w hw 45 rfl)) (mvT hZ (own_w hw 46 rfl)) (mvT hZ (own_w hw 40 rfl)) (mvT hZ (own_w hw 47 rfl)) (by decide) (backOf (W := 2) (rm8 l Z a0 hw [] x1 (1 : Int32) h0 n0 Zs) hZ (own_w hw 47 rfl) (own_w hw 40 rfl) (by decide) (by decide)) (g := (mkF m 20 #[.val (.ref ao0), .val (.int 0), .val (.int 2), .val (.long ((0 : Int64) + z2')), .second, .val (.int 1)] [(.int 1), (.long x1), (.long ((0 : Int64) + z2'))])) rfl (by rw [hml]; rfl) (argsL := [(.long x1), (.int 1)]) (rest := [(.long ((0 : Int64) + z2'))]) (lenOf pd_1 rfl) rfl (by show 2 * 0 + _ ≤ _; exact Nat.le_of_eq rfl) (hb hby d7_20) (fun _ _ => ⟨rfl, eq2, (by decide : 0 + 0 ≤ _), (by decide : 0 + 0 ≤ _)⟩)
  dsimp only [Pt.U, Pt.locs, Pt.cells, Pt.slots] at X4 l4 y4 z4 st4 hQ4
  subst l4 y4 z4
  obtain ⟨z4', hv4, Nq4, eq4⟩ := hQ4
  subst hv4
  replace Nf := Fr.app Nf Nq4
  refine own_go (x' := T4.setTop (mkF m 23 #[.val (.ref ao0), .val (.int 0), .val (.int 2), .val (.long ((0 : Int64) + z2')), .second, .val (.int 1)] [(.long z4'), (.long ((0 : Int64) + z2'))])) st4 ?_
  refine own_go (x' := T4.setTop (mkF m 5 #[.val (.ref ao0), .val (.int 0), .val (.int 2), .val (.long (((0 : Int64) + z2') + z4')), .second, .val (.int ((1 : Int32) + (1 : Int32)))] [])) (fun _ k => XS.ladd X4.here hx rfl (hb hby d7_23) rfl (XS.lstoreN X4.here hx rfl (hb hby d7_24) rfl (l' := #[.val (.ref ao0), .val (.int 0), .val (.int 2), .val (.long (((0 : Int64) + z2') + z4')), .second, .val (.int 1)]) rfl (XS.iinc X4.here hx rfl (hb hby d7_25) rfl (l' := #[.val (.ref ao0), .val (.int 0), .val (.int 2), .val (.long (((0 : Int64) + z2') + z4')), .second, .val (.int ((1 : Int32) + (1 : Int32)))]) rfl (XS.goto X4.here hx rfl (pc0 := 28) (pc' := 5) rfl (hb hby d7_28) (by decide) (by decide) k)))) ?_
  rw [show ((1 : Int32) + (1 : Int32)) = (2 : Int32) from by decide +kernel]
  refine own_go (x' := T4.setTop (mkF m 32 #[.val (.ref ao0), .val (.int 0), .val (.int 2), .val (.long (((0 : Int64) + z2') + z4')), .second, .val (.int 2)] [(.long (((0 : Int64) + z2') + z4'))])) (fun _ k => XS.iload X4.here hx rfl (hb hby d7_5) rfl (XS.iloadN X4.here hx rfl (hb hby d7_7) rfl (XS.icmpYes X4.here hx rfl (pc0 := 8) (pc' := 31) rfl (hb hby d7_8) rfl (flt (Int32.lt_irrefl)).2.1 (by decide) (by decide) (XS.lloadN X4.here hx rfl (hb hby d7_31) rfl k)))) ?_
  refine own_retJ X4 hx hlk hret (hb hby d7_32) ?_ (by decide) (by decide)
  rw [eq4]
  exact ⟨_, rfl, Nf, rfl⟩
def Q_rm6_2 (Z : State) (ao0 : Addr) (kx : ClassId) (x0 x1 x2 x3 : Int64) (h0 : Heap) (n0 : Nat) (v : Option Value) (h : Heap) (L : List Loc) : Prop := ∃ z : Int64, v = some (.long z) ∧ Fr n0 L ∧ h = h0
theorem pn_rm6_2 : plainName "com/example/moving_tokens/movingtokens/MarkingSet" = true := by first | (simp [plainName, overriddenIn]; done) | decide +kernel
theorem ef_rm6_2 (m : MethodId) (x0 : Addr) (x1 : Int32) (x2 : Int32) : entryFrame m #[(.ref x0), (.int x1), (.int x2)] 3 = mkF m 0 #[.val (.ref x0), .val (.int x1), .val (.int x2)] [] := by first | (simp [entryFrame, mkF, argsToLocals, Value.category]; done) | rfl
set_option maxRecDepth 65536 in
set_option maxHeartbeats 40000000 in
theorem rm6_2 (l : Launch) (Z : State) (a0 : Array Value) (hw : ∀ d ∈ tables_1, d.before a0 Z = true) (ws : List Jvm.Cond) (ao0 : Addr) (kx : ClassId) (x0 x1 x2 x3 : Int64) (h0 : Heap) (n0 : Nat) (Z0 : n0 ≤ h0.size) (V_ao0 : Arv Z h0 ao0 kx .long (4 : Int32) [.long x0, .long x1, .long x2, .long x3] (.long (0 : Int64))) :
    MetFree l (⟨"com/example/moving_tokens/movingtokens/MarkingSet", "hash", "([JII)J"⟩ : MethodName) (head1 (Jvm.Cond.code (⟨"com/example/moving_tokens/movingtokens/MarkingSet", "hash", "([JII)J"⟩ : MethodName) prog_30_method_15_code 3 (some .long) :: ws) ({ frames := 3, cells := 0, slots := 0, locals := 48 } : Room)) (fun a U => a = #[(.ref ao0), (.int 0), (.int 2)] ∧ Z.Warmed39 U.vm ∧ U.heap = h0) (fun _ _ _ _ _ => True) (fun _ U o U' => ∃ v L, o = .returned v ∧ (Q_rm6_2 Z ao0 kx x0 x1 x2 x3 h0 n0) v U'.heap L ∧ FrameEnd U o U' L ({ frames := 3, cells := 0, slots := 0, locals := 48 } : Room).cells ({ frames := 3, cells := 0, slots := 0, locals := 48 } : Room).slots) := by
  refine MetFree.of_bodySF (plainFor_of_name pn_rm6_2) hisR ?_
  intro p e s m args below meth c s₁ Bd hml0 hP hK
  obtain ⟨rfl, hZ, hh⟩ := hP
  have hx := Bd.exec
  have hby := Bd.bytes
  have hlk := BodyLoose.notSynchronized Bd
  have hret := Bd.returns
  have hml : c.maxLocals = 3 := hml0
  have hown : s.vm.findClass "com/example/moving_tokens/movingtokens/MarkingSet" = some m.cls := findClass_of_methodNamed Bd.named
  have hnm := (name_of_methodNamed Bd.named Bd.method).1
  have X0 : Stand p l e ({ frames := 3, cells := 0, slots := 0, locals := 48 } : Room) s m #[(.ref ao0), (.int 0), (.int 2)] below meth c s₁ [] 0 0 := Stand.of_body Bd
  have e0 : s₁.heap = h0 := by rw [← hh, Bd.state]; rfl
  have Nf := Fr.nil n0
  have Zs := Z0
  have Kp : Keep h0 h0 [] := Keep.refl _ _
  show own_End p e below s (Q_rm6_2 Z ao0 kx x0 x1 x2 x3 h0 n0) ({ frames := 3, cells := 0, slots := 0, locals := 48 } : Room).cells ({ frames := 3, cells := 0, slots := 0, locals := 48 } : Room).slots (s₁.setTop (entryFrame m #[(.ref ao0), (.int 0), (.int 2)] 3))
  refine own_go (x' := s₁.setTop (mkF m 0 #[.val (.ref ao0), .val (.int 0), .val (.int 2)] [])) (fun t k => castTop (ef_rm6_2 m ao0 (0 : Int32) (2 : Int32)) k) ?_
  refine own_go (x' := s₁.setTop (mkF m 3 #[.val (.ref ao0), .val (.int 0), .val (.int 2)] [(.int 2), (.int 0), (.ref ao0)])) (fun _ k => XS.aloadN X0.here hx rfl (hb hby d6_0) rfl rfl (XS.iloadN X0.here hx rfl (hb hby d6_1) rfl (XS.iloadN X0.here hx rfl (hb hby d6_2) rfl k))) ?_
  obtain ⟨_, _, ⟨T1, L1, k1, n1⟩, -, X1, ⟨Lc1, hQ1, l1, y1, z1⟩, st1⟩ := Jvm.LawKit.callS X0 hx (y := (⟨"com/example/moving_tokens/movingtokens/MarkingSet", "sum", "([JII)J"⟩ : MethodName)) hown (mvT hZ (own_w hw 42 rfl)) (mvT hZ (own_w hw 43 rfl)) (mvT hZ (own_w hw 40 rfl)) (mvT hZ (own_w hw 44 rfl)) (by decide) (backOf (W := 0) (rm7_2 l Z a0 hw [] ao0 kx x0 x1 x2 x3 h0 n0 Zs V_ao0) hZ (own_w hw 44 rfl) (own_w hw 40 rfl) (by decide) (by decide)) (g := (mkF m 3 #[.val (.ref ao0), .val (.int 0), .val (.int 2)] [(.int 2), (.int 0), (.ref ao0)])) rfl (by rw [hml]; rfl) (argsL := [(.ref ao0), (.int 0), (.int 2)]) (rest := []) (lenOf pd_2 rfl) rfl (by show 2 * 0 + _ ≤ _; exact Nat.le_of_eq rfl) (hb hby d6_3) (fun _ _ => ⟨rfl, e0, (by decide : 0 + 0 ≤ _), (by decide : 0 + 0 ≤ _)⟩)
  dsimp only [Pt.U, Pt.locs, Pt.cells, Pt.slots] at X1 l1 y1 z1 st1 hQ1
  subst l1 y1 z1
  obtain ⟨z1', hv1, Nq1, eq1⟩ := hQ1
  subst hv1
  replace Nf := Fr.app Nf Nq1
  refine own_go (x' := T1.setTop (mkF m 6 #[.val (.ref ao0), .val (.int 0), .val (.int 2)] [(.long z1')])) st1 ?_
  obtain ⟨_, _, ⟨T2, L2, k2, n2⟩, -, X2, ⟨Lc2, hQ2, l2, y2, z2⟩, st2⟩ := Jvm.LawKit.callS X1 hx (y := (⟨"com/example/moving_tokens/movingtokens/MarkingSet", "spread", "(J)J"⟩ : MethodName)) hown (mvT hZ (own_w hw 49 rfl)) (mvT hZ (own_w hw 50 rfl)) (mvT hZ (own_w hw 40 rfl)) (mvT hZ (own_w hw 51 rfl)) (by decide) (backOf (W := 0) (rm9 l Z a0 hw [] z1'  h0 n0 Zs ) hZ (own_w hw 51 rfl) (own_w hw 40 rfl) (by decide) (by decide)) (g := (mkF m 6 #[.val (.ref ao0), .val (.int 0), .val (.int 2)] [(.long z1')])) rfl (by rw [hml]; rfl) (argsL := [(.long z1')]) (rest := []) (lenOf pd_0 rfl) rfl (by show 2 * 0 + _ ≤ _; exact Nat.le_of_eq rfl) (hb hby d6_6) (fun _ _ => ⟨rfl, eq1, (by decide : 0 + 0 ≤ _), (by decide : 0 + 0 ≤ _)⟩)
  dsimp only [Pt.U, Pt.locs, Pt.cells, Pt.slots] at X2 l2 y2 z2 st2 hQ2
  subst l2 y2 z2
  obtain ⟨z2', hv2, Nq2, eq2⟩ := hQ2
  subst hv2
  replace Nf := Fr.app Nf Nq2
  refine own_go (x' := T2.setTop (mkF m 9 #[.val (.ref ao0), .val (.int 0), .val (.int 2)] [(.long z2')])) st2 ?_
  refine own_retJ X2 hx hlk hret (hb hby d6_9) ?_ (by decide) (by decide)
  rw [eq2]
  exact ⟨_, rfl, Nf, rfl⟩
def Q_rm7_3 (Z : State) (ao0 : Addr) (kx : ClassId) (x0 x1 x2 x3 : Int64) (h0 : Heap) (n0 : Nat) (v : Option Value) (h : Heap) (L : List Loc) : Prop := ∃ z : Int64, v = some (.long z) ∧ Fr n0 L ∧ h = h0
theorem pn_rm7_3 : plainName "com/example/moving_tokens/movingtokens/MarkingSet" = true := by first | (simp [plainName, overriddenIn]; done) | decide +kernel
theorem ef_rm7_3 (m : MethodId) (x0 : Addr) (x1 : Int32) (x2 : Int32) : entryFrame m #[(.ref x0), (.int x1), (.int x2)] 6 = mkF m 0 #[.val (.ref x0), .val (.int x1), .val (.int x2), .unset, .unset, .unset] [] := by first | (simp [entryFrame, mkF, argsToLocals, Value.category]; done) | rfl
set_option maxRecDepth 65536 in
set_option maxHeartbeats 40000000 in
theorem rm7_3 (l : Launch) (Z : State) (a0 : Array Value) (hw : ∀ d ∈ tables_1, d.before a0 Z = true) (ws : List Jvm.Cond) (ao0 : Addr) (kx : ClassId) (x0 x1 x2 x3 : Int64) (h0 : Heap) (n0 : Nat) (Z0 : n0 ≤ h0.size) (V_ao0 : Arv Z h0 ao0 kx .long (4 : Int32) [.long x0, .long x1, .long x2, .long x3] (.long (0 : Int64))) :
    MetFree l (⟨"com/example/moving_tokens/movingtokens/MarkingSet", "sum", "([JII)J"⟩ : MethodName) (head1 (Jvm.Cond.code (⟨"com/example/moving_tokens/movingtokens/MarkingSet", "sum", "([JII)J"⟩ : MethodName) prog_30_method_16_code 6 (some .long) :: ws) ({ frames := 2, cells := 0, slots := 0, locals := 31 } : Room)) (fun a U => a = #[(.ref ao0), (.int 0), (.int 3)] ∧ Z.Warmed39 U.vm ∧ U.heap = h0) (fun _ _ _ _ _ => True) (fun _ U o U' => ∃ v L, o = .returned v ∧ (Q_rm7_3 Z ao0 kx x0 x1 x2 x3 h0 n0) v U'.heap L ∧ FrameEnd U o U' L ({ frames := 2, cells := 0, slots := 0, locals := 31 } : Room).cells ({ frames := 2, cells := 0, slots := 0, locals := 31 } : Room).slots) := by
  refine MetFree.of_bodySF (plainFor_of_name pn_rm7_3) hisR ?_
  intro p e s m args below meth c s₁ Bd hml0 hP hK
  obtain ⟨rfl, hZ, hh⟩ := hP
  have hx := Bd.exec
  have hby := Bd.bytes
  have hlk := BodyLoose.notSynchronized Bd
  have hret := Bd.returns
  have hml : c.maxLocals = 6 := hml0
  have hown : s.vm.findClass "com/example/moving_tokens/movingtokens/MarkingSet" = some m.cls := findClass_of_methodNamed Bd.named
  have hnm := (name_of_methodNamed Bd.named Bd.method).1
  have X0 : Stand p l e ({ frames := 2, cells := 0, slots := 0, locals := 31 } : Room) s m #[(.ref ao0), (.int 0), (.int 3)] below meth c s₁ [] 0 0 := Stand.of_body Bd
  have e0 : s₁.heap = h0 := by rw [← hh, Bd.state]; rfl
  have Nf := Fr.nil n0
  have Zs := Z0
  have Kp : Keep h0 h0 [] := Keep.refl _ _
  show own_End p e below s (Q_rm7_3 Z ao0 kx x0 x1 x2 x3 h0 n0) ({ frames := 2, cells := 0, slots := 0, locals := 31 } : Room).cells ({ frames := 2, cells := 0, slots := 0, locals := 31 } : Room).slots (s₁.setTop (entryFrame m #[(.ref ao0), (.int 0), (.int 3)] 6))
  refine own_go (x' := s₁.setTop (mkF m 0 #[.val (.ref ao0), .val (.int 0), .val (.int 3), .unset, .unset, .unset] [])) (fun t k => castTop (ef_rm7_3 m ao0 (0 : Int32) (3 : Int32)) k) ?_
  refine own_go (x' := s₁.setTop (mkF m 8 #[.val (.ref ao0), .val (.int 0), .val (.int 3), .val (.long 0), .second, .val (.int 0)] [(.int 3), (.int 0)])) (fun _ k => XS.lconst X0.here hx rfl (hb hby d7_0) (XS.lstoreN X0.here hx rfl (hb hby d7_1) rfl (l' := #[.val (.ref ao0), .val (.int 0), .val (.int 3), .val (.long 0), .second, .unset]) rfl (XS.iconst X0.here hx rfl (hb hby d7_2) (XS.istore X0.here hx rfl (hb hby d7_3) rfl (l' := #[.val (.ref ao0), .val (.int 0), .val (.int 3), .val (.long 0), .second, .val (.int 0)]) rfl (XS.iload X0.here hx rfl (hb hby d7_5) rfl (XS.iloadN X0.here hx rfl (hb hby d7_7) rfl k)))))) ?_
  refine own_go (x' := s₁.setTop (mkF m 17 #[.val (.ref ao0), .val (.int 0), .val (.int 3), .val (.long 0), .second, .val (.int 0)] [(.int ((0 : Int32) + (0 : Int32))), (.ref ao0), (.long 0)])) (fun _ k => XS.icmpNo X0.here hx rfl (hb hby d7_8) rfl (tlt (by decide +kernel : ((0 : Int32) < (3 : Int32)))).2.1 (XS.lloadN X0.here hx rfl (hb hby d7_11) rfl (XS.aloadN X0.here hx rfl (hb hby d7_12) rfl rfl (XS.iloadN X0.here hx rfl (hb hby d7_13) rfl (XS.iload X0.here hx rfl (hb hby d7_14) rfl (XS.iadd X0.here hx rfl (hb hby d7_16) rfl k)))))) ?_
  rw [show ((0 : Int32) + (0 : Int32)) = (0 : Int32) from by decide +kernel]
  obtain ⟨cl1, Ar1, q1, Sz1, Nn1, Hh1, Gg1⟩ := id V_ao0
  have hin1 : ¬ ((0 : Int32) < 0 ∨ cl1.slots.size ≤ ((0 : Int32)).toNatClampNeg) := inb_of Sz1 ⟨by decide, by decide⟩
  refine own_go (x' := s₁.setTop (mkF m 18 #[.val (.ref ao0), .val (.int 0), .val (.int 3), .val (.long 0), .second, .val (.int 0)] [(.long x0), (.long 0)])) (X0.laload hx (j := (0 : Int32)) (v := (.long x0)) (Eq.trans (congrArg (fun h_ => h_[_]?) e0) Ar1.1) (State.isArrayOf_alike hZ.alike Ar1.2.1) Ar1.2.2 hin1 (Hh1.at hin1 rfl) (g := (mkF m 17 #[.val (.ref ao0), .val (.int 0), .val (.int 3), .val (.long 0), .second, .val (.int 0)] [(.int 0), (.ref ao0), (.long 0)])) rfl rfl (hb hby d7_17)) ?_
  refine own_go (x' := s₁.setTop (mkF m 20 #[.val (.ref ao0), .val (.int 0), .val (.int 3), .val (.long 0), .second, .val (.int 0)] [(.int 0), (.long x0), (.long 0)])) (fun _ k => XS.iload X0.here hx rfl (hb hby d7_18) rfl k) ?_
  obtain ⟨_, _, ⟨T2, L2, k2, n2⟩, -, X2, ⟨Lc2, hQ2, l2, y2, z2⟩, st2⟩ := Jvm.LawKit.callS X0 hx (y := (⟨"com/example/moving_tokens/movingtokens/MarkingSet", "share", "(JI)J"⟩ : MethodName)) hown (mvT hZ (own_w hw 45 rfl)) (mvT hZ (own_w hw 46 rfl)) (mvT hZ (own_w hw 40 rfl)) (mvT hZ (own_w hw 47 rfl)) (by decide) (backOf (W := 2) (rm8 l Z a0 hw [] x0 (0 : Int32) h0 n0 Zs) hZ (own_w hw 47 rfl) (own_w hw 40 rfl) (by decide) (by decide)) (g := (mkF m 20 #[.val (.ref ao0), .val (.int 0), .val (.int 3), .val (.long 0), .second, .val (.int 0)] [(.int 0), (.long x0), (.long 0)])) rfl (by rw [hml]; rfl) (argsL := [(.long x0), (.int 0)]) (rest := [(.long 0)]) (lenOf pd_1 rfl) rfl (by show 2 * 0 + _ ≤ _; exact Nat.le_of_eq rfl) (hb hby d7_20) (fun _ _ => ⟨rfl, e0, (by decide : 0 + 0 ≤ _), (by decide : 0 + 0 ≤ _)⟩)
  dsimp only [Pt.U, Pt.locs, Pt.cells, Pt.slots] at X2 l2 y2 z2 st2 hQ2
  subst l2 y2 z2
  obtain ⟨z2', hv2, Nq2, eq2⟩ := hQ2
  subst hv2
  replace Nf := Fr.app Nf Nq2
  refine own_go (x' := T2.setTop (mkF m 23 #[.val (.ref ao0), .val (.int 0), .val (.int 3), .val (.long 0), .second, .val (.int 0)] [(.long z2'), (.long 0)])) st2 ?_
  refine own_go (x' := T2.setTop (mkF m 5 #[.val (.ref ao0), .val (.int 0), .val (.int 3), .val (.long ((0 : Int64) + z2')), .second, .val (.int ((0 : Int32) + (1 : Int32)))] [])) (fun _ k => XS.ladd X2.here hx rfl (hb hby d7_23) rfl (XS.lstoreN X2.here hx rfl (hb hby d7_24) rfl (l' := #[.val (.ref ao0), .val (.int 0), .val (.int 3), .val (.long ((0 : Int64) + z2')), .second, .val (.int 0)]) rfl (XS.iinc X2.here hx rfl (hb hby d7_25) rfl (l' := #[.val (.ref ao0), .val (.int 0), .val (.int 3), .val (.long ((0 : Int64) + z2')), .second, .val (.int ((0 : Int32) + (1 : Int32)))]) rfl (XS.goto X2.here hx rfl (pc0 := 28) (pc' := 5) rfl (hb hby d7_28) (by decide) (by decide) k)))) ?_
  rw [show ((0 : Int32) + (1 : Int32)) = (1 : Int32) from by decide +kernel]
  refine own_go (x' := T2.setTop (mkF m 14 #[.val (.ref ao0), .val (.int 0), .val (.int 3), .val (.long ((0 : Int64) + z2')), .second, .val (.int 1)] [(.int 0), (.ref ao0), (.long ((0 : Int64) + z2'))])) (fun _ k => XS.iload X2.here hx rfl (hb hby d7_5) rfl (XS.iloadN X2.here hx rfl (hb hby d7_7) rfl (XS.icmpNo X2.here hx rfl (hb hby d7_8) rfl (tlt (by decide +kernel : ((1 : Int32) < (3 : Int32)))).2.1 (XS.lloadN X2.here hx rfl (hb hby d7_11) rfl (XS.aloadN X2.here hx rfl (hb hby d7_12) rfl rfl (XS.iloadN X2.here hx rfl (hb hby d7_13) rfl k)))))) ?_
  refine own_go (x' := T2.setTop (mkF m 17 #[.val (.ref ao0), .val (.int 0), .val (.int 3), .val (.long ((0 : Int64) + z2')), .second, .val (.int 1)] [(.int ((0 : Int32) + (1 : Int32))), (.ref ao0), (.long ((0 : Int64) + z2'))])) (fun _ k => XS.iload X2.here hx rfl (hb hby d7_14) rfl (XS.iadd X2.here hx rfl (hb hby d7_16) rfl k)) ?_
  rw [show ((0 : Int32) + (1 : Int32)) = (1 : Int32) from by decide +kernel]
  obtain ⟨cl3, Ar3, q3, Sz3, Nn3, Hh3, Gg3⟩ := id V_ao0
  have hin3 : ¬ ((1 : Int32) < 0 ∨ cl3.slots.size ≤ ((1 : Int32)).toNatClampNeg) := inb_of Sz3 ⟨by decide, by decide⟩
  refine own_go (x' := T2.setTop (mkF m 18 #[.val (.ref ao0), .val (.int 0), .val (.int 3), .val (.long ((0 : Int64) + z2')), .second, .val (.int 1)] [(.long x1), (.long ((0 : Int64) + z2'))])) (X2.laload hx (j := (1 : Int32)) (v := (.long x1)) (Eq.trans (congrArg (fun h_ => h_[_]?) eq2) Ar3.1) (State.isArrayOf_alike hZ.alike Ar3.2.1) Ar3.2.2 hin3 (Hh3.at hin3 rfl) (g := (mkF m 17 #[.val (.ref ao0), .val (.int 0), .val (.int 3), .val (.long ((0 : Int64) + z2')), .second, .val (.int 1)] [(.int 1), (.ref ao0), (.long ((0 : Int64) + z2'))])) rfl rfl (hb hby d7_17)) ?_
  refine own_go (x' := T2.setTop (mkF m 20 #[.val (.ref ao0), .val (.int 0), .val (.int 3), .val (.long ((0 : Int64) + z2')), .second, .val (.int 1)] [(.int 1), (.long x1), (.long ((0 : Int64) + z2'))])) (fun _ k => XS.iload X2.here hx rfl (hb hby d7_18) rfl k) ?_
  obtain ⟨_, _, ⟨T4, L4, k4, n4⟩, -, X4, ⟨Lc4, hQ4, l4, y4, z4⟩, st4⟩ := Jvm.LawKit.callS X2 hx (y := (⟨"com/example/moving_tokens/movingtokens/MarkingSet", "share", "(JI)J"⟩ : MethodName)) hown (mvT hZ (own_w hw 45 rfl)) (mvT hZ (own_w hw 46 rfl)) (mvT hZ (own_w hw 40 rfl)) (mvT hZ (own_w hw 47 rfl)) (by decide) (backOf (W := 2) (rm8 l Z a0 hw [] x1 (1 : Int32) h0 n0 Zs) hZ (own_w hw 47 rfl) (own_w hw 40 rfl) (by decide) (by decide)) (g := (mkF m 20 #[.val (.ref ao0), .val (.int 0), .val (.int 3), .val (.long ((0 : Int64) + z2')), .second, .val (.int 1)] [(.int 1), (.long x1), (.long ((0 : Int64) + z2'))])) rfl (by rw [hml]; rfl) (argsL := [(.long x1), (.int 1)]) (rest := [(.long ((0 : Int64) + z2'))]) (lenOf pd_1 rfl) rfl (by show 2 * 0 + _ ≤ _; exact Nat.le_of_eq rfl) (hb hby d7_20) (fun _ _ => ⟨rfl, eq2, (by decide : 0 + 0 ≤ _), (by decide : 0 + 0 ≤ _)⟩)
  dsimp only [Pt.U, Pt.locs, Pt.cells, Pt.slots] at X4 l4 y4 z4 st4 hQ4
  subst l4 y4 z4
  obtain ⟨z4', hv4, Nq4, eq4⟩ := hQ4
  subst hv4
  replace Nf := Fr.app Nf Nq4
  refine own_go (x' := T4.setTop (mkF m 23 #[.val (.ref ao0), .val (.int 0), .val (.int 3), .val (.long ((0 : Int64) + z2')), .second, .val (.int 1)] [(.long z4'), (.long ((0 : Int64) + z2'))])) st4 ?_
  refine own_go (x' := T4.setTop (mkF m 5 #[.val (.ref ao0), .val (.int 0), .val (.int 3), .val (.long (((0 : Int64) + z2') + z4')), .second, .val (.int ((1 : Int32) + (1 : Int32)))] [])) (fun _ k => XS.ladd X4.here hx rfl (hb hby d7_23) rfl (XS.lstoreN X4.here hx rfl (hb hby d7_24) rfl (l' := #[.val (.ref ao0), .val (.int 0), .val (.int 3), .val (.long (((0 : Int64) + z2') + z4')), .second, .val (.int 1)]) rfl (XS.iinc X4.here hx rfl (hb hby d7_25) rfl (l' := #[.val (.ref ao0), .val (.int 0), .val (.int 3), .val (.long (((0 : Int64) + z2') + z4')), .second, .val (.int ((1 : Int32) + (1 : Int32)))]) rfl (XS.goto X4.here hx rfl (pc0 := 28) (pc' := 5) rfl (hb hby d7_28) (by decide) (by decide) k)))) ?_
  rw [show ((1 : Int32) + (1 : Int32)) = (2 : Int32) from by decide +kernel]
  refine own_go (x' := T4.setTop (mkF m 14 #[.val (.ref ao0), .val (.int 0), .val (.int 3), .val (.long (((0 : Int64) + z2') + z4')), .second, .val (.int 2)] [(.int 0), (.ref ao0), (.long (((0 : Int64) + z2') + z4'))])) (fun _ k => XS.iload X4.here hx rfl (hb hby d7_5) rfl (XS.iloadN X4.here hx rfl (hb hby d7_7) rfl (XS.icmpNo X4.here hx rfl (hb hby d7_8) rfl (tlt (by decide +kernel : ((2 : Int32) < (3 : Int32)))).2.1 (XS.lloadN X4.here hx rfl (hb hby d7_11) rfl (XS.aloadN X4.here hx rfl (hb hby d7_12) rfl rfl (XS.iloadN X4.here hx rfl (hb hby d7_13) rfl k)))))) ?_
  refine own_go (x' := T4.setTop (mkF m 17 #[.val (.ref ao0), .val (.int 0), .val (.int 3), .val (.long (((0 : Int64) + z2') + z4')), .second, .val (.int 2)] [(.int ((0 : Int32) + (2 : Int32))), (.ref ao0), (.long (((0 : Int64) + z2') + z4'))])) (fun _ k => XS.iload X4.here hx rfl (hb hby d7_14) rfl (XS.iadd X4.here hx rfl (hb hby d7_16) rfl k)) ?_
  rw [show ((0 : Int32) + (2 : Int32)) = (2 : Int32) from by decide +kernel]
  obtain ⟨cl5, Ar5, q5, Sz5, Nn5, Hh5, Gg5⟩ := id V_ao0
  have hin5 : ¬ ((2 : Int32) < 0 ∨ cl5.slots.size ≤ ((2 : Int32)).toNatClampNeg) := inb_of Sz5 ⟨by decide, by decide⟩
  refine own_go (x' := T4.setTop (mkF m 18 #[.val (.ref ao0), .val (.int 0), .val (.int 3), .val (.long (((0 : Int64) + z2') + z4')), .second, .val (.int 2)] [(.long x2), (.long (((0 : Int64) + z2') + z4'))])) (X4.laload hx (j := (2 : Int32)) (v := (.long x2)) (Eq.trans (congrArg (fun h_ => h_[_]?) eq4) Ar5.1) (State.isArrayOf_alike hZ.alike Ar5.2.1) Ar5.2.2 hin5 (Hh5.at hin5 rfl) (g := (mkF m 17 #[.val (.ref ao0), .val (.int 0), .val (.int 3), .val (.long (((0 : Int64) + z2') + z4')), .second, .val (.int 2)] [(.int 2), (.ref ao0), (.long (((0 : Int64) + z2') + z4'))])) rfl rfl (hb hby d7_17)) ?_
  refine own_go (x' := T4.setTop (mkF m 20 #[.val (.ref ao0), .val (.int 0), .val (.int 3), .val (.long (((0 : Int64) + z2') + z4')), .second, .val (.int 2)] [(.int 2), (.long x2), (.long (((0 : Int64) + z2') + z4'))])) (fun _ k => XS.iload X4.here hx rfl (hb hby d7_18) rfl k) ?_
  obtain ⟨_, _, ⟨T6, L6, k6, n6⟩, -, X6, ⟨Lc6, hQ6, l6, y6, z6⟩, st6⟩ := Jvm.LawKit.callS X4 hx (y := (⟨"com/example/moving_tokens/movingtokens/MarkingSet", "share", "(JI)J"⟩ : MethodName)) hown (mvT hZ (own_w hw 45 rfl)) (mvT hZ (own_w hw 46 rfl)) (mvT hZ (own_w hw 40 rfl)) (mvT hZ (own_w hw 47 rfl)) (by decide) (backOf (W := 2) (rm8 l Z a0 hw [] x2 (2 : Int32) h0 n0 Zs) hZ (own_w hw 47 rfl) (own_w hw 40 rfl) (by decide) (by decide)) (g := (mkF m 20 #[.val (.ref ao0), .val (.int 0), .val (.int 3), .val (.long (((0 : Int64) + z2') + z4')), .second, .val (.int 2)] [(.int 2), (.long x2), (.long (((0 : Int64) + z2') + z4'))])) rfl (by rw [hml]; rfl) (argsL := [(.long x2), (.int 2)]) (rest := [(.long (((0 : Int64) + z2') + z4'))]) (lenOf pd_1 rfl) rfl (by show 2 * 0 + _ ≤ _; exact Nat.le_of_eq rfl) (hb hby d7_20) (fun _ _ => ⟨rfl, eq4, (by decide : 0 + 0 ≤ _), (by decide : 0 + 0 ≤ _)⟩)
  dsimp only [Pt.U, Pt.locs, Pt.cells, Pt.slots] at X6 l6 y6 z6 st6 hQ6
  subst l6 y6 z6
  obtain ⟨z6', hv6, Nq6, eq6⟩ := hQ6
  subst hv6
  replace Nf := Fr.app Nf Nq6
  refine own_go (x' := T6.setTop (mkF m 23 #[.val (.ref ao0), .val (.int 0), .val (.int 3), .val (.long (((0 : Int64) + z2') + z4')), .second, .val (.int 2)] [(.long z6'), (.long (((0 : Int64) + z2') + z4'))])) st6 ?_
  refine own_go (x' := T6.setTop (mkF m 5 #[.val (.ref ao0), .val (.int 0), .val (.int 3), .val (.long ((((0 : Int64) + z2') + z4') + z6')), .second, .val (.int ((2 : Int32) + (1 : Int32)))] [])) (fun _ k => XS.ladd X6.here hx rfl (hb hby d7_23) rfl (XS.lstoreN X6.here hx rfl (hb hby d7_24) rfl (l' := #[.val (.ref ao0), .val (.int 0), .val (.int 3), .val (.long ((((0 : Int64) + z2') + z4') + z6')), .second, .val (.int 2)]) rfl (XS.iinc X6.here hx rfl (hb hby d7_25) rfl (l' := #[.val (.ref ao0), .val (.int 0), .val (.int 3), .val (.long ((((0 : Int64) + z2') + z4') + z6')), .second, .val (.int ((2 : Int32) + (1 : Int32)))]) rfl (XS.goto X6.here hx rfl (pc0 := 28) (pc' := 5) rfl (hb hby d7_28) (by decide) (by decide) k)))) ?_
  rw [show ((2 : Int32) + (1 : Int32)) = (3 : Int32) from by decide +kernel]
  refine own_go (x' := T6.setTop (mkF m 32 #[.val (.ref ao0), .val (.int 0), .val (.int 3), .val (.long ((((0 : Int64) + z2') + z4') + z6')), .second, .val (.int 3)] [(.long ((((0 : Int64) + z2') + z4') + z6'))])) (fun _ k => XS.iload X6.here hx rfl (hb hby d7_5) rfl (XS.iloadN X6.here hx rfl (hb hby d7_7) rfl (XS.icmpYes X6.here hx rfl (pc0 := 8) (pc' := 31) rfl (hb hby d7_8) rfl (flt (Int32.lt_irrefl)).2.1 (by decide) (by decide) (XS.lloadN X6.here hx rfl (hb hby d7_31) rfl k)))) ?_
  refine own_retJ X6 hx hlk hret (hb hby d7_32) ?_ (by decide) (by decide)
  rw [eq6]
  exact ⟨_, rfl, Nf, rfl⟩
def Q_rm6_3 (Z : State) (ao0 : Addr) (kx : ClassId) (x0 x1 x2 x3 : Int64) (h0 : Heap) (n0 : Nat) (v : Option Value) (h : Heap) (L : List Loc) : Prop := ∃ z : Int64, v = some (.long z) ∧ Fr n0 L ∧ h = h0
theorem pn_rm6_3 : plainName "com/example/moving_tokens/movingtokens/MarkingSet" = true := by first | (simp [plainName, overriddenIn]; done) | decide +kernel
theorem ef_rm6_3 (m : MethodId) (x0 : Addr) (x1 : Int32) (x2 : Int32) : entryFrame m #[(.ref x0), (.int x1), (.int x2)] 3 = mkF m 0 #[.val (.ref x0), .val (.int x1), .val (.int x2)] [] := by first | (simp [entryFrame, mkF, argsToLocals, Value.category]; done) | rfl
set_option maxRecDepth 65536 in
set_option maxHeartbeats 40000000 in
theorem rm6_3 (l : Launch) (Z : State) (a0 : Array Value) (hw : ∀ d ∈ tables_1, d.before a0 Z = true) (ws : List Jvm.Cond) (ao0 : Addr) (kx : ClassId) (x0 x1 x2 x3 : Int64) (h0 : Heap) (n0 : Nat) (Z0 : n0 ≤ h0.size) (V_ao0 : Arv Z h0 ao0 kx .long (4 : Int32) [.long x0, .long x1, .long x2, .long x3] (.long (0 : Int64))) :
    MetFree l (⟨"com/example/moving_tokens/movingtokens/MarkingSet", "hash", "([JII)J"⟩ : MethodName) (head1 (Jvm.Cond.code (⟨"com/example/moving_tokens/movingtokens/MarkingSet", "hash", "([JII)J"⟩ : MethodName) prog_30_method_15_code 3 (some .long) :: ws) ({ frames := 3, cells := 0, slots := 0, locals := 48 } : Room)) (fun a U => a = #[(.ref ao0), (.int 0), (.int 3)] ∧ Z.Warmed39 U.vm ∧ U.heap = h0) (fun _ _ _ _ _ => True) (fun _ U o U' => ∃ v L, o = .returned v ∧ (Q_rm6_3 Z ao0 kx x0 x1 x2 x3 h0 n0) v U'.heap L ∧ FrameEnd U o U' L ({ frames := 3, cells := 0, slots := 0, locals := 48 } : Room).cells ({ frames := 3, cells := 0, slots := 0, locals := 48 } : Room).slots) := by
  refine MetFree.of_bodySF (plainFor_of_name pn_rm6_3) hisR ?_
  intro p e s m args below meth c s₁ Bd hml0 hP hK
  obtain ⟨rfl, hZ, hh⟩ := hP
  have hx := Bd.exec
  have hby := Bd.bytes
  have hlk := BodyLoose.notSynchronized Bd
  have hret := Bd.returns
  have hml : c.maxLocals = 3 := hml0
  have hown : s.vm.findClass "com/example/moving_tokens/movingtokens/MarkingSet" = some m.cls := findClass_of_methodNamed Bd.named
  have hnm := (name_of_methodNamed Bd.named Bd.method).1
  have X0 : Stand p l e ({ frames := 3, cells := 0, slots := 0, locals := 48 } : Room) s m #[(.ref ao0), (.int 0), (.int 3)] below meth c s₁ [] 0 0 := Stand.of_body Bd
  have e0 : s₁.heap = h0 := by rw [← hh, Bd.state]; rfl
  have Nf := Fr.nil n0
  have Zs := Z0
  have Kp : Keep h0 h0 [] := Keep.refl _ _
  show own_End p e below s (Q_rm6_3 Z ao0 kx x0 x1 x2 x3 h0 n0) ({ frames := 3, cells := 0, slots := 0, locals := 48 } : Room).cells ({ frames := 3, cells := 0, slots := 0, locals := 48 } : Room).slots (s₁.setTop (entryFrame m #[(.ref ao0), (.int 0), (.int 3)] 3))
  refine own_go (x' := s₁.setTop (mkF m 0 #[.val (.ref ao0), .val (.int 0), .val (.int 3)] [])) (fun t k => castTop (ef_rm6_3 m ao0 (0 : Int32) (3 : Int32)) k) ?_
  refine own_go (x' := s₁.setTop (mkF m 3 #[.val (.ref ao0), .val (.int 0), .val (.int 3)] [(.int 3), (.int 0), (.ref ao0)])) (fun _ k => XS.aloadN X0.here hx rfl (hb hby d6_0) rfl rfl (XS.iloadN X0.here hx rfl (hb hby d6_1) rfl (XS.iloadN X0.here hx rfl (hb hby d6_2) rfl k))) ?_
  obtain ⟨_, _, ⟨T1, L1, k1, n1⟩, -, X1, ⟨Lc1, hQ1, l1, y1, z1⟩, st1⟩ := Jvm.LawKit.callS X0 hx (y := (⟨"com/example/moving_tokens/movingtokens/MarkingSet", "sum", "([JII)J"⟩ : MethodName)) hown (mvT hZ (own_w hw 42 rfl)) (mvT hZ (own_w hw 43 rfl)) (mvT hZ (own_w hw 40 rfl)) (mvT hZ (own_w hw 44 rfl)) (by decide) (backOf (W := 0) (rm7_3 l Z a0 hw [] ao0 kx x0 x1 x2 x3 h0 n0 Zs V_ao0) hZ (own_w hw 44 rfl) (own_w hw 40 rfl) (by decide) (by decide)) (g := (mkF m 3 #[.val (.ref ao0), .val (.int 0), .val (.int 3)] [(.int 3), (.int 0), (.ref ao0)])) rfl (by rw [hml]; rfl) (argsL := [(.ref ao0), (.int 0), (.int 3)]) (rest := []) (lenOf pd_2 rfl) rfl (by show 2 * 0 + _ ≤ _; exact Nat.le_of_eq rfl) (hb hby d6_3) (fun _ _ => ⟨rfl, e0, (by decide : 0 + 0 ≤ _), (by decide : 0 + 0 ≤ _)⟩)
  dsimp only [Pt.U, Pt.locs, Pt.cells, Pt.slots] at X1 l1 y1 z1 st1 hQ1
  subst l1 y1 z1
  obtain ⟨z1', hv1, Nq1, eq1⟩ := hQ1
  subst hv1
  replace Nf := Fr.app Nf Nq1
  refine own_go (x' := T1.setTop (mkF m 6 #[.val (.ref ao0), .val (.int 0), .val (.int 3)] [(.long z1')])) st1 ?_
  obtain ⟨_, _, ⟨T2, L2, k2, n2⟩, -, X2, ⟨Lc2, hQ2, l2, y2, z2⟩, st2⟩ := Jvm.LawKit.callS X1 hx (y := (⟨"com/example/moving_tokens/movingtokens/MarkingSet", "spread", "(J)J"⟩ : MethodName)) hown (mvT hZ (own_w hw 49 rfl)) (mvT hZ (own_w hw 50 rfl)) (mvT hZ (own_w hw 40 rfl)) (mvT hZ (own_w hw 51 rfl)) (by decide) (backOf (W := 0) (rm9 l Z a0 hw [] z1'  h0 n0 Zs ) hZ (own_w hw 51 rfl) (own_w hw 40 rfl) (by decide) (by decide)) (g := (mkF m 6 #[.val (.ref ao0), .val (.int 0), .val (.int 3)] [(.long z1')])) rfl (by rw [hml]; rfl) (argsL := [(.long z1')]) (rest := []) (lenOf pd_0 rfl) rfl (by show 2 * 0 + _ ≤ _; exact Nat.le_of_eq rfl) (hb hby d6_6) (fun _ _ => ⟨rfl, eq1, (by decide : 0 + 0 ≤ _), (by decide : 0 + 0 ≤ _)⟩)
  dsimp only [Pt.U, Pt.locs, Pt.cells, Pt.slots] at X2 l2 y2 z2 st2 hQ2
  subst l2 y2 z2
  obtain ⟨z2', hv2, Nq2, eq2⟩ := hQ2
  subst hv2
  replace Nf := Fr.app Nf Nq2
  refine own_go (x' := T2.setTop (mkF m 9 #[.val (.ref ao0), .val (.int 0), .val (.int 3)] [(.long z2')])) st2 ?_
  refine own_retJ X2 hx hlk hret (hb hby d6_9) ?_ (by decide) (by decide)
  rw [eq2]
  exact ⟨_, rfl, Nf, rfl⟩
def Q_rm7_4 (Z : State) (ao0 : Addr) (kx : ClassId) (x0 x1 x2 x3 : Int64) (h0 : Heap) (n0 : Nat) (v : Option Value) (h : Heap) (L : List Loc) : Prop := ∃ z : Int64, v = some (.long z) ∧ Fr n0 L ∧ h = h0
theorem pn_rm7_4 : plainName "com/example/moving_tokens/movingtokens/MarkingSet" = true := by first | (simp [plainName, overriddenIn]; done) | decide +kernel
theorem ef_rm7_4 (m : MethodId) (x0 : Addr) (x1 : Int32) (x2 : Int32) : entryFrame m #[(.ref x0), (.int x1), (.int x2)] 6 = mkF m 0 #[.val (.ref x0), .val (.int x1), .val (.int x2), .unset, .unset, .unset] [] := by first | (simp [entryFrame, mkF, argsToLocals, Value.category]; done) | rfl
set_option maxRecDepth 65536 in
set_option maxHeartbeats 40000000 in
theorem rm7_4 (l : Launch) (Z : State) (a0 : Array Value) (hw : ∀ d ∈ tables_1, d.before a0 Z = true) (ws : List Jvm.Cond) (ao0 : Addr) (kx : ClassId) (x0 x1 x2 x3 : Int64) (h0 : Heap) (n0 : Nat) (Z0 : n0 ≤ h0.size) (V_ao0 : Arv Z h0 ao0 kx .long (4 : Int32) [.long x0, .long x1, .long x2, .long x3] (.long (0 : Int64))) :
    MetFree l (⟨"com/example/moving_tokens/movingtokens/MarkingSet", "sum", "([JII)J"⟩ : MethodName) (head1 (Jvm.Cond.code (⟨"com/example/moving_tokens/movingtokens/MarkingSet", "sum", "([JII)J"⟩ : MethodName) prog_30_method_16_code 6 (some .long) :: ws) ({ frames := 2, cells := 0, slots := 0, locals := 31 } : Room)) (fun a U => a = #[(.ref ao0), (.int 0), (.int 4)] ∧ Z.Warmed39 U.vm ∧ U.heap = h0) (fun _ _ _ _ _ => True) (fun _ U o U' => ∃ v L, o = .returned v ∧ (Q_rm7_4 Z ao0 kx x0 x1 x2 x3 h0 n0) v U'.heap L ∧ FrameEnd U o U' L ({ frames := 2, cells := 0, slots := 0, locals := 31 } : Room).cells ({ frames := 2, cells := 0, slots := 0, locals := 31 } : Room).slots) := by
  refine MetFree.of_bodySF (plainFor_of_name pn_rm7_4) hisR ?_
  intro p e s m args below meth c s₁ Bd hml0 hP hK
  obtain ⟨rfl, hZ, hh⟩ := hP
  have hx := Bd.exec
  have hby := Bd.bytes
  have hlk := BodyLoose.notSynchronized Bd
  have hret := Bd.returns
  have hml : c.maxLocals = 6 := hml0
  have hown : s.vm.findClass "com/example/moving_tokens/movingtokens/MarkingSet" = some m.cls := findClass_of_methodNamed Bd.named
  have hnm := (name_of_methodNamed Bd.named Bd.method).1
  have X0 : Stand p l e ({ frames := 2, cells := 0, slots := 0, locals := 31 } : Room) s m #[(.ref ao0), (.int 0), (.int 4)] below meth c s₁ [] 0 0 := Stand.of_body Bd
  have e0 : s₁.heap = h0 := by rw [← hh, Bd.state]; rfl
  have Nf := Fr.nil n0
  have Zs := Z0
  have Kp : Keep h0 h0 [] := Keep.refl _ _
  show own_End p e below s (Q_rm7_4 Z ao0 kx x0 x1 x2 x3 h0 n0) ({ frames := 2, cells := 0, slots := 0, locals := 31 } : Room).cells ({ frames := 2, cells := 0, slots := 0, locals := 31 } : Room).slots (s₁.setTop (entryFrame m #[(.ref ao0), (.int 0), (.int 4)] 6))
  refine own_go (x' := s₁.setTop (mkF m 0 #[.val (.ref ao0), .val (.int 0), .val (.int 4), .unset, .unset, .unset] [])) (fun t k => castTop (ef_rm7_4 m ao0 (0 : Int32) (4 : Int32)) k) ?_
  refine own_go (x' := s₁.setTop (mkF m 8 #[.val (.ref ao0), .val (.int 0), .val (.int 4), .val (.long 0), .second, .val (.int 0)] [(.int 4), (.int 0)])) (fun _ k => XS.lconst X0.here hx rfl (hb hby d7_0) (XS.lstoreN X0.here hx rfl (hb hby d7_1) rfl (l' := #[.val (.ref ao0), .val (.int 0), .val (.int 4), .val (.long 0), .second, .unset]) rfl (XS.iconst X0.here hx rfl (hb hby d7_2) (XS.istore X0.here hx rfl (hb hby d7_3) rfl (l' := #[.val (.ref ao0), .val (.int 0), .val (.int 4), .val (.long 0), .second, .val (.int 0)]) rfl (XS.iload X0.here hx rfl (hb hby d7_5) rfl (XS.iloadN X0.here hx rfl (hb hby d7_7) rfl k)))))) ?_
  refine own_go (x' := s₁.setTop (mkF m 17 #[.val (.ref ao0), .val (.int 0), .val (.int 4), .val (.long 0), .second, .val (.int 0)] [(.int ((0 : Int32) + (0 : Int32))), (.ref ao0), (.long 0)])) (fun _ k => XS.icmpNo X0.here hx rfl (hb hby d7_8) rfl (tlt (by decide +kernel : ((0 : Int32) < (4 : Int32)))).2.1 (XS.lloadN X0.here hx rfl (hb hby d7_11) rfl (XS.aloadN X0.here hx rfl (hb hby d7_12) rfl rfl (XS.iloadN X0.here hx rfl (hb hby d7_13) rfl (XS.iload X0.here hx rfl (hb hby d7_14) rfl (XS.iadd X0.here hx rfl (hb hby d7_16) rfl k)))))) ?_
  rw [show ((0 : Int32) + (0 : Int32)) = (0 : Int32) from by decide +kernel]
  obtain ⟨cl1, Ar1, q1, Sz1, Nn1, Hh1, Gg1⟩ := id V_ao0
  have hin1 : ¬ ((0 : Int32) < 0 ∨ cl1.slots.size ≤ ((0 : Int32)).toNatClampNeg) := inb_of Sz1 ⟨by decide, by decide⟩
  refine own_go (x' := s₁.setTop (mkF m 18 #[.val (.ref ao0), .val (.int 0), .val (.int 4), .val (.long 0), .second, .val (.int 0)] [(.long x0), (.long 0)])) (X0.laload hx (j := (0 : Int32)) (v := (.long x0)) (Eq.trans (congrArg (fun h_ => h_[_]?) e0) Ar1.1) (State.isArrayOf_alike hZ.alike Ar1.2.1) Ar1.2.2 hin1 (Hh1.at hin1 rfl) (g := (mkF m 17 #[.val (.ref ao0), .val (.int 0), .val (.int 4), .val (.long 0), .second, .val (.int 0)] [(.int 0), (.ref ao0), (.long 0)])) rfl rfl (hb hby d7_17)) ?_
  refine own_go (x' := s₁.setTop (mkF m 20 #[.val (.ref ao0), .val (.int 0), .val (.int 4), .val (.long 0), .second, .val (.int 0)] [(.int 0), (.long x0), (.long 0)])) (fun _ k => XS.iload X0.here hx rfl (hb hby d7_18) rfl k) ?_
  obtain ⟨_, _, ⟨T2, L2, k2, n2⟩, -, X2, ⟨Lc2, hQ2, l2, y2, z2⟩, st2⟩ := Jvm.LawKit.callS X0 hx (y := (⟨"com/example/moving_tokens/movingtokens/MarkingSet", "share", "(JI)J"⟩ : MethodName)) hown (mvT hZ (own_w hw 45 rfl)) (mvT hZ (own_w hw 46 rfl)) (mvT hZ (own_w hw 40 rfl)) (mvT hZ (own_w hw 47 rfl)) (by decide) (backOf (W := 2) (rm8 l Z a0 hw [] x0 (0 : Int32) h0 n0 Zs) hZ (own_w hw 47 rfl) (own_w hw 40 rfl) (by decide) (by decide)) (g := (mkF m 20 #[.val (.ref ao0), .val (.int 0), .val (.int 4), .val (.long 0), .second, .val (.int 0)] [(.int 0), (.long x0), (.long 0)])) rfl (by rw [hml]; rfl) (argsL := [(.long x0), (.int 0)]) (rest := [(.long 0)]) (lenOf pd_1 rfl) rfl (by show 2 * 0 + _ ≤ _; exact Nat.le_of_eq rfl) (hb hby d7_20) (fun _ _ => ⟨rfl, e0, (by decide : 0 + 0 ≤ _), (by decide : 0 + 0 ≤ _)⟩)
  dsimp only [Pt.U, Pt.locs, Pt.cells, Pt.slots] at X2 l2 y2 z2 st2 hQ2
  subst l2 y2 z2
  obtain ⟨z2', hv2, Nq2, eq2⟩ := hQ2
  subst hv2
  replace Nf := Fr.app Nf Nq2
  refine own_go (x' := T2.setTop (mkF m 23 #[.val (.ref ao0), .val (.int 0), .val (.int 4), .val (.long 0), .second, .val (.int 0)] [(.long z2'), (.long 0)])) st2 ?_
  refine own_go (x' := T2.setTop (mkF m 5 #[.val (.ref ao0), .val (.int 0), .val (.int 4), .val (.long ((0 : Int64) + z2')), .second, .val (.int ((0 : Int32) + (1 : Int32)))] [])) (fun _ k => XS.ladd X2.here hx rfl (hb hby d7_23) rfl (XS.lstoreN X2.here hx rfl (hb hby d7_24) rfl (l' := #[.val (.ref ao0), .val (.int 0), .val (.int 4), .val (.long ((0 : Int64) + z2')), .second, .val (.int 0)]) rfl (XS.iinc X2.here hx rfl (hb hby d7_25) rfl (l' := #[.val (.ref ao0), .val (.int 0), .val (.int 4), .val (.long ((0 : Int64) + z2')), .second, .val (.int ((0 : Int32) + (1 : Int32)))]) rfl (XS.goto X2.here hx rfl (pc0 := 28) (pc' := 5) rfl (hb hby d7_28) (by decide) (by decide) k)))) ?_
  rw [show ((0 : Int32) + (1 : Int32)) = (1 : Int32) from by decide +kernel]
  refine own_go (x' := T2.setTop (mkF m 14 #[.val (.ref ao0), .val (.int 0), .val (.int 4), .val (.long ((0 : Int64) + z2')), .second, .val (.int 1)] [(.int 0), (.ref ao0), (.long ((0 : Int64) + z2'))])) (fun _ k => XS.iload X2.here hx rfl (hb hby d7_5) rfl (XS.iloadN X2.here hx rfl (hb hby d7_7) rfl (XS.icmpNo X2.here hx rfl (hb hby d7_8) rfl (tlt (by decide +kernel : ((1 : Int32) < (4 : Int32)))).2.1 (XS.lloadN X2.here hx rfl (hb hby d7_11) rfl (XS.aloadN X2.here hx rfl (hb hby d7_12) rfl rfl (XS.iloadN X2.here hx rfl (hb hby d7_13) rfl k)))))) ?_
  refine own_go (x' := T2.setTop (mkF m 17 #[.val (.ref ao0), .val (.int 0), .val (.int 4), .val (.long ((0 : Int64) + z2')), .second, .val (.int 1)] [(.int ((0 : Int32) + (1 : Int32))), (.ref ao0), (.long ((0 : Int64) + z2'))])) (fun _ k => XS.iload X2.here hx rfl (hb hby d7_14) rfl (XS.iadd X2.here hx rfl (hb hby d7_16) rfl k)) ?_
  rw [show ((0 : Int32) + (1 : Int32)) = (1 : Int32) from by decide +kernel]
  obtain ⟨cl3, Ar3, q3, Sz3, Nn3, Hh3, Gg3⟩ := id V_ao0
  have hin3 : ¬ ((1 : Int32) < 0 ∨ cl3.slots.size ≤ ((1 : Int32)).toNatClampNeg) := inb_of Sz3 ⟨by decide, by decide⟩
  refine own_go (x' := T2.setTop (mkF m 18 #[.val (.ref ao0), .val (.int 0), .val (.int 4), .val (.long ((0 : Int64) + z2')), .second, .val (.int 1)] [(.long x1), (.long ((0 : Int64) + z2'))])) (X2.laload hx (j := (1 : Int32)) (v := (.long x1)) (Eq.trans (congrArg (fun h_ => h_[_]?) eq2) Ar3.1) (State.isArrayOf_alike hZ.alike Ar3.2.1) Ar3.2.2 hin3 (Hh3.at hin3 rfl) (g := (mkF m 17 #[.val (.ref ao0), .val (.int 0), .val (.int 4), .val (.long ((0 : Int64) + z2')), .second, .val (.int 1)] [(.int 1), (.ref ao0), (.long ((0 : Int64) + z2'))])) rfl rfl (hb hby d7_17)) ?_
  refine own_go (x' := T2.setTop (mkF m 20 #[.val (.ref ao0), .val (.int 0), .val (.int 4), .val (.long ((0 : Int64) + z2')), .second, .val (.int 1)] [(.int 1), (.long x1), (.long ((0 : Int64) + z2'))])) (fun _ k => XS.iload X2.here hx rfl (hb hby d7_18) rfl k) ?_
  obtain ⟨_, _, ⟨T4, L4, k4, n4⟩, -, X4, ⟨Lc4, hQ4, l4, y4, z4⟩, st4⟩ := Jvm.LawKit.callS X2 hx (y := (⟨"com/example/moving_tokens/movingtokens/MarkingSet", "share", "(JI)J"⟩ : MethodName)) hown (mvT hZ (own_w hw 45 rfl)) (mvT hZ (own_w hw 46 rfl)) (mvT hZ (own_w hw 40 rfl)) (mvT hZ (own_w hw 47 rfl)) (by decide) (backOf (W := 2) (rm8 l Z a0 hw [] x1 (1 : Int32) h0 n0 Zs) hZ (own_w hw 47 rfl) (own_w hw 40 rfl) (by decide) (by decide)) (g := (mkF m 20 #[.val (.ref ao0), .val (.int 0), .val (.int 4), .val (.long ((0 : Int64) + z2')), .second, .val (.int 1)] [(.int 1), (.long x1), (.long ((0 : Int64) + z2'))])) rfl (by rw [hml]; rfl) (argsL := [(.long x1), (.int 1)]) (rest := [(.long ((0 : Int64) + z2'))]) (lenOf pd_1 rfl) rfl (by show 2 * 0 + _ ≤ _; exact Nat.le_of_eq rfl) (hb hby d7_20) (fun _ _ => ⟨rfl, eq2, (by decide : 0 + 0 ≤ _), (by decide : 0 + 0 ≤ _)⟩)
  dsimp only [Pt.U, Pt.locs, Pt.cells, Pt.slots] at X4 l4 y4 z4 st4 hQ4
  subst l4 y4 z4
  obtain ⟨z4', hv4, Nq4, eq4⟩ := hQ4
  subst hv4
  replace Nf := Fr.app Nf Nq4
  refine own_go (x' := T4.setTop (mkF m 23 #[.val (.ref ao0), .val (.int 0), .val (.int 4), .val (.long ((0 : Int64) + z2')), .second, .val (.int 1)] [(.long z4'), (.long ((0 : Int64) + z2'))])) st4 ?_
  refine own_go (x' := T4.setTop (mkF m 5 #[.val (.ref ao0), .val (.int 0), .val (.int 4), .val (.long (((0 : Int64) + z2') + z4')), .second, .val (.int ((1 : Int32) + (1 : Int32)))] [])) (fun _ k => XS.ladd X4.here hx rfl (hb hby d7_23) rfl (XS.lstoreN X4.here hx rfl (hb hby d7_24) rfl (l' := #[.val (.ref ao0), .val (.int 0), .val (.int 4), .val (.long (((0 : Int64) + z2') + z4')), .second, .val (.int 1)]) rfl (XS.iinc X4.here hx rfl (hb hby d7_25) rfl (l' := #[.val (.ref ao0), .val (.int 0), .val (.int 4), .val (.long (((0 : Int64) + z2') + z4')), .second, .val (.int ((1 : Int32) + (1 : Int32)))]) rfl (XS.goto X4.here hx rfl (pc0 := 28) (pc' := 5) rfl (hb hby d7_28) (by decide) (by decide) k)))) ?_
  rw [show ((1 : Int32) + (1 : Int32)) = (2 : Int32) from by decide +kernel]
  refine own_go (x' := T4.setTop (mkF m 14 #[.val (.ref ao0), .val (.int 0), .val (.int 4), .val (.long (((0 : Int64) + z2') + z4')), .second, .val (.int 2)] [(.int 0), (.ref ao0), (.long (((0 : Int64) + z2') + z4'))])) (fun _ k => XS.iload X4.here hx rfl (hb hby d7_5) rfl (XS.iloadN X4.here hx rfl (hb hby d7_7) rfl (XS.icmpNo X4.here hx rfl (hb hby d7_8) rfl (tlt (by decide +kernel : ((2 : Int32) < (4 : Int32)))).2.1 (XS.lloadN X4.here hx rfl (hb hby d7_11) rfl (XS.aloadN X4.here hx rfl (hb hby d7_12) rfl rfl (XS.iloadN X4.here hx rfl (hb hby d7_13) rfl k)))))) ?_
  refine own_go (x' := T4.setTop (mkF m 17 #[.val (.ref ao0), .val (.int 0), .val (.int 4), .val (.long (((0 : Int64) + z2') + z4')), .second, .val (.int 2)] [(.int ((0 : Int32) + (2 : Int32))), (.ref ao0), (.long (((0 : Int64) + z2') + z4'))])) (fun _ k => XS.iload X4.here hx rfl (hb hby d7_14) rfl (XS.iadd X4.here hx rfl (hb hby d7_16) rfl k)) ?_
  rw [show ((0 : Int32) + (2 : Int32)) = (2 : Int32) from by decide +kernel]
  obtain ⟨cl5, Ar5, q5, Sz5, Nn5, Hh5, Gg5⟩ := id V_ao0
  have hin5 : ¬ ((2 : Int32) < 0 ∨ cl5.slots.size ≤ ((2 : Int32)).toNatClampNeg) := inb_of Sz5 ⟨by decide, by decide⟩
  refine own_go (x' := T4.setTop (mkF m 18 #[.val (.ref ao0), .val (.int 0), .val (.int 4), .val (.long (((0 : Int64) + z2') + z4')), .second, .val (.int 2)] [(.long x2), (.long (((0 : Int64) + z2') + z4'))])) (X4.laload hx (j := (2 : Int32)) (v := (.long x2)) (Eq.trans (congrArg (fun h_ => h_[_]?) eq4) Ar5.1) (State.isArrayOf_alike hZ.alike Ar5.2.1) Ar5.2.2 hin5 (Hh5.at hin5 rfl) (g := (mkF m 17 #[.val (.ref ao0), .val (.int 0), .val (.int 4), .val (.long (((0 : Int64) + z2') + z4')), .second, .val (.int 2)] [(.int 2), (.ref ao0), (.long (((0 : Int64) + z2') + z4'))])) rfl rfl (hb hby d7_17)) ?_
  refine own_go (x' := T4.setTop (mkF m 20 #[.val (.ref ao0), .val (.int 0), .val (.int 4), .val (.long (((0 : Int64) + z2') + z4')), .second, .val (.int 2)] [(.int 2), (.long x2), (.long (((0 : Int64) + z2') + z4'))])) (fun _ k => XS.iload X4.here hx rfl (hb hby d7_18) rfl k) ?_
  obtain ⟨_, _, ⟨T6, L6, k6, n6⟩, -, X6, ⟨Lc6, hQ6, l6, y6, z6⟩, st6⟩ := Jvm.LawKit.callS X4 hx (y := (⟨"com/example/moving_tokens/movingtokens/MarkingSet", "share", "(JI)J"⟩ : MethodName)) hown (mvT hZ (own_w hw 45 rfl)) (mvT hZ (own_w hw 46 rfl)) (mvT hZ (own_w hw 40 rfl)) (mvT hZ (own_w hw 47 rfl)) (by decide) (backOf (W := 2) (rm8 l Z a0 hw [] x2 (2 : Int32) h0 n0 Zs) hZ (own_w hw 47 rfl) (own_w hw 40 rfl) (by decide) (by decide)) (g := (mkF m 20 #[.val (.ref ao0), .val (.int 0), .val (.int 4), .val (.long (((0 : Int64) + z2') + z4')), .second, .val (.int 2)] [(.int 2), (.long x2), (.long (((0 : Int64) + z2') + z4'))])) rfl (by rw [hml]; rfl) (argsL := [(.long x2), (.int 2)]) (rest := [(.long (((0 : Int64) + z2') + z4'))]) (lenOf pd_1 rfl) rfl (by show 2 * 0 + _ ≤ _; exact Nat.le_of_eq rfl) (hb hby d7_20) (fun _ _ => ⟨rfl, eq4, (by decide : 0 + 0 ≤ _), (by decide : 0 + 0 ≤ _)⟩)
  dsimp only [Pt.U, Pt.locs, Pt.cells, Pt.slots] at X6 l6 y6 z6 st6 hQ6
  subst l6 y6 z6
  obtain ⟨z6', hv6, Nq6, eq6⟩ := hQ6
  subst hv6
  replace Nf := Fr.app Nf Nq6
  refine own_go (x' := T6.setTop (mkF m 23 #[.val (.ref ao0), .val (.int 0), .val (.int 4), .val (.long (((0 : Int64) + z2') + z4')), .second, .val (.int 2)] [(.long z6'), (.long (((0 : Int64) + z2') + z4'))])) st6 ?_
  refine own_go (x' := T6.setTop (mkF m 5 #[.val (.ref ao0), .val (.int 0), .val (.int 4), .val (.long ((((0 : Int64) + z2') + z4') + z6')), .second, .val (.int ((2 : Int32) + (1 : Int32)))] [])) (fun _ k => XS.ladd X6.here hx rfl (hb hby d7_23) rfl (XS.lstoreN X6.here hx rfl (hb hby d7_24) rfl (l' := #[.val (.ref ao0), .val (.int 0), .val (.int 4), .val (.long ((((0 : Int64) + z2') + z4') + z6')), .second, .val (.int 2)]) rfl (XS.iinc X6.here hx rfl (hb hby d7_25) rfl (l' := #[.val (.ref ao0), .val (.int 0), .val (.int 4), .val (.long ((((0 : Int64) + z2') + z4') + z6')), .second, .val (.int ((2 : Int32) + (1 : Int32)))]) rfl (XS.goto X6.here hx rfl (pc0 := 28) (pc' := 5) rfl (hb hby d7_28) (by decide) (by decide) k)))) ?_
  rw [show ((2 : Int32) + (1 : Int32)) = (3 : Int32) from by decide +kernel]
  refine own_go (x' := T6.setTop (mkF m 14 #[.val (.ref ao0), .val (.int 0), .val (.int 4), .val (.long ((((0 : Int64) + z2') + z4') + z6')), .second, .val (.int 3)] [(.int 0), (.ref ao0), (.long ((((0 : Int64) + z2') + z4') + z6'))])) (fun _ k => XS.iload X6.here hx rfl (hb hby d7_5) rfl (XS.iloadN X6.here hx rfl (hb hby d7_7) rfl (XS.icmpNo X6.here hx rfl (hb hby d7_8) rfl (tlt (by decide +kernel : ((3 : Int32) < (4 : Int32)))).2.1 (XS.lloadN X6.here hx rfl (hb hby d7_11) rfl (XS.aloadN X6.here hx rfl (hb hby d7_12) rfl rfl (XS.iloadN X6.here hx rfl (hb hby d7_13) rfl k)))))) ?_
  refine own_go (x' := T6.setTop (mkF m 17 #[.val (.ref ao0), .val (.int 0), .val (.int 4), .val (.long ((((0 : Int64) + z2') + z4') + z6')), .second, .val (.int 3)] [(.int ((0 : Int32) + (3 : Int32))), (.ref ao0), (.long ((((0 : Int64) + z2') + z4') + z6'))])) (fun _ k => XS.iload X6.here hx rfl (hb hby d7_14) rfl (XS.iadd X6.here hx rfl (hb hby d7_16) rfl k)) ?_
  rw [show ((0 : Int32) + (3 : Int32)) = (3 : Int32) from by decide +kernel]
  obtain ⟨cl7, Ar7, q7, Sz7, Nn7, Hh7, Gg7⟩ := id V_ao0
  have hin7 : ¬ ((3 : Int32) < 0 ∨ cl7.slots.size ≤ ((3 : Int32)).toNatClampNeg) := inb_of Sz7 ⟨by decide, by decide⟩
  refine own_go (x' := T6.setTop (mkF m 18 #[.val (.ref ao0), .val (.int 0), .val (.int 4), .val (.long ((((0 : Int64) + z2') + z4') + z6')), .second, .val (.int 3)] [(.long x3), (.long ((((0 : Int64) + z2') + z4') + z6'))])) (X6.laload hx (j := (3 : Int32)) (v := (.long x3)) (Eq.trans (congrArg (fun h_ => h_[_]?) eq6) Ar7.1) (State.isArrayOf_alike hZ.alike Ar7.2.1) Ar7.2.2 hin7 (Hh7.at hin7 rfl) (g := (mkF m 17 #[.val (.ref ao0), .val (.int 0), .val (.int 4), .val (.long ((((0 : Int64) + z2') + z4') + z6')), .second, .val (.int 3)] [(.int 3), (.ref ao0), (.long ((((0 : Int64) + z2') + z4') + z6'))])) rfl rfl (hb hby d7_17)) ?_
  refine own_go (x' := T6.setTop (mkF m 20 #[.val (.ref ao0), .val (.int 0), .val (.int 4), .val (.long ((((0 : Int64) + z2') + z4') + z6')), .second, .val (.int 3)] [(.int 3), (.long x3), (.long ((((0 : Int64) + z2') + z4') + z6'))])) (fun _ k => XS.iload X6.here hx rfl (hb hby d7_18) rfl k) ?_
  obtain ⟨_, _, ⟨T8, L8, k8, n8⟩, -, X8, ⟨Lc8, hQ8, l8, y8, z8⟩, st8⟩ := Jvm.LawKit.callS X6 hx (y := (⟨"com/example/moving_tokens/movingtokens/MarkingSet", "share", "(JI)J"⟩ : MethodName)) hown (mvT hZ (own_w hw 45 rfl)) (mvT hZ (own_w hw 46 rfl)) (mvT hZ (own_w hw 40 rfl)) (mvT hZ (own_w hw 47 rfl)) (by decide) (backOf (W := 2) (rm8 l Z a0 hw [] x3 (3 : Int32) h0 n0 Zs) hZ (own_w hw 47 rfl) (own_w hw 40 rfl) (by decide) (by decide)) (g := (mkF m 20 #[.val (.ref ao0), .val (.int 0), .val (.int 4), .val (.long ((((0 : Int64) + z2') + z4') + z6')), .second, .val (.int 3)] [(.int 3), (.long x3), (.long ((((0 : Int64) + z2') + z4') + z6'))])) rfl (by rw [hml]; rfl) (argsL := [(.long x3), (.int 3)]) (rest := [(.long ((((0 : Int64) + z2') + z4') + z6'))]) (lenOf pd_1 rfl) rfl (by show 2 * 0 + _ ≤ _; exact Nat.le_of_eq rfl) (hb hby d7_20) (fun _ _ => ⟨rfl, eq6, (by decide : 0 + 0 ≤ _), (by decide : 0 + 0 ≤ _)⟩)
  dsimp only [Pt.U, Pt.locs, Pt.cells, Pt.slots] at X8 l8 y8 z8 st8 hQ8
  subst l8 y8 z8
  obtain ⟨z8', hv8, Nq8, eq8⟩ := hQ8
  subst hv8
  replace Nf := Fr.app Nf Nq8
  refine own_go (x' := T8.setTop (mkF m 23 #[.val (.ref ao0), .val (.int 0), .val (.int 4), .val (.long ((((0 : Int64) + z2') + z4') + z6')), .second, .val (.int 3)] [(.long z8'), (.long ((((0 : Int64) + z2') + z4') + z6'))])) st8 ?_
  refine own_go (x' := T8.setTop (mkF m 5 #[.val (.ref ao0), .val (.int 0), .val (.int 4), .val (.long (((((0 : Int64) + z2') + z4') + z6') + z8')), .second, .val (.int ((3 : Int32) + (1 : Int32)))] [])) (fun _ k => XS.ladd X8.here hx rfl (hb hby d7_23) rfl (XS.lstoreN X8.here hx rfl (hb hby d7_24) rfl (l' := #[.val (.ref ao0), .val (.int 0), .val (.int 4), .val (.long (((((0 : Int64) + z2') + z4') + z6') + z8')), .second, .val (.int 3)]) rfl (XS.iinc X8.here hx rfl (hb hby d7_25) rfl (l' := #[.val (.ref ao0), .val (.int 0), .val (.int 4), .val (.long (((((0 : Int64) + z2') + z4') + z6') + z8')), .second, .val (.int ((3 : Int32) + (1 : Int32)))]) rfl (XS.goto X8.here hx rfl (pc0 := 28) (pc' := 5) rfl (hb hby d7_28) (by decide) (by decide) k)))) ?_
  rw [show ((3 : Int32) + (1 : Int32)) = (4 : Int32) from by decide +kernel]
  refine own_go (x' := T8.setTop (mkF m 32 #[.val (.ref ao0), .val (.int 0), .val (.int 4), .val (.long (((((0 : Int64) + z2') + z4') + z6') + z8')), .second, .val (.int 4)] [(.long (((((0 : Int64) + z2') + z4') + z6') + z8'))])) (fun _ k => XS.iload X8.here hx rfl (hb hby d7_5) rfl (XS.iloadN X8.here hx rfl (hb hby d7_7) rfl (XS.icmpYes X8.here hx rfl (pc0 := 8) (pc' := 31) rfl (hb hby d7_8) rfl (flt (Int32.lt_irrefl)).2.1 (by decide) (by decide) (XS.lloadN X8.here hx rfl (hb hby d7_31) rfl k)))) ?_
  refine own_retJ X8 hx hlk hret (hb hby d7_32) ?_ (by decide) (by decide)
  rw [eq8]
  exact ⟨_, rfl, Nf, rfl⟩
def Q_rm6_4 (Z : State) (ao0 : Addr) (kx : ClassId) (x0 x1 x2 x3 : Int64) (h0 : Heap) (n0 : Nat) (v : Option Value) (h : Heap) (L : List Loc) : Prop := ∃ z : Int64, v = some (.long z) ∧ Fr n0 L ∧ h = h0
theorem pn_rm6_4 : plainName "com/example/moving_tokens/movingtokens/MarkingSet" = true := by first | (simp [plainName, overriddenIn]; done) | decide +kernel
theorem ef_rm6_4 (m : MethodId) (x0 : Addr) (x1 : Int32) (x2 : Int32) : entryFrame m #[(.ref x0), (.int x1), (.int x2)] 3 = mkF m 0 #[.val (.ref x0), .val (.int x1), .val (.int x2)] [] := by first | (simp [entryFrame, mkF, argsToLocals, Value.category]; done) | rfl
set_option maxRecDepth 65536 in
set_option maxHeartbeats 40000000 in
theorem rm6_4 (l : Launch) (Z : State) (a0 : Array Value) (hw : ∀ d ∈ tables_1, d.before a0 Z = true) (ws : List Jvm.Cond) (ao0 : Addr) (kx : ClassId) (x0 x1 x2 x3 : Int64) (h0 : Heap) (n0 : Nat) (Z0 : n0 ≤ h0.size) (V_ao0 : Arv Z h0 ao0 kx .long (4 : Int32) [.long x0, .long x1, .long x2, .long x3] (.long (0 : Int64))) :
    MetFree l (⟨"com/example/moving_tokens/movingtokens/MarkingSet", "hash", "([JII)J"⟩ : MethodName) (head1 (Jvm.Cond.code (⟨"com/example/moving_tokens/movingtokens/MarkingSet", "hash", "([JII)J"⟩ : MethodName) prog_30_method_15_code 3 (some .long) :: ws) ({ frames := 3, cells := 0, slots := 0, locals := 48 } : Room)) (fun a U => a = #[(.ref ao0), (.int 0), (.int 4)] ∧ Z.Warmed39 U.vm ∧ U.heap = h0) (fun _ _ _ _ _ => True) (fun _ U o U' => ∃ v L, o = .returned v ∧ (Q_rm6_4 Z ao0 kx x0 x1 x2 x3 h0 n0) v U'.heap L ∧ FrameEnd U o U' L ({ frames := 3, cells := 0, slots := 0, locals := 48 } : Room).cells ({ frames := 3, cells := 0, slots := 0, locals := 48 } : Room).slots) := by
  refine MetFree.of_bodySF (plainFor_of_name pn_rm6_4) hisR ?_
  intro p e s m args below meth c s₁ Bd hml0 hP hK
  obtain ⟨rfl, hZ, hh⟩ := hP
  have hx := Bd.exec
  have hby := Bd.bytes
  have hlk := BodyLoose.notSynchronized Bd
  have hret := Bd.returns
  have hml : c.maxLocals = 3 := hml0
  have hown : s.vm.findClass "com/example/moving_tokens/movingtokens/MarkingSet" = some m.cls := findClass_of_methodNamed Bd.named
  have hnm := (name_of_methodNamed Bd.named Bd.method).1
  have X0 : Stand p l e ({ frames := 3, cells := 0, slots := 0, locals := 48 } : Room) s m #[(.ref ao0), (.int 0), (.int 4)] below meth c s₁ [] 0 0 := Stand.of_body Bd
  have e0 : s₁.heap = h0 := by rw [← hh, Bd.state]; rfl
  have Nf := Fr.nil n0
  have Zs := Z0
  have Kp : Keep h0 h0 [] := Keep.refl _ _
  show own_End p e below s (Q_rm6_4 Z ao0 kx x0 x1 x2 x3 h0 n0) ({ frames := 3, cells := 0, slots := 0, locals := 48 } : Room).cells ({ frames := 3, cells := 0, slots := 0, locals := 48 } : Room).slots (s₁.setTop (entryFrame m #[(.ref ao0), (.int 0), (.int 4)] 3))
  refine own_go (x' := s₁.setTop (mkF m 0 #[.val (.ref ao0), .val (.int 0), .val (.int 4)] [])) (fun t k => castTop (ef_rm6_4 m ao0 (0 : Int32) (4 : Int32)) k) ?_
  refine own_go (x' := s₁.setTop (mkF m 3 #[.val (.ref ao0), .val (.int 0), .val (.int 4)] [(.int 4), (.int 0), (.ref ao0)])) (fun _ k => XS.aloadN X0.here hx rfl (hb hby d6_0) rfl rfl (XS.iloadN X0.here hx rfl (hb hby d6_1) rfl (XS.iloadN X0.here hx rfl (hb hby d6_2) rfl k))) ?_
  obtain ⟨_, _, ⟨T1, L1, k1, n1⟩, -, X1, ⟨Lc1, hQ1, l1, y1, z1⟩, st1⟩ := Jvm.LawKit.callS X0 hx (y := (⟨"com/example/moving_tokens/movingtokens/MarkingSet", "sum", "([JII)J"⟩ : MethodName)) hown (mvT hZ (own_w hw 42 rfl)) (mvT hZ (own_w hw 43 rfl)) (mvT hZ (own_w hw 40 rfl)) (mvT hZ (own_w hw 44 rfl)) (by decide) (backOf (W := 0) (rm7_4 l Z a0 hw [] ao0 kx x0 x1 x2 x3 h0 n0 Zs V_ao0) hZ (own_w hw 44 rfl) (own_w hw 40 rfl) (by decide) (by decide)) (g := (mkF m 3 #[.val (.ref ao0), .val (.int 0), .val (.int 4)] [(.int 4), (.int 0), (.ref ao0)])) rfl (by rw [hml]; rfl) (argsL := [(.ref ao0), (.int 0), (.int 4)]) (rest := []) (lenOf pd_2 rfl) rfl (by show 2 * 0 + _ ≤ _; exact Nat.le_of_eq rfl) (hb hby d6_3) (fun _ _ => ⟨rfl, e0, (by decide : 0 + 0 ≤ _), (by decide : 0 + 0 ≤ _)⟩)
  dsimp only [Pt.U, Pt.locs, Pt.cells, Pt.slots] at X1 l1 y1 z1 st1 hQ1
  subst l1 y1 z1
  obtain ⟨z1', hv1, Nq1, eq1⟩ := hQ1
  subst hv1
  replace Nf := Fr.app Nf Nq1
  refine own_go (x' := T1.setTop (mkF m 6 #[.val (.ref ao0), .val (.int 0), .val (.int 4)] [(.long z1')])) st1 ?_
  obtain ⟨_, _, ⟨T2, L2, k2, n2⟩, -, X2, ⟨Lc2, hQ2, l2, y2, z2⟩, st2⟩ := Jvm.LawKit.callS X1 hx (y := (⟨"com/example/moving_tokens/movingtokens/MarkingSet", "spread", "(J)J"⟩ : MethodName)) hown (mvT hZ (own_w hw 49 rfl)) (mvT hZ (own_w hw 50 rfl)) (mvT hZ (own_w hw 40 rfl)) (mvT hZ (own_w hw 51 rfl)) (by decide) (backOf (W := 0) (rm9 l Z a0 hw [] z1'  h0 n0 Zs ) hZ (own_w hw 51 rfl) (own_w hw 40 rfl) (by decide) (by decide)) (g := (mkF m 6 #[.val (.ref ao0), .val (.int 0), .val (.int 4)] [(.long z1')])) rfl (by rw [hml]; rfl) (argsL := [(.long z1')]) (rest := []) (lenOf pd_0 rfl) rfl (by show 2 * 0 + _ ≤ _; exact Nat.le_of_eq rfl) (hb hby d6_6) (fun _ _ => ⟨rfl, eq1, (by decide : 0 + 0 ≤ _), (by decide : 0 + 0 ≤ _)⟩)
  dsimp only [Pt.U, Pt.locs, Pt.cells, Pt.slots] at X2 l2 y2 z2 st2 hQ2
  subst l2 y2 z2
  obtain ⟨z2', hv2, Nq2, eq2⟩ := hQ2
  subst hv2
  replace Nf := Fr.app Nf Nq2
  refine own_go (x' := T2.setTop (mkF m 9 #[.val (.ref ao0), .val (.int 0), .val (.int 4)] [(.long z2')])) st2 ?_
  refine own_retJ X2 hx hlk hret (hb hby d6_9) ?_ (by decide) (by decide)
  rw [eq2]
  exact ⟨_, rfl, Nf, rfl⟩
theorem own_31 (x : Int32) : ¬ (x &&& ((32 : Int32) - (1 : Int32))) < 0 ∧ (x &&& ((32 : Int32) - (1 : Int32))) < 32 := by
  have e : (32 : Int32) - (1 : Int32) = 31 := by decide
  have h := c_mask x 31 5 (by decide) (by decide)
  have z : (0 : Int32).toInt = 0 := by decide
  have t : (32 : Int32).toInt = 32 := by decide
  rw [e]
  exact ⟨mt Int32.lt_iff_toInt_lt.mp (by omega), Int32.lt_iff_toInt_lt.mpr (by omega)⟩
theorem own_15 {a N : Int32} (h : a ≤ 15) (hN : (15 : Int32) < N) : a < N := Int32.lt_of_le_of_lt h hN
theorem d5_0 : decode prog_38_method_9_code 0 = .ok (.aload_n 1, 1) := by decide +kernel
theorem d5_1 : decode prog_38_method_9_code 1 = .ok (.iconst 0, 1) := by decide +kernel
theorem d5_2 : decode prog_38_method_9_code 2 = .ok (.aload_n 0, 1) := by decide +kernel
theorem d5_3 : decode prog_38_method_9_code 3 = .ok (.getfield 29, 3) := by decide +kernel
theorem d5_6 : decode prog_38_method_9_code 6 = .ok (.invokestatic 54, 3) := by decide +kernel
theorem d5_9 : decode prog_38_method_9_code 9 = .ok (.l2i, 1) := by decide +kernel
theorem d5_10 : decode prog_38_method_9_code 10 = .ok (.aload_n 0, 1) := by decide +kernel
theorem d5_11 : decode prog_38_method_9_code 11 = .ok (.getfield 22, 3) := by decide +kernel
theorem d5_14 : decode prog_38_method_9_code 14 = .ok (.arraylength, 1) := by decide +kernel
theorem d5_15 : decode prog_38_method_9_code 15 = .ok (.iconst 1, 1) := by decide +kernel
theorem d5_16 : decode prog_38_method_9_code 16 = .ok (.isub, 1) := by decide +kernel
theorem d5_17 : decode prog_38_method_9_code 17 = .ok (.iand, 1) := by decide +kernel
theorem d5_18 : decode prog_38_method_9_code 18 = .ok (.ireturn, 1) := by decide +kernel
def Q_rm5_1 (Z : State) (ao0 ao1 : Addr) (kx : ClassId) (x0 x1 x2 x3 : Int64) (pt : Addr) (kp : ClassId) (hs : List (Int32 × Value)) (h0 : Heap) (n0 : Nat) (v : Option Value) (h : Heap) (L : List Loc) : Prop := ∃ z : Int32, (¬ z < 0 ∧ z < 32) ∧ v = some (.int z) ∧ Fr n0 L ∧ h = h0
theorem pn_rm5_1 : plainName "com/example/moving_tokens/movingtokens/PartialChoices" = true := by first | (simp [plainName, overriddenIn]; done) | decide +kernel
theorem ef_rm5_1 (m : MethodId) (x0 : Addr) (x1 : Addr) : entryFrame m #[(.ref x0), (.ref x1)] 2 = mkF m 0 #[.val (.ref x0), .val (.ref x1)] [] := by first | (simp [entryFrame, mkF, argsToLocals, Value.category]; done) | rfl
set_option maxRecDepth 65536 in
set_option maxHeartbeats 40000000 in
theorem rm5_1 (l : Launch) (Z : State) (a0 : Array Value) (hw : ∀ d ∈ tables_1, d.before a0 Z = true) (ws : List Jvm.Cond) (ao0 ao1 : Addr) (kx : ClassId) (x0 x1 x2 x3 : Int64) (pt : Addr) (kp : ClassId) (hs : List (Int32 × Value)) (h0 : Heap) (n0 : Nat) (Z0 : n0 ≤ h0.size) (F_ao0_width : Fld Z h0 ao0 "com/example/moving_tokens/movingtokens/PartialChoices" "width" "I" (.int 1)) (F_ao0_slots : Fld Z h0 ao0 "com/example/moving_tokens/movingtokens/PartialChoices" "slots" "[I" (.ref pt)) (V_ao1 : Arv Z h0 ao1 kx .long (4 : Int32) [.long x0, .long x1, .long x2, .long x3] (.long (0 : Int64))) (V_pt : Arh Z h0 pt kp .int (32 : Int32) hs [] (.int (0 : Int32))) :
    MetFree l (⟨"com/example/moving_tokens/movingtokens/PartialChoices", "home", "([J)I"⟩ : MethodName) (head1 (Jvm.Cond.code (⟨"com/example/moving_tokens/movingtokens/PartialChoices", "home", "([J)I"⟩ : MethodName) prog_38_method_9_code 2 (some .int) :: ws) ({ frames := 4, cells := 0, slots := 0, locals := 62 } : Room)) (fun a U => a = #[(.ref ao0), (.ref ao1)] ∧ Z.Warmed39 U.vm ∧ U.heap = h0) (fun _ _ _ _ _ => True) (fun _ U o U' => ∃ v L, o = .returned v ∧ (Q_rm5_1 Z ao0 ao1 kx x0 x1 x2 x3 pt kp hs h0 n0) v U'.heap L ∧ FrameEnd U o U' L ({ frames := 4, cells := 0, slots := 0, locals := 62 } : Room).cells ({ frames := 4, cells := 0, slots := 0, locals := 62 } : Room).slots) := by
  refine MetFree.of_bodySF (plainFor_of_name pn_rm5_1) hisR ?_
  intro p e s m args below meth c s₁ Bd hml0 hP hK
  obtain ⟨rfl, hZ, hh⟩ := hP
  have hx := Bd.exec
  have hby := Bd.bytes
  have hlk := BodyLoose.notSynchronized Bd
  have hret := Bd.returns
  have hml : c.maxLocals = 2 := hml0
  have hown : s.vm.findClass "com/example/moving_tokens/movingtokens/PartialChoices" = some m.cls := findClass_of_methodNamed Bd.named
  have hnm := (name_of_methodNamed Bd.named Bd.method).1
  have X0 : Stand p l e ({ frames := 4, cells := 0, slots := 0, locals := 62 } : Room) s m #[(.ref ao0), (.ref ao1)] below meth c s₁ [] 0 0 := Stand.of_body Bd
  have e0 : s₁.heap = h0 := by rw [← hh, Bd.state]; rfl
  have Nf := Fr.nil n0
  have Zs := Z0
  have Kp : Keep h0 h0 [] := Keep.refl _ _
  show own_End p e below s (Q_rm5_1 Z ao0 ao1 kx x0 x1 x2 x3 pt kp hs h0 n0) ({ frames := 4, cells := 0, slots := 0, locals := 62 } : Room).cells ({ frames := 4, cells := 0, slots := 0, locals := 62 } : Room).slots (s₁.setTop (entryFrame m #[(.ref ao0), (.ref ao1)] 2))
  refine own_go (x' := s₁.setTop (mkF m 0 #[.val (.ref ao0), .val (.ref ao1)] [])) (fun t k => castTop (ef_rm5_1 m ao0 ao1) k) ?_
  refine own_go (x' := s₁.setTop (mkF m 3 #[.val (.ref ao0), .val (.ref ao1)] [(.ref ao0), (.int 0), (.ref ao1)])) (fun _ k => XS.aloadN X0.here hx rfl (hb hby d5_0) rfl rfl (XS.iconst X0.here hx rfl (hb hby d5_1) (XS.aloadN X0.here hx rfl (hb hby d5_2) rfl rfl k))) ?_
  obtain ⟨T1, X1, e1, st1⟩ := getF X0 hx hZ hown (host := "") (Or.inl (own_w hw 26 rfl)) Via.refl e0 F_ao0_width (g := (mkF m 3 #[.val (.ref ao0), .val (.ref ao1)] [(.ref ao0), (.int 0), (.ref ao1)])) rfl rfl (hb hby d5_3)
  refine own_go (x' := T1.setTop (mkF m 6 #[.val (.ref ao0), .val (.ref ao1)] [(.int 1), (.int 0), (.ref ao1)])) st1 ?_
  obtain ⟨_, _, ⟨T2, L2, k2, n2⟩, -, X2, ⟨Lc2, hQ2, l2, y2, z2⟩, st2⟩ := Jvm.LawKit.callS X1 hx (y := (⟨"com/example/moving_tokens/movingtokens/MarkingSet", "hash", "([JII)J"⟩ : MethodName)) hown (mvT hZ (own_w hw 38 rfl)) (mvT hZ (own_w hw 39 rfl)) (mvT hZ (own_w hw 40 rfl)) (mvT hZ (own_w hw 41 rfl)) (by decide) (backOf (W := 0) (rm6_1 l Z a0 hw [] ao1 kx x0 x1 x2 x3 h0 n0 Zs V_ao1) hZ (own_w hw 41 rfl) (own_w hw 40 rfl) (by decide) (by decide)) (g := (mkF m 6 #[.val (.ref ao0), .val (.ref ao1)] [(.int 1), (.int 0), (.ref ao1)])) rfl (by rw [hml]; rfl) (argsL := [(.ref ao1), (.int 0), (.int 1)]) (rest := []) (lenOf pd_2 rfl) rfl (by show 2 * 0 + _ ≤ _; exact Nat.le_of_eq rfl) (hb hby d5_6) (fun _ _ => ⟨rfl, e1, (by decide : 0 + 0 ≤ _), (by decide : 0 + 0 ≤ _)⟩)
  dsimp only [Pt.U, Pt.locs, Pt.cells, Pt.slots] at X2 l2 y2 z2 st2 hQ2
  subst l2 y2 z2
  obtain ⟨z2', hv2, Nq2, eq2⟩ := hQ2
  subst hv2
  replace Nf := Fr.app Nf Nq2
  refine own_go (x' := T2.setTop (mkF m 9 #[.val (.ref ao0), .val (.ref ao1)] [(.long z2')])) st2 ?_
  refine own_go (x' := T2.setTop (mkF m 11 #[.val (.ref ao0), .val (.ref ao1)] [(.ref ao0), (.int (z2'.toInt32))])) (fun _ k => XS.l2i X2.here hx rfl (hb hby d5_9) rfl (XS.aloadN X2.here hx rfl (hb hby d5_10) rfl rfl k)) ?_
  obtain ⟨T3, X3, e3, st3⟩ := getF X2 hx hZ hown (host := "") (Or.inl (own_w hw 17 rfl)) Via.refl eq2 F_ao0_slots (g := (mkF m 11 #[.val (.ref ao0), .val (.ref ao1)] [(.ref ao0), (.int (z2'.toInt32))])) rfl rfl (hb hby d5_11)
  refine own_go (x' := T3.setTop (mkF m 14 #[.val (.ref ao0), .val (.ref ao1)] [(.ref pt), (.int (z2'.toInt32))])) st3 ?_
  obtain ⟨cl4, Ar4, -, Sz4, Nn4, -, -⟩ := id V_pt
  refine own_go (x' := T3.setTop (mkF m 15 #[.val (.ref ao0), .val (.ref ao1)] [(.int 32), (.int (z2'.toInt32))])) (fun t k => X3.arraylength hx (Eq.trans (congrArg (fun h_ => h_[_]?) e3) Ar4.1) (State.isArrayOf_alike hZ.alike Ar4.2.1) (g := (mkF m 14 #[.val (.ref ao0), .val (.ref ao1)] [(.ref pt), (.int (z2'.toInt32))])) rfl rfl (hb hby d5_14) t (by rw [len_of Sz4 Nn4]; exact k)) ?_
  refine own_go (x' := T3.setTop (mkF m 18 #[.val (.ref ao0), .val (.ref ao1)] [(.int ((z2'.toInt32) &&& ((32 : Int32) - (1 : Int32))))])) (fun _ k => XS.iconst X3.here hx rfl (hb hby d5_15) (XS.isub X3.here hx rfl (hb hby d5_16) rfl (XS.iand X3.here hx rfl (hb hby d5_17) rfl k))) ?_
  refine own_retI X3 hx hlk hret (hb hby d5_18) ?_ (by decide) (by decide)
  rw [e3]
  exact ⟨_, own_31 _, rfl, Nf, rfl⟩
theorem d13_0 : decode prog_38_method_11_code 0 = .ok (.iload_n 1, 1) := by decide +kernel
theorem d13_1 : decode prog_38_method_11_code 1 = .ok (.aload_n 0, 1) := by decide +kernel
theorem d13_2 : decode prog_38_method_11_code 2 = .ok (.getfield 29, 3) := by decide +kernel
theorem d13_5 : decode prog_38_method_11_code 5 = .ok (.imul, 1) := by decide +kernel
theorem d13_6 : decode prog_38_method_11_code 6 = .ok (.istore_n 3, 1) := by decide +kernel
theorem d13_7 : decode prog_38_method_11_code 7 = .ok (.iconst 0, 1) := by decide +kernel
theorem d13_8 : decode prog_38_method_11_code 8 = .ok (.istore 4, 2) := by decide +kernel
theorem d13_10 : decode prog_38_method_11_code 10 = .ok (.iload 4, 2) := by decide +kernel
theorem d13_12 : decode prog_38_method_11_code 12 = .ok (.aload_n 0, 1) := by decide +kernel
theorem d13_13 : decode prog_38_method_11_code 13 = .ok (.getfield 29, 3) := by decide +kernel
theorem d13_16 : decode prog_38_method_11_code 16 = .ok (.if_icmp .ge 28, 3) := by decide +kernel
theorem d13_19 : decode prog_38_method_11_code 19 = .ok (.aload_n 0, 1) := by decide +kernel
theorem d13_20 : decode prog_38_method_11_code 20 = .ok (.getfield 11, 3) := by decide +kernel
theorem d13_23 : decode prog_38_method_11_code 23 = .ok (.iload_n 3, 1) := by decide +kernel
theorem d13_24 : decode prog_38_method_11_code 24 = .ok (.iload 4, 2) := by decide +kernel
theorem d13_26 : decode prog_38_method_11_code 26 = .ok (.iadd, 1) := by decide +kernel
theorem d13_27 : decode prog_38_method_11_code 27 = .ok (.laload, 1) := by decide +kernel
theorem d13_28 : decode prog_38_method_11_code 28 = .ok (.aload_n 2, 1) := by decide +kernel
theorem d13_29 : decode prog_38_method_11_code 29 = .ok (.iload 4, 2) := by decide +kernel
theorem d13_31 : decode prog_38_method_11_code 31 = .ok (.laload, 1) := by decide +kernel
theorem d13_32 : decode prog_38_method_11_code 32 = .ok (.lcmp, 1) := by decide +kernel
theorem d13_33 : decode prog_38_method_11_code 33 = .ok (.ifCond .eq 5, 3) := by decide +kernel
theorem d13_36 : decode prog_38_method_11_code 36 = .ok (.iconst 0, 1) := by decide +kernel
theorem d13_37 : decode prog_38_method_11_code 37 = .ok (.ireturn, 1) := by decide +kernel
theorem d13_38 : decode prog_38_method_11_code 38 = .ok (.iinc 4 1, 3) := by decide +kernel
theorem d13_41 : decode prog_38_method_11_code 41 = .ok (.goto (-31), 3) := by decide +kernel
theorem d13_44 : decode prog_38_method_11_code 44 = .ok (.iconst 1, 1) := by decide +kernel
theorem d13_45 : decode prog_38_method_11_code 45 = .ok (.ireturn, 1) := by decide +kernel
def Q_rm13_1 (Z : State) (ao0 ao2 : Addr) (kx : ClassId) (x0 x1 x2 x3 : Int64) (sa : Addr) (ks : ClassId) (sn : Int32) (sv : List Value) (h0 : Heap) (n0 : Nat) (v : Option Value) (h : Heap) (L : List Loc) : Prop := ∃ z : Int32, (z = 0 ∨ z = 1) ∧ v = some (.int z) ∧ Fr n0 L ∧ h = h0
theorem pn_rm13_1 : plainName "com/example/moving_tokens/movingtokens/PartialChoices" = true := by first | (simp [plainName, overriddenIn]; done) | decide +kernel
theorem ef_rm13_1 (m : MethodId) (x0 : Addr) (x1 : Int32) (x2 : Addr) : entryFrame m #[(.ref x0), (.int x1), (.ref x2)] 5 = mkF m 0 #[.val (.ref x0), .val (.int x1), .val (.ref x2), .unset, .unset] [] := by first | (simp [entryFrame, mkF, argsToLocals, Value.category]; done) | rfl
set_option maxRecDepth 65536 in
set_option maxHeartbeats 40000000 in
theorem rm13_1 (l : Launch) (Z : State) (a0 : Array Value) (hw : ∀ d ∈ tables_1, d.before a0 Z = true) (ws : List Jvm.Cond) (ao0 ao2 : Addr) (kx : ClassId) (x0 x1 x2 x3 : Int64) (sa : Addr) (ks : ClassId) (sn : Int32) (sv : List Value) (h0 : Heap) (n0 : Nat) (Z0 : n0 ≤ h0.size) (F_ao0_width : Fld Z h0 ao0 "com/example/moving_tokens/movingtokens/PartialChoices" "width" "I" (.int 1)) (F_ao0_states : Fld Z h0 ao0 "com/example/moving_tokens/movingtokens/PartialChoices" "states" "[J" (.ref sa)) (V_ao2 : Arv Z h0 ao2 kx .long (4 : Int32) [.long x0, .long x1, .long x2, .long x3] (.long (0 : Int64))) (V_sa : Arv Z h0 sa ks .long sn sv (.long (0 : Int64))) (hN : (15 : Int32) < sn) :
    MetFree l (⟨"com/example/moving_tokens/movingtokens/PartialChoices", "holds", "(I[J)Z"⟩ : MethodName) (head1 (Jvm.Cond.code (⟨"com/example/moving_tokens/movingtokens/PartialChoices", "holds", "(I[J)Z"⟩ : MethodName) prog_38_method_11_code 5 (some .boolean) :: ws) ({ frames := 0, cells := 0, slots := 0, locals := 0 } : Room)) (fun a U => a = #[(.ref ao0), (.int 0), (.ref ao2)] ∧ Z.Warmed39 U.vm ∧ U.heap = h0) (fun _ _ _ _ _ => True) (fun _ U o U' => ∃ v L, o = .returned v ∧ (Q_rm13_1 Z ao0 ao2 kx x0 x1 x2 x3 sa ks sn sv h0 n0) v U'.heap L ∧ FrameEnd U o U' L ({ frames := 0, cells := 0, slots := 0, locals := 0 } : Room).cells ({ frames := 0, cells := 0, slots := 0, locals := 0 } : Room).slots) := by
  refine MetFree.of_bodySF (plainFor_of_name pn_rm13_1) hisR ?_
  intro p e s m args below meth c s₁ Bd hml0 hP hK
  obtain ⟨rfl, hZ, hh⟩ := hP
  have hx := Bd.exec
  have hby := Bd.bytes
  have hlk := BodyLoose.notSynchronized Bd
  have hret := Bd.returns
  have hml : c.maxLocals = 5 := hml0
  have hown : s.vm.findClass "com/example/moving_tokens/movingtokens/PartialChoices" = some m.cls := findClass_of_methodNamed Bd.named
  have hnm := (name_of_methodNamed Bd.named Bd.method).1
  have X0 : Stand p l e ({ frames := 0, cells := 0, slots := 0, locals := 0 } : Room) s m #[(.ref ao0), (.int 0), (.ref ao2)] below meth c s₁ [] 0 0 := Stand.of_body Bd
  have e0 : s₁.heap = h0 := by rw [← hh, Bd.state]; rfl
  have Nf := Fr.nil n0
  have Zs := Z0
  have Kp : Keep h0 h0 [] := Keep.refl _ _
  show own_End p e below s (Q_rm13_1 Z ao0 ao2 kx x0 x1 x2 x3 sa ks sn sv h0 n0) ({ frames := 0, cells := 0, slots := 0, locals := 0 } : Room).cells ({ frames := 0, cells := 0, slots := 0, locals := 0 } : Room).slots (s₁.setTop (entryFrame m #[(.ref ao0), (.int 0), (.ref ao2)] 5))
  refine own_go (x' := s₁.setTop (mkF m 0 #[.val (.ref ao0), .val (.int 0), .val (.ref ao2), .unset, .unset] [])) (fun t k => castTop (ef_rm13_1 m ao0 (0 : Int32) ao2) k) ?_
  refine own_go (x' := s₁.setTop (mkF m 2 #[.val (.ref ao0), .val (.int 0), .val (.ref ao2), .unset, .unset] [(.ref ao0), (.int 0)])) (fun _ k => XS.iloadN X0.here hx rfl (hb hby d13_0) rfl (XS.aloadN X0.here hx rfl (hb hby d13_1) rfl rfl k)) ?_
  obtain ⟨T1, X1, e1, st1⟩ := getF X0 hx hZ hown (host := "") (Or.inl (own_w hw 26 rfl)) Via.refl e0 F_ao0_width (g := (mkF m 2 #[.val (.ref ao0), .val (.int 0), .val (.ref ao2), .unset, .unset] [(.ref ao0), (.int 0)])) rfl rfl (hb hby d13_2)
  refine own_go (x' := T1.setTop (mkF m 5 #[.val (.ref ao0), .val (.int 0), .val (.ref ao2), .unset, .unset] [(.int 1), (.int 0)])) st1 ?_
  refine own_go (x' := T1.setTop (mkF m 10 #[.val (.ref ao0), .val (.int 0), .val (.ref ao2), .val (.int ((0 : Int32) * (1 : Int32))), .val (.int 0)] [])) (fun _ k => XS.imul X1.here hx rfl (hb hby d13_5) rfl (XS.istoreN X1.here hx rfl (hb hby d13_6) rfl (l' := #[.val (.ref ao0), .val (.int 0), .val (.ref ao2), .val (.int ((0 : Int32) * (1 : Int32))), .unset]) rfl (XS.iconst X1.here hx rfl (hb hby d13_7) (XS.istore X1.here hx rfl (hb hby d13_8) rfl (l' := #[.val (.ref ao0), .val (.int 0), .val (.ref ao2), .val (.int ((0 : Int32) * (1 : Int32))), .val (.int 0)]) rfl k)))) ?_
  rw [show ((0 : Int32) * (1 : Int32)) = (0 : Int32) from by decide +kernel]
  refine own_go (x' := T1.setTop (mkF m 13 #[.val (.ref ao0), .val (.int 0), .val (.ref ao2), .val (.int 0), .val (.int 0)] [(.ref ao0), (.int 0)])) (fun _ k => XS.iload X1.here hx rfl (hb hby d13_10) rfl (XS.aloadN X1.here hx rfl (hb hby d13_12) rfl rfl k)) ?_
  obtain ⟨T2, X2, e2, st2⟩ := getF X1 hx hZ hown (host := "") (Or.inl (own_w hw 26 rfl)) Via.refl e1 F_ao0_width (g := (mkF m 13 #[.val (.ref ao0), .val (.int 0), .val (.ref ao2), .val (.int 0), .val (.int 0)] [(.ref ao0), (.int 0)])) rfl rfl (hb hby d13_13)
  refine own_go (x' := T2.setTop (mkF m 16 #[.val (.ref ao0), .val (.int 0), .val (.ref ao2), .val (.int 0), .val (.int 0)] [(.int 1), (.int 0)])) st2 ?_
  refine own_go (x' := T2.setTop (mkF m 20 #[.val (.ref ao0), .val (.int 0), .val (.ref ao2), .val (.int 0), .val (.int 0)] [(.ref ao0)])) (fun _ k => XS.icmpNo X2.here hx rfl (hb hby d13_16) rfl (tlt (by decide +kernel : ((0 : Int32) < (1 : Int32)))).2.1 (XS.aloadN X2.here hx rfl (hb hby d13_19) rfl rfl k)) ?_
  obtain ⟨T3, X3, e3, st3⟩ := getF X2 hx hZ hown (host := "") (Or.inl (own_w hw 10 rfl)) Via.refl e2 F_ao0_states (g := (mkF m 20 #[.val (.ref ao0), .val (.int 0), .val (.ref ao2), .val (.int 0), .val (.int 0)] [(.ref ao0)])) rfl rfl (hb hby d13_20)
  refine own_go (x' := T3.setTop (mkF m 23 #[.val (.ref ao0), .val (.int 0), .val (.ref ao2), .val (.int 0), .val (.int 0)] [(.ref sa)])) st3 ?_
  refine own_go (x' := T3.setTop (mkF m 27 #[.val (.ref ao0), .val (.int 0), .val (.ref ao2), .val (.int 0), .val (.int 0)] [(.int ((0 : Int32) + (0 : Int32))), (.ref sa)])) (fun _ k => XS.iloadN X3.here hx rfl (hb hby d13_23) rfl (XS.iload X3.here hx rfl (hb hby d13_24) rfl (XS.iadd X3.here hx rfl (hb hby d13_26) rfl k))) ?_
  rw [show ((0 : Int32) + (0 : Int32)) = (0 : Int32) from by decide +kernel]
  obtain ⟨cl4, Ar4, q4, Sz4, Nn4, Hh4, Gg4⟩ := id V_sa
  have hi4 : ¬ ((0 : Int32) < 0 ∨ cl4.slots.size ≤ ((0 : Int32)).toNatClampNeg) := inb_of Sz4 ⟨by decide, own_15 (by decide) hN⟩
  obtain ⟨y4', hy4⟩ := fit_J (Gg4 _ (Nat.lt_of_not_le fun q => hi4 (Or.inr q)))
  have hin4 : ¬ ((0 : Int32) < 0 ∨ cl4.slots.size ≤ ((0 : Int32)).toNatClampNeg) := inb_of Sz4 ⟨by decide, own_15 (by decide) hN⟩
  refine own_go (x' := T3.setTop (mkF m 28 #[.val (.ref ao0), .val (.int 0), .val (.ref ao2), .val (.int 0), .val (.int 0)] [(.long y4')])) (X3.laload hx (j := (0 : Int32)) (v := (.long y4')) (Eq.trans (congrArg (fun h_ => h_[_]?) e3) Ar4.1) (State.isArrayOf_alike hZ.alike Ar4.2.1) Ar4.2.2 hin4 (Hh4.at hin4 hy4) (g := (mkF m 27 #[.val (.ref ao0), .val (.int 0), .val (.ref ao2), .val (.int 0), .val (.int 0)] [(.int 0), (.ref sa)])) rfl rfl (hb hby d13_27)) ?_
  refine own_go (x' := T3.setTop (mkF m 31 #[.val (.ref ao0), .val (.int 0), .val (.ref ao2), .val (.int 0), .val (.int 0)] [(.int 0), (.ref ao2), (.long y4')])) (fun _ k => XS.aloadN X3.here hx rfl (hb hby d13_28) rfl rfl (XS.iload X3.here hx rfl (hb hby d13_29) rfl k)) ?_
  obtain ⟨cl5, Ar5, q5, Sz5, Nn5, Hh5, Gg5⟩ := id V_ao2
  have hin5 : ¬ ((0 : Int32) < 0 ∨ cl5.slots.size ≤ ((0 : Int32)).toNatClampNeg) := inb_of Sz5 ⟨by decide, by decide⟩
  refine own_go (x' := T3.setTop (mkF m 32 #[.val (.ref ao0), .val (.int 0), .val (.ref ao2), .val (.int 0), .val (.int 0)] [(.long x0), (.long y4')])) (X3.laload hx (j := (0 : Int32)) (v := (.long x0)) (Eq.trans (congrArg (fun h_ => h_[_]?) e3) Ar5.1) (State.isArrayOf_alike hZ.alike Ar5.2.1) Ar5.2.2 hin5 (Hh5.at hin5 rfl) (g := (mkF m 31 #[.val (.ref ao0), .val (.int 0), .val (.ref ao2), .val (.int 0), .val (.int 0)] [(.int 0), (.ref ao2), (.long y4')])) rfl rfl (hb hby d13_31)) ?_
  refine own_go (x' := T3.setTop (mkF m 33 #[.val (.ref ao0), .val (.int 0), .val (.ref ao2), .val (.int 0), .val (.int 0)] [(.int (lcmpW y4' x0))])) (fun _ k => XS.lcmp X3.here hx rfl (hb hby d13_32) rfl k) ?_
  by_cases hc33 : y4' = x0
  · refine own_go (x' := T3.setTop (mkF m 10 #[.val (.ref ao0), .val (.int 0), .val (.ref ao2), .val (.int 0), .val (.int ((0 : Int32) + (1 : Int32)))] [])) (fun _ k => XS.ifYes X3.here hx rfl (pc0 := 33) (pc' := 38) rfl (hb hby d13_33) rfl ((if0 _ _).trans (teq ((lw_eq y4' x0).mpr hc33)).1) (by decide) (by decide) (XS.iinc X3.here hx rfl (hb hby d13_38) rfl (l' := #[.val (.ref ao0), .val (.int 0), .val (.ref ao2), .val (.int 0), .val (.int ((0 : Int32) + (1 : Int32)))]) rfl (XS.goto X3.here hx rfl (pc0 := 41) (pc' := 10) rfl (hb hby d13_41) (by decide) (by decide) k))) ?_
    rw [show ((0 : Int32) + (1 : Int32)) = (1 : Int32) from by decide +kernel]
    refine own_go (x' := T3.setTop (mkF m 13 #[.val (.ref ao0), .val (.int 0), .val (.ref ao2), .val (.int 0), .val (.int 1)] [(.ref ao0), (.int 1)])) (fun _ k => XS.iload X3.here hx rfl (hb hby d13_10) rfl (XS.aloadN X3.here hx rfl (hb hby d13_12) rfl rfl k)) ?_
    obtain ⟨T6, X6, e6, st6⟩ := getF X3 hx hZ hown (host := "") (Or.inl (own_w hw 26 rfl)) Via.refl e3 F_ao0_width (g := (mkF m 13 #[.val (.ref ao0), .val (.int 0), .val (.ref ao2), .val (.int 0), .val (.int 1)] [(.ref ao0), (.int 1)])) rfl rfl (hb hby d13_13)
    refine own_go (x' := T6.setTop (mkF m 16 #[.val (.ref ao0), .val (.int 0), .val (.ref ao2), .val (.int 0), .val (.int 1)] [(.int 1), (.int 1)])) st6 ?_
    refine own_go (x' := T6.setTop (mkF m 45 #[.val (.ref ao0), .val (.int 0), .val (.ref ao2), .val (.int 0), .val (.int 1)] [(.int 1)])) (fun _ k => XS.icmpYes X6.here hx rfl (pc0 := 16) (pc' := 44) rfl (hb hby d13_16) rfl (flt (Int32.lt_irrefl)).2.1 (by decide) (by decide) (XS.iconst X6.here hx rfl (hb hby d13_44) k)) ?_
    refine own_retN X6 hx hlk (t := .boolean) hret (by simp) (hb hby d13_45) (w := (1 : Int32)) rfl ?_ (by decide) (by decide)
    rw [e6]
    exact ⟨(1 : Int32), Or.inr rfl, rfl, Nf, rfl⟩
  · refine own_go (x' := T3.setTop (mkF m 37 #[.val (.ref ao0), .val (.int 0), .val (.ref ao2), .val (.int 0), .val (.int 0)] [(.int 0)])) (fun _ k => XS.ifNo X3.here hx rfl (hb hby d13_33) rfl ((if0 _ _).trans (feq (fun q_ => hc33 ((lw_eq y4' x0).mp q_))).1) (XS.iconst X3.here hx rfl (hb hby d13_36) k)) ?_
    refine own_retN X3 hx hlk (t := .boolean) hret (by simp) (hb hby d13_37) (w := (0 : Int32)) rfl ?_ (by decide) (by decide)
    rw [e3]
    exact ⟨(0 : Int32), Or.inl rfl, rfl, Nf, rfl⟩
def Q_rm5_2 (Z : State) (ao0 ao1 : Addr) (kx : ClassId) (x0 x1 x2 x3 : Int64) (pt : Addr) (kp : ClassId) (hs : List (Int32 × Value)) (h0 : Heap) (n0 : Nat) (v : Option Value) (h : Heap) (L : List Loc) : Prop := ∃ z : Int32, (¬ z < 0 ∧ z < 32) ∧ v = some (.int z) ∧ Fr n0 L ∧ h = h0
theorem pn_rm5_2 : plainName "com/example/moving_tokens/movingtokens/PartialChoices" = true := by first | (simp [plainName, overriddenIn]; done) | decide +kernel
theorem ef_rm5_2 (m : MethodId) (x0 : Addr) (x1 : Addr) : entryFrame m #[(.ref x0), (.ref x1)] 2 = mkF m 0 #[.val (.ref x0), .val (.ref x1)] [] := by first | (simp [entryFrame, mkF, argsToLocals, Value.category]; done) | rfl
set_option maxRecDepth 65536 in
set_option maxHeartbeats 40000000 in
theorem rm5_2 (l : Launch) (Z : State) (a0 : Array Value) (hw : ∀ d ∈ tables_1, d.before a0 Z = true) (ws : List Jvm.Cond) (ao0 ao1 : Addr) (kx : ClassId) (x0 x1 x2 x3 : Int64) (pt : Addr) (kp : ClassId) (hs : List (Int32 × Value)) (h0 : Heap) (n0 : Nat) (Z0 : n0 ≤ h0.size) (F_ao0_width : Fld Z h0 ao0 "com/example/moving_tokens/movingtokens/PartialChoices" "width" "I" (.int 2)) (F_ao0_slots : Fld Z h0 ao0 "com/example/moving_tokens/movingtokens/PartialChoices" "slots" "[I" (.ref pt)) (V_ao1 : Arv Z h0 ao1 kx .long (4 : Int32) [.long x0, .long x1, .long x2, .long x3] (.long (0 : Int64))) (V_pt : Arh Z h0 pt kp .int (32 : Int32) hs [] (.int (0 : Int32))) :
    MetFree l (⟨"com/example/moving_tokens/movingtokens/PartialChoices", "home", "([J)I"⟩ : MethodName) (head1 (Jvm.Cond.code (⟨"com/example/moving_tokens/movingtokens/PartialChoices", "home", "([J)I"⟩ : MethodName) prog_38_method_9_code 2 (some .int) :: ws) ({ frames := 4, cells := 0, slots := 0, locals := 62 } : Room)) (fun a U => a = #[(.ref ao0), (.ref ao1)] ∧ Z.Warmed39 U.vm ∧ U.heap = h0) (fun _ _ _ _ _ => True) (fun _ U o U' => ∃ v L, o = .returned v ∧ (Q_rm5_2 Z ao0 ao1 kx x0 x1 x2 x3 pt kp hs h0 n0) v U'.heap L ∧ FrameEnd U o U' L ({ frames := 4, cells := 0, slots := 0, locals := 62 } : Room).cells ({ frames := 4, cells := 0, slots := 0, locals := 62 } : Room).slots) := by
  refine MetFree.of_bodySF (plainFor_of_name pn_rm5_2) hisR ?_
  intro p e s m args below meth c s₁ Bd hml0 hP hK
  obtain ⟨rfl, hZ, hh⟩ := hP
  have hx := Bd.exec
  have hby := Bd.bytes
  have hlk := BodyLoose.notSynchronized Bd
  have hret := Bd.returns
  have hml : c.maxLocals = 2 := hml0
  have hown : s.vm.findClass "com/example/moving_tokens/movingtokens/PartialChoices" = some m.cls := findClass_of_methodNamed Bd.named
  have hnm := (name_of_methodNamed Bd.named Bd.method).1
  have X0 : Stand p l e ({ frames := 4, cells := 0, slots := 0, locals := 62 } : Room) s m #[(.ref ao0), (.ref ao1)] below meth c s₁ [] 0 0 := Stand.of_body Bd
  have e0 : s₁.heap = h0 := by rw [← hh, Bd.state]; rfl
  have Nf := Fr.nil n0
  have Zs := Z0
  have Kp : Keep h0 h0 [] := Keep.refl _ _
  show own_End p e below s (Q_rm5_2 Z ao0 ao1 kx x0 x1 x2 x3 pt kp hs h0 n0) ({ frames := 4, cells := 0, slots := 0, locals := 62 } : Room).cells ({ frames := 4, cells := 0, slots := 0, locals := 62 } : Room).slots (s₁.setTop (entryFrame m #[(.ref ao0), (.ref ao1)] 2))
  refine own_go (x' := s₁.setTop (mkF m 0 #[.val (.ref ao0), .val (.ref ao1)] [])) (fun t k => castTop (ef_rm5_2 m ao0 ao1) k) ?_
  refine own_go (x' := s₁.setTop (mkF m 3 #[.val (.ref ao0), .val (.ref ao1)] [(.ref ao0), (.int 0), (.ref ao1)])) (fun _ k => XS.aloadN X0.here hx rfl (hb hby d5_0) rfl rfl (XS.iconst X0.here hx rfl (hb hby d5_1) (XS.aloadN X0.here hx rfl (hb hby d5_2) rfl rfl k))) ?_
  obtain ⟨T1, X1, e1, st1⟩ := getF X0 hx hZ hown (host := "") (Or.inl (own_w hw 26 rfl)) Via.refl e0 F_ao0_width (g := (mkF m 3 #[.val (.ref ao0), .val (.ref ao1)] [(.ref ao0), (.int 0), (.ref ao1)])) rfl rfl (hb hby d5_3)
  refine own_go (x' := T1.setTop (mkF m 6 #[.val (.ref ao0), .val (.ref ao1)] [(.int 2), (.int 0), (.ref ao1)])) st1 ?_
  obtain ⟨_, _, ⟨T2, L2, k2, n2⟩, -, X2, ⟨Lc2, hQ2, l2, y2, z2⟩, st2⟩ := Jvm.LawKit.callS X1 hx (y := (⟨"com/example/moving_tokens/movingtokens/MarkingSet", "hash", "([JII)J"⟩ : MethodName)) hown (mvT hZ (own_w hw 38 rfl)) (mvT hZ (own_w hw 39 rfl)) (mvT hZ (own_w hw 40 rfl)) (mvT hZ (own_w hw 41 rfl)) (by decide) (backOf (W := 0) (rm6_2 l Z a0 hw [] ao1 kx x0 x1 x2 x3 h0 n0 Zs V_ao1) hZ (own_w hw 41 rfl) (own_w hw 40 rfl) (by decide) (by decide)) (g := (mkF m 6 #[.val (.ref ao0), .val (.ref ao1)] [(.int 2), (.int 0), (.ref ao1)])) rfl (by rw [hml]; rfl) (argsL := [(.ref ao1), (.int 0), (.int 2)]) (rest := []) (lenOf pd_2 rfl) rfl (by show 2 * 0 + _ ≤ _; exact Nat.le_of_eq rfl) (hb hby d5_6) (fun _ _ => ⟨rfl, e1, (by decide : 0 + 0 ≤ _), (by decide : 0 + 0 ≤ _)⟩)
  dsimp only [Pt.U, Pt.locs, Pt.cells, Pt.slots] at X2 l2 y2 z2 st2 hQ2
  subst l2 y2 z2
  obtain ⟨z2', hv2, Nq2, eq2⟩ := hQ2
  subst hv2
  replace Nf := Fr.app Nf Nq2
  refine own_go (x' := T2.setTop (mkF m 9 #[.val (.ref ao0), .val (.ref ao1)] [(.long z2')])) st2 ?_
  refine own_go (x' := T2.setTop (mkF m 11 #[.val (.ref ao0), .val (.ref ao1)] [(.ref ao0), (.int (z2'.toInt32))])) (fun _ k => XS.l2i X2.here hx rfl (hb hby d5_9) rfl (XS.aloadN X2.here hx rfl (hb hby d5_10) rfl rfl k)) ?_
  obtain ⟨T3, X3, e3, st3⟩ := getF X2 hx hZ hown (host := "") (Or.inl (own_w hw 17 rfl)) Via.refl eq2 F_ao0_slots (g := (mkF m 11 #[.val (.ref ao0), .val (.ref ao1)] [(.ref ao0), (.int (z2'.toInt32))])) rfl rfl (hb hby d5_11)
  refine own_go (x' := T3.setTop (mkF m 14 #[.val (.ref ao0), .val (.ref ao1)] [(.ref pt), (.int (z2'.toInt32))])) st3 ?_
  obtain ⟨cl4, Ar4, -, Sz4, Nn4, -, -⟩ := id V_pt
  refine own_go (x' := T3.setTop (mkF m 15 #[.val (.ref ao0), .val (.ref ao1)] [(.int 32), (.int (z2'.toInt32))])) (fun t k => X3.arraylength hx (Eq.trans (congrArg (fun h_ => h_[_]?) e3) Ar4.1) (State.isArrayOf_alike hZ.alike Ar4.2.1) (g := (mkF m 14 #[.val (.ref ao0), .val (.ref ao1)] [(.ref pt), (.int (z2'.toInt32))])) rfl rfl (hb hby d5_14) t (by rw [len_of Sz4 Nn4]; exact k)) ?_
  refine own_go (x' := T3.setTop (mkF m 18 #[.val (.ref ao0), .val (.ref ao1)] [(.int ((z2'.toInt32) &&& ((32 : Int32) - (1 : Int32))))])) (fun _ k => XS.iconst X3.here hx rfl (hb hby d5_15) (XS.isub X3.here hx rfl (hb hby d5_16) rfl (XS.iand X3.here hx rfl (hb hby d5_17) rfl k))) ?_
  refine own_retI X3 hx hlk hret (hb hby d5_18) ?_ (by decide) (by decide)
  rw [e3]
  exact ⟨_, own_31 _, rfl, Nf, rfl⟩
def Q_rm13_2 (Z : State) (ao0 ao2 : Addr) (kx : ClassId) (x0 x1 x2 x3 : Int64) (sa : Addr) (ks : ClassId) (sn : Int32) (sv : List Value) (h0 : Heap) (n0 : Nat) (v : Option Value) (h : Heap) (L : List Loc) : Prop := ∃ z : Int32, (z = 0 ∨ z = 1) ∧ v = some (.int z) ∧ Fr n0 L ∧ h = h0
theorem pn_rm13_2 : plainName "com/example/moving_tokens/movingtokens/PartialChoices" = true := by first | (simp [plainName, overriddenIn]; done) | decide +kernel
theorem ef_rm13_2 (m : MethodId) (x0 : Addr) (x1 : Int32) (x2 : Addr) : entryFrame m #[(.ref x0), (.int x1), (.ref x2)] 5 = mkF m 0 #[.val (.ref x0), .val (.int x1), .val (.ref x2), .unset, .unset] [] := by first | (simp [entryFrame, mkF, argsToLocals, Value.category]; done) | rfl
set_option maxRecDepth 65536 in
set_option maxHeartbeats 40000000 in
theorem rm13_2 (l : Launch) (Z : State) (a0 : Array Value) (hw : ∀ d ∈ tables_1, d.before a0 Z = true) (ws : List Jvm.Cond) (ao0 ao2 : Addr) (kx : ClassId) (x0 x1 x2 x3 : Int64) (sa : Addr) (ks : ClassId) (sn : Int32) (sv : List Value) (h0 : Heap) (n0 : Nat) (Z0 : n0 ≤ h0.size) (F_ao0_width : Fld Z h0 ao0 "com/example/moving_tokens/movingtokens/PartialChoices" "width" "I" (.int 2)) (F_ao0_states : Fld Z h0 ao0 "com/example/moving_tokens/movingtokens/PartialChoices" "states" "[J" (.ref sa)) (V_ao2 : Arv Z h0 ao2 kx .long (4 : Int32) [.long x0, .long x1, .long x2, .long x3] (.long (0 : Int64))) (V_sa : Arv Z h0 sa ks .long sn sv (.long (0 : Int64))) (hN : (15 : Int32) < sn) :
    MetFree l (⟨"com/example/moving_tokens/movingtokens/PartialChoices", "holds", "(I[J)Z"⟩ : MethodName) (head1 (Jvm.Cond.code (⟨"com/example/moving_tokens/movingtokens/PartialChoices", "holds", "(I[J)Z"⟩ : MethodName) prog_38_method_11_code 5 (some .boolean) :: ws) ({ frames := 0, cells := 0, slots := 0, locals := 0 } : Room)) (fun a U => a = #[(.ref ao0), (.int 0), (.ref ao2)] ∧ Z.Warmed39 U.vm ∧ U.heap = h0) (fun _ _ _ _ _ => True) (fun _ U o U' => ∃ v L, o = .returned v ∧ (Q_rm13_2 Z ao0 ao2 kx x0 x1 x2 x3 sa ks sn sv h0 n0) v U'.heap L ∧ FrameEnd U o U' L ({ frames := 0, cells := 0, slots := 0, locals := 0 } : Room).cells ({ frames := 0, cells := 0, slots := 0, locals := 0 } : Room).slots) := by
  refine MetFree.of_bodySF (plainFor_of_name pn_rm13_2) hisR ?_
  intro p e s m args below meth c s₁ Bd hml0 hP hK
  obtain ⟨rfl, hZ, hh⟩ := hP
  have hx := Bd.exec
  have hby := Bd.bytes
  have hlk := BodyLoose.notSynchronized Bd
  have hret := Bd.returns
  have hml : c.maxLocals = 5 := hml0
  have hown : s.vm.findClass "com/example/moving_tokens/movingtokens/PartialChoices" = some m.cls := findClass_of_methodNamed Bd.named
  have hnm := (name_of_methodNamed Bd.named Bd.method).1
  have X0 : Stand p l e ({ frames := 0, cells := 0, slots := 0, locals := 0 } : Room) s m #[(.ref ao0), (.int 0), (.ref ao2)] below meth c s₁ [] 0 0 := Stand.of_body Bd
  have e0 : s₁.heap = h0 := by rw [← hh, Bd.state]; rfl
  have Nf := Fr.nil n0
  have Zs := Z0
  have Kp : Keep h0 h0 [] := Keep.refl _ _
  show own_End p e below s (Q_rm13_2 Z ao0 ao2 kx x0 x1 x2 x3 sa ks sn sv h0 n0) ({ frames := 0, cells := 0, slots := 0, locals := 0 } : Room).cells ({ frames := 0, cells := 0, slots := 0, locals := 0 } : Room).slots (s₁.setTop (entryFrame m #[(.ref ao0), (.int 0), (.ref ao2)] 5))
  refine own_go (x' := s₁.setTop (mkF m 0 #[.val (.ref ao0), .val (.int 0), .val (.ref ao2), .unset, .unset] [])) (fun t k => castTop (ef_rm13_2 m ao0 (0 : Int32) ao2) k) ?_
  refine own_go (x' := s₁.setTop (mkF m 2 #[.val (.ref ao0), .val (.int 0), .val (.ref ao2), .unset, .unset] [(.ref ao0), (.int 0)])) (fun _ k => XS.iloadN X0.here hx rfl (hb hby d13_0) rfl (XS.aloadN X0.here hx rfl (hb hby d13_1) rfl rfl k)) ?_
  obtain ⟨T1, X1, e1, st1⟩ := getF X0 hx hZ hown (host := "") (Or.inl (own_w hw 26 rfl)) Via.refl e0 F_ao0_width (g := (mkF m 2 #[.val (.ref ao0), .val (.int 0), .val (.ref ao2), .unset, .unset] [(.ref ao0), (.int 0)])) rfl rfl (hb hby d13_2)
  refine own_go (x' := T1.setTop (mkF m 5 #[.val (.ref ao0), .val (.int 0), .val (.ref ao2), .unset, .unset] [(.int 2), (.int 0)])) st1 ?_
  refine own_go (x' := T1.setTop (mkF m 10 #[.val (.ref ao0), .val (.int 0), .val (.ref ao2), .val (.int ((0 : Int32) * (2 : Int32))), .val (.int 0)] [])) (fun _ k => XS.imul X1.here hx rfl (hb hby d13_5) rfl (XS.istoreN X1.here hx rfl (hb hby d13_6) rfl (l' := #[.val (.ref ao0), .val (.int 0), .val (.ref ao2), .val (.int ((0 : Int32) * (2 : Int32))), .unset]) rfl (XS.iconst X1.here hx rfl (hb hby d13_7) (XS.istore X1.here hx rfl (hb hby d13_8) rfl (l' := #[.val (.ref ao0), .val (.int 0), .val (.ref ao2), .val (.int ((0 : Int32) * (2 : Int32))), .val (.int 0)]) rfl k)))) ?_
  rw [show ((0 : Int32) * (2 : Int32)) = (0 : Int32) from by decide +kernel]
  refine own_go (x' := T1.setTop (mkF m 13 #[.val (.ref ao0), .val (.int 0), .val (.ref ao2), .val (.int 0), .val (.int 0)] [(.ref ao0), (.int 0)])) (fun _ k => XS.iload X1.here hx rfl (hb hby d13_10) rfl (XS.aloadN X1.here hx rfl (hb hby d13_12) rfl rfl k)) ?_
  obtain ⟨T2, X2, e2, st2⟩ := getF X1 hx hZ hown (host := "") (Or.inl (own_w hw 26 rfl)) Via.refl e1 F_ao0_width (g := (mkF m 13 #[.val (.ref ao0), .val (.int 0), .val (.ref ao2), .val (.int 0), .val (.int 0)] [(.ref ao0), (.int 0)])) rfl rfl (hb hby d13_13)
  refine own_go (x' := T2.setTop (mkF m 16 #[.val (.ref ao0), .val (.int 0), .val (.ref ao2), .val (.int 0), .val (.int 0)] [(.int 2), (.int 0)])) st2 ?_
  refine own_go (x' := T2.setTop (mkF m 20 #[.val (.ref ao0), .val (.int 0), .val (.ref ao2), .val (.int 0), .val (.int 0)] [(.ref ao0)])) (fun _ k => XS.icmpNo X2.here hx rfl (hb hby d13_16) rfl (tlt (by decide +kernel : ((0 : Int32) < (2 : Int32)))).2.1 (XS.aloadN X2.here hx rfl (hb hby d13_19) rfl rfl k)) ?_
  obtain ⟨T3, X3, e3, st3⟩ := getF X2 hx hZ hown (host := "") (Or.inl (own_w hw 10 rfl)) Via.refl e2 F_ao0_states (g := (mkF m 20 #[.val (.ref ao0), .val (.int 0), .val (.ref ao2), .val (.int 0), .val (.int 0)] [(.ref ao0)])) rfl rfl (hb hby d13_20)
  refine own_go (x' := T3.setTop (mkF m 23 #[.val (.ref ao0), .val (.int 0), .val (.ref ao2), .val (.int 0), .val (.int 0)] [(.ref sa)])) st3 ?_
  refine own_go (x' := T3.setTop (mkF m 27 #[.val (.ref ao0), .val (.int 0), .val (.ref ao2), .val (.int 0), .val (.int 0)] [(.int ((0 : Int32) + (0 : Int32))), (.ref sa)])) (fun _ k => XS.iloadN X3.here hx rfl (hb hby d13_23) rfl (XS.iload X3.here hx rfl (hb hby d13_24) rfl (XS.iadd X3.here hx rfl (hb hby d13_26) rfl k))) ?_
  rw [show ((0 : Int32) + (0 : Int32)) = (0 : Int32) from by decide +kernel]
  obtain ⟨cl4, Ar4, q4, Sz4, Nn4, Hh4, Gg4⟩ := id V_sa
  have hi4 : ¬ ((0 : Int32) < 0 ∨ cl4.slots.size ≤ ((0 : Int32)).toNatClampNeg) := inb_of Sz4 ⟨by decide, own_15 (by decide) hN⟩
  obtain ⟨y4', hy4⟩ := fit_J (Gg4 _ (Nat.lt_of_not_le fun q => hi4 (Or.inr q)))
  have hin4 : ¬ ((0 : Int32) < 0 ∨ cl4.slots.size ≤ ((0 : Int32)).toNatClampNeg) := inb_of Sz4 ⟨by decide, own_15 (by decide) hN⟩
  refine own_go (x' := T3.setTop (mkF m 28 #[.val (.ref ao0), .val (.int 0), .val (.ref ao2), .val (.int 0), .val (.int 0)] [(.long y4')])) (X3.laload hx (j := (0 : Int32)) (v := (.long y4')) (Eq.trans (congrArg (fun h_ => h_[_]?) e3) Ar4.1) (State.isArrayOf_alike hZ.alike Ar4.2.1) Ar4.2.2 hin4 (Hh4.at hin4 hy4) (g := (mkF m 27 #[.val (.ref ao0), .val (.int 0), .val (.ref ao2), .val (.int 0), .val (.int 0)] [(.int 0), (.ref sa)])) rfl rfl (hb hby d13_27)) ?_
  refine own_go (x' := T3.setTop (mkF m 31 #[.val (.ref ao0), .val (.int 0), .val (.ref ao2), .val (.int 0), .val (.int 0)] [(.int 0), (.ref ao2), (.long y4')])) (fun _ k => XS.aloadN X3.here hx rfl (hb hby d13_28) rfl rfl (XS.iload X3.here hx rfl (hb hby d13_29) rfl k)) ?_
  obtain ⟨cl5, Ar5, q5, Sz5, Nn5, Hh5, Gg5⟩ := id V_ao2
  have hin5 : ¬ ((0 : Int32) < 0 ∨ cl5.slots.size ≤ ((0 : Int32)).toNatClampNeg) := inb_of Sz5 ⟨by decide, by decide⟩
  refine own_go (x' := T3.setTop (mkF m 32 #[.val (.ref ao0), .val (.int 0), .val (.ref ao2), .val (.int 0), .val (.int 0)] [(.long x0), (.long y4')])) (X3.laload hx (j := (0 : Int32)) (v := (.long x0)) (Eq.trans (congrArg (fun h_ => h_[_]?) e3) Ar5.1) (State.isArrayOf_alike hZ.alike Ar5.2.1) Ar5.2.2 hin5 (Hh5.at hin5 rfl) (g := (mkF m 31 #[.val (.ref ao0), .val (.int 0), .val (.ref ao2), .val (.int 0), .val (.int 0)] [(.int 0), (.ref ao2), (.long y4')])) rfl rfl (hb hby d13_31)) ?_
  refine own_go (x' := T3.setTop (mkF m 33 #[.val (.ref ao0), .val (.int 0), .val (.ref ao2), .val (.int 0), .val (.int 0)] [(.int (lcmpW y4' x0))])) (fun _ k => XS.lcmp X3.here hx rfl (hb hby d13_32) rfl k) ?_
  by_cases hc33 : y4' = x0
  · refine own_go (x' := T3.setTop (mkF m 10 #[.val (.ref ao0), .val (.int 0), .val (.ref ao2), .val (.int 0), .val (.int ((0 : Int32) + (1 : Int32)))] [])) (fun _ k => XS.ifYes X3.here hx rfl (pc0 := 33) (pc' := 38) rfl (hb hby d13_33) rfl ((if0 _ _).trans (teq ((lw_eq y4' x0).mpr hc33)).1) (by decide) (by decide) (XS.iinc X3.here hx rfl (hb hby d13_38) rfl (l' := #[.val (.ref ao0), .val (.int 0), .val (.ref ao2), .val (.int 0), .val (.int ((0 : Int32) + (1 : Int32)))]) rfl (XS.goto X3.here hx rfl (pc0 := 41) (pc' := 10) rfl (hb hby d13_41) (by decide) (by decide) k))) ?_
    rw [show ((0 : Int32) + (1 : Int32)) = (1 : Int32) from by decide +kernel]
    refine own_go (x' := T3.setTop (mkF m 13 #[.val (.ref ao0), .val (.int 0), .val (.ref ao2), .val (.int 0), .val (.int 1)] [(.ref ao0), (.int 1)])) (fun _ k => XS.iload X3.here hx rfl (hb hby d13_10) rfl (XS.aloadN X3.here hx rfl (hb hby d13_12) rfl rfl k)) ?_
    obtain ⟨T6, X6, e6, st6⟩ := getF X3 hx hZ hown (host := "") (Or.inl (own_w hw 26 rfl)) Via.refl e3 F_ao0_width (g := (mkF m 13 #[.val (.ref ao0), .val (.int 0), .val (.ref ao2), .val (.int 0), .val (.int 1)] [(.ref ao0), (.int 1)])) rfl rfl (hb hby d13_13)
    refine own_go (x' := T6.setTop (mkF m 16 #[.val (.ref ao0), .val (.int 0), .val (.ref ao2), .val (.int 0), .val (.int 1)] [(.int 2), (.int 1)])) st6 ?_
    refine own_go (x' := T6.setTop (mkF m 20 #[.val (.ref ao0), .val (.int 0), .val (.ref ao2), .val (.int 0), .val (.int 1)] [(.ref ao0)])) (fun _ k => XS.icmpNo X6.here hx rfl (hb hby d13_16) rfl (tlt (by decide +kernel : ((1 : Int32) < (2 : Int32)))).2.1 (XS.aloadN X6.here hx rfl (hb hby d13_19) rfl rfl k)) ?_
    obtain ⟨T7, X7, e7, st7⟩ := getF X6 hx hZ hown (host := "") (Or.inl (own_w hw 10 rfl)) Via.refl e6 F_ao0_states (g := (mkF m 20 #[.val (.ref ao0), .val (.int 0), .val (.ref ao2), .val (.int 0), .val (.int 1)] [(.ref ao0)])) rfl rfl (hb hby d13_20)
    refine own_go (x' := T7.setTop (mkF m 23 #[.val (.ref ao0), .val (.int 0), .val (.ref ao2), .val (.int 0), .val (.int 1)] [(.ref sa)])) st7 ?_
    refine own_go (x' := T7.setTop (mkF m 27 #[.val (.ref ao0), .val (.int 0), .val (.ref ao2), .val (.int 0), .val (.int 1)] [(.int ((0 : Int32) + (1 : Int32))), (.ref sa)])) (fun _ k => XS.iloadN X7.here hx rfl (hb hby d13_23) rfl (XS.iload X7.here hx rfl (hb hby d13_24) rfl (XS.iadd X7.here hx rfl (hb hby d13_26) rfl k))) ?_
    rw [show ((0 : Int32) + (1 : Int32)) = (1 : Int32) from by decide +kernel]
    obtain ⟨cl8, Ar8, q8, Sz8, Nn8, Hh8, Gg8⟩ := id V_sa
    have hi8 : ¬ ((1 : Int32) < 0 ∨ cl8.slots.size ≤ ((1 : Int32)).toNatClampNeg) := inb_of Sz8 ⟨by decide, own_15 (by decide) hN⟩
    obtain ⟨y8', hy8⟩ := fit_J (Gg8 _ (Nat.lt_of_not_le fun q => hi8 (Or.inr q)))
    have hin8 : ¬ ((1 : Int32) < 0 ∨ cl8.slots.size ≤ ((1 : Int32)).toNatClampNeg) := inb_of Sz8 ⟨by decide, own_15 (by decide) hN⟩
    refine own_go (x' := T7.setTop (mkF m 28 #[.val (.ref ao0), .val (.int 0), .val (.ref ao2), .val (.int 0), .val (.int 1)] [(.long y8')])) (X7.laload hx (j := (1 : Int32)) (v := (.long y8')) (Eq.trans (congrArg (fun h_ => h_[_]?) e7) Ar8.1) (State.isArrayOf_alike hZ.alike Ar8.2.1) Ar8.2.2 hin8 (Hh8.at hin8 hy8) (g := (mkF m 27 #[.val (.ref ao0), .val (.int 0), .val (.ref ao2), .val (.int 0), .val (.int 1)] [(.int 1), (.ref sa)])) rfl rfl (hb hby d13_27)) ?_
    refine own_go (x' := T7.setTop (mkF m 31 #[.val (.ref ao0), .val (.int 0), .val (.ref ao2), .val (.int 0), .val (.int 1)] [(.int 1), (.ref ao2), (.long y8')])) (fun _ k => XS.aloadN X7.here hx rfl (hb hby d13_28) rfl rfl (XS.iload X7.here hx rfl (hb hby d13_29) rfl k)) ?_
    obtain ⟨cl9, Ar9, q9, Sz9, Nn9, Hh9, Gg9⟩ := id V_ao2
    have hin9 : ¬ ((1 : Int32) < 0 ∨ cl9.slots.size ≤ ((1 : Int32)).toNatClampNeg) := inb_of Sz9 ⟨by decide, by decide⟩
    refine own_go (x' := T7.setTop (mkF m 32 #[.val (.ref ao0), .val (.int 0), .val (.ref ao2), .val (.int 0), .val (.int 1)] [(.long x1), (.long y8')])) (X7.laload hx (j := (1 : Int32)) (v := (.long x1)) (Eq.trans (congrArg (fun h_ => h_[_]?) e7) Ar9.1) (State.isArrayOf_alike hZ.alike Ar9.2.1) Ar9.2.2 hin9 (Hh9.at hin9 rfl) (g := (mkF m 31 #[.val (.ref ao0), .val (.int 0), .val (.ref ao2), .val (.int 0), .val (.int 1)] [(.int 1), (.ref ao2), (.long y8')])) rfl rfl (hb hby d13_31)) ?_
    refine own_go (x' := T7.setTop (mkF m 33 #[.val (.ref ao0), .val (.int 0), .val (.ref ao2), .val (.int 0), .val (.int 1)] [(.int (lcmpW y8' x1))])) (fun _ k => XS.lcmp X7.here hx rfl (hb hby d13_32) rfl k) ?_
    by_cases hc33_10 : y8' = x1
    · refine own_go (x' := T7.setTop (mkF m 10 #[.val (.ref ao0), .val (.int 0), .val (.ref ao2), .val (.int 0), .val (.int ((1 : Int32) + (1 : Int32)))] [])) (fun _ k => XS.ifYes X7.here hx rfl (pc0 := 33) (pc' := 38) rfl (hb hby d13_33) rfl ((if0 _ _).trans (teq ((lw_eq y8' x1).mpr hc33_10)).1) (by decide) (by decide) (XS.iinc X7.here hx rfl (hb hby d13_38) rfl (l' := #[.val (.ref ao0), .val (.int 0), .val (.ref ao2), .val (.int 0), .val (.int ((1 : Int32) + (1 : Int32)))]) rfl (XS.goto X7.here hx rfl (pc0 := 41) (pc' := 10) rfl (hb hby d13_41) (by decide) (by decide) k))) ?_
      rw [show ((1 : Int32) + (1 : Int32)) = (2 : Int32) from by decide +kernel]
      refine own_go (x' := T7.setTop (mkF m 13 #[.val (.ref ao0), .val (.int 0), .val (.ref ao2), .val (.int 0), .val (.int 2)] [(.ref ao0), (.int 2)])) (fun _ k => XS.iload X7.here hx rfl (hb hby d13_10) rfl (XS.aloadN X7.here hx rfl (hb hby d13_12) rfl rfl k)) ?_
      obtain ⟨T11, X11, e11, st11⟩ := getF X7 hx hZ hown (host := "") (Or.inl (own_w hw 26 rfl)) Via.refl e7 F_ao0_width (g := (mkF m 13 #[.val (.ref ao0), .val (.int 0), .val (.ref ao2), .val (.int 0), .val (.int 2)] [(.ref ao0), (.int 2)])) rfl rfl (hb hby d13_13)
      refine own_go (x' := T11.setTop (mkF m 16 #[.val (.ref ao0), .val (.int 0), .val (.ref ao2), .val (.int 0), .val (.int 2)] [(.int 2), (.int 2)])) st11 ?_
      refine own_go (x' := T11.setTop (mkF m 45 #[.val (.ref ao0), .val (.int 0), .val (.ref ao2), .val (.int 0), .val (.int 2)] [(.int 1)])) (fun _ k => XS.icmpYes X11.here hx rfl (pc0 := 16) (pc' := 44) rfl (hb hby d13_16) rfl (flt (Int32.lt_irrefl)).2.1 (by decide) (by decide) (XS.iconst X11.here hx rfl (hb hby d13_44) k)) ?_
      refine own_retN X11 hx hlk (t := .boolean) hret (by simp) (hb hby d13_45) (w := (1 : Int32)) rfl ?_ (by decide) (by decide)
      rw [e11]
      exact ⟨(1 : Int32), Or.inr rfl, rfl, Nf, rfl⟩
    · refine own_go (x' := T7.setTop (mkF m 37 #[.val (.ref ao0), .val (.int 0), .val (.ref ao2), .val (.int 0), .val (.int 1)] [(.int 0)])) (fun _ k => XS.ifNo X7.here hx rfl (hb hby d13_33) rfl ((if0 _ _).trans (feq (fun q_ => hc33_10 ((lw_eq y8' x1).mp q_))).1) (XS.iconst X7.here hx rfl (hb hby d13_36) k)) ?_
      refine own_retN X7 hx hlk (t := .boolean) hret (by simp) (hb hby d13_37) (w := (0 : Int32)) rfl ?_ (by decide) (by decide)
      rw [e7]
      exact ⟨(0 : Int32), Or.inl rfl, rfl, Nf, rfl⟩
  · refine own_go (x' := T3.setTop (mkF m 37 #[.val (.ref ao0), .val (.int 0), .val (.ref ao2), .val (.int 0), .val (.int 0)] [(.int 0)])) (fun _ k => XS.ifNo X3.here hx rfl (hb hby d13_33) rfl ((if0 _ _).trans (feq (fun q_ => hc33 ((lw_eq y4' x0).mp q_))).1) (XS.iconst X3.here hx rfl (hb hby d13_36) k)) ?_
    refine own_retN X3 hx hlk (t := .boolean) hret (by simp) (hb hby d13_37) (w := (0 : Int32)) rfl ?_ (by decide) (by decide)
    rw [e3]
    exact ⟨(0 : Int32), Or.inl rfl, rfl, Nf, rfl⟩
def Q_rm5_3 (Z : State) (ao0 ao1 : Addr) (kx : ClassId) (x0 x1 x2 x3 : Int64) (pt : Addr) (kp : ClassId) (hs : List (Int32 × Value)) (h0 : Heap) (n0 : Nat) (v : Option Value) (h : Heap) (L : List Loc) : Prop := ∃ z : Int32, (¬ z < 0 ∧ z < 32) ∧ v = some (.int z) ∧ Fr n0 L ∧ h = h0
theorem pn_rm5_3 : plainName "com/example/moving_tokens/movingtokens/PartialChoices" = true := by first | (simp [plainName, overriddenIn]; done) | decide +kernel
theorem ef_rm5_3 (m : MethodId) (x0 : Addr) (x1 : Addr) : entryFrame m #[(.ref x0), (.ref x1)] 2 = mkF m 0 #[.val (.ref x0), .val (.ref x1)] [] := by first | (simp [entryFrame, mkF, argsToLocals, Value.category]; done) | rfl
set_option maxRecDepth 65536 in
set_option maxHeartbeats 40000000 in
theorem rm5_3 (l : Launch) (Z : State) (a0 : Array Value) (hw : ∀ d ∈ tables_1, d.before a0 Z = true) (ws : List Jvm.Cond) (ao0 ao1 : Addr) (kx : ClassId) (x0 x1 x2 x3 : Int64) (pt : Addr) (kp : ClassId) (hs : List (Int32 × Value)) (h0 : Heap) (n0 : Nat) (Z0 : n0 ≤ h0.size) (F_ao0_width : Fld Z h0 ao0 "com/example/moving_tokens/movingtokens/PartialChoices" "width" "I" (.int 3)) (F_ao0_slots : Fld Z h0 ao0 "com/example/moving_tokens/movingtokens/PartialChoices" "slots" "[I" (.ref pt)) (V_ao1 : Arv Z h0 ao1 kx .long (4 : Int32) [.long x0, .long x1, .long x2, .long x3] (.long (0 : Int64))) (V_pt : Arh Z h0 pt kp .int (32 : Int32) hs [] (.int (0 : Int32))) :
    MetFree l (⟨"com/example/moving_tokens/movingtokens/PartialChoices", "home", "([J)I"⟩ : MethodName) (head1 (Jvm.Cond.code (⟨"com/example/moving_tokens/movingtokens/PartialChoices", "home", "([J)I"⟩ : MethodName) prog_38_method_9_code 2 (some .int) :: ws) ({ frames := 4, cells := 0, slots := 0, locals := 62 } : Room)) (fun a U => a = #[(.ref ao0), (.ref ao1)] ∧ Z.Warmed39 U.vm ∧ U.heap = h0) (fun _ _ _ _ _ => True) (fun _ U o U' => ∃ v L, o = .returned v ∧ (Q_rm5_3 Z ao0 ao1 kx x0 x1 x2 x3 pt kp hs h0 n0) v U'.heap L ∧ FrameEnd U o U' L ({ frames := 4, cells := 0, slots := 0, locals := 62 } : Room).cells ({ frames := 4, cells := 0, slots := 0, locals := 62 } : Room).slots) := by
  refine MetFree.of_bodySF (plainFor_of_name pn_rm5_3) hisR ?_
  intro p e s m args below meth c s₁ Bd hml0 hP hK
  obtain ⟨rfl, hZ, hh⟩ := hP
  have hx := Bd.exec
  have hby := Bd.bytes
  have hlk := BodyLoose.notSynchronized Bd
  have hret := Bd.returns
  have hml : c.maxLocals = 2 := hml0
  have hown : s.vm.findClass "com/example/moving_tokens/movingtokens/PartialChoices" = some m.cls := findClass_of_methodNamed Bd.named
  have hnm := (name_of_methodNamed Bd.named Bd.method).1
  have X0 : Stand p l e ({ frames := 4, cells := 0, slots := 0, locals := 62 } : Room) s m #[(.ref ao0), (.ref ao1)] below meth c s₁ [] 0 0 := Stand.of_body Bd
  have e0 : s₁.heap = h0 := by rw [← hh, Bd.state]; rfl
  have Nf := Fr.nil n0
  have Zs := Z0
  have Kp : Keep h0 h0 [] := Keep.refl _ _
  show own_End p e below s (Q_rm5_3 Z ao0 ao1 kx x0 x1 x2 x3 pt kp hs h0 n0) ({ frames := 4, cells := 0, slots := 0, locals := 62 } : Room).cells ({ frames := 4, cells := 0, slots := 0, locals := 62 } : Room).slots (s₁.setTop (entryFrame m #[(.ref ao0), (.ref ao1)] 2))
  refine own_go (x' := s₁.setTop (mkF m 0 #[.val (.ref ao0), .val (.ref ao1)] [])) (fun t k => castTop (ef_rm5_3 m ao0 ao1) k) ?_
  refine own_go (x' := s₁.setTop (mkF m 3 #[.val (.ref ao0), .val (.ref ao1)] [(.ref ao0), (.int 0), (.ref ao1)])) (fun _ k => XS.aloadN X0.here hx rfl (hb hby d5_0) rfl rfl (XS.iconst X0.here hx rfl (hb hby d5_1) (XS.aloadN X0.here hx rfl (hb hby d5_2) rfl rfl k))) ?_
  obtain ⟨T1, X1, e1, st1⟩ := getF X0 hx hZ hown (host := "") (Or.inl (own_w hw 26 rfl)) Via.refl e0 F_ao0_width (g := (mkF m 3 #[.val (.ref ao0), .val (.ref ao1)] [(.ref ao0), (.int 0), (.ref ao1)])) rfl rfl (hb hby d5_3)
  refine own_go (x' := T1.setTop (mkF m 6 #[.val (.ref ao0), .val (.ref ao1)] [(.int 3), (.int 0), (.ref ao1)])) st1 ?_
  obtain ⟨_, _, ⟨T2, L2, k2, n2⟩, -, X2, ⟨Lc2, hQ2, l2, y2, z2⟩, st2⟩ := Jvm.LawKit.callS X1 hx (y := (⟨"com/example/moving_tokens/movingtokens/MarkingSet", "hash", "([JII)J"⟩ : MethodName)) hown (mvT hZ (own_w hw 38 rfl)) (mvT hZ (own_w hw 39 rfl)) (mvT hZ (own_w hw 40 rfl)) (mvT hZ (own_w hw 41 rfl)) (by decide) (backOf (W := 0) (rm6_3 l Z a0 hw [] ao1 kx x0 x1 x2 x3 h0 n0 Zs V_ao1) hZ (own_w hw 41 rfl) (own_w hw 40 rfl) (by decide) (by decide)) (g := (mkF m 6 #[.val (.ref ao0), .val (.ref ao1)] [(.int 3), (.int 0), (.ref ao1)])) rfl (by rw [hml]; rfl) (argsL := [(.ref ao1), (.int 0), (.int 3)]) (rest := []) (lenOf pd_2 rfl) rfl (by show 2 * 0 + _ ≤ _; exact Nat.le_of_eq rfl) (hb hby d5_6) (fun _ _ => ⟨rfl, e1, (by decide : 0 + 0 ≤ _), (by decide : 0 + 0 ≤ _)⟩)
  dsimp only [Pt.U, Pt.locs, Pt.cells, Pt.slots] at X2 l2 y2 z2 st2 hQ2
  subst l2 y2 z2
  obtain ⟨z2', hv2, Nq2, eq2⟩ := hQ2
  subst hv2
  replace Nf := Fr.app Nf Nq2
  refine own_go (x' := T2.setTop (mkF m 9 #[.val (.ref ao0), .val (.ref ao1)] [(.long z2')])) st2 ?_
  refine own_go (x' := T2.setTop (mkF m 11 #[.val (.ref ao0), .val (.ref ao1)] [(.ref ao0), (.int (z2'.toInt32))])) (fun _ k => XS.l2i X2.here hx rfl (hb hby d5_9) rfl (XS.aloadN X2.here hx rfl (hb hby d5_10) rfl rfl k)) ?_
  obtain ⟨T3, X3, e3, st3⟩ := getF X2 hx hZ hown (host := "") (Or.inl (own_w hw 17 rfl)) Via.refl eq2 F_ao0_slots (g := (mkF m 11 #[.val (.ref ao0), .val (.ref ao1)] [(.ref ao0), (.int (z2'.toInt32))])) rfl rfl (hb hby d5_11)
  refine own_go (x' := T3.setTop (mkF m 14 #[.val (.ref ao0), .val (.ref ao1)] [(.ref pt), (.int (z2'.toInt32))])) st3 ?_
  obtain ⟨cl4, Ar4, -, Sz4, Nn4, -, -⟩ := id V_pt
  refine own_go (x' := T3.setTop (mkF m 15 #[.val (.ref ao0), .val (.ref ao1)] [(.int 32), (.int (z2'.toInt32))])) (fun t k => X3.arraylength hx (Eq.trans (congrArg (fun h_ => h_[_]?) e3) Ar4.1) (State.isArrayOf_alike hZ.alike Ar4.2.1) (g := (mkF m 14 #[.val (.ref ao0), .val (.ref ao1)] [(.ref pt), (.int (z2'.toInt32))])) rfl rfl (hb hby d5_14) t (by rw [len_of Sz4 Nn4]; exact k)) ?_
  refine own_go (x' := T3.setTop (mkF m 18 #[.val (.ref ao0), .val (.ref ao1)] [(.int ((z2'.toInt32) &&& ((32 : Int32) - (1 : Int32))))])) (fun _ k => XS.iconst X3.here hx rfl (hb hby d5_15) (XS.isub X3.here hx rfl (hb hby d5_16) rfl (XS.iand X3.here hx rfl (hb hby d5_17) rfl k))) ?_
  refine own_retI X3 hx hlk hret (hb hby d5_18) ?_ (by decide) (by decide)
  rw [e3]
  exact ⟨_, own_31 _, rfl, Nf, rfl⟩
def Q_rm13_3 (Z : State) (ao0 ao2 : Addr) (kx : ClassId) (x0 x1 x2 x3 : Int64) (sa : Addr) (ks : ClassId) (sn : Int32) (sv : List Value) (h0 : Heap) (n0 : Nat) (v : Option Value) (h : Heap) (L : List Loc) : Prop := ∃ z : Int32, (z = 0 ∨ z = 1) ∧ v = some (.int z) ∧ Fr n0 L ∧ h = h0
theorem pn_rm13_3 : plainName "com/example/moving_tokens/movingtokens/PartialChoices" = true := by first | (simp [plainName, overriddenIn]; done) | decide +kernel
theorem ef_rm13_3 (m : MethodId) (x0 : Addr) (x1 : Int32) (x2 : Addr) : entryFrame m #[(.ref x0), (.int x1), (.ref x2)] 5 = mkF m 0 #[.val (.ref x0), .val (.int x1), .val (.ref x2), .unset, .unset] [] := by first | (simp [entryFrame, mkF, argsToLocals, Value.category]; done) | rfl
set_option maxRecDepth 65536 in
set_option maxHeartbeats 40000000 in
theorem rm13_3 (l : Launch) (Z : State) (a0 : Array Value) (hw : ∀ d ∈ tables_1, d.before a0 Z = true) (ws : List Jvm.Cond) (ao0 ao2 : Addr) (kx : ClassId) (x0 x1 x2 x3 : Int64) (sa : Addr) (ks : ClassId) (sn : Int32) (sv : List Value) (h0 : Heap) (n0 : Nat) (Z0 : n0 ≤ h0.size) (F_ao0_width : Fld Z h0 ao0 "com/example/moving_tokens/movingtokens/PartialChoices" "width" "I" (.int 3)) (F_ao0_states : Fld Z h0 ao0 "com/example/moving_tokens/movingtokens/PartialChoices" "states" "[J" (.ref sa)) (V_ao2 : Arv Z h0 ao2 kx .long (4 : Int32) [.long x0, .long x1, .long x2, .long x3] (.long (0 : Int64))) (V_sa : Arv Z h0 sa ks .long sn sv (.long (0 : Int64))) (hN : (15 : Int32) < sn) :
    MetFree l (⟨"com/example/moving_tokens/movingtokens/PartialChoices", "holds", "(I[J)Z"⟩ : MethodName) (head1 (Jvm.Cond.code (⟨"com/example/moving_tokens/movingtokens/PartialChoices", "holds", "(I[J)Z"⟩ : MethodName) prog_38_method_11_code 5 (some .boolean) :: ws) ({ frames := 0, cells := 0, slots := 0, locals := 0 } : Room)) (fun a U => a = #[(.ref ao0), (.int 0), (.ref ao2)] ∧ Z.Warmed39 U.vm ∧ U.heap = h0) (fun _ _ _ _ _ => True) (fun _ U o U' => ∃ v L, o = .returned v ∧ (Q_rm13_3 Z ao0 ao2 kx x0 x1 x2 x3 sa ks sn sv h0 n0) v U'.heap L ∧ FrameEnd U o U' L ({ frames := 0, cells := 0, slots := 0, locals := 0 } : Room).cells ({ frames := 0, cells := 0, slots := 0, locals := 0 } : Room).slots) := by
  refine MetFree.of_bodySF (plainFor_of_name pn_rm13_3) hisR ?_
  intro p e s m args below meth c s₁ Bd hml0 hP hK
  obtain ⟨rfl, hZ, hh⟩ := hP
  have hx := Bd.exec
  have hby := Bd.bytes
  have hlk := BodyLoose.notSynchronized Bd
  have hret := Bd.returns
  have hml : c.maxLocals = 5 := hml0
  have hown : s.vm.findClass "com/example/moving_tokens/movingtokens/PartialChoices" = some m.cls := findClass_of_methodNamed Bd.named
  have hnm := (name_of_methodNamed Bd.named Bd.method).1
  have X0 : Stand p l e ({ frames := 0, cells := 0, slots := 0, locals := 0 } : Room) s m #[(.ref ao0), (.int 0), (.ref ao2)] below meth c s₁ [] 0 0 := Stand.of_body Bd
  have e0 : s₁.heap = h0 := by rw [← hh, Bd.state]; rfl
  have Nf := Fr.nil n0
  have Zs := Z0
  have Kp : Keep h0 h0 [] := Keep.refl _ _
  show own_End p e below s (Q_rm13_3 Z ao0 ao2 kx x0 x1 x2 x3 sa ks sn sv h0 n0) ({ frames := 0, cells := 0, slots := 0, locals := 0 } : Room).cells ({ frames := 0, cells := 0, slots := 0, locals := 0 } : Room).slots (s₁.setTop (entryFrame m #[(.ref ao0), (.int 0), (.ref ao2)] 5))
  refine own_go (x' := s₁.setTop (mkF m 0 #[.val (.ref ao0), .val (.int 0), .val (.ref ao2), .unset, .unset] [])) (fun t k => castTop (ef_rm13_3 m ao0 (0 : Int32) ao2) k) ?_
  refine own_go (x' := s₁.setTop (mkF m 2 #[.val (.ref ao0), .val (.int 0), .val (.ref ao2), .unset, .unset] [(.ref ao0), (.int 0)])) (fun _ k => XS.iloadN X0.here hx rfl (hb hby d13_0) rfl (XS.aloadN X0.here hx rfl (hb hby d13_1) rfl rfl k)) ?_
  obtain ⟨T1, X1, e1, st1⟩ := getF X0 hx hZ hown (host := "") (Or.inl (own_w hw 26 rfl)) Via.refl e0 F_ao0_width (g := (mkF m 2 #[.val (.ref ao0), .val (.int 0), .val (.ref ao2), .unset, .unset] [(.ref ao0), (.int 0)])) rfl rfl (hb hby d13_2)
  refine own_go (x' := T1.setTop (mkF m 5 #[.val (.ref ao0), .val (.int 0), .val (.ref ao2), .unset, .unset] [(.int 3), (.int 0)])) st1 ?_
  refine own_go (x' := T1.setTop (mkF m 10 #[.val (.ref ao0), .val (.int 0), .val (.ref ao2), .val (.int ((0 : Int32) * (3 : Int32))), .val (.int 0)] [])) (fun _ k => XS.imul X1.here hx rfl (hb hby d13_5) rfl (XS.istoreN X1.here hx rfl (hb hby d13_6) rfl (l' := #[.val (.ref ao0), .val (.int 0), .val (.ref ao2), .val (.int ((0 : Int32) * (3 : Int32))), .unset]) rfl (XS.iconst X1.here hx rfl (hb hby d13_7) (XS.istore X1.here hx rfl (hb hby d13_8) rfl (l' := #[.val (.ref ao0), .val (.int 0), .val (.ref ao2), .val (.int ((0 : Int32) * (3 : Int32))), .val (.int 0)]) rfl k)))) ?_
  rw [show ((0 : Int32) * (3 : Int32)) = (0 : Int32) from by decide +kernel]
  refine own_go (x' := T1.setTop (mkF m 13 #[.val (.ref ao0), .val (.int 0), .val (.ref ao2), .val (.int 0), .val (.int 0)] [(.ref ao0), (.int 0)])) (fun _ k => XS.iload X1.here hx rfl (hb hby d13_10) rfl (XS.aloadN X1.here hx rfl (hb hby d13_12) rfl rfl k)) ?_
  obtain ⟨T2, X2, e2, st2⟩ := getF X1 hx hZ hown (host := "") (Or.inl (own_w hw 26 rfl)) Via.refl e1 F_ao0_width (g := (mkF m 13 #[.val (.ref ao0), .val (.int 0), .val (.ref ao2), .val (.int 0), .val (.int 0)] [(.ref ao0), (.int 0)])) rfl rfl (hb hby d13_13)
  refine own_go (x' := T2.setTop (mkF m 16 #[.val (.ref ao0), .val (.int 0), .val (.ref ao2), .val (.int 0), .val (.int 0)] [(.int 3), (.int 0)])) st2 ?_
  refine own_go (x' := T2.setTop (mkF m 20 #[.val (.ref ao0), .val (.int 0), .val (.ref ao2), .val (.int 0), .val (.int 0)] [(.ref ao0)])) (fun _ k => XS.icmpNo X2.here hx rfl (hb hby d13_16) rfl (tlt (by decide +kernel : ((0 : Int32) < (3 : Int32)))).2.1 (XS.aloadN X2.here hx rfl (hb hby d13_19) rfl rfl k)) ?_
  obtain ⟨T3, X3, e3, st3⟩ := getF X2 hx hZ hown (host := "") (Or.inl (own_w hw 10 rfl)) Via.refl e2 F_ao0_states (g := (mkF m 20 #[.val (.ref ao0), .val (.int 0), .val (.ref ao2), .val (.int 0), .val (.int 0)] [(.ref ao0)])) rfl rfl (hb hby d13_20)
  refine own_go (x' := T3.setTop (mkF m 23 #[.val (.ref ao0), .val (.int 0), .val (.ref ao2), .val (.int 0), .val (.int 0)] [(.ref sa)])) st3 ?_
  refine own_go (x' := T3.setTop (mkF m 27 #[.val (.ref ao0), .val (.int 0), .val (.ref ao2), .val (.int 0), .val (.int 0)] [(.int ((0 : Int32) + (0 : Int32))), (.ref sa)])) (fun _ k => XS.iloadN X3.here hx rfl (hb hby d13_23) rfl (XS.iload X3.here hx rfl (hb hby d13_24) rfl (XS.iadd X3.here hx rfl (hb hby d13_26) rfl k))) ?_
  rw [show ((0 : Int32) + (0 : Int32)) = (0 : Int32) from by decide +kernel]
  obtain ⟨cl4, Ar4, q4, Sz4, Nn4, Hh4, Gg4⟩ := id V_sa
  have hi4 : ¬ ((0 : Int32) < 0 ∨ cl4.slots.size ≤ ((0 : Int32)).toNatClampNeg) := inb_of Sz4 ⟨by decide, own_15 (by decide) hN⟩
  obtain ⟨y4', hy4⟩ := fit_J (Gg4 _ (Nat.lt_of_not_le fun q => hi4 (Or.inr q)))
  have hin4 : ¬ ((0 : Int32) < 0 ∨ cl4.slots.size ≤ ((0 : Int32)).toNatClampNeg) := inb_of Sz4 ⟨by decide, own_15 (by decide) hN⟩
  refine own_go (x' := T3.setTop (mkF m 28 #[.val (.ref ao0), .val (.int 0), .val (.ref ao2), .val (.int 0), .val (.int 0)] [(.long y4')])) (X3.laload hx (j := (0 : Int32)) (v := (.long y4')) (Eq.trans (congrArg (fun h_ => h_[_]?) e3) Ar4.1) (State.isArrayOf_alike hZ.alike Ar4.2.1) Ar4.2.2 hin4 (Hh4.at hin4 hy4) (g := (mkF m 27 #[.val (.ref ao0), .val (.int 0), .val (.ref ao2), .val (.int 0), .val (.int 0)] [(.int 0), (.ref sa)])) rfl rfl (hb hby d13_27)) ?_
  refine own_go (x' := T3.setTop (mkF m 31 #[.val (.ref ao0), .val (.int 0), .val (.ref ao2), .val (.int 0), .val (.int 0)] [(.int 0), (.ref ao2), (.long y4')])) (fun _ k => XS.aloadN X3.here hx rfl (hb hby d13_28) rfl rfl (XS.iload X3.here hx rfl (hb hby d13_29) rfl k)) ?_
  obtain ⟨cl5, Ar5, q5, Sz5, Nn5, Hh5, Gg5⟩ := id V_ao2
  have hin5 : ¬ ((0 : Int32) < 0 ∨ cl5.slots.size ≤ ((0 : Int32)).toNatClampNeg) := inb_of Sz5 ⟨by decide, by decide⟩
  refine own_go (x' := T3.setTop (mkF m 32 #[.val (.ref ao0), .val (.int 0), .val (.ref ao2), .val (.int 0), .val (.int 0)] [(.long x0), (.long y4')])) (X3.laload hx (j := (0 : Int32)) (v := (.long x0)) (Eq.trans (congrArg (fun h_ => h_[_]?) e3) Ar5.1) (State.isArrayOf_alike hZ.alike Ar5.2.1) Ar5.2.2 hin5 (Hh5.at hin5 rfl) (g := (mkF m 31 #[.val (.ref ao0), .val (.int 0), .val (.ref ao2), .val (.int 0), .val (.int 0)] [(.int 0), (.ref ao2), (.long y4')])) rfl rfl (hb hby d13_31)) ?_
  refine own_go (x' := T3.setTop (mkF m 33 #[.val (.ref ao0), .val (.int 0), .val (.ref ao2), .val (.int 0), .val (.int 0)] [(.int (lcmpW y4' x0))])) (fun _ k => XS.lcmp X3.here hx rfl (hb hby d13_32) rfl k) ?_
  by_cases hc33 : y4' = x0
  · refine own_go (x' := T3.setTop (mkF m 10 #[.val (.ref ao0), .val (.int 0), .val (.ref ao2), .val (.int 0), .val (.int ((0 : Int32) + (1 : Int32)))] [])) (fun _ k => XS.ifYes X3.here hx rfl (pc0 := 33) (pc' := 38) rfl (hb hby d13_33) rfl ((if0 _ _).trans (teq ((lw_eq y4' x0).mpr hc33)).1) (by decide) (by decide) (XS.iinc X3.here hx rfl (hb hby d13_38) rfl (l' := #[.val (.ref ao0), .val (.int 0), .val (.ref ao2), .val (.int 0), .val (.int ((0 : Int32) + (1 : Int32)))]) rfl (XS.goto X3.here hx rfl (pc0 := 41) (pc' := 10) rfl (hb hby d13_41) (by decide) (by decide) k))) ?_
    rw [show ((0 : Int32) + (1 : Int32)) = (1 : Int32) from by decide +kernel]
    refine own_go (x' := T3.setTop (mkF m 13 #[.val (.ref ao0), .val (.int 0), .val (.ref ao2), .val (.int 0), .val (.int 1)] [(.ref ao0), (.int 1)])) (fun _ k => XS.iload X3.here hx rfl (hb hby d13_10) rfl (XS.aloadN X3.here hx rfl (hb hby d13_12) rfl rfl k)) ?_
    obtain ⟨T6, X6, e6, st6⟩ := getF X3 hx hZ hown (host := "") (Or.inl (own_w hw 26 rfl)) Via.refl e3 F_ao0_width (g := (mkF m 13 #[.val (.ref ao0), .val (.int 0), .val (.ref ao2), .val (.int 0), .val (.int 1)] [(.ref ao0), (.int 1)])) rfl rfl (hb hby d13_13)
    refine own_go (x' := T6.setTop (mkF m 16 #[.val (.ref ao0), .val (.int 0), .val (.ref ao2), .val (.int 0), .val (.int 1)] [(.int 3), (.int 1)])) st6 ?_
    refine own_go (x' := T6.setTop (mkF m 20 #[.val (.ref ao0), .val (.int 0), .val (.ref ao2), .val (.int 0), .val (.int 1)] [(.ref ao0)])) (fun _ k => XS.icmpNo X6.here hx rfl (hb hby d13_16) rfl (tlt (by decide +kernel : ((1 : Int32) < (3 : Int32)))).2.1 (XS.aloadN X6.here hx rfl (hb hby d13_19) rfl rfl k)) ?_
    obtain ⟨T7, X7, e7, st7⟩ := getF X6 hx hZ hown (host := "") (Or.inl (own_w hw 10 rfl)) Via.refl e6 F_ao0_states (g := (mkF m 20 #[.val (.ref ao0), .val (.int 0), .val (.ref ao2), .val (.int 0), .val (.int 1)] [(.ref ao0)])) rfl rfl (hb hby d13_20)
    refine own_go (x' := T7.setTop (mkF m 23 #[.val (.ref ao0), .val (.int 0), .val (.ref ao2), .val (.int 0), .val (.int 1)] [(.ref sa)])) st7 ?_
    refine own_go (x' := T7.setTop (mkF m 27 #[.val (.ref ao0), .val (.int 0), .val (.ref ao2), .val (.int 0), .val (.int 1)] [(.int ((0 : Int32) + (1 : Int32))), (.ref sa)])) (fun _ k => XS.iloadN X7.here hx rfl (hb hby d13_23) rfl (XS.iload X7.here hx rfl (hb hby d13_24) rfl (XS.iadd X7.here hx rfl (hb hby d13_26) rfl k))) ?_
    rw [show ((0 : Int32) + (1 : Int32)) = (1 : Int32) from by decide +kernel]
    obtain ⟨cl8, Ar8, q8, Sz8, Nn8, Hh8, Gg8⟩ := id V_sa
    have hi8 : ¬ ((1 : Int32) < 0 ∨ cl8.slots.size ≤ ((1 : Int32)).toNatClampNeg) := inb_of Sz8 ⟨by decide, own_15 (by decide) hN⟩
    obtain ⟨y8', hy8⟩ := fit_J (Gg8 _ (Nat.lt_of_not_le fun q => hi8 (Or.inr q)))
    have hin8 : ¬ ((1 : Int32) < 0 ∨ cl8.slots.size ≤ ((1 : Int32)).toNatClampNeg) := inb_of Sz8 ⟨by decide, own_15 (by decide) hN⟩
    refine own_go (x' := T7.setTop (mkF m 28 #[.val (.ref ao0), .val (.int 0), .val (.ref ao2), .val (.int 0), .val (.int 1)] [(.long y8')])) (X7.laload hx (j := (1 : Int32)) (v := (.long y8')) (Eq.trans (congrArg (fun h_ => h_[_]?) e7) Ar8.1) (State.isArrayOf_alike hZ.alike Ar8.2.1) Ar8.2.2 hin8 (Hh8.at hin8 hy8) (g := (mkF m 27 #[.val (.ref ao0), .val (.int 0), .val (.ref ao2), .val (.int 0), .val (.int 1)] [(.int 1), (.ref sa)])) rfl rfl (hb hby d13_27)) ?_
    refine own_go (x' := T7.setTop (mkF m 31 #[.val (.ref ao0), .val (.int 0), .val (.ref ao2), .val (.int 0), .val (.int 1)] [(.int 1), (.ref ao2), (.long y8')])) (fun _ k => XS.aloadN X7.here hx rfl (hb hby d13_28) rfl rfl (XS.iload X7.here hx rfl (hb hby d13_29) rfl k)) ?_
    obtain ⟨cl9, Ar9, q9, Sz9, Nn9, Hh9, Gg9⟩ := id V_ao2
    have hin9 : ¬ ((1 : Int32) < 0 ∨ cl9.slots.size ≤ ((1 : Int32)).toNatClampNeg) := inb_of Sz9 ⟨by decide, by decide⟩
    refine own_go (x' := T7.setTop (mkF m 32 #[.val (.ref ao0), .val (.int 0), .val (.ref ao2), .val (.int 0), .val (.int 1)] [(.long x1), (.long y8')])) (X7.laload hx (j := (1 : Int32)) (v := (.long x1)) (Eq.trans (congrArg (fun h_ => h_[_]?) e7) Ar9.1) (State.isArrayOf_alike hZ.alike Ar9.2.1) Ar9.2.2 hin9 (Hh9.at hin9 rfl) (g := (mkF m 31 #[.val (.ref ao0), .val (.int 0), .val (.ref ao2), .val (.int 0), .val (.int 1)] [(.int 1), (.ref ao2), (.long y8')])) rfl rfl (hb hby d13_31)) ?_
    refine own_go (x' := T7.setTop (mkF m 33 #[.val (.ref ao0), .val (.int 0), .val (.ref ao2), .val (.int 0), .val (.int 1)] [(.int (lcmpW y8' x1))])) (fun _ k => XS.lcmp X7.here hx rfl (hb hby d13_32) rfl k) ?_
    by_cases hc33_10 : y8' = x1
    · refine own_go (x' := T7.setTop (mkF m 10 #[.val (.ref ao0), .val (.int 0), .val (.ref ao2), .val (.int 0), .val (.int ((1 : Int32) + (1 : Int32)))] [])) (fun _ k => XS.ifYes X7.here hx rfl (pc0 := 33) (pc' := 38) rfl (hb hby d13_33) rfl ((if0 _ _).trans (teq ((lw_eq y8' x1).mpr hc33_10)).1) (by decide) (by decide) (XS.iinc X7.here hx rfl (hb hby d13_38) rfl (l' := #[.val (.ref ao0), .val (.int 0), .val (.ref ao2), .val (.int 0), .val (.int ((1 : Int32) + (1 : Int32)))]) rfl (XS.goto X7.here hx rfl (pc0 := 41) (pc' := 10) rfl (hb hby d13_41) (by decide) (by decide) k))) ?_
      rw [show ((1 : Int32) + (1 : Int32)) = (2 : Int32) from by decide +kernel]
      refine own_go (x' := T7.setTop (mkF m 13 #[.val (.ref ao0), .val (.int 0), .val (.ref ao2), .val (.int 0), .val (.int 2)] [(.ref ao0), (.int 2)])) (fun _ k => XS.iload X7.here hx rfl (hb hby d13_10) rfl (XS.aloadN X7.here hx rfl (hb hby d13_12) rfl rfl k)) ?_
      obtain ⟨T11, X11, e11, st11⟩ := getF X7 hx hZ hown (host := "") (Or.inl (own_w hw 26 rfl)) Via.refl e7 F_ao0_width (g := (mkF m 13 #[.val (.ref ao0), .val (.int 0), .val (.ref ao2), .val (.int 0), .val (.int 2)] [(.ref ao0), (.int 2)])) rfl rfl (hb hby d13_13)
      refine own_go (x' := T11.setTop (mkF m 16 #[.val (.ref ao0), .val (.int 0), .val (.ref ao2), .val (.int 0), .val (.int 2)] [(.int 3), (.int 2)])) st11 ?_
      refine own_go (x' := T11.setTop (mkF m 20 #[.val (.ref ao0), .val (.int 0), .val (.ref ao2), .val (.int 0), .val (.int 2)] [(.ref ao0)])) (fun _ k => XS.icmpNo X11.here hx rfl (hb hby d13_16) rfl (tlt (by decide +kernel : ((2 : Int32) < (3 : Int32)))).2.1 (XS.aloadN X11.here hx rfl (hb hby d13_19) rfl rfl k)) ?_
      obtain ⟨T12, X12, e12, st12⟩ := getF X11 hx hZ hown (host := "") (Or.inl (own_w hw 10 rfl)) Via.refl e11 F_ao0_states (g := (mkF m 20 #[.val (.ref ao0), .val (.int 0), .val (.ref ao2), .val (.int 0), .val (.int 2)] [(.ref ao0)])) rfl rfl (hb hby d13_20)
      refine own_go (x' := T12.setTop (mkF m 23 #[.val (.ref ao0), .val (.int 0), .val (.ref ao2), .val (.int 0), .val (.int 2)] [(.ref sa)])) st12 ?_
      refine own_go (x' := T12.setTop (mkF m 27 #[.val (.ref ao0), .val (.int 0), .val (.ref ao2), .val (.int 0), .val (.int 2)] [(.int ((0 : Int32) + (2 : Int32))), (.ref sa)])) (fun _ k => XS.iloadN X12.here hx rfl (hb hby d13_23) rfl (XS.iload X12.here hx rfl (hb hby d13_24) rfl (XS.iadd X12.here hx rfl (hb hby d13_26) rfl k))) ?_
      rw [show ((0 : Int32) + (2 : Int32)) = (2 : Int32) from by decide +kernel]
      obtain ⟨cl13, Ar13, q13, Sz13, Nn13, Hh13, Gg13⟩ := id V_sa
      have hi13 : ¬ ((2 : Int32) < 0 ∨ cl13.slots.size ≤ ((2 : Int32)).toNatClampNeg) := inb_of Sz13 ⟨by decide, own_15 (by decide) hN⟩
      obtain ⟨y13', hy13⟩ := fit_J (Gg13 _ (Nat.lt_of_not_le fun q => hi13 (Or.inr q)))
      have hin13 : ¬ ((2 : Int32) < 0 ∨ cl13.slots.size ≤ ((2 : Int32)).toNatClampNeg) := inb_of Sz13 ⟨by decide, own_15 (by decide) hN⟩
      refine own_go (x' := T12.setTop (mkF m 28 #[.val (.ref ao0), .val (.int 0), .val (.ref ao2), .val (.int 0), .val (.int 2)] [(.long y13')])) (X12.laload hx (j := (2 : Int32)) (v := (.long y13')) (Eq.trans (congrArg (fun h_ => h_[_]?) e12) Ar13.1) (State.isArrayOf_alike hZ.alike Ar13.2.1) Ar13.2.2 hin13 (Hh13.at hin13 hy13) (g := (mkF m 27 #[.val (.ref ao0), .val (.int 0), .val (.ref ao2), .val (.int 0), .val (.int 2)] [(.int 2), (.ref sa)])) rfl rfl (hb hby d13_27)) ?_
      refine own_go (x' := T12.setTop (mkF m 31 #[.val (.ref ao0), .val (.int 0), .val (.ref ao2), .val (.int 0), .val (.int 2)] [(.int 2), (.ref ao2), (.long y13')])) (fun _ k => XS.aloadN X12.here hx rfl (hb hby d13_28) rfl rfl (XS.iload X12.here hx rfl (hb hby d13_29) rfl k)) ?_
      obtain ⟨cl14, Ar14, q14, Sz14, Nn14, Hh14, Gg14⟩ := id V_ao2
      have hin14 : ¬ ((2 : Int32) < 0 ∨ cl14.slots.size ≤ ((2 : Int32)).toNatClampNeg) := inb_of Sz14 ⟨by decide, by decide⟩
      refine own_go (x' := T12.setTop (mkF m 32 #[.val (.ref ao0), .val (.int 0), .val (.ref ao2), .val (.int 0), .val (.int 2)] [(.long x2), (.long y13')])) (X12.laload hx (j := (2 : Int32)) (v := (.long x2)) (Eq.trans (congrArg (fun h_ => h_[_]?) e12) Ar14.1) (State.isArrayOf_alike hZ.alike Ar14.2.1) Ar14.2.2 hin14 (Hh14.at hin14 rfl) (g := (mkF m 31 #[.val (.ref ao0), .val (.int 0), .val (.ref ao2), .val (.int 0), .val (.int 2)] [(.int 2), (.ref ao2), (.long y13')])) rfl rfl (hb hby d13_31)) ?_
      refine own_go (x' := T12.setTop (mkF m 33 #[.val (.ref ao0), .val (.int 0), .val (.ref ao2), .val (.int 0), .val (.int 2)] [(.int (lcmpW y13' x2))])) (fun _ k => XS.lcmp X12.here hx rfl (hb hby d13_32) rfl k) ?_
      by_cases hc33_15 : y13' = x2
      · refine own_go (x' := T12.setTop (mkF m 10 #[.val (.ref ao0), .val (.int 0), .val (.ref ao2), .val (.int 0), .val (.int ((2 : Int32) + (1 : Int32)))] [])) (fun _ k => XS.ifYes X12.here hx rfl (pc0 := 33) (pc' := 38) rfl (hb hby d13_33) rfl ((if0 _ _).trans (teq ((lw_eq y13' x2).mpr hc33_15)).1) (by decide) (by decide) (XS.iinc X12.here hx rfl (hb hby d13_38) rfl (l' := #[.val (.ref ao0), .val (.int 0), .val (.ref ao2), .val (.int 0), .val (.int ((2 : Int32) + (1 : Int32)))]) rfl (XS.goto X12.here hx rfl (pc0 := 41) (pc' := 10) rfl (hb hby d13_41) (by decide) (by decide) k))) ?_
        rw [show ((2 : Int32) + (1 : Int32)) = (3 : Int32) from by decide +kernel]
        refine own_go (x' := T12.setTop (mkF m 13 #[.val (.ref ao0), .val (.int 0), .val (.ref ao2), .val (.int 0), .val (.int 3)] [(.ref ao0), (.int 3)])) (fun _ k => XS.iload X12.here hx rfl (hb hby d13_10) rfl (XS.aloadN X12.here hx rfl (hb hby d13_12) rfl rfl k)) ?_
        obtain ⟨T16, X16, e16, st16⟩ := getF X12 hx hZ hown (host := "") (Or.inl (own_w hw 26 rfl)) Via.refl e12 F_ao0_width (g := (mkF m 13 #[.val (.ref ao0), .val (.int 0), .val (.ref ao2), .val (.int 0), .val (.int 3)] [(.ref ao0), (.int 3)])) rfl rfl (hb hby d13_13)
        refine own_go (x' := T16.setTop (mkF m 16 #[.val (.ref ao0), .val (.int 0), .val (.ref ao2), .val (.int 0), .val (.int 3)] [(.int 3), (.int 3)])) st16 ?_
        refine own_go (x' := T16.setTop (mkF m 45 #[.val (.ref ao0), .val (.int 0), .val (.ref ao2), .val (.int 0), .val (.int 3)] [(.int 1)])) (fun _ k => XS.icmpYes X16.here hx rfl (pc0 := 16) (pc' := 44) rfl (hb hby d13_16) rfl (flt (Int32.lt_irrefl)).2.1 (by decide) (by decide) (XS.iconst X16.here hx rfl (hb hby d13_44) k)) ?_
        refine own_retN X16 hx hlk (t := .boolean) hret (by simp) (hb hby d13_45) (w := (1 : Int32)) rfl ?_ (by decide) (by decide)
        rw [e16]
        exact ⟨(1 : Int32), Or.inr rfl, rfl, Nf, rfl⟩
      · refine own_go (x' := T12.setTop (mkF m 37 #[.val (.ref ao0), .val (.int 0), .val (.ref ao2), .val (.int 0), .val (.int 2)] [(.int 0)])) (fun _ k => XS.ifNo X12.here hx rfl (hb hby d13_33) rfl ((if0 _ _).trans (feq (fun q_ => hc33_15 ((lw_eq y13' x2).mp q_))).1) (XS.iconst X12.here hx rfl (hb hby d13_36) k)) ?_
        refine own_retN X12 hx hlk (t := .boolean) hret (by simp) (hb hby d13_37) (w := (0 : Int32)) rfl ?_ (by decide) (by decide)
        rw [e12]
        exact ⟨(0 : Int32), Or.inl rfl, rfl, Nf, rfl⟩
    · refine own_go (x' := T7.setTop (mkF m 37 #[.val (.ref ao0), .val (.int 0), .val (.ref ao2), .val (.int 0), .val (.int 1)] [(.int 0)])) (fun _ k => XS.ifNo X7.here hx rfl (hb hby d13_33) rfl ((if0 _ _).trans (feq (fun q_ => hc33_10 ((lw_eq y8' x1).mp q_))).1) (XS.iconst X7.here hx rfl (hb hby d13_36) k)) ?_
      refine own_retN X7 hx hlk (t := .boolean) hret (by simp) (hb hby d13_37) (w := (0 : Int32)) rfl ?_ (by decide) (by decide)
      rw [e7]
      exact ⟨(0 : Int32), Or.inl rfl, rfl, Nf, rfl⟩
  · refine own_go (x' := T3.setTop (mkF m 37 #[.val (.ref ao0), .val (.int 0), .val (.ref ao2), .val (.int 0), .val (.int 0)] [(.int 0)])) (fun _ k => XS.ifNo X3.here hx rfl (hb hby d13_33) rfl ((if0 _ _).trans (feq (fun q_ => hc33 ((lw_eq y4' x0).mp q_))).1) (XS.iconst X3.here hx rfl (hb hby d13_36) k)) ?_
    refine own_retN X3 hx hlk (t := .boolean) hret (by simp) (hb hby d13_37) (w := (0 : Int32)) rfl ?_ (by decide) (by decide)
    rw [e3]
    exact ⟨(0 : Int32), Or.inl rfl, rfl, Nf, rfl⟩
def Q_rm5_4 (Z : State) (ao0 ao1 : Addr) (kx : ClassId) (x0 x1 x2 x3 : Int64) (pt : Addr) (kp : ClassId) (hs : List (Int32 × Value)) (h0 : Heap) (n0 : Nat) (v : Option Value) (h : Heap) (L : List Loc) : Prop := ∃ z : Int32, (¬ z < 0 ∧ z < 32) ∧ v = some (.int z) ∧ Fr n0 L ∧ h = h0
theorem pn_rm5_4 : plainName "com/example/moving_tokens/movingtokens/PartialChoices" = true := by first | (simp [plainName, overriddenIn]; done) | decide +kernel
theorem ef_rm5_4 (m : MethodId) (x0 : Addr) (x1 : Addr) : entryFrame m #[(.ref x0), (.ref x1)] 2 = mkF m 0 #[.val (.ref x0), .val (.ref x1)] [] := by first | (simp [entryFrame, mkF, argsToLocals, Value.category]; done) | rfl
set_option maxRecDepth 65536 in
set_option maxHeartbeats 40000000 in
theorem rm5_4 (l : Launch) (Z : State) (a0 : Array Value) (hw : ∀ d ∈ tables_1, d.before a0 Z = true) (ws : List Jvm.Cond) (ao0 ao1 : Addr) (kx : ClassId) (x0 x1 x2 x3 : Int64) (pt : Addr) (kp : ClassId) (hs : List (Int32 × Value)) (h0 : Heap) (n0 : Nat) (Z0 : n0 ≤ h0.size) (F_ao0_width : Fld Z h0 ao0 "com/example/moving_tokens/movingtokens/PartialChoices" "width" "I" (.int 4)) (F_ao0_slots : Fld Z h0 ao0 "com/example/moving_tokens/movingtokens/PartialChoices" "slots" "[I" (.ref pt)) (V_ao1 : Arv Z h0 ao1 kx .long (4 : Int32) [.long x0, .long x1, .long x2, .long x3] (.long (0 : Int64))) (V_pt : Arh Z h0 pt kp .int (32 : Int32) hs [] (.int (0 : Int32))) :
    MetFree l (⟨"com/example/moving_tokens/movingtokens/PartialChoices", "home", "([J)I"⟩ : MethodName) (head1 (Jvm.Cond.code (⟨"com/example/moving_tokens/movingtokens/PartialChoices", "home", "([J)I"⟩ : MethodName) prog_38_method_9_code 2 (some .int) :: ws) ({ frames := 4, cells := 0, slots := 0, locals := 62 } : Room)) (fun a U => a = #[(.ref ao0), (.ref ao1)] ∧ Z.Warmed39 U.vm ∧ U.heap = h0) (fun _ _ _ _ _ => True) (fun _ U o U' => ∃ v L, o = .returned v ∧ (Q_rm5_4 Z ao0 ao1 kx x0 x1 x2 x3 pt kp hs h0 n0) v U'.heap L ∧ FrameEnd U o U' L ({ frames := 4, cells := 0, slots := 0, locals := 62 } : Room).cells ({ frames := 4, cells := 0, slots := 0, locals := 62 } : Room).slots) := by
  refine MetFree.of_bodySF (plainFor_of_name pn_rm5_4) hisR ?_
  intro p e s m args below meth c s₁ Bd hml0 hP hK
  obtain ⟨rfl, hZ, hh⟩ := hP
  have hx := Bd.exec
  have hby := Bd.bytes
  have hlk := BodyLoose.notSynchronized Bd
  have hret := Bd.returns
  have hml : c.maxLocals = 2 := hml0
  have hown : s.vm.findClass "com/example/moving_tokens/movingtokens/PartialChoices" = some m.cls := findClass_of_methodNamed Bd.named
  have hnm := (name_of_methodNamed Bd.named Bd.method).1
  have X0 : Stand p l e ({ frames := 4, cells := 0, slots := 0, locals := 62 } : Room) s m #[(.ref ao0), (.ref ao1)] below meth c s₁ [] 0 0 := Stand.of_body Bd
  have e0 : s₁.heap = h0 := by rw [← hh, Bd.state]; rfl
  have Nf := Fr.nil n0
  have Zs := Z0
  have Kp : Keep h0 h0 [] := Keep.refl _ _
  show own_End p e below s (Q_rm5_4 Z ao0 ao1 kx x0 x1 x2 x3 pt kp hs h0 n0) ({ frames := 4, cells := 0, slots := 0, locals := 62 } : Room).cells ({ frames := 4, cells := 0, slots := 0, locals := 62 } : Room).slots (s₁.setTop (entryFrame m #[(.ref ao0), (.ref ao1)] 2))
  refine own_go (x' := s₁.setTop (mkF m 0 #[.val (.ref ao0), .val (.ref ao1)] [])) (fun t k => castTop (ef_rm5_4 m ao0 ao1) k) ?_
  refine own_go (x' := s₁.setTop (mkF m 3 #[.val (.ref ao0), .val (.ref ao1)] [(.ref ao0), (.int 0), (.ref ao1)])) (fun _ k => XS.aloadN X0.here hx rfl (hb hby d5_0) rfl rfl (XS.iconst X0.here hx rfl (hb hby d5_1) (XS.aloadN X0.here hx rfl (hb hby d5_2) rfl rfl k))) ?_
  obtain ⟨T1, X1, e1, st1⟩ := getF X0 hx hZ hown (host := "") (Or.inl (own_w hw 26 rfl)) Via.refl e0 F_ao0_width (g := (mkF m 3 #[.val (.ref ao0), .val (.ref ao1)] [(.ref ao0), (.int 0), (.ref ao1)])) rfl rfl (hb hby d5_3)
  refine own_go (x' := T1.setTop (mkF m 6 #[.val (.ref ao0), .val (.ref ao1)] [(.int 4), (.int 0), (.ref ao1)])) st1 ?_
  obtain ⟨_, _, ⟨T2, L2, k2, n2⟩, -, X2, ⟨Lc2, hQ2, l2, y2, z2⟩, st2⟩ := Jvm.LawKit.callS X1 hx (y := (⟨"com/example/moving_tokens/movingtokens/MarkingSet", "hash", "([JII)J"⟩ : MethodName)) hown (mvT hZ (own_w hw 38 rfl)) (mvT hZ (own_w hw 39 rfl)) (mvT hZ (own_w hw 40 rfl)) (mvT hZ (own_w hw 41 rfl)) (by decide) (backOf (W := 0) (rm6_4 l Z a0 hw [] ao1 kx x0 x1 x2 x3 h0 n0 Zs V_ao1) hZ (own_w hw 41 rfl) (own_w hw 40 rfl) (by decide) (by decide)) (g := (mkF m 6 #[.val (.ref ao0), .val (.ref ao1)] [(.int 4), (.int 0), (.ref ao1)])) rfl (by rw [hml]; rfl) (argsL := [(.ref ao1), (.int 0), (.int 4)]) (rest := []) (lenOf pd_2 rfl) rfl (by show 2 * 0 + _ ≤ _; exact Nat.le_of_eq rfl) (hb hby d5_6) (fun _ _ => ⟨rfl, e1, (by decide : 0 + 0 ≤ _), (by decide : 0 + 0 ≤ _)⟩)
  dsimp only [Pt.U, Pt.locs, Pt.cells, Pt.slots] at X2 l2 y2 z2 st2 hQ2
  subst l2 y2 z2
  obtain ⟨z2', hv2, Nq2, eq2⟩ := hQ2
  subst hv2
  replace Nf := Fr.app Nf Nq2
  refine own_go (x' := T2.setTop (mkF m 9 #[.val (.ref ao0), .val (.ref ao1)] [(.long z2')])) st2 ?_
  refine own_go (x' := T2.setTop (mkF m 11 #[.val (.ref ao0), .val (.ref ao1)] [(.ref ao0), (.int (z2'.toInt32))])) (fun _ k => XS.l2i X2.here hx rfl (hb hby d5_9) rfl (XS.aloadN X2.here hx rfl (hb hby d5_10) rfl rfl k)) ?_
  obtain ⟨T3, X3, e3, st3⟩ := getF X2 hx hZ hown (host := "") (Or.inl (own_w hw 17 rfl)) Via.refl eq2 F_ao0_slots (g := (mkF m 11 #[.val (.ref ao0), .val (.ref ao1)] [(.ref ao0), (.int (z2'.toInt32))])) rfl rfl (hb hby d5_11)
  refine own_go (x' := T3.setTop (mkF m 14 #[.val (.ref ao0), .val (.ref ao1)] [(.ref pt), (.int (z2'.toInt32))])) st3 ?_
  obtain ⟨cl4, Ar4, -, Sz4, Nn4, -, -⟩ := id V_pt
  refine own_go (x' := T3.setTop (mkF m 15 #[.val (.ref ao0), .val (.ref ao1)] [(.int 32), (.int (z2'.toInt32))])) (fun t k => X3.arraylength hx (Eq.trans (congrArg (fun h_ => h_[_]?) e3) Ar4.1) (State.isArrayOf_alike hZ.alike Ar4.2.1) (g := (mkF m 14 #[.val (.ref ao0), .val (.ref ao1)] [(.ref pt), (.int (z2'.toInt32))])) rfl rfl (hb hby d5_14) t (by rw [len_of Sz4 Nn4]; exact k)) ?_
  refine own_go (x' := T3.setTop (mkF m 18 #[.val (.ref ao0), .val (.ref ao1)] [(.int ((z2'.toInt32) &&& ((32 : Int32) - (1 : Int32))))])) (fun _ k => XS.iconst X3.here hx rfl (hb hby d5_15) (XS.isub X3.here hx rfl (hb hby d5_16) rfl (XS.iand X3.here hx rfl (hb hby d5_17) rfl k))) ?_
  refine own_retI X3 hx hlk hret (hb hby d5_18) ?_ (by decide) (by decide)
  rw [e3]
  exact ⟨_, own_31 _, rfl, Nf, rfl⟩
def Q_rm13_4 (Z : State) (ao0 ao2 : Addr) (kx : ClassId) (x0 x1 x2 x3 : Int64) (sa : Addr) (ks : ClassId) (sn : Int32) (sv : List Value) (h0 : Heap) (n0 : Nat) (v : Option Value) (h : Heap) (L : List Loc) : Prop := ∃ z : Int32, (z = 0 ∨ z = 1) ∧ v = some (.int z) ∧ Fr n0 L ∧ h = h0
theorem pn_rm13_4 : plainName "com/example/moving_tokens/movingtokens/PartialChoices" = true := by first | (simp [plainName, overriddenIn]; done) | decide +kernel
theorem ef_rm13_4 (m : MethodId) (x0 : Addr) (x1 : Int32) (x2 : Addr) : entryFrame m #[(.ref x0), (.int x1), (.ref x2)] 5 = mkF m 0 #[.val (.ref x0), .val (.int x1), .val (.ref x2), .unset, .unset] [] := by first | (simp [entryFrame, mkF, argsToLocals, Value.category]; done) | rfl
set_option maxRecDepth 65536 in
set_option maxHeartbeats 40000000 in
theorem rm13_4 (l : Launch) (Z : State) (a0 : Array Value) (hw : ∀ d ∈ tables_1, d.before a0 Z = true) (ws : List Jvm.Cond) (ao0 ao2 : Addr) (kx : ClassId) (x0 x1 x2 x3 : Int64) (sa : Addr) (ks : ClassId) (sn : Int32) (sv : List Value) (h0 : Heap) (n0 : Nat) (Z0 : n0 ≤ h0.size) (F_ao0_width : Fld Z h0 ao0 "com/example/moving_tokens/movingtokens/PartialChoices" "width" "I" (.int 4)) (F_ao0_states : Fld Z h0 ao0 "com/example/moving_tokens/movingtokens/PartialChoices" "states" "[J" (.ref sa)) (V_ao2 : Arv Z h0 ao2 kx .long (4 : Int32) [.long x0, .long x1, .long x2, .long x3] (.long (0 : Int64))) (V_sa : Arv Z h0 sa ks .long sn sv (.long (0 : Int64))) (hN : (15 : Int32) < sn) :
    MetFree l (⟨"com/example/moving_tokens/movingtokens/PartialChoices", "holds", "(I[J)Z"⟩ : MethodName) (head1 (Jvm.Cond.code (⟨"com/example/moving_tokens/movingtokens/PartialChoices", "holds", "(I[J)Z"⟩ : MethodName) prog_38_method_11_code 5 (some .boolean) :: ws) ({ frames := 0, cells := 0, slots := 0, locals := 0 } : Room)) (fun a U => a = #[(.ref ao0), (.int 0), (.ref ao2)] ∧ Z.Warmed39 U.vm ∧ U.heap = h0) (fun _ _ _ _ _ => True) (fun _ U o U' => ∃ v L, o = .returned v ∧ (Q_rm13_4 Z ao0 ao2 kx x0 x1 x2 x3 sa ks sn sv h0 n0) v U'.heap L ∧ FrameEnd U o U' L ({ frames := 0, cells := 0, slots := 0, locals := 0 } : Room).cells ({ frames := 0, cells := 0, slots := 0, locals := 0 } : Room).slots) := by
  refine MetFree.of_bodySF (plainFor_of_name pn_rm13_4) hisR ?_
  intro p e s m args below meth c s₁ Bd hml0 hP hK
  obtain ⟨rfl, hZ, hh⟩ := hP
  have hx := Bd.exec
  have hby := Bd.bytes
  have hlk := BodyLoose.notSynchronized Bd
  have hret := Bd.returns
  have hml : c.maxLocals = 5 := hml0
  have hown : s.vm.findClass "com/example/moving_tokens/movingtokens/PartialChoices" = some m.cls := findClass_of_methodNamed Bd.named
  have hnm := (name_of_methodNamed Bd.named Bd.method).1
  have X0 : Stand p l e ({ frames := 0, cells := 0, slots := 0, locals := 0 } : Room) s m #[(.ref ao0), (.int 0), (.ref ao2)] below meth c s₁ [] 0 0 := Stand.of_body Bd
  have e0 : s₁.heap = h0 := by rw [← hh, Bd.state]; rfl
  have Nf := Fr.nil n0
  have Zs := Z0
  have Kp : Keep h0 h0 [] := Keep.refl _ _
  show own_End p e below s (Q_rm13_4 Z ao0 ao2 kx x0 x1 x2 x3 sa ks sn sv h0 n0) ({ frames := 0, cells := 0, slots := 0, locals := 0 } : Room).cells ({ frames := 0, cells := 0, slots := 0, locals := 0 } : Room).slots (s₁.setTop (entryFrame m #[(.ref ao0), (.int 0), (.ref ao2)] 5))
  refine own_go (x' := s₁.setTop (mkF m 0 #[.val (.ref ao0), .val (.int 0), .val (.ref ao2), .unset, .unset] [])) (fun t k => castTop (ef_rm13_4 m ao0 (0 : Int32) ao2) k) ?_
  refine own_go (x' := s₁.setTop (mkF m 2 #[.val (.ref ao0), .val (.int 0), .val (.ref ao2), .unset, .unset] [(.ref ao0), (.int 0)])) (fun _ k => XS.iloadN X0.here hx rfl (hb hby d13_0) rfl (XS.aloadN X0.here hx rfl (hb hby d13_1) rfl rfl k)) ?_
  obtain ⟨T1, X1, e1, st1⟩ := getF X0 hx hZ hown (host := "") (Or.inl (own_w hw 26 rfl)) Via.refl e0 F_ao0_width (g := (mkF m 2 #[.val (.ref ao0), .val (.int 0), .val (.ref ao2), .unset, .unset] [(.ref ao0), (.int 0)])) rfl rfl (hb hby d13_2)
  refine own_go (x' := T1.setTop (mkF m 5 #[.val (.ref ao0), .val (.int 0), .val (.ref ao2), .unset, .unset] [(.int 4), (.int 0)])) st1 ?_
  refine own_go (x' := T1.setTop (mkF m 10 #[.val (.ref ao0), .val (.int 0), .val (.ref ao2), .val (.int ((0 : Int32) * (4 : Int32))), .val (.int 0)] [])) (fun _ k => XS.imul X1.here hx rfl (hb hby d13_5) rfl (XS.istoreN X1.here hx rfl (hb hby d13_6) rfl (l' := #[.val (.ref ao0), .val (.int 0), .val (.ref ao2), .val (.int ((0 : Int32) * (4 : Int32))), .unset]) rfl (XS.iconst X1.here hx rfl (hb hby d13_7) (XS.istore X1.here hx rfl (hb hby d13_8) rfl (l' := #[.val (.ref ao0), .val (.int 0), .val (.ref ao2), .val (.int ((0 : Int32) * (4 : Int32))), .val (.int 0)]) rfl k)))) ?_
  rw [show ((0 : Int32) * (4 : Int32)) = (0 : Int32) from by decide +kernel]
  refine own_go (x' := T1.setTop (mkF m 13 #[.val (.ref ao0), .val (.int 0), .val (.ref ao2), .val (.int 0), .val (.int 0)] [(.ref ao0), (.int 0)])) (fun _ k => XS.iload X1.here hx rfl (hb hby d13_10) rfl (XS.aloadN X1.here hx rfl (hb hby d13_12) rfl rfl k)) ?_
  obtain ⟨T2, X2, e2, st2⟩ := getF X1 hx hZ hown (host := "") (Or.inl (own_w hw 26 rfl)) Via.refl e1 F_ao0_width (g := (mkF m 13 #[.val (.ref ao0), .val (.int 0), .val (.ref ao2), .val (.int 0), .val (.int 0)] [(.ref ao0), (.int 0)])) rfl rfl (hb hby d13_13)
  refine own_go (x' := T2.setTop (mkF m 16 #[.val (.ref ao0), .val (.int 0), .val (.ref ao2), .val (.int 0), .val (.int 0)] [(.int 4), (.int 0)])) st2 ?_
  refine own_go (x' := T2.setTop (mkF m 20 #[.val (.ref ao0), .val (.int 0), .val (.ref ao2), .val (.int 0), .val (.int 0)] [(.ref ao0)])) (fun _ k => XS.icmpNo X2.here hx rfl (hb hby d13_16) rfl (tlt (by decide +kernel : ((0 : Int32) < (4 : Int32)))).2.1 (XS.aloadN X2.here hx rfl (hb hby d13_19) rfl rfl k)) ?_
  obtain ⟨T3, X3, e3, st3⟩ := getF X2 hx hZ hown (host := "") (Or.inl (own_w hw 10 rfl)) Via.refl e2 F_ao0_states (g := (mkF m 20 #[.val (.ref ao0), .val (.int 0), .val (.ref ao2), .val (.int 0), .val (.int 0)] [(.ref ao0)])) rfl rfl (hb hby d13_20)
  refine own_go (x' := T3.setTop (mkF m 23 #[.val (.ref ao0), .val (.int 0), .val (.ref ao2), .val (.int 0), .val (.int 0)] [(.ref sa)])) st3 ?_
  refine own_go (x' := T3.setTop (mkF m 27 #[.val (.ref ao0), .val (.int 0), .val (.ref ao2), .val (.int 0), .val (.int 0)] [(.int ((0 : Int32) + (0 : Int32))), (.ref sa)])) (fun _ k => XS.iloadN X3.here hx rfl (hb hby d13_23) rfl (XS.iload X3.here hx rfl (hb hby d13_24) rfl (XS.iadd X3.here hx rfl (hb hby d13_26) rfl k))) ?_
  rw [show ((0 : Int32) + (0 : Int32)) = (0 : Int32) from by decide +kernel]
  obtain ⟨cl4, Ar4, q4, Sz4, Nn4, Hh4, Gg4⟩ := id V_sa
  have hi4 : ¬ ((0 : Int32) < 0 ∨ cl4.slots.size ≤ ((0 : Int32)).toNatClampNeg) := inb_of Sz4 ⟨by decide, own_15 (by decide) hN⟩
  obtain ⟨y4', hy4⟩ := fit_J (Gg4 _ (Nat.lt_of_not_le fun q => hi4 (Or.inr q)))
  have hin4 : ¬ ((0 : Int32) < 0 ∨ cl4.slots.size ≤ ((0 : Int32)).toNatClampNeg) := inb_of Sz4 ⟨by decide, own_15 (by decide) hN⟩
  refine own_go (x' := T3.setTop (mkF m 28 #[.val (.ref ao0), .val (.int 0), .val (.ref ao2), .val (.int 0), .val (.int 0)] [(.long y4')])) (X3.laload hx (j := (0 : Int32)) (v := (.long y4')) (Eq.trans (congrArg (fun h_ => h_[_]?) e3) Ar4.1) (State.isArrayOf_alike hZ.alike Ar4.2.1) Ar4.2.2 hin4 (Hh4.at hin4 hy4) (g := (mkF m 27 #[.val (.ref ao0), .val (.int 0), .val (.ref ao2), .val (.int 0), .val (.int 0)] [(.int 0), (.ref sa)])) rfl rfl (hb hby d13_27)) ?_
  refine own_go (x' := T3.setTop (mkF m 31 #[.val (.ref ao0), .val (.int 0), .val (.ref ao2), .val (.int 0), .val (.int 0)] [(.int 0), (.ref ao2), (.long y4')])) (fun _ k => XS.aloadN X3.here hx rfl (hb hby d13_28) rfl rfl (XS.iload X3.here hx rfl (hb hby d13_29) rfl k)) ?_
  obtain ⟨cl5, Ar5, q5, Sz5, Nn5, Hh5, Gg5⟩ := id V_ao2
  have hin5 : ¬ ((0 : Int32) < 0 ∨ cl5.slots.size ≤ ((0 : Int32)).toNatClampNeg) := inb_of Sz5 ⟨by decide, by decide⟩
  refine own_go (x' := T3.setTop (mkF m 32 #[.val (.ref ao0), .val (.int 0), .val (.ref ao2), .val (.int 0), .val (.int 0)] [(.long x0), (.long y4')])) (X3.laload hx (j := (0 : Int32)) (v := (.long x0)) (Eq.trans (congrArg (fun h_ => h_[_]?) e3) Ar5.1) (State.isArrayOf_alike hZ.alike Ar5.2.1) Ar5.2.2 hin5 (Hh5.at hin5 rfl) (g := (mkF m 31 #[.val (.ref ao0), .val (.int 0), .val (.ref ao2), .val (.int 0), .val (.int 0)] [(.int 0), (.ref ao2), (.long y4')])) rfl rfl (hb hby d13_31)) ?_
  refine own_go (x' := T3.setTop (mkF m 33 #[.val (.ref ao0), .val (.int 0), .val (.ref ao2), .val (.int 0), .val (.int 0)] [(.int (lcmpW y4' x0))])) (fun _ k => XS.lcmp X3.here hx rfl (hb hby d13_32) rfl k) ?_
  by_cases hc33 : y4' = x0
  · refine own_go (x' := T3.setTop (mkF m 10 #[.val (.ref ao0), .val (.int 0), .val (.ref ao2), .val (.int 0), .val (.int ((0 : Int32) + (1 : Int32)))] [])) (fun _ k => XS.ifYes X3.here hx rfl (pc0 := 33) (pc' := 38) rfl (hb hby d13_33) rfl ((if0 _ _).trans (teq ((lw_eq y4' x0).mpr hc33)).1) (by decide) (by decide) (XS.iinc X3.here hx rfl (hb hby d13_38) rfl (l' := #[.val (.ref ao0), .val (.int 0), .val (.ref ao2), .val (.int 0), .val (.int ((0 : Int32) + (1 : Int32)))]) rfl (XS.goto X3.here hx rfl (pc0 := 41) (pc' := 10) rfl (hb hby d13_41) (by decide) (by decide) k))) ?_
    rw [show ((0 : Int32) + (1 : Int32)) = (1 : Int32) from by decide +kernel]
    refine own_go (x' := T3.setTop (mkF m 13 #[.val (.ref ao0), .val (.int 0), .val (.ref ao2), .val (.int 0), .val (.int 1)] [(.ref ao0), (.int 1)])) (fun _ k => XS.iload X3.here hx rfl (hb hby d13_10) rfl (XS.aloadN X3.here hx rfl (hb hby d13_12) rfl rfl k)) ?_
    obtain ⟨T6, X6, e6, st6⟩ := getF X3 hx hZ hown (host := "") (Or.inl (own_w hw 26 rfl)) Via.refl e3 F_ao0_width (g := (mkF m 13 #[.val (.ref ao0), .val (.int 0), .val (.ref ao2), .val (.int 0), .val (.int 1)] [(.ref ao0), (.int 1)])) rfl rfl (hb hby d13_13)
    refine own_go (x' := T6.setTop (mkF m 16 #[.val (.ref ao0), .val (.int 0), .val (.ref ao2), .val (.int 0), .val (.int 1)] [(.int 4), (.int 1)])) st6 ?_
    refine own_go (x' := T6.setTop (mkF m 20 #[.val (.ref ao0), .val (.int 0), .val (.ref ao2), .val (.int 0), .val (.int 1)] [(.ref ao0)])) (fun _ k => XS.icmpNo X6.here hx rfl (hb hby d13_16) rfl (tlt (by decide +kernel : ((1 : Int32) < (4 : Int32)))).2.1 (XS.aloadN X6.here hx rfl (hb hby d13_19) rfl rfl k)) ?_
    obtain ⟨T7, X7, e7, st7⟩ := getF X6 hx hZ hown (host := "") (Or.inl (own_w hw 10 rfl)) Via.refl e6 F_ao0_states (g := (mkF m 20 #[.val (.ref ao0), .val (.int 0), .val (.ref ao2), .val (.int 0), .val (.int 1)] [(.ref ao0)])) rfl rfl (hb hby d13_20)
    refine own_go (x' := T7.setTop (mkF m 23 #[.val (.ref ao0), .val (.int 0), .val (.ref ao2), .val (.int 0), .val (.int 1)] [(.ref sa)])) st7 ?_
    refine own_go (x' := T7.setTop (mkF m 27 #[.val (.ref ao0), .val (.int 0), .val (.ref ao2), .val (.int 0), .val (.int 1)] [(.int ((0 : Int32) + (1 : Int32))), (.ref sa)])) (fun _ k => XS.iloadN X7.here hx rfl (hb hby d13_23) rfl (XS.iload X7.here hx rfl (hb hby d13_24) rfl (XS.iadd X7.here hx rfl (hb hby d13_26) rfl k))) ?_
    rw [show ((0 : Int32) + (1 : Int32)) = (1 : Int32) from by decide +kernel]
    obtain ⟨cl8, Ar8, q8, Sz8, Nn8, Hh8, Gg8⟩ := id V_sa
    have hi8 : ¬ ((1 : Int32) < 0 ∨ cl8.slots.size ≤ ((1 : Int32)).toNatClampNeg) := inb_of Sz8 ⟨by decide, own_15 (by decide) hN⟩
    obtain ⟨y8', hy8⟩ := fit_J (Gg8 _ (Nat.lt_of_not_le fun q => hi8 (Or.inr q)))
    have hin8 : ¬ ((1 : Int32) < 0 ∨ cl8.slots.size ≤ ((1 : Int32)).toNatClampNeg) := inb_of Sz8 ⟨by decide, own_15 (by decide) hN⟩
    refine own_go (x' := T7.setTop (mkF m 28 #[.val (.ref ao0), .val (.int 0), .val (.ref ao2), .val (.int 0), .val (.int 1)] [(.long y8')])) (X7.laload hx (j := (1 : Int32)) (v := (.long y8')) (Eq.trans (congrArg (fun h_ => h_[_]?) e7) Ar8.1) (State.isArrayOf_alike hZ.alike Ar8.2.1) Ar8.2.2 hin8 (Hh8.at hin8 hy8) (g := (mkF m 27 #[.val (.ref ao0), .val (.int 0), .val (.ref ao2), .val (.int 0), .val (.int 1)] [(.int 1), (.ref sa)])) rfl rfl (hb hby d13_27)) ?_
    refine own_go (x' := T7.setTop (mkF m 31 #[.val (.ref ao0), .val (.int 0), .val (.ref ao2), .val (.int 0), .val (.int 1)] [(.int 1), (.ref ao2), (.long y8')])) (fun _ k => XS.aloadN X7.here hx rfl (hb hby d13_28) rfl rfl (XS.iload X7.here hx rfl (hb hby d13_29) rfl k)) ?_
    obtain ⟨cl9, Ar9, q9, Sz9, Nn9, Hh9, Gg9⟩ := id V_ao2
    have hin9 : ¬ ((1 : Int32) < 0 ∨ cl9.slots.size ≤ ((1 : Int32)).toNatClampNeg) := inb_of Sz9 ⟨by decide, by decide⟩
    refine own_go (x' := T7.setTop (mkF m 32 #[.val (.ref ao0), .val (.int 0), .val (.ref ao2), .val (.int 0), .val (.int 1)] [(.long x1), (.long y8')])) (X7.laload hx (j := (1 : Int32)) (v := (.long x1)) (Eq.trans (congrArg (fun h_ => h_[_]?) e7) Ar9.1) (State.isArrayOf_alike hZ.alike Ar9.2.1) Ar9.2.2 hin9 (Hh9.at hin9 rfl) (g := (mkF m 31 #[.val (.ref ao0), .val (.int 0), .val (.ref ao2), .val (.int 0), .val (.int 1)] [(.int 1), (.ref ao2), (.long y8')])) rfl rfl (hb hby d13_31)) ?_
    refine own_go (x' := T7.setTop (mkF m 33 #[.val (.ref ao0), .val (.int 0), .val (.ref ao2), .val (.int 0), .val (.int 1)] [(.int (lcmpW y8' x1))])) (fun _ k => XS.lcmp X7.here hx rfl (hb hby d13_32) rfl k) ?_
    by_cases hc33_10 : y8' = x1
    · refine own_go (x' := T7.setTop (mkF m 10 #[.val (.ref ao0), .val (.int 0), .val (.ref ao2), .val (.int 0), .val (.int ((1 : Int32) + (1 : Int32)))] [])) (fun _ k => XS.ifYes X7.here hx rfl (pc0 := 33) (pc' := 38) rfl (hb hby d13_33) rfl ((if0 _ _).trans (teq ((lw_eq y8' x1).mpr hc33_10)).1) (by decide) (by decide) (XS.iinc X7.here hx rfl (hb hby d13_38) rfl (l' := #[.val (.ref ao0), .val (.int 0), .val (.ref ao2), .val (.int 0), .val (.int ((1 : Int32) + (1 : Int32)))]) rfl (XS.goto X7.here hx rfl (pc0 := 41) (pc' := 10) rfl (hb hby d13_41) (by decide) (by decide) k))) ?_
      rw [show ((1 : Int32) + (1 : Int32)) = (2 : Int32) from by decide +kernel]
      refine own_go (x' := T7.setTop (mkF m 13 #[.val (.ref ao0), .val (.int 0), .val (.ref ao2), .val (.int 0), .val (.int 2)] [(.ref ao0), (.int 2)])) (fun _ k => XS.iload X7.here hx rfl (hb hby d13_10) rfl (XS.aloadN X7.here hx rfl (hb hby d13_12) rfl rfl k)) ?_
      obtain ⟨T11, X11, e11, st11⟩ := getF X7 hx hZ hown (host := "") (Or.inl (own_w hw 26 rfl)) Via.refl e7 F_ao0_width (g := (mkF m 13 #[.val (.ref ao0), .val (.int 0), .val (.ref ao2), .val (.int 0), .val (.int 2)] [(.ref ao0), (.int 2)])) rfl rfl (hb hby d13_13)
      refine own_go (x' := T11.setTop (mkF m 16 #[.val (.ref ao0), .val (.int 0), .val (.ref ao2), .val (.int 0), .val (.int 2)] [(.int 4), (.int 2)])) st11 ?_
      refine own_go (x' := T11.setTop (mkF m 20 #[.val (.ref ao0), .val (.int 0), .val (.ref ao2), .val (.int 0), .val (.int 2)] [(.ref ao0)])) (fun _ k => XS.icmpNo X11.here hx rfl (hb hby d13_16) rfl (tlt (by decide +kernel : ((2 : Int32) < (4 : Int32)))).2.1 (XS.aloadN X11.here hx rfl (hb hby d13_19) rfl rfl k)) ?_
      obtain ⟨T12, X12, e12, st12⟩ := getF X11 hx hZ hown (host := "") (Or.inl (own_w hw 10 rfl)) Via.refl e11 F_ao0_states (g := (mkF m 20 #[.val (.ref ao0), .val (.int 0), .val (.ref ao2), .val (.int 0), .val (.int 2)] [(.ref ao0)])) rfl rfl (hb hby d13_20)
      refine own_go (x' := T12.setTop (mkF m 23 #[.val (.ref ao0), .val (.int 0), .val (.ref ao2), .val (.int 0), .val (.int 2)] [(.ref sa)])) st12 ?_
      refine own_go (x' := T12.setTop (mkF m 27 #[.val (.ref ao0), .val (.int 0), .val (.ref ao2), .val (.int 0), .val (.int 2)] [(.int ((0 : Int32) + (2 : Int32))), (.ref sa)])) (fun _ k => XS.iloadN X12.here hx rfl (hb hby d13_23) rfl (XS.iload X12.here hx rfl (hb hby d13_24) rfl (XS.iadd X12.here hx rfl (hb hby d13_26) rfl k))) ?_
      rw [show ((0 : Int32) + (2 : Int32)) = (2 : Int32) from by decide +kernel]
      obtain ⟨cl13, Ar13, q13, Sz13, Nn13, Hh13, Gg13⟩ := id V_sa
      have hi13 : ¬ ((2 : Int32) < 0 ∨ cl13.slots.size ≤ ((2 : Int32)).toNatClampNeg) := inb_of Sz13 ⟨by decide, own_15 (by decide) hN⟩
      obtain ⟨y13', hy13⟩ := fit_J (Gg13 _ (Nat.lt_of_not_le fun q => hi13 (Or.inr q)))
      have hin13 : ¬ ((2 : Int32) < 0 ∨ cl13.slots.size ≤ ((2 : Int32)).toNatClampNeg) := inb_of Sz13 ⟨by decide, own_15 (by decide) hN⟩
      refine own_go (x' := T12.setTop (mkF m 28 #[.val (.ref ao0), .val (.int 0), .val (.ref ao2), .val (.int 0), .val (.int 2)] [(.long y13')])) (X12.laload hx (j := (2 : Int32)) (v := (.long y13')) (Eq.trans (congrArg (fun h_ => h_[_]?) e12) Ar13.1) (State.isArrayOf_alike hZ.alike Ar13.2.1) Ar13.2.2 hin13 (Hh13.at hin13 hy13) (g := (mkF m 27 #[.val (.ref ao0), .val (.int 0), .val (.ref ao2), .val (.int 0), .val (.int 2)] [(.int 2), (.ref sa)])) rfl rfl (hb hby d13_27)) ?_
      refine own_go (x' := T12.setTop (mkF m 31 #[.val (.ref ao0), .val (.int 0), .val (.ref ao2), .val (.int 0), .val (.int 2)] [(.int 2), (.ref ao2), (.long y13')])) (fun _ k => XS.aloadN X12.here hx rfl (hb hby d13_28) rfl rfl (XS.iload X12.here hx rfl (hb hby d13_29) rfl k)) ?_
      obtain ⟨cl14, Ar14, q14, Sz14, Nn14, Hh14, Gg14⟩ := id V_ao2
      have hin14 : ¬ ((2 : Int32) < 0 ∨ cl14.slots.size ≤ ((2 : Int32)).toNatClampNeg) := inb_of Sz14 ⟨by decide, by decide⟩
      refine own_go (x' := T12.setTop (mkF m 32 #[.val (.ref ao0), .val (.int 0), .val (.ref ao2), .val (.int 0), .val (.int 2)] [(.long x2), (.long y13')])) (X12.laload hx (j := (2 : Int32)) (v := (.long x2)) (Eq.trans (congrArg (fun h_ => h_[_]?) e12) Ar14.1) (State.isArrayOf_alike hZ.alike Ar14.2.1) Ar14.2.2 hin14 (Hh14.at hin14 rfl) (g := (mkF m 31 #[.val (.ref ao0), .val (.int 0), .val (.ref ao2), .val (.int 0), .val (.int 2)] [(.int 2), (.ref ao2), (.long y13')])) rfl rfl (hb hby d13_31)) ?_
      refine own_go (x' := T12.setTop (mkF m 33 #[.val (.ref ao0), .val (.int 0), .val (.ref ao2), .val (.int 0), .val (.int 2)] [(.int (lcmpW y13' x2))])) (fun _ k => XS.lcmp X12.here hx rfl (hb hby d13_32) rfl k) ?_
      by_cases hc33_15 : y13' = x2
      · refine own_go (x' := T12.setTop (mkF m 10 #[.val (.ref ao0), .val (.int 0), .val (.ref ao2), .val (.int 0), .val (.int ((2 : Int32) + (1 : Int32)))] [])) (fun _ k => XS.ifYes X12.here hx rfl (pc0 := 33) (pc' := 38) rfl (hb hby d13_33) rfl ((if0 _ _).trans (teq ((lw_eq y13' x2).mpr hc33_15)).1) (by decide) (by decide) (XS.iinc X12.here hx rfl (hb hby d13_38) rfl (l' := #[.val (.ref ao0), .val (.int 0), .val (.ref ao2), .val (.int 0), .val (.int ((2 : Int32) + (1 : Int32)))]) rfl (XS.goto X12.here hx rfl (pc0 := 41) (pc' := 10) rfl (hb hby d13_41) (by decide) (by decide) k))) ?_
        rw [show ((2 : Int32) + (1 : Int32)) = (3 : Int32) from by decide +kernel]
        refine own_go (x' := T12.setTop (mkF m 13 #[.val (.ref ao0), .val (.int 0), .val (.ref ao2), .val (.int 0), .val (.int 3)] [(.ref ao0), (.int 3)])) (fun _ k => XS.iload X12.here hx rfl (hb hby d13_10) rfl (XS.aloadN X12.here hx rfl (hb hby d13_12) rfl rfl k)) ?_
        obtain ⟨T16, X16, e16, st16⟩ := getF X12 hx hZ hown (host := "") (Or.inl (own_w hw 26 rfl)) Via.refl e12 F_ao0_width (g := (mkF m 13 #[.val (.ref ao0), .val (.int 0), .val (.ref ao2), .val (.int 0), .val (.int 3)] [(.ref ao0), (.int 3)])) rfl rfl (hb hby d13_13)
        refine own_go (x' := T16.setTop (mkF m 16 #[.val (.ref ao0), .val (.int 0), .val (.ref ao2), .val (.int 0), .val (.int 3)] [(.int 4), (.int 3)])) st16 ?_
        refine own_go (x' := T16.setTop (mkF m 20 #[.val (.ref ao0), .val (.int 0), .val (.ref ao2), .val (.int 0), .val (.int 3)] [(.ref ao0)])) (fun _ k => XS.icmpNo X16.here hx rfl (hb hby d13_16) rfl (tlt (by decide +kernel : ((3 : Int32) < (4 : Int32)))).2.1 (XS.aloadN X16.here hx rfl (hb hby d13_19) rfl rfl k)) ?_
        obtain ⟨T17, X17, e17, st17⟩ := getF X16 hx hZ hown (host := "") (Or.inl (own_w hw 10 rfl)) Via.refl e16 F_ao0_states (g := (mkF m 20 #[.val (.ref ao0), .val (.int 0), .val (.ref ao2), .val (.int 0), .val (.int 3)] [(.ref ao0)])) rfl rfl (hb hby d13_20)
        refine own_go (x' := T17.setTop (mkF m 23 #[.val (.ref ao0), .val (.int 0), .val (.ref ao2), .val (.int 0), .val (.int 3)] [(.ref sa)])) st17 ?_
        refine own_go (x' := T17.setTop (mkF m 27 #[.val (.ref ao0), .val (.int 0), .val (.ref ao2), .val (.int 0), .val (.int 3)] [(.int ((0 : Int32) + (3 : Int32))), (.ref sa)])) (fun _ k => XS.iloadN X17.here hx rfl (hb hby d13_23) rfl (XS.iload X17.here hx rfl (hb hby d13_24) rfl (XS.iadd X17.here hx rfl (hb hby d13_26) rfl k))) ?_
        rw [show ((0 : Int32) + (3 : Int32)) = (3 : Int32) from by decide +kernel]
        obtain ⟨cl18, Ar18, q18, Sz18, Nn18, Hh18, Gg18⟩ := id V_sa
        have hi18 : ¬ ((3 : Int32) < 0 ∨ cl18.slots.size ≤ ((3 : Int32)).toNatClampNeg) := inb_of Sz18 ⟨by decide, own_15 (by decide) hN⟩
        obtain ⟨y18', hy18⟩ := fit_J (Gg18 _ (Nat.lt_of_not_le fun q => hi18 (Or.inr q)))
        have hin18 : ¬ ((3 : Int32) < 0 ∨ cl18.slots.size ≤ ((3 : Int32)).toNatClampNeg) := inb_of Sz18 ⟨by decide, own_15 (by decide) hN⟩
        refine own_go (x' := T17.setTop (mkF m 28 #[.val (.ref ao0), .val (.int 0), .val (.ref ao2), .val (.int 0), .val (.int 3)] [(.long y18')])) (X17.laload hx (j := (3 : Int32)) (v := (.long y18')) (Eq.trans (congrArg (fun h_ => h_[_]?) e17) Ar18.1) (State.isArrayOf_alike hZ.alike Ar18.2.1) Ar18.2.2 hin18 (Hh18.at hin18 hy18) (g := (mkF m 27 #[.val (.ref ao0), .val (.int 0), .val (.ref ao2), .val (.int 0), .val (.int 3)] [(.int 3), (.ref sa)])) rfl rfl (hb hby d13_27)) ?_
        refine own_go (x' := T17.setTop (mkF m 31 #[.val (.ref ao0), .val (.int 0), .val (.ref ao2), .val (.int 0), .val (.int 3)] [(.int 3), (.ref ao2), (.long y18')])) (fun _ k => XS.aloadN X17.here hx rfl (hb hby d13_28) rfl rfl (XS.iload X17.here hx rfl (hb hby d13_29) rfl k)) ?_
        obtain ⟨cl19, Ar19, q19, Sz19, Nn19, Hh19, Gg19⟩ := id V_ao2
        have hin19 : ¬ ((3 : Int32) < 0 ∨ cl19.slots.size ≤ ((3 : Int32)).toNatClampNeg) := inb_of Sz19 ⟨by decide, by decide⟩
        refine own_go (x' := T17.setTop (mkF m 32 #[.val (.ref ao0), .val (.int 0), .val (.ref ao2), .val (.int 0), .val (.int 3)] [(.long x3), (.long y18')])) (X17.laload hx (j := (3 : Int32)) (v := (.long x3)) (Eq.trans (congrArg (fun h_ => h_[_]?) e17) Ar19.1) (State.isArrayOf_alike hZ.alike Ar19.2.1) Ar19.2.2 hin19 (Hh19.at hin19 rfl) (g := (mkF m 31 #[.val (.ref ao0), .val (.int 0), .val (.ref ao2), .val (.int 0), .val (.int 3)] [(.int 3), (.ref ao2), (.long y18')])) rfl rfl (hb hby d13_31)) ?_
        refine own_go (x' := T17.setTop (mkF m 33 #[.val (.ref ao0), .val (.int 0), .val (.ref ao2), .val (.int 0), .val (.int 3)] [(.int (lcmpW y18' x3))])) (fun _ k => XS.lcmp X17.here hx rfl (hb hby d13_32) rfl k) ?_
        by_cases hc33_20 : y18' = x3
        · refine own_go (x' := T17.setTop (mkF m 10 #[.val (.ref ao0), .val (.int 0), .val (.ref ao2), .val (.int 0), .val (.int ((3 : Int32) + (1 : Int32)))] [])) (fun _ k => XS.ifYes X17.here hx rfl (pc0 := 33) (pc' := 38) rfl (hb hby d13_33) rfl ((if0 _ _).trans (teq ((lw_eq y18' x3).mpr hc33_20)).1) (by decide) (by decide) (XS.iinc X17.here hx rfl (hb hby d13_38) rfl (l' := #[.val (.ref ao0), .val (.int 0), .val (.ref ao2), .val (.int 0), .val (.int ((3 : Int32) + (1 : Int32)))]) rfl (XS.goto X17.here hx rfl (pc0 := 41) (pc' := 10) rfl (hb hby d13_41) (by decide) (by decide) k))) ?_
          rw [show ((3 : Int32) + (1 : Int32)) = (4 : Int32) from by decide +kernel]
          refine own_go (x' := T17.setTop (mkF m 13 #[.val (.ref ao0), .val (.int 0), .val (.ref ao2), .val (.int 0), .val (.int 4)] [(.ref ao0), (.int 4)])) (fun _ k => XS.iload X17.here hx rfl (hb hby d13_10) rfl (XS.aloadN X17.here hx rfl (hb hby d13_12) rfl rfl k)) ?_
          obtain ⟨T21, X21, e21, st21⟩ := getF X17 hx hZ hown (host := "") (Or.inl (own_w hw 26 rfl)) Via.refl e17 F_ao0_width (g := (mkF m 13 #[.val (.ref ao0), .val (.int 0), .val (.ref ao2), .val (.int 0), .val (.int 4)] [(.ref ao0), (.int 4)])) rfl rfl (hb hby d13_13)
          refine own_go (x' := T21.setTop (mkF m 16 #[.val (.ref ao0), .val (.int 0), .val (.ref ao2), .val (.int 0), .val (.int 4)] [(.int 4), (.int 4)])) st21 ?_
          refine own_go (x' := T21.setTop (mkF m 45 #[.val (.ref ao0), .val (.int 0), .val (.ref ao2), .val (.int 0), .val (.int 4)] [(.int 1)])) (fun _ k => XS.icmpYes X21.here hx rfl (pc0 := 16) (pc' := 44) rfl (hb hby d13_16) rfl (flt (Int32.lt_irrefl)).2.1 (by decide) (by decide) (XS.iconst X21.here hx rfl (hb hby d13_44) k)) ?_
          refine own_retN X21 hx hlk (t := .boolean) hret (by simp) (hb hby d13_45) (w := (1 : Int32)) rfl ?_ (by decide) (by decide)
          rw [e21]
          exact ⟨(1 : Int32), Or.inr rfl, rfl, Nf, rfl⟩
        · refine own_go (x' := T17.setTop (mkF m 37 #[.val (.ref ao0), .val (.int 0), .val (.ref ao2), .val (.int 0), .val (.int 3)] [(.int 0)])) (fun _ k => XS.ifNo X17.here hx rfl (hb hby d13_33) rfl ((if0 _ _).trans (feq (fun q_ => hc33_20 ((lw_eq y18' x3).mp q_))).1) (XS.iconst X17.here hx rfl (hb hby d13_36) k)) ?_
          refine own_retN X17 hx hlk (t := .boolean) hret (by simp) (hb hby d13_37) (w := (0 : Int32)) rfl ?_ (by decide) (by decide)
          rw [e17]
          exact ⟨(0 : Int32), Or.inl rfl, rfl, Nf, rfl⟩
      · refine own_go (x' := T12.setTop (mkF m 37 #[.val (.ref ao0), .val (.int 0), .val (.ref ao2), .val (.int 0), .val (.int 2)] [(.int 0)])) (fun _ k => XS.ifNo X12.here hx rfl (hb hby d13_33) rfl ((if0 _ _).trans (feq (fun q_ => hc33_15 ((lw_eq y13' x2).mp q_))).1) (XS.iconst X12.here hx rfl (hb hby d13_36) k)) ?_
        refine own_retN X12 hx hlk (t := .boolean) hret (by simp) (hb hby d13_37) (w := (0 : Int32)) rfl ?_ (by decide) (by decide)
        rw [e12]
        exact ⟨(0 : Int32), Or.inl rfl, rfl, Nf, rfl⟩
    · refine own_go (x' := T7.setTop (mkF m 37 #[.val (.ref ao0), .val (.int 0), .val (.ref ao2), .val (.int 0), .val (.int 1)] [(.int 0)])) (fun _ k => XS.ifNo X7.here hx rfl (hb hby d13_33) rfl ((if0 _ _).trans (feq (fun q_ => hc33_10 ((lw_eq y8' x1).mp q_))).1) (XS.iconst X7.here hx rfl (hb hby d13_36) k)) ?_
      refine own_retN X7 hx hlk (t := .boolean) hret (by simp) (hb hby d13_37) (w := (0 : Int32)) rfl ?_ (by decide) (by decide)
      rw [e7]
      exact ⟨(0 : Int32), Or.inl rfl, rfl, Nf, rfl⟩
  · refine own_go (x' := T3.setTop (mkF m 37 #[.val (.ref ao0), .val (.int 0), .val (.ref ao2), .val (.int 0), .val (.int 0)] [(.int 0)])) (fun _ k => XS.ifNo X3.here hx rfl (hb hby d13_33) rfl ((if0 _ _).trans (feq (fun q_ => hc33 ((lw_eq y4' x0).mp q_))).1) (XS.iconst X3.here hx rfl (hb hby d13_36) k)) ?_
    refine own_retN X3 hx hlk (t := .boolean) hret (by simp) (hb hby d13_37) (w := (0 : Int32)) rfl ?_ (by decide) (by decide)
    rw [e3]
    exact ⟨(0 : Int32), Or.inl rfl, rfl, Nf, rfl⟩
theorem own_N {N : Int32} (hN : (15 : Int32) < N) : 16 ≤ N.toNatClampNeg := by
  have t := Int32.lt_iff_toInt_lt.mp hN
  have f : (15 : Int32).toInt = 15 := by decide
  simp only [Int32.toNatClampNeg]
  omega
def own_Zr (hs : List (Int32 × Value)) : Prop := ∀ i, getH hs [] (.int (0 : Int32)) i = .int (0 : Int32)
theorem own_zr0 : own_Zr [] := fun i => rfl
theorem own_zr1 {hs : List (Int32 × Value)} (h : own_Zr hs) (r : Int32) (v : Value) : own_Zr ((r, .int (0 : Int32)) :: (r, v) :: hs) := fun i => by
  simp only [getH]
  split
  · rfl
  · exact h i
theorem own_zr2 {hs : List (Int32 × Value)} (h : own_Zr hs) (q r : Int32) (v u : Value) : own_Zr ((q, .int (0 : Int32)) :: (r, .int (0 : Int32)) :: (q, v) :: (r, u) :: hs) := fun i => by
  simp only [getH]
  split
  · rfl
  · split
    · rfl
    · exact h i
def Q_rm5S (Z : State) (ao0 ao1 : Addr) (wv : Int32) (kx : ClassId) (x0 x1 x2 x3 : Int64) (pt : Addr) (kp : ClassId) (hs : List (Int32 × Value)) (h0 : Heap) (n0 : Nat) (v : Option Value) (h : Heap) (L : List Loc) : Prop := ∃ z : Int32, (¬ z < 0 ∧ z < 32) ∧ v = some (.int z) ∧ Fr n0 L ∧ h = h0
theorem rm5S (l : Launch) (Z : State) (a0 : Array Value) (hw : ∀ d ∈ tables_1, d.before a0 Z = true) (ws : List Jvm.Cond) (ao0 ao1 : Addr) (wv : Int32) (kx : ClassId) (x0 x1 x2 x3 : Int64) (pt : Addr) (kp : ClassId) (hs : List (Int32 × Value)) (h0 : Heap) (n0 : Nat) (Z0 : n0 ≤ h0.size) (hwv : wv = 1 ∨ wv = 2 ∨ wv = 3 ∨ wv = 4) (F_ao0_width : Fld Z h0 ao0 "com/example/moving_tokens/movingtokens/PartialChoices" "width" "I" (.int wv)) (F_ao0_slots : Fld Z h0 ao0 "com/example/moving_tokens/movingtokens/PartialChoices" "slots" "[I" (.ref pt)) (V_ao1 : Arv Z h0 ao1 kx .long (4 : Int32) [.long x0, .long x1, .long x2, .long x3] (.long (0 : Int64))) (V_pt : Arh Z h0 pt kp .int (32 : Int32) hs [] (.int (0 : Int32))) :
    MetFree l (⟨"com/example/moving_tokens/movingtokens/PartialChoices", "home", "([J)I"⟩ : MethodName) (head1 (Jvm.Cond.code (⟨"com/example/moving_tokens/movingtokens/PartialChoices", "home", "([J)I"⟩ : MethodName) prog_38_method_9_code 2 (some .int) :: ws) ({ frames := 4, cells := 0, slots := 0, locals := 62 } : Room)) (fun a U => a = #[(.ref ao0), (.ref ao1)] ∧ Z.Warmed39 U.vm ∧ U.heap = h0) (fun _ _ _ _ _ => True) (fun _ U o U' => ∃ v L, o = .returned v ∧ Q_rm5S Z ao0 ao1 wv kx x0 x1 x2 x3 pt kp hs h0 n0 v U'.heap L ∧ FrameEnd U o U' L ({ frames := 4, cells := 0, slots := 0, locals := 62 } : Room).cells ({ frames := 4, cells := 0, slots := 0, locals := 62 } : Room).slots) := by
  rcases hwv with rfl | rfl | rfl | rfl
  · exact rm5_1 l Z a0 hw ws ao0 ao1 kx x0 x1 x2 x3 pt kp hs h0 n0 Z0 F_ao0_width F_ao0_slots V_ao1 V_pt
  · exact rm5_2 l Z a0 hw ws ao0 ao1 kx x0 x1 x2 x3 pt kp hs h0 n0 Z0 F_ao0_width F_ao0_slots V_ao1 V_pt
  · exact rm5_3 l Z a0 hw ws ao0 ao1 kx x0 x1 x2 x3 pt kp hs h0 n0 Z0 F_ao0_width F_ao0_slots V_ao1 V_pt
  · exact rm5_4 l Z a0 hw ws ao0 ao1 kx x0 x1 x2 x3 pt kp hs h0 n0 Z0 F_ao0_width F_ao0_slots V_ao1 V_pt
def Q_rm13S (Z : State) (ao0 ao2 : Addr) (wv : Int32) (kx : ClassId) (x0 x1 x2 x3 : Int64) (sa : Addr) (ks : ClassId) (sn : Int32) (sv : List Value) (h0 : Heap) (n0 : Nat) (v : Option Value) (h : Heap) (L : List Loc) : Prop := ∃ z : Int32, (z = 0 ∨ z = 1) ∧ v = some (.int z) ∧ Fr n0 L ∧ h = h0
theorem rm13S (l : Launch) (Z : State) (a0 : Array Value) (hw : ∀ d ∈ tables_1, d.before a0 Z = true) (ws : List Jvm.Cond) (ao0 ao2 : Addr) (wv : Int32) (kx : ClassId) (x0 x1 x2 x3 : Int64) (sa : Addr) (ks : ClassId) (sn : Int32) (sv : List Value) (h0 : Heap) (n0 : Nat) (Z0 : n0 ≤ h0.size) (hwv : wv = 1 ∨ wv = 2 ∨ wv = 3 ∨ wv = 4) (F_ao0_width : Fld Z h0 ao0 "com/example/moving_tokens/movingtokens/PartialChoices" "width" "I" (.int wv)) (F_ao0_states : Fld Z h0 ao0 "com/example/moving_tokens/movingtokens/PartialChoices" "states" "[J" (.ref sa)) (V_ao2 : Arv Z h0 ao2 kx .long (4 : Int32) [.long x0, .long x1, .long x2, .long x3] (.long (0 : Int64))) (V_sa : Arv Z h0 sa ks .long sn sv (.long (0 : Int64))) (hN : (15 : Int32) < sn) :
    MetFree l (⟨"com/example/moving_tokens/movingtokens/PartialChoices", "holds", "(I[J)Z"⟩ : MethodName) (head1 (Jvm.Cond.code (⟨"com/example/moving_tokens/movingtokens/PartialChoices", "holds", "(I[J)Z"⟩ : MethodName) prog_38_method_11_code 5 (some .boolean) :: ws) ({ frames := 0, cells := 0, slots := 0, locals := 0 } : Room)) (fun a U => a = #[(.ref ao0), (.int 0), (.ref ao2)] ∧ Z.Warmed39 U.vm ∧ U.heap = h0) (fun _ _ _ _ _ => True) (fun _ U o U' => ∃ v L, o = .returned v ∧ Q_rm13S Z ao0 ao2 wv kx x0 x1 x2 x3 sa ks sn sv h0 n0 v U'.heap L ∧ FrameEnd U o U' L ({ frames := 0, cells := 0, slots := 0, locals := 0 } : Room).cells ({ frames := 0, cells := 0, slots := 0, locals := 0 } : Room).slots) := by
  rcases hwv with rfl | rfl | rfl | rfl
  · exact rm13_1 l Z a0 hw ws ao0 ao2 kx x0 x1 x2 x3 sa ks sn sv h0 n0 Z0 F_ao0_width F_ao0_states V_ao2 V_sa hN
  · exact rm13_2 l Z a0 hw ws ao0 ao2 kx x0 x1 x2 x3 sa ks sn sv h0 n0 Z0 F_ao0_width F_ao0_states V_ao2 V_sa hN
  · exact rm13_3 l Z a0 hw ws ao0 ao2 kx x0 x1 x2 x3 sa ks sn sv h0 n0 Z0 F_ao0_width F_ao0_states V_ao2 V_sa hN
  · exact rm13_4 l Z a0 hw ws ao0 ao2 kx x0 x1 x2 x3 sa ks sn sv h0 n0 Z0 F_ao0_width F_ao0_states V_ao2 V_sa hN
def own_usf (wv : Int32) (x0 x1 x2 x3 : Int64) : List Value := (List.range wv.toNatClampNeg).map fun i => [Value.long x0, .long x1, .long x2, .long x3].getD ((0 : Int32).toNatClampNeg + i) (.long (0 : Int64))
theorem own_us1 (x0 x1 x2 x3 : Int64) : own_usf 1 x0 x1 x2 x3 = [.long x0] := rfl
theorem own_us2 (x0 x1 x2 x3 : Int64) : own_usf 2 x0 x1 x2 x3 = [.long x0, .long x1] := rfl
theorem own_us3 (x0 x1 x2 x3 : Int64) : own_usf 3 x0 x1 x2 x3 = [.long x0, .long x1, .long x2] := rfl
theorem own_us4 (x0 x1 x2 x3 : Int64) : own_usf 4 x0 x1 x2 x3 = [.long x0, .long x1, .long x2, .long x3] := rfl
theorem own_usl {wv : Int32} (h : wv = 1 ∨ wv = 2 ∨ wv = 3 ∨ wv = 4) (x0 x1 x2 x3 : Int64) : (own_usf wv x0 x1 x2 x3).length = wv.toNatClampNeg ∧ 1 ≤ wv.toNatClampNeg ∧ wv.toNatClampNeg ≤ 4 ∧ ¬ wv < 0 := by
  rcases h with rfl | rfl | rfl | rfl <;> exact ⟨by simp [own_usf], by decide, by decide, by decide⟩
theorem own_m0 (wv : Int32) : (0 : Int32) * wv = 0 := Int32.zero_mul
theorem own_mw (wv : Int32) : (1 : Int32) * wv = wv := Int32.one_mul wv
theorem own_cl {wv : Int32} (h : wv = 1 ∨ wv = 2 ∨ wv = 3 ∨ wv = 4) : ¬ (2147483639 : Int64) < ((16 : Int32).toInt64 * wv.toInt64) ∧ ¬ (((16 : Int32).toInt64 * wv.toInt64).toInt32) < 0 ∧ (((16 : Int32).toInt64 * wv.toInt64).toInt32).toNatClampNeg ≤ 64 ∧ (15 : Int32) < (((16 : Int32).toInt64 * wv.toInt64).toInt32) := by
  rcases h with rfl | rfl | rfl | rfl <;> decide
theorem pd_3 : parseMethodDescriptor "([J)I" = some ⟨[(.array .long)], some .int⟩ := by decide +kernel
theorem d4_0 : decode prog_38_method_5_code 0 = .ok (.aload_n 0, 1) := by decide +kernel
theorem d4_1 : decode prog_38_method_5_code 1 = .ok (.getfield 22, 3) := by decide +kernel
theorem d4_4 : decode prog_38_method_5_code 4 = .ok (.arraylength, 1) := by decide +kernel
theorem d4_5 : decode prog_38_method_5_code 5 = .ok (.iconst 1, 1) := by decide +kernel
theorem d4_6 : decode prog_38_method_5_code 6 = .ok (.isub, 1) := by decide +kernel
theorem d4_7 : decode prog_38_method_5_code 7 = .ok (.istore_n 2, 1) := by decide +kernel
theorem d4_8 : decode prog_38_method_5_code 8 = .ok (.aload_n 0, 1) := by decide +kernel
theorem d4_9 : decode prog_38_method_5_code 9 = .ok (.aload_n 1, 1) := by decide +kernel
theorem d4_10 : decode prog_38_method_5_code 10 = .ok (.invokevirtual 34, 3) := by decide +kernel
theorem d4_13 : decode prog_38_method_5_code 13 = .ok (.istore_n 3, 1) := by decide +kernel
theorem d4_14 : decode prog_38_method_5_code 14 = .ok (.aload_n 0, 1) := by decide +kernel
theorem d4_15 : decode prog_38_method_5_code 15 = .ok (.getfield 22, 3) := by decide +kernel
theorem d4_18 : decode prog_38_method_5_code 18 = .ok (.iload_n 3, 1) := by decide +kernel
theorem d4_19 : decode prog_38_method_5_code 19 = .ok (.iaload, 1) := by decide +kernel
theorem d4_20 : decode prog_38_method_5_code 20 = .ok (.ifCond .eq 35, 3) := by decide +kernel
theorem d4_55 : decode prog_38_method_5_code 55 = .ok (.aload_n 0, 1) := by decide +kernel
theorem d4_56 : decode prog_38_method_5_code 56 = .ok (.getfield 25, 3) := by decide +kernel
theorem d4_59 : decode prog_38_method_5_code 59 = .ok (.aload_n 0, 1) := by decide +kernel
theorem d4_60 : decode prog_38_method_5_code 60 = .ok (.getfield 15, 3) := by decide +kernel
theorem d4_63 : decode prog_38_method_5_code 63 = .ok (.arraylength, 1) := by decide +kernel
theorem d4_64 : decode prog_38_method_5_code 64 = .ok (.if_icmp .ne 13, 3) := by decide +kernel
theorem d4_77 : decode prog_38_method_5_code 77 = .ok (.aload_n 1, 1) := by decide +kernel
theorem d4_78 : decode prog_38_method_5_code 78 = .ok (.iconst 0, 1) := by decide +kernel
theorem d4_79 : decode prog_38_method_5_code 79 = .ok (.aload_n 0, 1) := by decide +kernel
theorem d4_80 : decode prog_38_method_5_code 80 = .ok (.getfield 11, 3) := by decide +kernel
theorem d4_83 : decode prog_38_method_5_code 83 = .ok (.aload_n 0, 1) := by decide +kernel
theorem d4_84 : decode prog_38_method_5_code 84 = .ok (.getfield 25, 3) := by decide +kernel
theorem d4_87 : decode prog_38_method_5_code 87 = .ok (.aload_n 0, 1) := by decide +kernel
theorem d4_88 : decode prog_38_method_5_code 88 = .ok (.getfield 29, 3) := by decide +kernel
theorem d4_91 : decode prog_38_method_5_code 91 = .ok (.imul, 1) := by decide +kernel
theorem d4_92 : decode prog_38_method_5_code 92 = .ok (.aload_n 0, 1) := by decide +kernel
theorem d4_93 : decode prog_38_method_5_code 93 = .ok (.getfield 29, 3) := by decide +kernel
theorem d4_96 : decode prog_38_method_5_code 96 = .ok (.invokestatic 48, 3) := by decide +kernel
theorem d4_99 : decode prog_38_method_5_code 99 = .ok (.aload_n 0, 1) := by decide +kernel
theorem d4_100 : decode prog_38_method_5_code 100 = .ok (.getfield 15, 3) := by decide +kernel
theorem d4_103 : decode prog_38_method_5_code 103 = .ok (.aload_n 0, 1) := by decide +kernel
theorem d4_104 : decode prog_38_method_5_code 104 = .ok (.getfield 25, 3) := by decide +kernel
theorem d4_107 : decode prog_38_method_5_code 107 = .ok (.lconst 0, 1) := by decide +kernel
theorem d4_108 : decode prog_38_method_5_code 108 = .ok (.lastore, 1) := by decide +kernel
theorem d4_109 : decode prog_38_method_5_code 109 = .ok (.aload_n 0, 1) := by decide +kernel
theorem d4_110 : decode prog_38_method_5_code 110 = .ok (.getfield 18, 3) := by decide +kernel
theorem d4_113 : decode prog_38_method_5_code 113 = .ok (.aload_n 0, 1) := by decide +kernel
theorem d4_114 : decode prog_38_method_5_code 114 = .ok (.getfield 25, 3) := by decide +kernel
theorem d4_117 : decode prog_38_method_5_code 117 = .ok (.iload_n 3, 1) := by decide +kernel
theorem d4_118 : decode prog_38_method_5_code 118 = .ok (.iastore, 1) := by decide +kernel
theorem d4_119 : decode prog_38_method_5_code 119 = .ok (.aload_n 0, 1) := by decide +kernel
theorem d4_120 : decode prog_38_method_5_code 120 = .ok (.getfield 22, 3) := by decide +kernel
theorem d4_123 : decode prog_38_method_5_code 123 = .ok (.iload_n 3, 1) := by decide +kernel
theorem d4_124 : decode prog_38_method_5_code 124 = .ok (.aload_n 0, 1) := by decide +kernel
theorem d4_125 : decode prog_38_method_5_code 125 = .ok (.getfield 25, 3) := by decide +kernel
theorem d4_128 : decode prog_38_method_5_code 128 = .ok (.iconst 1, 1) := by decide +kernel
theorem d4_129 : decode prog_38_method_5_code 129 = .ok (.iadd, 1) := by decide +kernel
theorem d4_130 : decode prog_38_method_5_code 130 = .ok (.iastore, 1) := by decide +kernel
theorem d4_131 : decode prog_38_method_5_code 131 = .ok (.aload_n 0, 1) := by decide +kernel
theorem d4_132 : decode prog_38_method_5_code 132 = .ok (.dup, 1) := by decide +kernel
theorem d4_133 : decode prog_38_method_5_code 133 = .ok (.getfield 25, 3) := by decide +kernel
theorem d4_136 : decode prog_38_method_5_code 136 = .ok (.dup_x1, 1) := by decide +kernel
theorem d4_137 : decode prog_38_method_5_code 137 = .ok (.iconst 1, 1) := by decide +kernel
theorem d4_138 : decode prog_38_method_5_code 138 = .ok (.iadd, 1) := by decide +kernel
theorem d4_139 : decode prog_38_method_5_code 139 = .ok (.putfield 25, 3) := by decide +kernel
theorem d4_142 : decode prog_38_method_5_code 142 = .ok (.ireturn, 1) := by decide +kernel
def Q_rm4_0 (Z : State) (ao0 ao1 : Addr) (wv : Int32) (kx : ClassId) (x0 x1 x2 x3 : Int64) (sa ca ha pt : Addr) (ks kc kh kp : ClassId) (sn : Int32) (sv : List Value) (hc hm hs : List (Int32 × Value)) (h0 : Heap) (n0 : Nat) (v : Option Value) (h : Heap) (L : List Loc) : Prop := ∃ r : Int32, (¬ r < 0 ∧ r < 32) ∧ v = some (.int 0) ∧ Fr n0 L ∧ Keep h0 h [ao0, sa, ca, ha, pt] ∧ Exa Z h ao0 "com/example/moving_tokens/movingtokens/PartialChoices" ∧ Fld Z h ao0 "com/example/moving_tokens/movingtokens/PartialChoices" "width" "I" (.int wv) ∧ Fld Z h ao0 "com/example/moving_tokens/movingtokens/PartialChoices" "states" "[J" (.ref sa) ∧ Fld Z h ao0 "com/example/moving_tokens/movingtokens/PartialChoices" "counts" "[J" (.ref ca) ∧ Fld Z h ao0 "com/example/moving_tokens/movingtokens/PartialChoices" "homes" "[I" (.ref ha) ∧ Fld Z h ao0 "com/example/moving_tokens/movingtokens/PartialChoices" "size" "I" (.int 1) ∧ Fld Z h ao0 "com/example/moving_tokens/movingtokens/PartialChoices" "slots" "[I" (.ref pt) ∧ Arv Z h sa ks .long sn (own_usf wv x0 x1 x2 x3 ++ sv.drop wv.toNatClampNeg) (.long (0 : Int64)) ∧ Arh Z h ca kc .long (16 : Int32) (((0 : Int32), .long (0 : Int64)) :: hc) [] (.long (0 : Int64)) ∧ Arh Z h ha kh .int (16 : Int32) (((0 : Int32), .int r) :: hm) [] (.int (0 : Int32)) ∧ Arh Z h pt kp .int (32 : Int32) ((r, .int (1 : Int32)) :: hs) [] (.int (0 : Int32))
theorem pn_rm4_0 : plainName "com/example/moving_tokens/movingtokens/PartialChoices" = true := by first | (simp [plainName, overriddenIn]; done) | decide +kernel
theorem ef_rm4_0 (m : MethodId) (x0 : Addr) (x1 : Addr) : entryFrame m #[(.ref x0), (.ref x1)] 5 = mkF m 0 #[.val (.ref x0), .val (.ref x1), .unset, .unset, .unset] [] := by first | (simp [entryFrame, mkF, argsToLocals, Value.category]; done) | rfl
set_option maxRecDepth 65536 in
set_option maxHeartbeats 40000000 in
theorem rm4_0 (l : Launch) (Z : State) (a0 : Array Value) (hw : ∀ d ∈ tables_1, d.before a0 Z = true) (ws : List Jvm.Cond) (ao0 ao1 : Addr) (wv : Int32) (kx : ClassId) (x0 x1 x2 x3 : Int64) (sa ca ha pt : Addr) (ks kc kh kp : ClassId) (sn : Int32) (sv : List Value) (hc hm hs : List (Int32 × Value)) (h0 : Heap) (n0 : Nat) (Z0 : n0 ≤ h0.size) (hwv : wv = 1 ∨ wv = 2 ∨ wv = 3 ∨ wv = 4) (E_ao0 : Exa Z h0 ao0 "com/example/moving_tokens/movingtokens/PartialChoices") (F_ao0_width : Fld Z h0 ao0 "com/example/moving_tokens/movingtokens/PartialChoices" "width" "I" (.int wv)) (F_ao0_states : Fld Z h0 ao0 "com/example/moving_tokens/movingtokens/PartialChoices" "states" "[J" (.ref sa)) (F_ao0_counts : Fld Z h0 ao0 "com/example/moving_tokens/movingtokens/PartialChoices" "counts" "[J" (.ref ca)) (F_ao0_homes : Fld Z h0 ao0 "com/example/moving_tokens/movingtokens/PartialChoices" "homes" "[I" (.ref ha)) (F_ao0_size : Fld Z h0 ao0 "com/example/moving_tokens/movingtokens/PartialChoices" "size" "I" (.int 0)) (F_ao0_slots : Fld Z h0 ao0 "com/example/moving_tokens/movingtokens/PartialChoices" "slots" "[I" (.ref pt)) (V_sa : Arv Z h0 sa ks .long sn sv (.long (0 : Int64))) (V_ca : Arh Z h0 ca kc .long (16 : Int32) hc [] (.long (0 : Int64))) (V_ha : Arh Z h0 ha kh .int (16 : Int32) hm [] (.int (0 : Int32))) (V_pt : Arh Z h0 pt kp .int (32 : Int32) hs [] (.int (0 : Int32))) (hL : sv.length = 8) (hN : (15 : Int32) < sn) (ne_ao0_sa : ao0 ≠ sa) (ne_ao0_ca : ao0 ≠ ca) (ne_ao0_ha : ao0 ≠ ha) (ne_ao0_pt : ao0 ≠ pt) (ne_sa_ca : sa ≠ ca) (ne_sa_ha : sa ≠ ha) (ne_sa_pt : sa ≠ pt) (ne_ca_ha : ca ≠ ha) (ne_ca_pt : ca ≠ pt) (ne_ha_pt : ha ≠ pt) (g_ao0 : n0 ≤ ao0) (g_sa : n0 ≤ sa) (g_ca : n0 ≤ ca) (g_ha : n0 ≤ ha) (g_pt : n0 ≤ pt) (hzr : own_Zr hs) (V_ao1 : Arv Z h0 ao1 kx .long (4 : Int32) [.long x0, .long x1, .long x2, .long x3] (.long (0 : Int64))) (ne_ao0_ao1 : ao0 ≠ ao1) (ne_sa_ao1 : sa ≠ ao1) (ne_ca_ao1 : ca ≠ ao1) (ne_ha_ao1 : ha ≠ ao1) (ne_pt_ao1 : pt ≠ ao1) :
    MetFree l (⟨"com/example/moving_tokens/movingtokens/PartialChoices", "entry", "([J)I"⟩ : MethodName) (head1 (Jvm.Cond.code (⟨"com/example/moving_tokens/movingtokens/PartialChoices", "entry", "([J)I"⟩ : MethodName) prog_38_method_5_code 5 (some .int) :: ws) ({ frames := 5, cells := 0, slots := 0, locals := 80 } : Room)) (fun a U => a = #[(.ref ao0), (.ref ao1)] ∧ Z.Warmed39 U.vm ∧ U.heap = h0) (fun _ _ _ _ _ => True) (fun _ U o U' => ∃ v L, o = .returned v ∧ (Q_rm4_0 Z ao0 ao1 wv kx x0 x1 x2 x3 sa ca ha pt ks kc kh kp sn sv hc hm hs h0 n0) v U'.heap L ∧ FrameEnd U o U' L ({ frames := 5, cells := 0, slots := 0, locals := 80 } : Room).cells ({ frames := 5, cells := 0, slots := 0, locals := 80 } : Room).slots) := by
  refine MetFree.of_bodySF (plainFor_of_name pn_rm4_0) hisR ?_
  intro p e s m args below meth c s₁ Bd hml0 hP hK
  obtain ⟨rfl, hZ, hh⟩ := hP
  have hx := Bd.exec
  have hby := Bd.bytes
  have hlk := BodyLoose.notSynchronized Bd
  have hret := Bd.returns
  have hml : c.maxLocals = 5 := hml0
  have hown : s.vm.findClass "com/example/moving_tokens/movingtokens/PartialChoices" = some m.cls := findClass_of_methodNamed Bd.named
  have hnm := (name_of_methodNamed Bd.named Bd.method).1
  have X0 : Stand p l e ({ frames := 5, cells := 0, slots := 0, locals := 80 } : Room) s m #[(.ref ao0), (.ref ao1)] below meth c s₁ [] 0 0 := Stand.of_body Bd
  have e0 : s₁.heap = h0 := by rw [← hh, Bd.state]; rfl
  have Nf := Fr.nil n0
  have Zs := Z0
  have Kp : Keep h0 h0 [ao0, sa, ca, ha, pt] := Keep.refl _ _
  show own_End p e below s (Q_rm4_0 Z ao0 ao1 wv kx x0 x1 x2 x3 sa ca ha pt ks kc kh kp sn sv hc hm hs h0 n0) ({ frames := 5, cells := 0, slots := 0, locals := 80 } : Room).cells ({ frames := 5, cells := 0, slots := 0, locals := 80 } : Room).slots (s₁.setTop (entryFrame m #[(.ref ao0), (.ref ao1)] 5))
  refine own_go (x' := s₁.setTop (mkF m 0 #[.val (.ref ao0), .val (.ref ao1), .unset, .unset, .unset] [])) (fun t k => castTop (ef_rm4_0 m ao0 ao1) k) ?_
  refine own_go (x' := s₁.setTop (mkF m 1 #[.val (.ref ao0), .val (.ref ao1), .unset, .unset, .unset] [(.ref ao0)])) (fun _ k => XS.aloadN X0.here hx rfl (hb hby d4_0) rfl rfl k) ?_
  obtain ⟨T1, X1, e1, st1⟩ := getF X0 hx hZ hown (host := "") (Or.inl (own_w hw 17 rfl)) Via.refl e0 F_ao0_slots (g := (mkF m 1 #[.val (.ref ao0), .val (.ref ao1), .unset, .unset, .unset] [(.ref ao0)])) rfl rfl (hb hby d4_1)
  refine own_go (x' := T1.setTop (mkF m 4 #[.val (.ref ao0), .val (.ref ao1), .unset, .unset, .unset] [(.ref pt)])) st1 ?_
  obtain ⟨cl2, Ar2, -, Sz2, Nn2, -, -⟩ := id V_pt
  refine own_go (x' := T1.setTop (mkF m 5 #[.val (.ref ao0), .val (.ref ao1), .unset, .unset, .unset] [(.int 32)])) (fun t k => X1.arraylength hx (Eq.trans (congrArg (fun h_ => h_[_]?) e1) Ar2.1) (State.isArrayOf_alike hZ.alike Ar2.2.1) (g := (mkF m 4 #[.val (.ref ao0), .val (.ref ao1), .unset, .unset, .unset] [(.ref pt)])) rfl rfl (hb hby d4_4) t (by rw [len_of Sz2 Nn2]; exact k)) ?_
  refine own_go (x' := T1.setTop (mkF m 10 #[.val (.ref ao0), .val (.ref ao1), .val (.int ((32 : Int32) - (1 : Int32))), .unset, .unset] [(.ref ao1), (.ref ao0)])) (fun _ k => XS.iconst X1.here hx rfl (hb hby d4_5) (XS.isub X1.here hx rfl (hb hby d4_6) rfl (XS.istoreN X1.here hx rfl (hb hby d4_7) rfl (l' := #[.val (.ref ao0), .val (.ref ao1), .val (.int ((32 : Int32) - (1 : Int32))), .unset, .unset]) rfl (XS.aloadN X1.here hx rfl (hb hby d4_8) rfl rfl (XS.aloadN X1.here hx rfl (hb hby d4_9) rfl rfl k))))) ?_
  obtain ⟨cq3, q3, q3'⟩ := E_ao0.cell
  obtain ⟨_, _, ⟨T3, L3, k3, n3⟩, -, X3, ⟨Lc3, hQ3, l3, y3, z3⟩, st3⟩ := X1.privateBack hx (y := (⟨"com/example/moving_tokens/movingtokens/PartialChoices", "home", "([J)I"⟩ : MethodName)) hown (mvT hZ (own_w hw 34 rfl)) (mvT hZ (own_w hw 35 rfl)) (mvT hZ (own_self (y := (⟨"com/example/moving_tokens/movingtokens/PartialChoices", "home", "([J)I"⟩ : MethodName)) (own_w hw 2 rfl) (own_w hw 35 rfl) (own_w hw 36 rfl) (by decide))) (Cond.privateMethod_at (mvP hZ (own_w hw 36 rfl) (args := #[]))) (mvT hZ (own_w hw 37 rfl)) (by decide) (backOf (W := 0) (rm5S l Z a0 hw [] ao0 ao1 wv kx x0 x1 x2 x3 pt kp _ h0 n0 Zs hwv F_ao0_width F_ao0_slots V_ao1 V_pt) hZ (own_w hw 37 rfl) (own_w hw 3 rfl) (by decide) (by decide)) (g := (mkF m 10 #[.val (.ref ao0), .val (.ref ao1), .val (.int ((32 : Int32) - (1 : Int32))), .unset, .unset] [(.ref ao1), (.ref ao0)])) rfl (by rw [hml]; rfl) (Steps.refl _) (a := ao0) (Eq.trans (congrArg (fun h_ => h_[_]?) e1) q3) q3' (argsL := [(.ref ao1)]) (rest := []) (lenOf pd_3 rfl) rfl (by show 2 * 0 + _ ≤ _; exact Nat.le_of_eq rfl) (hb hby d4_10) (fun _ _ => ⟨rfl, e1, (by decide : 0 + 0 ≤ _), (by decide : 0 + 0 ≤ _)⟩)
  dsimp only [Pt.U, Pt.locs, Pt.cells, Pt.slots] at X3 l3 y3 z3 st3 hQ3
  subst l3 y3 z3
  obtain ⟨r3, hz3, hv3, Nq3, eq3⟩ := hQ3
  subst hv3
  replace Nf := Fr.app Nf Nq3
  refine own_go (x' := T3.setTop (mkF m 13 #[.val (.ref ao0), .val (.ref ao1), .val (.int ((32 : Int32) - (1 : Int32))), .unset, .unset] [(.int r3)])) (fun _ k => st3.trans k) ?_
  refine own_go (x' := T3.setTop (mkF m 15 #[.val (.ref ao0), .val (.ref ao1), .val (.int ((32 : Int32) - (1 : Int32))), .val (.int r3), .unset] [(.ref ao0)])) (fun _ k => XS.istoreN X3.here hx rfl (hb hby d4_13) rfl (l' := #[.val (.ref ao0), .val (.ref ao1), .val (.int ((32 : Int32) - (1 : Int32))), .val (.int r3), .unset]) rfl (XS.aloadN X3.here hx rfl (hb hby d4_14) rfl rfl k)) ?_
  obtain ⟨T4, X4, e4, st4⟩ := getF X3 hx hZ hown (host := "") (Or.inl (own_w hw 17 rfl)) Via.refl eq3 F_ao0_slots (g := (mkF m 15 #[.val (.ref ao0), .val (.ref ao1), .val (.int ((32 : Int32) - (1 : Int32))), .val (.int r3), .unset] [(.ref ao0)])) rfl rfl (hb hby d4_15)
  refine own_go (x' := T4.setTop (mkF m 18 #[.val (.ref ao0), .val (.ref ao1), .val (.int ((32 : Int32) - (1 : Int32))), .val (.int r3), .unset] [(.ref pt)])) st4 ?_
  refine own_go (x' := T4.setTop (mkF m 19 #[.val (.ref ao0), .val (.ref ao1), .val (.int ((32 : Int32) - (1 : Int32))), .val (.int r3), .unset] [(.int r3), (.ref pt)])) (fun _ k => XS.iloadN X4.here hx rfl (hb hby d4_18) rfl k) ?_
  obtain ⟨cl5, Ar5, q5, Sz5, Nn5, Hh5, Gg5⟩ := id V_pt
  have hin5 : ¬ (r3 < 0 ∨ cl5.slots.size ≤ (r3).toNatClampNeg) := inb_of Sz5 ⟨hz3.1, hz3.2⟩
  refine own_go (x' := T4.setTop (mkF m 20 #[.val (.ref ao0), .val (.ref ao1), .val (.int ((32 : Int32) - (1 : Int32))), .val (.int r3), .unset] [(.int 0)])) (X4.iaload hx (j := r3) (v := (.int 0)) (Eq.trans (congrArg (fun h_ => h_[_]?) e4) Ar5.1) (State.isArrayOf_alike hZ.alike Ar5.2.1) Ar5.2.2 hin5 (atH Hh5 hin5 (hzr _)) (g := (mkF m 19 #[.val (.ref ao0), .val (.ref ao1), .val (.int ((32 : Int32) - (1 : Int32))), .val (.int r3), .unset] [(.int r3), (.ref pt)])) rfl rfl (hb hby d4_19)) ?_
  refine own_go (x' := T4.setTop (mkF m 56 #[.val (.ref ao0), .val (.ref ao1), .val (.int ((32 : Int32) - (1 : Int32))), .val (.int r3), .unset] [(.ref ao0)])) (fun _ k => XS.ifYes X4.here hx rfl (pc0 := 20) (pc' := 55) rfl (hb hby d4_20) rfl ((if0 _ _).trans (teq rfl).1) (by decide) (by decide) (XS.aloadN X4.here hx rfl (hb hby d4_55) rfl rfl k)) ?_
  obtain ⟨T6, X6, e6, st6⟩ := getF X4 hx hZ hown (host := "") (Or.inl (own_w hw 24 rfl)) Via.refl e4 F_ao0_size (g := (mkF m 56 #[.val (.ref ao0), .val (.ref ao1), .val (.int ((32 : Int32) - (1 : Int32))), .val (.int r3), .unset] [(.ref ao0)])) rfl rfl (hb hby d4_56)
  refine own_go (x' := T6.setTop (mkF m 59 #[.val (.ref ao0), .val (.ref ao1), .val (.int ((32 : Int32) - (1 : Int32))), .val (.int r3), .unset] [(.int 0)])) st6 ?_
  refine own_go (x' := T6.setTop (mkF m 60 #[.val (.ref ao0), .val (.ref ao1), .val (.int ((32 : Int32) - (1 : Int32))), .val (.int r3), .unset] [(.ref ao0), (.int 0)])) (fun _ k => XS.aloadN X6.here hx rfl (hb hby d4_59) rfl rfl k) ?_
  obtain ⟨T7, X7, e7, st7⟩ := getF X6 hx hZ hown (host := "") (Or.inl (own_w hw 12 rfl)) Via.refl e6 F_ao0_counts (g := (mkF m 60 #[.val (.ref ao0), .val (.ref ao1), .val (.int ((32 : Int32) - (1 : Int32))), .val (.int r3), .unset] [(.ref ao0), (.int 0)])) rfl rfl (hb hby d4_60)
  refine own_go (x' := T7.setTop (mkF m 63 #[.val (.ref ao0), .val (.ref ao1), .val (.int ((32 : Int32) - (1 : Int32))), .val (.int r3), .unset] [(.ref ca), (.int 0)])) st7 ?_
  obtain ⟨cl8, Ar8, -, Sz8, Nn8, -, -⟩ := id V_ca
  refine own_go (x' := T7.setTop (mkF m 64 #[.val (.ref ao0), .val (.ref ao1), .val (.int ((32 : Int32) - (1 : Int32))), .val (.int r3), .unset] [(.int 16), (.int 0)])) (fun t k => X7.arraylength hx (Eq.trans (congrArg (fun h_ => h_[_]?) e7) Ar8.1) (State.isArrayOf_alike hZ.alike Ar8.2.1) (g := (mkF m 63 #[.val (.ref ao0), .val (.ref ao1), .val (.int ((32 : Int32) - (1 : Int32))), .val (.int r3), .unset] [(.ref ca), (.int 0)])) rfl rfl (hb hby d4_63) t (by rw [len_of Sz8 Nn8]; exact k)) ?_
  refine own_go (x' := T7.setTop (mkF m 80 #[.val (.ref ao0), .val (.ref ao1), .val (.int ((32 : Int32) - (1 : Int32))), .val (.int r3), .unset] [(.ref ao0), (.int 0), (.ref ao1)])) (fun _ k => XS.icmpYes X7.here hx rfl (pc0 := 64) (pc' := 77) rfl (hb hby d4_64) rfl (feq (by decide +kernel : ¬ ((0 : Int32) = (16 : Int32)))).2 (by decide) (by decide) (XS.aloadN X7.here hx rfl (hb hby d4_77) rfl rfl (XS.iconst X7.here hx rfl (hb hby d4_78) (XS.aloadN X7.here hx rfl (hb hby d4_79) rfl rfl k)))) ?_
  obtain ⟨T9, X9, e9, st9⟩ := getF X7 hx hZ hown (host := "") (Or.inl (own_w hw 10 rfl)) Via.refl e7 F_ao0_states (g := (mkF m 80 #[.val (.ref ao0), .val (.ref ao1), .val (.int ((32 : Int32) - (1 : Int32))), .val (.int r3), .unset] [(.ref ao0), (.int 0), (.ref ao1)])) rfl rfl (hb hby d4_80)
  refine own_go (x' := T9.setTop (mkF m 83 #[.val (.ref ao0), .val (.ref ao1), .val (.int ((32 : Int32) - (1 : Int32))), .val (.int r3), .unset] [(.ref sa), (.int 0), (.ref ao1)])) st9 ?_
  refine own_go (x' := T9.setTop (mkF m 84 #[.val (.ref ao0), .val (.ref ao1), .val (.int ((32 : Int32) - (1 : Int32))), .val (.int r3), .unset] [(.ref ao0), (.ref sa), (.int 0), (.ref ao1)])) (fun _ k => XS.aloadN X9.here hx rfl (hb hby d4_83) rfl rfl k) ?_
  obtain ⟨T10, X10, e10, st10⟩ := getF X9 hx hZ hown (host := "") (Or.inl (own_w hw 24 rfl)) Via.refl e9 F_ao0_size (g := (mkF m 84 #[.val (.ref ao0), .val (.ref ao1), .val (.int ((32 : Int32) - (1 : Int32))), .val (.int r3), .unset] [(.ref ao0), (.ref sa), (.int 0), (.ref ao1)])) rfl rfl (hb hby d4_84)
  refine own_go (x' := T10.setTop (mkF m 87 #[.val (.ref ao0), .val (.ref ao1), .val (.int ((32 : Int32) - (1 : Int32))), .val (.int r3), .unset] [(.int 0), (.ref sa), (.int 0), (.ref ao1)])) st10 ?_
  refine own_go (x' := T10.setTop (mkF m 88 #[.val (.ref ao0), .val (.ref ao1), .val (.int ((32 : Int32) - (1 : Int32))), .val (.int r3), .unset] [(.ref ao0), (.int 0), (.ref sa), (.int 0), (.ref ao1)])) (fun _ k => XS.aloadN X10.here hx rfl (hb hby d4_87) rfl rfl k) ?_
  obtain ⟨T11, X11, e11, st11⟩ := getF X10 hx hZ hown (host := "") (Or.inl (own_w hw 26 rfl)) Via.refl e10 F_ao0_width (g := (mkF m 88 #[.val (.ref ao0), .val (.ref ao1), .val (.int ((32 : Int32) - (1 : Int32))), .val (.int r3), .unset] [(.ref ao0), (.int 0), (.ref sa), (.int 0), (.ref ao1)])) rfl rfl (hb hby d4_88)
  refine own_go (x' := T11.setTop (mkF m 91 #[.val (.ref ao0), .val (.ref ao1), .val (.int ((32 : Int32) - (1 : Int32))), .val (.int r3), .unset] [(.int wv), (.int 0), (.ref sa), (.int 0), (.ref ao1)])) st11 ?_
  refine own_go (x' := T11.setTop (mkF m 93 #[.val (.ref ao0), .val (.ref ao1), .val (.int ((32 : Int32) - (1 : Int32))), .val (.int r3), .unset] [(.ref ao0), (.int ((0 : Int32) * wv)), (.ref sa), (.int 0), (.ref ao1)])) (fun _ k => XS.imul X11.here hx rfl (hb hby d4_91) rfl (XS.aloadN X11.here hx rfl (hb hby d4_92) rfl rfl k)) ?_
  obtain ⟨T12, X12, e12, st12⟩ := getF X11 hx hZ hown (host := "") (Or.inl (own_w hw 26 rfl)) Via.refl e11 F_ao0_width (g := (mkF m 93 #[.val (.ref ao0), .val (.ref ao1), .val (.int ((32 : Int32) - (1 : Int32))), .val (.int r3), .unset] [(.ref ao0), (.int ((0 : Int32) * wv)), (.ref sa), (.int 0), (.ref ao1)])) rfl rfl (hb hby d4_93)
  refine own_go (x' := T12.setTop (mkF m 96 #[.val (.ref ao0), .val (.ref ao1), .val (.int ((32 : Int32) - (1 : Int32))), .val (.int r3), .unset] [(.int wv), (.int ((0 : Int32) * wv)), (.ref sa), (.int 0), (.ref ao1)])) st12 ?_
  rw [own_m0]
  have hul := own_usl hwv x0 x1 x2 x3
  obtain ⟨T13, h13, LL13, X13, e13, Nq13, K13, Vd13, st13⟩ := cpA X12 hx hZ hown (own_w hw 54 rfl) (own_w hw 57 rfl) (own_w hw 55 rfl) (own_w hw 56 rfl) e12 V_ao1 V_sa (us := own_usf wv x0 x1 x2 x3) (Or.inl ⟨rfl, rfl⟩) (by decide) (by decide) hul.2.2.2 (by rw [show (0 : Int32).toNatClampNeg = 0 from by decide, show (4 : Int32).toNatClampNeg = 4 from by decide]; omega) (by rw [show (0 : Int32).toNatClampNeg = 0 from by decide]; have := own_N hN; omega) rfl (by rw [hL, show (0 : Int32).toNatClampNeg = 0 from by decide]; omega) Nf g_sa (g := (mkF m 96 #[.val (.ref ao0), .val (.ref ao1), .val (.int ((32 : Int32) - (1 : Int32))), .val (.int r3), .unset] [(.int wv), (.int 0), (.ref sa), (.int 0), (.ref ao1)])) rfl (by rw [hml]; rfl) rfl (hb hby d4_96) (by decide) (W := 0) (by show 2 * 0 + _ ≤ _; exact Nat.le_of_eq rfl) (by decide)
  refine own_go (x' := T13.setTop (mkF m 99 #[.val (.ref ao0), .val (.ref ao1), .val (.int ((32 : Int32) - (1 : Int32))), .val (.int r3), .unset] [])) st13 ?_
  replace Nf := Nq13
  replace E_ao0 := E_ao0.keep K13
  replace F_ao0_width := F_ao0_width.keep K13 (ninS ne_ao0_sa nin0)
  replace F_ao0_states := F_ao0_states.keep K13 (ninS ne_ao0_sa nin0)
  replace F_ao0_counts := F_ao0_counts.keep K13 (ninS ne_ao0_sa nin0)
  replace F_ao0_homes := F_ao0_homes.keep K13 (ninS ne_ao0_sa nin0)
  replace F_ao0_size := F_ao0_size.keep K13 (ninS ne_ao0_sa nin0)
  replace F_ao0_slots := F_ao0_slots.keep K13 (ninS ne_ao0_sa nin0)
  replace V_ca := V_ca.keep K13 (ninS (Ne.symm ne_sa_ca) nin0)
  replace V_ha := V_ha.keep K13 (ninS (Ne.symm ne_sa_ha) nin0)
  replace V_pt := V_pt.keep K13 (ninS (Ne.symm ne_sa_pt) nin0)
  replace V_ao1 := V_ao1.keep K13 (ninS (Ne.symm ne_sa_ao1) nin0)
  replace Zs := Nat.le_trans Zs K13.1
  replace Kp := Kp.trans K13 (allS (Or.inl (by simp)) all0)
  have V_sa := Vd13
  rw [show (0 : Int32).toNatClampNeg = 0 from by decide, List.take_zero, List.nil_append, Nat.zero_add] at V_sa
  refine own_go (x' := T13.setTop (mkF m 100 #[.val (.ref ao0), .val (.ref ao1), .val (.int ((32 : Int32) - (1 : Int32))), .val (.int r3), .unset] [(.ref ao0)])) (fun _ k => XS.aloadN X13.here hx rfl (hb hby d4_99) rfl rfl k) ?_
  obtain ⟨T14, X14, e14, st14⟩ := getF X13 hx hZ hown (host := "") (Or.inl (own_w hw 12 rfl)) Via.refl e13 F_ao0_counts (g := (mkF m 100 #[.val (.ref ao0), .val (.ref ao1), .val (.int ((32 : Int32) - (1 : Int32))), .val (.int r3), .unset] [(.ref ao0)])) rfl rfl (hb hby d4_100)
  refine own_go (x' := T14.setTop (mkF m 103 #[.val (.ref ao0), .val (.ref ao1), .val (.int ((32 : Int32) - (1 : Int32))), .val (.int r3), .unset] [(.ref ca)])) st14 ?_
  refine own_go (x' := T14.setTop (mkF m 104 #[.val (.ref ao0), .val (.ref ao1), .val (.int ((32 : Int32) - (1 : Int32))), .val (.int r3), .unset] [(.ref ao0), (.ref ca)])) (fun _ k => XS.aloadN X14.here hx rfl (hb hby d4_103) rfl rfl k) ?_
  obtain ⟨T15, X15, e15, st15⟩ := getF X14 hx hZ hown (host := "") (Or.inl (own_w hw 24 rfl)) Via.refl e14 F_ao0_size (g := (mkF m 104 #[.val (.ref ao0), .val (.ref ao1), .val (.int ((32 : Int32) - (1 : Int32))), .val (.int r3), .unset] [(.ref ao0), (.ref ca)])) rfl rfl (hb hby d4_104)
  refine own_go (x' := T15.setTop (mkF m 107 #[.val (.ref ao0), .val (.ref ao1), .val (.int ((32 : Int32) - (1 : Int32))), .val (.int r3), .unset] [(.int 0), (.ref ca)])) st15 ?_
  refine own_go (x' := T15.setTop (mkF m 108 #[.val (.ref ao0), .val (.ref ao1), .val (.int ((32 : Int32) - (1 : Int32))), .val (.int r3), .unset] [(.long 0), (.int 0), (.ref ca)])) (fun _ k => XS.lconst X15.here hx rfl (hb hby d4_107) k) ?_
  obtain ⟨cl16, Ar16, q16, Sz16, Nn16, Hh16, Gg16⟩ := V_ca
  have hin16 : ¬ ((0 : Int32) < 0 ∨ cl16.slots.size ≤ ((0 : Int32)).toNatClampNeg) := inb_of Sz16 ⟨by decide, by decide⟩
  obtain ⟨T16, h16, X16, e16, W16, st16⟩ := stJ X15 hx hZ e15 Ar16 (j := (0 : Int32)) hin16 (g := (mkF m 108 #[.val (.ref ao0), .val (.ref ao1), .val (.int ((32 : Int32) - (1 : Int32))), .val (.int r3), .unset] [(.long 0), (.int 0), (.ref ca)])) rfl rfl (hb hby d4_108)
  refine own_go (x' := T16.setTop (mkF m 109 #[.val (.ref ao0), .val (.ref ao1), .val (.int ((32 : Int32) - (1 : Int32))), .val (.int r3), .unset] [])) st16 ?_
  replace E_ao0 := Exa.wr W16 E_ao0
  replace F_ao0_width := Fld.other W16 F_ao0_width (Or.inl ne_ao0_ca)
  replace F_ao0_states := Fld.other W16 F_ao0_states (Or.inl ne_ao0_ca)
  replace F_ao0_counts := Fld.other W16 F_ao0_counts (Or.inl ne_ao0_ca)
  replace F_ao0_homes := Fld.other W16 F_ao0_homes (Or.inl ne_ao0_ca)
  replace F_ao0_size := Fld.other W16 F_ao0_size (Or.inl ne_ao0_ca)
  replace F_ao0_slots := Fld.other W16 F_ao0_slots (Or.inl ne_ao0_ca)
  replace V_ha := V_ha.other W16 (Ne.symm ne_ca_ha)
  replace V_pt := V_pt.other W16 (Ne.symm ne_ca_pt)
  replace V_ao1 := V_ao1.other W16 (Ne.symm ne_ca_ao1)
  replace V_sa := V_sa.other W16 ne_sa_ca
  replace Zs := Nat.le_trans Zs (Keep.of_wr W16).1
  replace Nf := Fr.snoc X16 Nf g_ca
  replace Kp := Kp.wr W16 (Or.inl (by simp))
  have V_ca := Arh.push Ar16 q16 Sz16 Nn16 Hh16 Gg16 rfl W16 hin16
  refine own_go (x' := T16.setTop (mkF m 110 #[.val (.ref ao0), .val (.ref ao1), .val (.int ((32 : Int32) - (1 : Int32))), .val (.int r3), .unset] [(.ref ao0)])) (fun _ k => XS.aloadN X16.here hx rfl (hb hby d4_109) rfl rfl k) ?_
  obtain ⟨T17, X17, e17, st17⟩ := getF X16 hx hZ hown (host := "") (Or.inl (own_w hw 15 rfl)) Via.refl e16 F_ao0_homes (g := (mkF m 110 #[.val (.ref ao0), .val (.ref ao1), .val (.int ((32 : Int32) - (1 : Int32))), .val (.int r3), .unset] [(.ref ao0)])) rfl rfl (hb hby d4_110)
  refine own_go (x' := T17.setTop (mkF m 113 #[.val (.ref ao0), .val (.ref ao1), .val (.int ((32 : Int32) - (1 : Int32))), .val (.int r3), .unset] [(.ref ha)])) st17 ?_
  refine own_go (x' := T17.setTop (mkF m 114 #[.val (.ref ao0), .val (.ref ao1), .val (.int ((32 : Int32) - (1 : Int32))), .val (.int r3), .unset] [(.ref ao0), (.ref ha)])) (fun _ k => XS.aloadN X17.here hx rfl (hb hby d4_113) rfl rfl k) ?_
  obtain ⟨T18, X18, e18, st18⟩ := getF X17 hx hZ hown (host := "") (Or.inl (own_w hw 24 rfl)) Via.refl e17 F_ao0_size (g := (mkF m 114 #[.val (.ref ao0), .val (.ref ao1), .val (.int ((32 : Int32) - (1 : Int32))), .val (.int r3), .unset] [(.ref ao0), (.ref ha)])) rfl rfl (hb hby d4_114)
  refine own_go (x' := T18.setTop (mkF m 117 #[.val (.ref ao0), .val (.ref ao1), .val (.int ((32 : Int32) - (1 : Int32))), .val (.int r3), .unset] [(.int 0), (.ref ha)])) st18 ?_
  refine own_go (x' := T18.setTop (mkF m 118 #[.val (.ref ao0), .val (.ref ao1), .val (.int ((32 : Int32) - (1 : Int32))), .val (.int r3), .unset] [(.int r3), (.int 0), (.ref ha)])) (fun _ k => XS.iloadN X18.here hx rfl (hb hby d4_117) rfl k) ?_
  obtain ⟨cl19, Ar19, q19, Sz19, Nn19, Hh19, Gg19⟩ := V_ha
  have hin19 : ¬ ((0 : Int32) < 0 ∨ cl19.slots.size ≤ ((0 : Int32)).toNatClampNeg) := inb_of Sz19 ⟨by decide, by decide⟩
  obtain ⟨T19, h19, X19, e19, W19, st19⟩ := stI X18 hx hZ e18 Ar19 (j := (0 : Int32)) hin19 (g := (mkF m 118 #[.val (.ref ao0), .val (.ref ao1), .val (.int ((32 : Int32) - (1 : Int32))), .val (.int r3), .unset] [(.int r3), (.int 0), (.ref ha)])) rfl rfl (hb hby d4_118)
  refine own_go (x' := T19.setTop (mkF m 119 #[.val (.ref ao0), .val (.ref ao1), .val (.int ((32 : Int32) - (1 : Int32))), .val (.int r3), .unset] [])) st19 ?_
  replace E_ao0 := Exa.wr W19 E_ao0
  replace F_ao0_width := Fld.other W19 F_ao0_width (Or.inl ne_ao0_ha)
  replace F_ao0_states := Fld.other W19 F_ao0_states (Or.inl ne_ao0_ha)
  replace F_ao0_counts := Fld.other W19 F_ao0_counts (Or.inl ne_ao0_ha)
  replace F_ao0_homes := Fld.other W19 F_ao0_homes (Or.inl ne_ao0_ha)
  replace F_ao0_size := Fld.other W19 F_ao0_size (Or.inl ne_ao0_ha)
  replace F_ao0_slots := Fld.other W19 F_ao0_slots (Or.inl ne_ao0_ha)
  replace V_pt := V_pt.other W19 (Ne.symm ne_ha_pt)
  replace V_ao1 := V_ao1.other W19 (Ne.symm ne_ha_ao1)
  replace V_sa := V_sa.other W19 ne_sa_ha
  replace V_ca := V_ca.other W19 ne_ca_ha
  replace Zs := Nat.le_trans Zs (Keep.of_wr W19).1
  replace Nf := Fr.snoc X19 Nf g_ha
  replace Kp := Kp.wr W19 (Or.inl (by simp))
  have V_ha := Arh.push Ar19 q19 Sz19 Nn19 Hh19 Gg19 rfl W19 hin19
  refine own_go (x' := T19.setTop (mkF m 120 #[.val (.ref ao0), .val (.ref ao1), .val (.int ((32 : Int32) - (1 : Int32))), .val (.int r3), .unset] [(.ref ao0)])) (fun _ k => XS.aloadN X19.here hx rfl (hb hby d4_119) rfl rfl k) ?_
  obtain ⟨T20, X20, e20, st20⟩ := getF X19 hx hZ hown (host := "") (Or.inl (own_w hw 17 rfl)) Via.refl e19 F_ao0_slots (g := (mkF m 120 #[.val (.ref ao0), .val (.ref ao1), .val (.int ((32 : Int32) - (1 : Int32))), .val (.int r3), .unset] [(.ref ao0)])) rfl rfl (hb hby d4_120)
  refine own_go (x' := T20.setTop (mkF m 123 #[.val (.ref ao0), .val (.ref ao1), .val (.int ((32 : Int32) - (1 : Int32))), .val (.int r3), .unset] [(.ref pt)])) st20 ?_
  refine own_go (x' := T20.setTop (mkF m 125 #[.val (.ref ao0), .val (.ref ao1), .val (.int ((32 : Int32) - (1 : Int32))), .val (.int r3), .unset] [(.ref ao0), (.int r3), (.ref pt)])) (fun _ k => XS.iloadN X20.here hx rfl (hb hby d4_123) rfl (XS.aloadN X20.here hx rfl (hb hby d4_124) rfl rfl k)) ?_
  obtain ⟨T21, X21, e21, st21⟩ := getF X20 hx hZ hown (host := "") (Or.inl (own_w hw 24 rfl)) Via.refl e20 F_ao0_size (g := (mkF m 125 #[.val (.ref ao0), .val (.ref ao1), .val (.int ((32 : Int32) - (1 : Int32))), .val (.int r3), .unset] [(.ref ao0), (.int r3), (.ref pt)])) rfl rfl (hb hby d4_125)
  refine own_go (x' := T21.setTop (mkF m 128 #[.val (.ref ao0), .val (.ref ao1), .val (.int ((32 : Int32) - (1 : Int32))), .val (.int r3), .unset] [(.int 0), (.int r3), (.ref pt)])) st21 ?_
  refine own_go (x' := T21.setTop (mkF m 130 #[.val (.ref ao0), .val (.ref ao1), .val (.int ((32 : Int32) - (1 : Int32))), .val (.int r3), .unset] [(.int ((0 : Int32) + (1 : Int32))), (.int r3), (.ref pt)])) (fun _ k => XS.iconst X21.here hx rfl (hb hby d4_128) (XS.iadd X21.here hx rfl (hb hby d4_129) rfl k)) ?_
  rw [show ((0 : Int32) + (1 : Int32)) = (1 : Int32) from by decide +kernel]
  obtain ⟨cl22, Ar22, q22, Sz22, Nn22, Hh22, Gg22⟩ := V_pt
  have hin22 : ¬ (r3 < 0 ∨ cl22.slots.size ≤ (r3).toNatClampNeg) := inb_of Sz22 ⟨hz3.1, hz3.2⟩
  obtain ⟨T22, h22, X22, e22, W22, st22⟩ := stI X21 hx hZ e21 Ar22 (j := r3) hin22 (g := (mkF m 130 #[.val (.ref ao0), .val (.ref ao1), .val (.int ((32 : Int32) - (1 : Int32))), .val (.int r3), .unset] [(.int 1), (.int r3), (.ref pt)])) rfl rfl (hb hby d4_130)
  refine own_go (x' := T22.setTop (mkF m 131 #[.val (.ref ao0), .val (.ref ao1), .val (.int ((32 : Int32) - (1 : Int32))), .val (.int r3), .unset] [])) st22 ?_
  replace E_ao0 := Exa.wr W22 E_ao0
  replace F_ao0_width := Fld.other W22 F_ao0_width (Or.inl ne_ao0_pt)
  replace F_ao0_states := Fld.other W22 F_ao0_states (Or.inl ne_ao0_pt)
  replace F_ao0_counts := Fld.other W22 F_ao0_counts (Or.inl ne_ao0_pt)
  replace F_ao0_homes := Fld.other W22 F_ao0_homes (Or.inl ne_ao0_pt)
  replace F_ao0_size := Fld.other W22 F_ao0_size (Or.inl ne_ao0_pt)
  replace F_ao0_slots := Fld.other W22 F_ao0_slots (Or.inl ne_ao0_pt)
  replace V_ao1 := V_ao1.other W22 (Ne.symm ne_pt_ao1)
  replace V_sa := V_sa.other W22 ne_sa_pt
  replace V_ca := V_ca.other W22 ne_ca_pt
  replace V_ha := V_ha.other W22 ne_ha_pt
  replace Zs := Nat.le_trans Zs (Keep.of_wr W22).1
  replace Nf := Fr.snoc X22 Nf g_pt
  replace Kp := Kp.wr W22 (Or.inl (by simp))
  have V_pt := Arh.push Ar22 q22 Sz22 Nn22 Hh22 Gg22 rfl W22 hin22
  refine own_go (x' := T22.setTop (mkF m 133 #[.val (.ref ao0), .val (.ref ao1), .val (.int ((32 : Int32) - (1 : Int32))), .val (.int r3), .unset] [(.ref ao0), (.ref ao0)])) (fun _ k => XS.aloadN X22.here hx rfl (hb hby d4_131) rfl rfl (XS.dup X22.here hx rfl (hb hby d4_132) rfl rfl k)) ?_
  obtain ⟨T23, X23, e23, st23⟩ := getF X22 hx hZ hown (host := "") (Or.inl (own_w hw 24 rfl)) Via.refl e22 F_ao0_size (g := (mkF m 133 #[.val (.ref ao0), .val (.ref ao1), .val (.int ((32 : Int32) - (1 : Int32))), .val (.int r3), .unset] [(.ref ao0), (.ref ao0)])) rfl rfl (hb hby d4_133)
  refine own_go (x' := T23.setTop (mkF m 136 #[.val (.ref ao0), .val (.ref ao1), .val (.int ((32 : Int32) - (1 : Int32))), .val (.int r3), .unset] [(.int 0), (.ref ao0)])) st23 ?_
  refine own_go (x' := T23.setTop (mkF m 139 #[.val (.ref ao0), .val (.ref ao1), .val (.int ((32 : Int32) - (1 : Int32))), .val (.int r3), .unset] [(.int ((0 : Int32) + (1 : Int32))), (.ref ao0), (.int 0)])) (fun _ k => XS.dupX1 X23.here hx rfl (hb hby d4_136) rfl rfl rfl (XS.iconst X23.here hx rfl (hb hby d4_137) (XS.iadd X23.here hx rfl (hb hby d4_138) rfl k))) ?_
  rw [show ((0 : Int32) + (1 : Int32)) = (1 : Int32) from by decide +kernel]
  obtain ⟨T24, h24, X24, e24, W24, st24⟩ := putF X23 hx hZ hown (host := "") (Or.inl (own_w hw 24 rfl)) Via.refl e23 F_ao0_size E_ao0 (Or.inl (own_w hw 25 rfl)) (own_w hw 2 rfl) (ty := .int) (by decide) rfl rfl (g := (mkF m 139 #[.val (.ref ao0), .val (.ref ao1), .val (.int ((32 : Int32) - (1 : Int32))), .val (.int r3), .unset] [(.int 1), (.ref ao0), (.int 0)])) rfl rfl (hb hby d4_139)
  refine own_go (x' := T24.setTop (mkF m 142 #[.val (.ref ao0), .val (.ref ao1), .val (.int ((32 : Int32) - (1 : Int32))), .val (.int r3), .unset] [(.int 0)])) st24 ?_
  replace E_ao0 := Exa.wr W24 E_ao0
  replace F_ao0_width := Fld.other W24 F_ao0_width (Or.inr (slot_ne (Or.inl (own_w hw 27 rfl)) (Or.inl (own_w hw 25 rfl)) (by decide) (t := .int) (t' := .int) (by decide) (by decide)))
  replace F_ao0_states := Fld.other W24 F_ao0_states (Or.inr (slot_ne (Or.inl (own_w hw 11 rfl)) (Or.inl (own_w hw 25 rfl)) (by decide) (t := (.array .long)) (t' := .int) (by decide) (by decide)))
  replace F_ao0_counts := Fld.other W24 F_ao0_counts (Or.inr (slot_ne (Or.inl (own_w hw 13 rfl)) (Or.inl (own_w hw 25 rfl)) (by decide) (t := (.array .long)) (t' := .int) (by decide) (by decide)))
  replace F_ao0_homes := Fld.other W24 F_ao0_homes (Or.inr (slot_ne (Or.inl (own_w hw 16 rfl)) (Or.inl (own_w hw 25 rfl)) (by decide) (t := (.array .int)) (t' := .int) (by decide) (by decide)))
  replace F_ao0_size := Fld.same W24 F_ao0_size
  replace F_ao0_slots := Fld.other W24 F_ao0_slots (Or.inr (slot_ne (Or.inl (own_w hw 18 rfl)) (Or.inl (own_w hw 25 rfl)) (by decide) (t := (.array .int)) (t' := .int) (by decide) (by decide)))
  replace V_ao1 := V_ao1.other W24 (Ne.symm ne_ao0_ao1)
  replace V_sa := V_sa.other W24 (Ne.symm ne_ao0_sa)
  replace V_ca := V_ca.other W24 (Ne.symm ne_ao0_ca)
  replace V_ha := V_ha.other W24 (Ne.symm ne_ao0_ha)
  replace V_pt := V_pt.other W24 (Ne.symm ne_ao0_pt)
  replace Zs := Nat.le_trans Zs (Keep.of_wr W24).1
  replace Nf := Fr.snoc X24 Nf g_ao0
  replace Kp := Kp.wr W24 (Or.inl (by simp))
  refine own_retI X24 hx hlk hret (hb hby d4_142) ?_ (by decide) (by decide)
  rw [e24]
  exact ⟨r3, hz3, rfl, Nf, Kp, E_ao0, F_ao0_width, F_ao0_states, F_ao0_counts, F_ao0_homes, F_ao0_size, F_ao0_slots, V_sa, V_ca, V_ha, V_pt⟩
theorem own_next (r : Int32) (h : ¬ r < 0 ∧ r < 32) : ¬ ((r + (1 : Int32)) &&& ((32 : Int32) - (1 : Int32))) = r := by
  have e : (32 : Int32) - (1 : Int32) = 31 := by decide
  have m := c_mask (r + 1) 31 5 (by decide) (by decide)
  have z : (0 : Int32).toInt = 0 := by decide
  have t : (32 : Int32).toInt = 32 := by decide
  have o : (1 : Int32).toInt = 1 := by decide
  have a := c_iadd r 1
  have g := rng32 (r + 1)
  have t1 := mt Int32.lt_iff_toInt_lt.mpr h.1
  have t2 := Int32.lt_iff_toInt_lt.mp h.2
  rw [e]
  exact mt (congrArg Int32.toInt) (by omega)
theorem pd_4 : parseMethodDescriptor "(I[J)Z" = some ⟨[.int, (.array .long)], some .boolean⟩ := by decide +kernel
theorem d4_23 : decode prog_38_method_5_code 23 = .ok (.aload_n 0, 1) := by decide +kernel
theorem d4_24 : decode prog_38_method_5_code 24 = .ok (.getfield 22, 3) := by decide +kernel
theorem d4_27 : decode prog_38_method_5_code 27 = .ok (.iload_n 3, 1) := by decide +kernel
theorem d4_28 : decode prog_38_method_5_code 28 = .ok (.iaload, 1) := by decide +kernel
theorem d4_29 : decode prog_38_method_5_code 29 = .ok (.iconst 1, 1) := by decide +kernel
theorem d4_30 : decode prog_38_method_5_code 30 = .ok (.isub, 1) := by decide +kernel
theorem d4_31 : decode prog_38_method_5_code 31 = .ok (.istore 4, 2) := by decide +kernel
theorem d4_33 : decode prog_38_method_5_code 33 = .ok (.aload_n 0, 1) := by decide +kernel
theorem d4_34 : decode prog_38_method_5_code 34 = .ok (.iload 4, 2) := by decide +kernel
theorem d4_36 : decode prog_38_method_5_code 36 = .ok (.aload_n 1, 1) := by decide +kernel
theorem d4_37 : decode prog_38_method_5_code 37 = .ok (.invokevirtual 38, 3) := by decide +kernel
theorem d4_40 : decode prog_38_method_5_code 40 = .ok (.ifCond .eq 6, 3) := by decide +kernel
theorem d4_43 : decode prog_38_method_5_code 43 = .ok (.iload 4, 2) := by decide +kernel
theorem d4_45 : decode prog_38_method_5_code 45 = .ok (.ireturn, 1) := by decide +kernel
theorem d4_46 : decode prog_38_method_5_code 46 = .ok (.iload_n 3, 1) := by decide +kernel
theorem d4_47 : decode prog_38_method_5_code 47 = .ok (.iconst 1, 1) := by decide +kernel
theorem d4_48 : decode prog_38_method_5_code 48 = .ok (.iadd, 1) := by decide +kernel
theorem d4_49 : decode prog_38_method_5_code 49 = .ok (.iload_n 2, 1) := by decide +kernel
theorem d4_50 : decode prog_38_method_5_code 50 = .ok (.iand, 1) := by decide +kernel
theorem d4_51 : decode prog_38_method_5_code 51 = .ok (.istore_n 3, 1) := by decide +kernel
theorem d4_52 : decode prog_38_method_5_code 52 = .ok (.goto (-38), 3) := by decide +kernel
def Q_rm4_1 (Z : State) (ao0 ao1 : Addr) (wv : Int32) (kx : ClassId) (x0 x1 x2 x3 : Int64) (sa ca ha pt : Addr) (ks kc kh kp : ClassId) (sn : Int32) (sv : List Value) (hc hm hs : List (Int32 × Value)) (ro : Int32) (h0 : Heap) (n0 : Nat) (v : Option Value) (h : Heap) (L : List Loc) : Prop := ∃ z : Int32, v = some (.int z) ∧ Fr n0 L ∧ Keep h0 h [ao0, sa, ca, ha, pt] ∧ ((Exa Z h ao0 "com/example/moving_tokens/movingtokens/PartialChoices" ∧ Fld Z h ao0 "com/example/moving_tokens/movingtokens/PartialChoices" "width" "I" (.int wv) ∧ Fld Z h ao0 "com/example/moving_tokens/movingtokens/PartialChoices" "states" "[J" (.ref sa) ∧ Fld Z h ao0 "com/example/moving_tokens/movingtokens/PartialChoices" "counts" "[J" (.ref ca) ∧ Fld Z h ao0 "com/example/moving_tokens/movingtokens/PartialChoices" "homes" "[I" (.ref ha) ∧ Fld Z h ao0 "com/example/moving_tokens/movingtokens/PartialChoices" "size" "I" (.int 1) ∧ Fld Z h ao0 "com/example/moving_tokens/movingtokens/PartialChoices" "slots" "[I" (.ref pt) ∧ Arv Z h sa ks .long sn sv (.long (0 : Int64)) ∧ Arh Z h ca kc .long (16 : Int32) hc [] (.long (0 : Int64)) ∧ Arh Z h ha kh .int (16 : Int32) (((0 : Int32), .int ro) :: hm) [] (.int (0 : Int32)) ∧ Arh Z h pt kp .int (32 : Int32) ((ro, .int (1 : Int32)) :: hs) [] (.int (0 : Int32))) ∨ (∃ (r : Int32) (sv2 : List Value), (¬ r < 0 ∧ r < 32) ∧ sv2.length = 8 ∧ Exa Z h ao0 "com/example/moving_tokens/movingtokens/PartialChoices" ∧ Fld Z h ao0 "com/example/moving_tokens/movingtokens/PartialChoices" "width" "I" (.int wv) ∧ Fld Z h ao0 "com/example/moving_tokens/movingtokens/PartialChoices" "states" "[J" (.ref sa) ∧ Fld Z h ao0 "com/example/moving_tokens/movingtokens/PartialChoices" "counts" "[J" (.ref ca) ∧ Fld Z h ao0 "com/example/moving_tokens/movingtokens/PartialChoices" "homes" "[I" (.ref ha) ∧ Fld Z h ao0 "com/example/moving_tokens/movingtokens/PartialChoices" "size" "I" (.int 2) ∧ Fld Z h ao0 "com/example/moving_tokens/movingtokens/PartialChoices" "slots" "[I" (.ref pt) ∧ Arv Z h sa ks .long sn sv2 (.long (0 : Int64)) ∧ Arh Z h ca kc .long (16 : Int32) (((1 : Int32), .long (0 : Int64)) :: hc) [] (.long (0 : Int64)) ∧ Arh Z h ha kh .int (16 : Int32) (((1 : Int32), .int r) :: (((0 : Int32), .int ro) :: hm)) [] (.int (0 : Int32)) ∧ Arh Z h pt kp .int (32 : Int32) ((r, .int (2 : Int32)) :: ((ro, .int (1 : Int32)) :: hs)) [] (.int (0 : Int32))))
theorem pn_rm4_1 : plainName "com/example/moving_tokens/movingtokens/PartialChoices" = true := by first | (simp [plainName, overriddenIn]; done) | decide +kernel
theorem ef_rm4_1 (m : MethodId) (x0 : Addr) (x1 : Addr) : entryFrame m #[(.ref x0), (.ref x1)] 5 = mkF m 0 #[.val (.ref x0), .val (.ref x1), .unset, .unset, .unset] [] := by first | (simp [entryFrame, mkF, argsToLocals, Value.category]; done) | rfl
set_option maxRecDepth 65536 in
set_option maxHeartbeats 40000000 in
theorem rm4_1 (l : Launch) (Z : State) (a0 : Array Value) (hw : ∀ d ∈ tables_1, d.before a0 Z = true) (ws : List Jvm.Cond) (ao0 ao1 : Addr) (wv : Int32) (kx : ClassId) (x0 x1 x2 x3 : Int64) (sa ca ha pt : Addr) (ks kc kh kp : ClassId) (sn : Int32) (sv : List Value) (hc hm hs : List (Int32 × Value)) (ro : Int32) (h0 : Heap) (n0 : Nat) (Z0 : n0 ≤ h0.size) (hwv : wv = 1 ∨ wv = 2 ∨ wv = 3 ∨ wv = 4) (E_ao0 : Exa Z h0 ao0 "com/example/moving_tokens/movingtokens/PartialChoices") (F_ao0_width : Fld Z h0 ao0 "com/example/moving_tokens/movingtokens/PartialChoices" "width" "I" (.int wv)) (F_ao0_states : Fld Z h0 ao0 "com/example/moving_tokens/movingtokens/PartialChoices" "states" "[J" (.ref sa)) (F_ao0_counts : Fld Z h0 ao0 "com/example/moving_tokens/movingtokens/PartialChoices" "counts" "[J" (.ref ca)) (F_ao0_homes : Fld Z h0 ao0 "com/example/moving_tokens/movingtokens/PartialChoices" "homes" "[I" (.ref ha)) (F_ao0_size : Fld Z h0 ao0 "com/example/moving_tokens/movingtokens/PartialChoices" "size" "I" (.int 1)) (F_ao0_slots : Fld Z h0 ao0 "com/example/moving_tokens/movingtokens/PartialChoices" "slots" "[I" (.ref pt)) (V_sa : Arv Z h0 sa ks .long sn sv (.long (0 : Int64))) (V_ca : Arh Z h0 ca kc .long (16 : Int32) hc [] (.long (0 : Int64))) (V_ha : Arh Z h0 ha kh .int (16 : Int32) (((0 : Int32), .int ro) :: hm) [] (.int (0 : Int32))) (V_pt : Arh Z h0 pt kp .int (32 : Int32) ((ro, .int (1 : Int32)) :: hs) [] (.int (0 : Int32))) (hL : sv.length = 8) (hN : (15 : Int32) < sn) (ne_ao0_sa : ao0 ≠ sa) (ne_ao0_ca : ao0 ≠ ca) (ne_ao0_ha : ao0 ≠ ha) (ne_ao0_pt : ao0 ≠ pt) (ne_sa_ca : sa ≠ ca) (ne_sa_ha : sa ≠ ha) (ne_sa_pt : sa ≠ pt) (ne_ca_ha : ca ≠ ha) (ne_ca_pt : ca ≠ pt) (ne_ha_pt : ha ≠ pt) (g_ao0 : n0 ≤ ao0) (g_sa : n0 ≤ sa) (g_ca : n0 ≤ ca) (g_ha : n0 ≤ ha) (g_pt : n0 ≤ pt) (hro : ¬ ro < 0 ∧ ro < 32) (hzr : own_Zr hs) (V_ao1 : Arv Z h0 ao1 kx .long (4 : Int32) [.long x0, .long x1, .long x2, .long x3] (.long (0 : Int64))) (ne_ao0_ao1 : ao0 ≠ ao1) (ne_sa_ao1 : sa ≠ ao1) (ne_ca_ao1 : ca ≠ ao1) (ne_ha_ao1 : ha ≠ ao1) (ne_pt_ao1 : pt ≠ ao1) :
    MetFree l (⟨"com/example/moving_tokens/movingtokens/PartialChoices", "entry", "([J)I"⟩ : MethodName) (head1 (Jvm.Cond.code (⟨"com/example/moving_tokens/movingtokens/PartialChoices", "entry", "([J)I"⟩ : MethodName) prog_38_method_5_code 5 (some .int) :: ws) ({ frames := 5, cells := 0, slots := 0, locals := 80 } : Room)) (fun a U => a = #[(.ref ao0), (.ref ao1)] ∧ Z.Warmed39 U.vm ∧ U.heap = h0) (fun _ _ _ _ _ => True) (fun _ U o U' => ∃ v L, o = .returned v ∧ (Q_rm4_1 Z ao0 ao1 wv kx x0 x1 x2 x3 sa ca ha pt ks kc kh kp sn sv hc hm hs ro h0 n0) v U'.heap L ∧ FrameEnd U o U' L ({ frames := 5, cells := 0, slots := 0, locals := 80 } : Room).cells ({ frames := 5, cells := 0, slots := 0, locals := 80 } : Room).slots) := by
  refine MetFree.of_bodySF (plainFor_of_name pn_rm4_1) hisR ?_
  intro p e s m args below meth c s₁ Bd hml0 hP hK
  obtain ⟨rfl, hZ, hh⟩ := hP
  have hx := Bd.exec
  have hby := Bd.bytes
  have hlk := BodyLoose.notSynchronized Bd
  have hret := Bd.returns
  have hml : c.maxLocals = 5 := hml0
  have hown : s.vm.findClass "com/example/moving_tokens/movingtokens/PartialChoices" = some m.cls := findClass_of_methodNamed Bd.named
  have hnm := (name_of_methodNamed Bd.named Bd.method).1
  have X0 : Stand p l e ({ frames := 5, cells := 0, slots := 0, locals := 80 } : Room) s m #[(.ref ao0), (.ref ao1)] below meth c s₁ [] 0 0 := Stand.of_body Bd
  have e0 : s₁.heap = h0 := by rw [← hh, Bd.state]; rfl
  have Nf := Fr.nil n0
  have Zs := Z0
  have Kp : Keep h0 h0 [ao0, sa, ca, ha, pt] := Keep.refl _ _
  show own_End p e below s (Q_rm4_1 Z ao0 ao1 wv kx x0 x1 x2 x3 sa ca ha pt ks kc kh kp sn sv hc hm hs ro h0 n0) ({ frames := 5, cells := 0, slots := 0, locals := 80 } : Room).cells ({ frames := 5, cells := 0, slots := 0, locals := 80 } : Room).slots (s₁.setTop (entryFrame m #[(.ref ao0), (.ref ao1)] 5))
  refine own_go (x' := s₁.setTop (mkF m 0 #[.val (.ref ao0), .val (.ref ao1), .unset, .unset, .unset] [])) (fun t k => castTop (ef_rm4_1 m ao0 ao1) k) ?_
  refine own_go (x' := s₁.setTop (mkF m 1 #[.val (.ref ao0), .val (.ref ao1), .unset, .unset, .unset] [(.ref ao0)])) (fun _ k => XS.aloadN X0.here hx rfl (hb hby d4_0) rfl rfl k) ?_
  obtain ⟨T1, X1, e1, st1⟩ := getF X0 hx hZ hown (host := "") (Or.inl (own_w hw 17 rfl)) Via.refl e0 F_ao0_slots (g := (mkF m 1 #[.val (.ref ao0), .val (.ref ao1), .unset, .unset, .unset] [(.ref ao0)])) rfl rfl (hb hby d4_1)
  refine own_go (x' := T1.setTop (mkF m 4 #[.val (.ref ao0), .val (.ref ao1), .unset, .unset, .unset] [(.ref pt)])) st1 ?_
  obtain ⟨cl2, Ar2, -, Sz2, Nn2, -, -⟩ := id V_pt
  refine own_go (x' := T1.setTop (mkF m 5 #[.val (.ref ao0), .val (.ref ao1), .unset, .unset, .unset] [(.int 32)])) (fun t k => X1.arraylength hx (Eq.trans (congrArg (fun h_ => h_[_]?) e1) Ar2.1) (State.isArrayOf_alike hZ.alike Ar2.2.1) (g := (mkF m 4 #[.val (.ref ao0), .val (.ref ao1), .unset, .unset, .unset] [(.ref pt)])) rfl rfl (hb hby d4_4) t (by rw [len_of Sz2 Nn2]; exact k)) ?_
  refine own_go (x' := T1.setTop (mkF m 10 #[.val (.ref ao0), .val (.ref ao1), .val (.int ((32 : Int32) - (1 : Int32))), .unset, .unset] [(.ref ao1), (.ref ao0)])) (fun _ k => XS.iconst X1.here hx rfl (hb hby d4_5) (XS.isub X1.here hx rfl (hb hby d4_6) rfl (XS.istoreN X1.here hx rfl (hb hby d4_7) rfl (l' := #[.val (.ref ao0), .val (.ref ao1), .val (.int ((32 : Int32) - (1 : Int32))), .unset, .unset]) rfl (XS.aloadN X1.here hx rfl (hb hby d4_8) rfl rfl (XS.aloadN X1.here hx rfl (hb hby d4_9) rfl rfl k))))) ?_
  obtain ⟨cq3, q3, q3'⟩ := E_ao0.cell
  obtain ⟨_, _, ⟨T3, L3, k3, n3⟩, -, X3, ⟨Lc3, hQ3, l3, y3, z3⟩, st3⟩ := X1.privateBack hx (y := (⟨"com/example/moving_tokens/movingtokens/PartialChoices", "home", "([J)I"⟩ : MethodName)) hown (mvT hZ (own_w hw 34 rfl)) (mvT hZ (own_w hw 35 rfl)) (mvT hZ (own_self (y := (⟨"com/example/moving_tokens/movingtokens/PartialChoices", "home", "([J)I"⟩ : MethodName)) (own_w hw 2 rfl) (own_w hw 35 rfl) (own_w hw 36 rfl) (by decide))) (Cond.privateMethod_at (mvP hZ (own_w hw 36 rfl) (args := #[]))) (mvT hZ (own_w hw 37 rfl)) (by decide) (backOf (W := 0) (rm5S l Z a0 hw [] ao0 ao1 wv kx x0 x1 x2 x3 pt kp _ h0 n0 Zs hwv F_ao0_width F_ao0_slots V_ao1 V_pt) hZ (own_w hw 37 rfl) (own_w hw 3 rfl) (by decide) (by decide)) (g := (mkF m 10 #[.val (.ref ao0), .val (.ref ao1), .val (.int ((32 : Int32) - (1 : Int32))), .unset, .unset] [(.ref ao1), (.ref ao0)])) rfl (by rw [hml]; rfl) (Steps.refl _) (a := ao0) (Eq.trans (congrArg (fun h_ => h_[_]?) e1) q3) q3' (argsL := [(.ref ao1)]) (rest := []) (lenOf pd_3 rfl) rfl (by show 2 * 0 + _ ≤ _; exact Nat.le_of_eq rfl) (hb hby d4_10) (fun _ _ => ⟨rfl, e1, (by decide : 0 + 0 ≤ _), (by decide : 0 + 0 ≤ _)⟩)
  dsimp only [Pt.U, Pt.locs, Pt.cells, Pt.slots] at X3 l3 y3 z3 st3 hQ3
  subst l3 y3 z3
  obtain ⟨r3, hz3, hv3, Nq3, eq3⟩ := hQ3
  subst hv3
  replace Nf := Fr.app Nf Nq3
  refine own_go (x' := T3.setTop (mkF m 13 #[.val (.ref ao0), .val (.ref ao1), .val (.int ((32 : Int32) - (1 : Int32))), .unset, .unset] [(.int r3)])) (fun _ k => st3.trans k) ?_
  refine own_go (x' := T3.setTop (mkF m 14 #[.val (.ref ao0), .val (.ref ao1), .val (.int ((32 : Int32) - (1 : Int32))), .val (.int r3), .unset] [])) (fun _ k => XS.istoreN X3.here hx rfl (hb hby d4_13) rfl (l' := #[.val (.ref ao0), .val (.ref ao1), .val (.int ((32 : Int32) - (1 : Int32))), .val (.int r3), .unset]) rfl k) ?_
  by_cases hqr3 : r3 = ro
  · refine own_go (x' := T3.setTop (mkF m 15 #[.val (.ref ao0), .val (.ref ao1), .val (.int ((32 : Int32) - (1 : Int32))), .val (.int r3), .unset] [(.ref ao0)])) (fun _ k => XS.aloadN X3.here hx rfl (hb hby d4_14) rfl rfl k) ?_
    obtain ⟨T4, X4, e4, st4⟩ := getF X3 hx hZ hown (host := "") (Or.inl (own_w hw 17 rfl)) Via.refl eq3 F_ao0_slots (g := (mkF m 15 #[.val (.ref ao0), .val (.ref ao1), .val (.int ((32 : Int32) - (1 : Int32))), .val (.int r3), .unset] [(.ref ao0)])) rfl rfl (hb hby d4_15)
    refine own_go (x' := T4.setTop (mkF m 18 #[.val (.ref ao0), .val (.ref ao1), .val (.int ((32 : Int32) - (1 : Int32))), .val (.int r3), .unset] [(.ref pt)])) st4 ?_
    refine own_go (x' := T4.setTop (mkF m 19 #[.val (.ref ao0), .val (.ref ao1), .val (.int ((32 : Int32) - (1 : Int32))), .val (.int r3), .unset] [(.int r3), (.ref pt)])) (fun _ k => XS.iloadN X4.here hx rfl (hb hby d4_18) rfl k) ?_
    obtain ⟨cl5, Ar5, q5, Sz5, Nn5, Hh5, Gg5⟩ := id V_pt
    have hin5 : ¬ (r3 < 0 ∨ cl5.slots.size ≤ (r3).toNatClampNeg) := inb_of Sz5 ⟨hz3.1, hz3.2⟩
    refine own_go (x' := T4.setTop (mkF m 20 #[.val (.ref ao0), .val (.ref ao1), .val (.int ((32 : Int32) - (1 : Int32))), .val (.int r3), .unset] [(.int 1)])) (X4.iaload hx (j := r3) (v := (.int 1)) (Eq.trans (congrArg (fun h_ => h_[_]?) e4) Ar5.1) (State.isArrayOf_alike hZ.alike Ar5.2.1) Ar5.2.2 hin5 (atH Hh5 hin5 (getH_hit hz3.1 hqr3)) (g := (mkF m 19 #[.val (.ref ao0), .val (.ref ao1), .val (.int ((32 : Int32) - (1 : Int32))), .val (.int r3), .unset] [(.int r3), (.ref pt)])) rfl rfl (hb hby d4_19)) ?_
    refine own_go (x' := T4.setTop (mkF m 24 #[.val (.ref ao0), .val (.ref ao1), .val (.int ((32 : Int32) - (1 : Int32))), .val (.int r3), .unset] [(.ref ao0)])) (fun _ k => XS.ifNo X4.here hx rfl (hb hby d4_20) rfl ((if0 _ _).trans (feq (by decide +kernel : ¬ ((1 : Int32) = (0 : Int32)))).1) (XS.aloadN X4.here hx rfl (hb hby d4_23) rfl rfl k)) ?_
    obtain ⟨T6, X6, e6, st6⟩ := getF X4 hx hZ hown (host := "") (Or.inl (own_w hw 17 rfl)) Via.refl e4 F_ao0_slots (g := (mkF m 24 #[.val (.ref ao0), .val (.ref ao1), .val (.int ((32 : Int32) - (1 : Int32))), .val (.int r3), .unset] [(.ref ao0)])) rfl rfl (hb hby d4_24)
    refine own_go (x' := T6.setTop (mkF m 27 #[.val (.ref ao0), .val (.ref ao1), .val (.int ((32 : Int32) - (1 : Int32))), .val (.int r3), .unset] [(.ref pt)])) st6 ?_
    refine own_go (x' := T6.setTop (mkF m 28 #[.val (.ref ao0), .val (.ref ao1), .val (.int ((32 : Int32) - (1 : Int32))), .val (.int r3), .unset] [(.int r3), (.ref pt)])) (fun _ k => XS.iloadN X6.here hx rfl (hb hby d4_27) rfl k) ?_
    obtain ⟨cl7, Ar7, q7, Sz7, Nn7, Hh7, Gg7⟩ := id V_pt
    have hin7 : ¬ (r3 < 0 ∨ cl7.slots.size ≤ (r3).toNatClampNeg) := inb_of Sz7 ⟨hz3.1, hz3.2⟩
    refine own_go (x' := T6.setTop (mkF m 29 #[.val (.ref ao0), .val (.ref ao1), .val (.int ((32 : Int32) - (1 : Int32))), .val (.int r3), .unset] [(.int 1)])) (X6.iaload hx (j := r3) (v := (.int 1)) (Eq.trans (congrArg (fun h_ => h_[_]?) e6) Ar7.1) (State.isArrayOf_alike hZ.alike Ar7.2.1) Ar7.2.2 hin7 (atH Hh7 hin7 (getH_hit hz3.1 hqr3)) (g := (mkF m 28 #[.val (.ref ao0), .val (.ref ao1), .val (.int ((32 : Int32) - (1 : Int32))), .val (.int r3), .unset] [(.int r3), (.ref pt)])) rfl rfl (hb hby d4_28)) ?_
    refine own_go (x' := T6.setTop (mkF m 33 #[.val (.ref ao0), .val (.ref ao1), .val (.int ((32 : Int32) - (1 : Int32))), .val (.int r3), .val (.int ((1 : Int32) - (1 : Int32)))] [])) (fun _ k => XS.iconst X6.here hx rfl (hb hby d4_29) (XS.isub X6.here hx rfl (hb hby d4_30) rfl (XS.istore X6.here hx rfl (hb hby d4_31) rfl (l' := #[.val (.ref ao0), .val (.ref ao1), .val (.int ((32 : Int32) - (1 : Int32))), .val (.int r3), .val (.int ((1 : Int32) - (1 : Int32)))]) rfl k))) ?_
    rw [show ((1 : Int32) - (1 : Int32)) = (0 : Int32) from by decide +kernel]
    refine own_go (x' := T6.setTop (mkF m 37 #[.val (.ref ao0), .val (.ref ao1), .val (.int ((32 : Int32) - (1 : Int32))), .val (.int r3), .val (.int 0)] [(.ref ao1), (.int 0), (.ref ao0)])) (fun _ k => XS.aloadN X6.here hx rfl (hb hby d4_33) rfl rfl (XS.iload X6.here hx rfl (hb hby d4_34) rfl (XS.aloadN X6.here hx rfl (hb hby d4_36) rfl rfl k))) ?_
    obtain ⟨cq8, q8, q8'⟩ := E_ao0.cell
    obtain ⟨_, _, ⟨T8, L8, k8, n8⟩, -, X8, ⟨Lc8, hQ8, l8, y8, z8⟩, st8⟩ := X6.privateBack hx (y := (⟨"com/example/moving_tokens/movingtokens/PartialChoices", "holds", "(I[J)Z"⟩ : MethodName)) hown (mvT hZ (own_w hw 73 rfl)) (mvT hZ (own_w hw 74 rfl)) (mvT hZ (own_self (y := (⟨"com/example/moving_tokens/movingtokens/PartialChoices", "holds", "(I[J)Z"⟩ : MethodName)) (own_w hw 2 rfl) (own_w hw 74 rfl) (own_w hw 75 rfl) (by decide))) (Cond.privateMethod_at (mvP hZ (own_w hw 75 rfl) (args := #[]))) (mvT hZ (own_w hw 76 rfl)) (by decide) (backOf (W := 0) (rm13S l Z a0 hw [] ao0 ao1 wv kx x0 x1 x2 x3 sa ks sn _ h0 n0 Zs hwv F_ao0_width F_ao0_states V_ao1 V_sa hN) hZ (own_w hw 76 rfl) (own_w hw 3 rfl) (by decide) (by decide)) (g := (mkF m 37 #[.val (.ref ao0), .val (.ref ao1), .val (.int ((32 : Int32) - (1 : Int32))), .val (.int r3), .val (.int 0)] [(.ref ao1), (.int 0), (.ref ao0)])) rfl (by rw [hml]; rfl) (Steps.refl _) (a := ao0) (Eq.trans (congrArg (fun h_ => h_[_]?) e6) q8) q8' (argsL := [(.int 0), (.ref ao1)]) (rest := []) (lenOf pd_4 rfl) rfl (by show 2 * 0 + _ ≤ _; exact Nat.le_of_eq rfl) (hb hby d4_37) (fun _ _ => ⟨rfl, e6, (by decide : 0 + 0 ≤ _), (by decide : 0 + 0 ≤ _)⟩)
    dsimp only [Pt.U, Pt.locs, Pt.cells, Pt.slots] at X8 l8 y8 z8 st8 hQ8
    subst l8 y8 z8
    obtain ⟨y8', -, hv8, Nq8, eq8⟩ := hQ8
    subst hv8
    replace Nf := Fr.app Nf Nq8
    refine own_go (x' := T8.setTop (mkF m 40 #[.val (.ref ao0), .val (.ref ao1), .val (.int ((32 : Int32) - (1 : Int32))), .val (.int r3), .val (.int 0)] [(.int y8')])) (fun _ k => st8.trans k) ?_
    by_cases hc40 : y8' = (0 : Int32)
    · refine own_go (x' := T8.setTop (mkF m 51 #[.val (.ref ao0), .val (.ref ao1), .val (.int ((32 : Int32) - (1 : Int32))), .val (.int r3), .val (.int 0)] [(.int ((r3 + (1 : Int32)) &&& ((32 : Int32) - (1 : Int32))))])) (fun _ k => XS.ifYes X8.here hx rfl (pc0 := 40) (pc' := 46) rfl (hb hby d4_40) rfl ((if0 _ _).trans (teq hc40).1) (by decide) (by decide) (XS.iloadN X8.here hx rfl (hb hby d4_46) rfl (XS.iconst X8.here hx rfl (hb hby d4_47) (XS.iadd X8.here hx rfl (hb hby d4_48) rfl (XS.iloadN X8.here hx rfl (hb hby d4_49) rfl (XS.iand X8.here hx rfl (hb hby d4_50) rfl k)))))) ?_
      refine own_go (x' := T8.setTop (mkF m 14 #[.val (.ref ao0), .val (.ref ao1), .val (.int ((32 : Int32) - (1 : Int32))), .val (.int ((r3 + (1 : Int32)) &&& ((32 : Int32) - (1 : Int32)))), .val (.int 0)] [])) (fun _ k => XS.istoreN X8.here hx rfl (hb hby d4_51) rfl (l' := #[.val (.ref ao0), .val (.ref ao1), .val (.int ((32 : Int32) - (1 : Int32))), .val (.int ((r3 + (1 : Int32)) &&& ((32 : Int32) - (1 : Int32)))), .val (.int 0)]) rfl (XS.goto X8.here hx rfl (pc0 := 52) (pc' := 14) rfl (hb hby d4_52) (by decide) (by decide) k)) ?_
      have hz9 := own_31 (r3 + (1 : Int32))
      have hn9 := own_next r3 hz3
      have hy9 : ¬ ((r3 + (1 : Int32)) &&& ((32 : Int32) - (1 : Int32))) = ro := fun q_ => hn9 (q_.trans hqr3.symm)
      generalize ((r3 + (1 : Int32)) &&& ((32 : Int32) - (1 : Int32))) = r9 at hz9 hy9 ⊢
      refine own_go (x' := T8.setTop (mkF m 15 #[.val (.ref ao0), .val (.ref ao1), .val (.int ((32 : Int32) - (1 : Int32))), .val (.int r9), .val (.int 0)] [(.ref ao0)])) (fun _ k => XS.aloadN X8.here hx rfl (hb hby d4_14) rfl rfl k) ?_
      obtain ⟨T10, X10, e10, st10⟩ := getF X8 hx hZ hown (host := "") (Or.inl (own_w hw 17 rfl)) Via.refl eq8 F_ao0_slots (g := (mkF m 15 #[.val (.ref ao0), .val (.ref ao1), .val (.int ((32 : Int32) - (1 : Int32))), .val (.int r9), .val (.int 0)] [(.ref ao0)])) rfl rfl (hb hby d4_15)
      refine own_go (x' := T10.setTop (mkF m 18 #[.val (.ref ao0), .val (.ref ao1), .val (.int ((32 : Int32) - (1 : Int32))), .val (.int r9), .val (.int 0)] [(.ref pt)])) st10 ?_
      refine own_go (x' := T10.setTop (mkF m 19 #[.val (.ref ao0), .val (.ref ao1), .val (.int ((32 : Int32) - (1 : Int32))), .val (.int r9), .val (.int 0)] [(.int r9), (.ref pt)])) (fun _ k => XS.iloadN X10.here hx rfl (hb hby d4_18) rfl k) ?_
      obtain ⟨cl11, Ar11, q11, Sz11, Nn11, Hh11, Gg11⟩ := id V_pt
      have hin11 : ¬ (r9 < 0 ∨ cl11.slots.size ≤ (r9).toNatClampNeg) := inb_of Sz11 ⟨hz9.1, hz9.2⟩
      refine own_go (x' := T10.setTop (mkF m 20 #[.val (.ref ao0), .val (.ref ao1), .val (.int ((32 : Int32) - (1 : Int32))), .val (.int r9), .val (.int 0)] [(.int 0)])) (X10.iaload hx (j := r9) (v := (.int 0)) (Eq.trans (congrArg (fun h_ => h_[_]?) e10) Ar11.1) (State.isArrayOf_alike hZ.alike Ar11.2.1) Ar11.2.2 hin11 (atH Hh11 hin11 (getH_miss hz9.1 hy9 (hzr _))) (g := (mkF m 19 #[.val (.ref ao0), .val (.ref ao1), .val (.int ((32 : Int32) - (1 : Int32))), .val (.int r9), .val (.int 0)] [(.int r9), (.ref pt)])) rfl rfl (hb hby d4_19)) ?_
      refine own_go (x' := T10.setTop (mkF m 56 #[.val (.ref ao0), .val (.ref ao1), .val (.int ((32 : Int32) - (1 : Int32))), .val (.int r9), .val (.int 0)] [(.ref ao0)])) (fun _ k => XS.ifYes X10.here hx rfl (pc0 := 20) (pc' := 55) rfl (hb hby d4_20) rfl ((if0 _ _).trans (teq rfl).1) (by decide) (by decide) (XS.aloadN X10.here hx rfl (hb hby d4_55) rfl rfl k)) ?_
      obtain ⟨T12, X12, e12, st12⟩ := getF X10 hx hZ hown (host := "") (Or.inl (own_w hw 24 rfl)) Via.refl e10 F_ao0_size (g := (mkF m 56 #[.val (.ref ao0), .val (.ref ao1), .val (.int ((32 : Int32) - (1 : Int32))), .val (.int r9), .val (.int 0)] [(.ref ao0)])) rfl rfl (hb hby d4_56)
      refine own_go (x' := T12.setTop (mkF m 59 #[.val (.ref ao0), .val (.ref ao1), .val (.int ((32 : Int32) - (1 : Int32))), .val (.int r9), .val (.int 0)] [(.int 1)])) st12 ?_
      refine own_go (x' := T12.setTop (mkF m 60 #[.val (.ref ao0), .val (.ref ao1), .val (.int ((32 : Int32) - (1 : Int32))), .val (.int r9), .val (.int 0)] [(.ref ao0), (.int 1)])) (fun _ k => XS.aloadN X12.here hx rfl (hb hby d4_59) rfl rfl k) ?_
      obtain ⟨T13, X13, e13, st13⟩ := getF X12 hx hZ hown (host := "") (Or.inl (own_w hw 12 rfl)) Via.refl e12 F_ao0_counts (g := (mkF m 60 #[.val (.ref ao0), .val (.ref ao1), .val (.int ((32 : Int32) - (1 : Int32))), .val (.int r9), .val (.int 0)] [(.ref ao0), (.int 1)])) rfl rfl (hb hby d4_60)
      refine own_go (x' := T13.setTop (mkF m 63 #[.val (.ref ao0), .val (.ref ao1), .val (.int ((32 : Int32) - (1 : Int32))), .val (.int r9), .val (.int 0)] [(.ref ca), (.int 1)])) st13 ?_
      obtain ⟨cl14, Ar14, -, Sz14, Nn14, -, -⟩ := id V_ca
      refine own_go (x' := T13.setTop (mkF m 64 #[.val (.ref ao0), .val (.ref ao1), .val (.int ((32 : Int32) - (1 : Int32))), .val (.int r9), .val (.int 0)] [(.int 16), (.int 1)])) (fun t k => X13.arraylength hx (Eq.trans (congrArg (fun h_ => h_[_]?) e13) Ar14.1) (State.isArrayOf_alike hZ.alike Ar14.2.1) (g := (mkF m 63 #[.val (.ref ao0), .val (.ref ao1), .val (.int ((32 : Int32) - (1 : Int32))), .val (.int r9), .val (.int 0)] [(.ref ca), (.int 1)])) rfl rfl (hb hby d4_63) t (by rw [len_of Sz14 Nn14]; exact k)) ?_
      refine own_go (x' := T13.setTop (mkF m 80 #[.val (.ref ao0), .val (.ref ao1), .val (.int ((32 : Int32) - (1 : Int32))), .val (.int r9), .val (.int 0)] [(.ref ao0), (.int 0), (.ref ao1)])) (fun _ k => XS.icmpYes X13.here hx rfl (pc0 := 64) (pc' := 77) rfl (hb hby d4_64) rfl (feq (by decide +kernel : ¬ ((1 : Int32) = (16 : Int32)))).2 (by decide) (by decide) (XS.aloadN X13.here hx rfl (hb hby d4_77) rfl rfl (XS.iconst X13.here hx rfl (hb hby d4_78) (XS.aloadN X13.here hx rfl (hb hby d4_79) rfl rfl k)))) ?_
      obtain ⟨T15, X15, e15, st15⟩ := getF X13 hx hZ hown (host := "") (Or.inl (own_w hw 10 rfl)) Via.refl e13 F_ao0_states (g := (mkF m 80 #[.val (.ref ao0), .val (.ref ao1), .val (.int ((32 : Int32) - (1 : Int32))), .val (.int r9), .val (.int 0)] [(.ref ao0), (.int 0), (.ref ao1)])) rfl rfl (hb hby d4_80)
      refine own_go (x' := T15.setTop (mkF m 83 #[.val (.ref ao0), .val (.ref ao1), .val (.int ((32 : Int32) - (1 : Int32))), .val (.int r9), .val (.int 0)] [(.ref sa), (.int 0), (.ref ao1)])) st15 ?_
      refine own_go (x' := T15.setTop (mkF m 84 #[.val (.ref ao0), .val (.ref ao1), .val (.int ((32 : Int32) - (1 : Int32))), .val (.int r9), .val (.int 0)] [(.ref ao0), (.ref sa), (.int 0), (.ref ao1)])) (fun _ k => XS.aloadN X15.here hx rfl (hb hby d4_83) rfl rfl k) ?_
      obtain ⟨T16, X16, e16, st16⟩ := getF X15 hx hZ hown (host := "") (Or.inl (own_w hw 24 rfl)) Via.refl e15 F_ao0_size (g := (mkF m 84 #[.val (.ref ao0), .val (.ref ao1), .val (.int ((32 : Int32) - (1 : Int32))), .val (.int r9), .val (.int 0)] [(.ref ao0), (.ref sa), (.int 0), (.ref ao1)])) rfl rfl (hb hby d4_84)
      refine own_go (x' := T16.setTop (mkF m 87 #[.val (.ref ao0), .val (.ref ao1), .val (.int ((32 : Int32) - (1 : Int32))), .val (.int r9), .val (.int 0)] [(.int 1), (.ref sa), (.int 0), (.ref ao1)])) st16 ?_
      refine own_go (x' := T16.setTop (mkF m 88 #[.val (.ref ao0), .val (.ref ao1), .val (.int ((32 : Int32) - (1 : Int32))), .val (.int r9), .val (.int 0)] [(.ref ao0), (.int 1), (.ref sa), (.int 0), (.ref ao1)])) (fun _ k => XS.aloadN X16.here hx rfl (hb hby d4_87) rfl rfl k) ?_
      obtain ⟨T17, X17, e17, st17⟩ := getF X16 hx hZ hown (host := "") (Or.inl (own_w hw 26 rfl)) Via.refl e16 F_ao0_width (g := (mkF m 88 #[.val (.ref ao0), .val (.ref ao1), .val (.int ((32 : Int32) - (1 : Int32))), .val (.int r9), .val (.int 0)] [(.ref ao0), (.int 1), (.ref sa), (.int 0), (.ref ao1)])) rfl rfl (hb hby d4_88)
      refine own_go (x' := T17.setTop (mkF m 91 #[.val (.ref ao0), .val (.ref ao1), .val (.int ((32 : Int32) - (1 : Int32))), .val (.int r9), .val (.int 0)] [(.int wv), (.int 1), (.ref sa), (.int 0), (.ref ao1)])) st17 ?_
      refine own_go (x' := T17.setTop (mkF m 93 #[.val (.ref ao0), .val (.ref ao1), .val (.int ((32 : Int32) - (1 : Int32))), .val (.int r9), .val (.int 0)] [(.ref ao0), (.int ((1 : Int32) * wv)), (.ref sa), (.int 0), (.ref ao1)])) (fun _ k => XS.imul X17.here hx rfl (hb hby d4_91) rfl (XS.aloadN X17.here hx rfl (hb hby d4_92) rfl rfl k)) ?_
      obtain ⟨T18, X18, e18, st18⟩ := getF X17 hx hZ hown (host := "") (Or.inl (own_w hw 26 rfl)) Via.refl e17 F_ao0_width (g := (mkF m 93 #[.val (.ref ao0), .val (.ref ao1), .val (.int ((32 : Int32) - (1 : Int32))), .val (.int r9), .val (.int 0)] [(.ref ao0), (.int ((1 : Int32) * wv)), (.ref sa), (.int 0), (.ref ao1)])) rfl rfl (hb hby d4_93)
      refine own_go (x' := T18.setTop (mkF m 96 #[.val (.ref ao0), .val (.ref ao1), .val (.int ((32 : Int32) - (1 : Int32))), .val (.int r9), .val (.int 0)] [(.int wv), (.int ((1 : Int32) * wv)), (.ref sa), (.int 0), (.ref ao1)])) st18 ?_
      rw [own_mw]
      have hul := own_usl hwv x0 x1 x2 x3
      obtain ⟨T19, h19, LL19, X19, e19, Nq19, K19, Vd19, st19⟩ := cpA X18 hx hZ hown (own_w hw 54 rfl) (own_w hw 57 rfl) (own_w hw 55 rfl) (own_w hw 56 rfl) e18 V_ao1 V_sa (us := own_usf wv x0 x1 x2 x3) (Or.inl ⟨rfl, rfl⟩) (by decide) hul.2.2.2 hul.2.2.2 (by rw [show (0 : Int32).toNatClampNeg = 0 from by decide, show (4 : Int32).toNatClampNeg = 4 from by decide]; omega) (by have := own_N hN; omega) rfl (by rw [hL]; omega) Nf g_sa (g := (mkF m 96 #[.val (.ref ao0), .val (.ref ao1), .val (.int ((32 : Int32) - (1 : Int32))), .val (.int r9), .val (.int 0)] [(.int wv), (.int wv), (.ref sa), (.int 0), (.ref ao1)])) rfl (by rw [hml]; rfl) rfl (hb hby d4_96) (by decide) (W := 0) (by show 2 * 0 + _ ≤ _; exact Nat.le_of_eq rfl) (by decide)
      refine own_go (x' := T19.setTop (mkF m 99 #[.val (.ref ao0), .val (.ref ao1), .val (.int ((32 : Int32) - (1 : Int32))), .val (.int r9), .val (.int 0)] [])) st19 ?_
      replace Nf := Nq19
      replace E_ao0 := E_ao0.keep K19
      replace F_ao0_width := F_ao0_width.keep K19 (ninS ne_ao0_sa nin0)
      replace F_ao0_states := F_ao0_states.keep K19 (ninS ne_ao0_sa nin0)
      replace F_ao0_counts := F_ao0_counts.keep K19 (ninS ne_ao0_sa nin0)
      replace F_ao0_homes := F_ao0_homes.keep K19 (ninS ne_ao0_sa nin0)
      replace F_ao0_size := F_ao0_size.keep K19 (ninS ne_ao0_sa nin0)
      replace F_ao0_slots := F_ao0_slots.keep K19 (ninS ne_ao0_sa nin0)
      replace V_ca := V_ca.keep K19 (ninS (Ne.symm ne_sa_ca) nin0)
      replace V_ha := V_ha.keep K19 (ninS (Ne.symm ne_sa_ha) nin0)
      replace V_pt := V_pt.keep K19 (ninS (Ne.symm ne_sa_pt) nin0)
      replace V_ao1 := V_ao1.keep K19 (ninS (Ne.symm ne_sa_ao1) nin0)
      replace Zs := Nat.le_trans Zs K19.1
      replace Kp := Kp.trans K19 (allS (Or.inl (by simp)) all0)
      obtain ⟨sv2, hsv2⟩ : ∃ z, z = sv.take wv.toNatClampNeg ++ own_usf wv x0 x1 x2 x3 ++ sv.drop (wv.toNatClampNeg + wv.toNatClampNeg) := ⟨_, rfl⟩
      have V_sa := Vd19
      rw [← hsv2] at V_sa
      have hL2 : sv2.length = 8 := by rw [hsv2, List.length_append, List.length_append, List.length_take, List.length_drop, hL, hul.1]; omega
      refine own_go (x' := T19.setTop (mkF m 100 #[.val (.ref ao0), .val (.ref ao1), .val (.int ((32 : Int32) - (1 : Int32))), .val (.int r9), .val (.int 0)] [(.ref ao0)])) (fun _ k => XS.aloadN X19.here hx rfl (hb hby d4_99) rfl rfl k) ?_
      obtain ⟨T20, X20, e20, st20⟩ := getF X19 hx hZ hown (host := "") (Or.inl (own_w hw 12 rfl)) Via.refl e19 F_ao0_counts (g := (mkF m 100 #[.val (.ref ao0), .val (.ref ao1), .val (.int ((32 : Int32) - (1 : Int32))), .val (.int r9), .val (.int 0)] [(.ref ao0)])) rfl rfl (hb hby d4_100)
      refine own_go (x' := T20.setTop (mkF m 103 #[.val (.ref ao0), .val (.ref ao1), .val (.int ((32 : Int32) - (1 : Int32))), .val (.int r9), .val (.int 0)] [(.ref ca)])) st20 ?_
      refine own_go (x' := T20.setTop (mkF m 104 #[.val (.ref ao0), .val (.ref ao1), .val (.int ((32 : Int32) - (1 : Int32))), .val (.int r9), .val (.int 0)] [(.ref ao0), (.ref ca)])) (fun _ k => XS.aloadN X20.here hx rfl (hb hby d4_103) rfl rfl k) ?_
      obtain ⟨T21, X21, e21, st21⟩ := getF X20 hx hZ hown (host := "") (Or.inl (own_w hw 24 rfl)) Via.refl e20 F_ao0_size (g := (mkF m 104 #[.val (.ref ao0), .val (.ref ao1), .val (.int ((32 : Int32) - (1 : Int32))), .val (.int r9), .val (.int 0)] [(.ref ao0), (.ref ca)])) rfl rfl (hb hby d4_104)
      refine own_go (x' := T21.setTop (mkF m 107 #[.val (.ref ao0), .val (.ref ao1), .val (.int ((32 : Int32) - (1 : Int32))), .val (.int r9), .val (.int 0)] [(.int 1), (.ref ca)])) st21 ?_
      refine own_go (x' := T21.setTop (mkF m 108 #[.val (.ref ao0), .val (.ref ao1), .val (.int ((32 : Int32) - (1 : Int32))), .val (.int r9), .val (.int 0)] [(.long 0), (.int 1), (.ref ca)])) (fun _ k => XS.lconst X21.here hx rfl (hb hby d4_107) k) ?_
      obtain ⟨cl22, Ar22, q22, Sz22, Nn22, Hh22, Gg22⟩ := V_ca
      have hin22 : ¬ ((1 : Int32) < 0 ∨ cl22.slots.size ≤ ((1 : Int32)).toNatClampNeg) := inb_of Sz22 ⟨by decide, by decide⟩
      obtain ⟨T22, h22, X22, e22, W22, st22⟩ := stJ X21 hx hZ e21 Ar22 (j := (1 : Int32)) hin22 (g := (mkF m 108 #[.val (.ref ao0), .val (.ref ao1), .val (.int ((32 : Int32) - (1 : Int32))), .val (.int r9), .val (.int 0)] [(.long 0), (.int 1), (.ref ca)])) rfl rfl (hb hby d4_108)
      refine own_go (x' := T22.setTop (mkF m 109 #[.val (.ref ao0), .val (.ref ao1), .val (.int ((32 : Int32) - (1 : Int32))), .val (.int r9), .val (.int 0)] [])) st22 ?_
      replace E_ao0 := Exa.wr W22 E_ao0
      replace F_ao0_width := Fld.other W22 F_ao0_width (Or.inl ne_ao0_ca)
      replace F_ao0_states := Fld.other W22 F_ao0_states (Or.inl ne_ao0_ca)
      replace F_ao0_counts := Fld.other W22 F_ao0_counts (Or.inl ne_ao0_ca)
      replace F_ao0_homes := Fld.other W22 F_ao0_homes (Or.inl ne_ao0_ca)
      replace F_ao0_size := Fld.other W22 F_ao0_size (Or.inl ne_ao0_ca)
      replace F_ao0_slots := Fld.other W22 F_ao0_slots (Or.inl ne_ao0_ca)
      replace V_ha := V_ha.other W22 (Ne.symm ne_ca_ha)
      replace V_pt := V_pt.other W22 (Ne.symm ne_ca_pt)
      replace V_ao1 := V_ao1.other W22 (Ne.symm ne_ca_ao1)
      replace V_sa := V_sa.other W22 ne_sa_ca
      replace Zs := Nat.le_trans Zs (Keep.of_wr W22).1
      replace Nf := Fr.snoc X22 Nf g_ca
      replace Kp := Kp.wr W22 (Or.inl (by simp))
      have V_ca := Arh.push Ar22 q22 Sz22 Nn22 Hh22 Gg22 rfl W22 hin22
      refine own_go (x' := T22.setTop (mkF m 110 #[.val (.ref ao0), .val (.ref ao1), .val (.int ((32 : Int32) - (1 : Int32))), .val (.int r9), .val (.int 0)] [(.ref ao0)])) (fun _ k => XS.aloadN X22.here hx rfl (hb hby d4_109) rfl rfl k) ?_
      obtain ⟨T23, X23, e23, st23⟩ := getF X22 hx hZ hown (host := "") (Or.inl (own_w hw 15 rfl)) Via.refl e22 F_ao0_homes (g := (mkF m 110 #[.val (.ref ao0), .val (.ref ao1), .val (.int ((32 : Int32) - (1 : Int32))), .val (.int r9), .val (.int 0)] [(.ref ao0)])) rfl rfl (hb hby d4_110)
      refine own_go (x' := T23.setTop (mkF m 113 #[.val (.ref ao0), .val (.ref ao1), .val (.int ((32 : Int32) - (1 : Int32))), .val (.int r9), .val (.int 0)] [(.ref ha)])) st23 ?_
      refine own_go (x' := T23.setTop (mkF m 114 #[.val (.ref ao0), .val (.ref ao1), .val (.int ((32 : Int32) - (1 : Int32))), .val (.int r9), .val (.int 0)] [(.ref ao0), (.ref ha)])) (fun _ k => XS.aloadN X23.here hx rfl (hb hby d4_113) rfl rfl k) ?_
      obtain ⟨T24, X24, e24, st24⟩ := getF X23 hx hZ hown (host := "") (Or.inl (own_w hw 24 rfl)) Via.refl e23 F_ao0_size (g := (mkF m 114 #[.val (.ref ao0), .val (.ref ao1), .val (.int ((32 : Int32) - (1 : Int32))), .val (.int r9), .val (.int 0)] [(.ref ao0), (.ref ha)])) rfl rfl (hb hby d4_114)
      refine own_go (x' := T24.setTop (mkF m 117 #[.val (.ref ao0), .val (.ref ao1), .val (.int ((32 : Int32) - (1 : Int32))), .val (.int r9), .val (.int 0)] [(.int 1), (.ref ha)])) st24 ?_
      refine own_go (x' := T24.setTop (mkF m 118 #[.val (.ref ao0), .val (.ref ao1), .val (.int ((32 : Int32) - (1 : Int32))), .val (.int r9), .val (.int 0)] [(.int r9), (.int 1), (.ref ha)])) (fun _ k => XS.iloadN X24.here hx rfl (hb hby d4_117) rfl k) ?_
      obtain ⟨cl25, Ar25, q25, Sz25, Nn25, Hh25, Gg25⟩ := V_ha
      have hin25 : ¬ ((1 : Int32) < 0 ∨ cl25.slots.size ≤ ((1 : Int32)).toNatClampNeg) := inb_of Sz25 ⟨by decide, by decide⟩
      obtain ⟨T25, h25, X25, e25, W25, st25⟩ := stI X24 hx hZ e24 Ar25 (j := (1 : Int32)) hin25 (g := (mkF m 118 #[.val (.ref ao0), .val (.ref ao1), .val (.int ((32 : Int32) - (1 : Int32))), .val (.int r9), .val (.int 0)] [(.int r9), (.int 1), (.ref ha)])) rfl rfl (hb hby d4_118)
      refine own_go (x' := T25.setTop (mkF m 119 #[.val (.ref ao0), .val (.ref ao1), .val (.int ((32 : Int32) - (1 : Int32))), .val (.int r9), .val (.int 0)] [])) st25 ?_
      replace E_ao0 := Exa.wr W25 E_ao0
      replace F_ao0_width := Fld.other W25 F_ao0_width (Or.inl ne_ao0_ha)
      replace F_ao0_states := Fld.other W25 F_ao0_states (Or.inl ne_ao0_ha)
      replace F_ao0_counts := Fld.other W25 F_ao0_counts (Or.inl ne_ao0_ha)
      replace F_ao0_homes := Fld.other W25 F_ao0_homes (Or.inl ne_ao0_ha)
      replace F_ao0_size := Fld.other W25 F_ao0_size (Or.inl ne_ao0_ha)
      replace F_ao0_slots := Fld.other W25 F_ao0_slots (Or.inl ne_ao0_ha)
      replace V_pt := V_pt.other W25 (Ne.symm ne_ha_pt)
      replace V_ao1 := V_ao1.other W25 (Ne.symm ne_ha_ao1)
      replace V_sa := V_sa.other W25 ne_sa_ha
      replace V_ca := V_ca.other W25 ne_ca_ha
      replace Zs := Nat.le_trans Zs (Keep.of_wr W25).1
      replace Nf := Fr.snoc X25 Nf g_ha
      replace Kp := Kp.wr W25 (Or.inl (by simp))
      have V_ha := Arh.push Ar25 q25 Sz25 Nn25 Hh25 Gg25 rfl W25 hin25
      refine own_go (x' := T25.setTop (mkF m 120 #[.val (.ref ao0), .val (.ref ao1), .val (.int ((32 : Int32) - (1 : Int32))), .val (.int r9), .val (.int 0)] [(.ref ao0)])) (fun _ k => XS.aloadN X25.here hx rfl (hb hby d4_119) rfl rfl k) ?_
      obtain ⟨T26, X26, e26, st26⟩ := getF X25 hx hZ hown (host := "") (Or.inl (own_w hw 17 rfl)) Via.refl e25 F_ao0_slots (g := (mkF m 120 #[.val (.ref ao0), .val (.ref ao1), .val (.int ((32 : Int32) - (1 : Int32))), .val (.int r9), .val (.int 0)] [(.ref ao0)])) rfl rfl (hb hby d4_120)
      refine own_go (x' := T26.setTop (mkF m 123 #[.val (.ref ao0), .val (.ref ao1), .val (.int ((32 : Int32) - (1 : Int32))), .val (.int r9), .val (.int 0)] [(.ref pt)])) st26 ?_
      refine own_go (x' := T26.setTop (mkF m 125 #[.val (.ref ao0), .val (.ref ao1), .val (.int ((32 : Int32) - (1 : Int32))), .val (.int r9), .val (.int 0)] [(.ref ao0), (.int r9), (.ref pt)])) (fun _ k => XS.iloadN X26.here hx rfl (hb hby d4_123) rfl (XS.aloadN X26.here hx rfl (hb hby d4_124) rfl rfl k)) ?_
      obtain ⟨T27, X27, e27, st27⟩ := getF X26 hx hZ hown (host := "") (Or.inl (own_w hw 24 rfl)) Via.refl e26 F_ao0_size (g := (mkF m 125 #[.val (.ref ao0), .val (.ref ao1), .val (.int ((32 : Int32) - (1 : Int32))), .val (.int r9), .val (.int 0)] [(.ref ao0), (.int r9), (.ref pt)])) rfl rfl (hb hby d4_125)
      refine own_go (x' := T27.setTop (mkF m 128 #[.val (.ref ao0), .val (.ref ao1), .val (.int ((32 : Int32) - (1 : Int32))), .val (.int r9), .val (.int 0)] [(.int 1), (.int r9), (.ref pt)])) st27 ?_
      refine own_go (x' := T27.setTop (mkF m 130 #[.val (.ref ao0), .val (.ref ao1), .val (.int ((32 : Int32) - (1 : Int32))), .val (.int r9), .val (.int 0)] [(.int ((1 : Int32) + (1 : Int32))), (.int r9), (.ref pt)])) (fun _ k => XS.iconst X27.here hx rfl (hb hby d4_128) (XS.iadd X27.here hx rfl (hb hby d4_129) rfl k)) ?_
      rw [show ((1 : Int32) + (1 : Int32)) = (2 : Int32) from by decide +kernel]
      obtain ⟨cl28, Ar28, q28, Sz28, Nn28, Hh28, Gg28⟩ := V_pt
      have hin28 : ¬ (r9 < 0 ∨ cl28.slots.size ≤ (r9).toNatClampNeg) := inb_of Sz28 ⟨hz9.1, hz9.2⟩
      obtain ⟨T28, h28, X28, e28, W28, st28⟩ := stI X27 hx hZ e27 Ar28 (j := r9) hin28 (g := (mkF m 130 #[.val (.ref ao0), .val (.ref ao1), .val (.int ((32 : Int32) - (1 : Int32))), .val (.int r9), .val (.int 0)] [(.int 2), (.int r9), (.ref pt)])) rfl rfl (hb hby d4_130)
      refine own_go (x' := T28.setTop (mkF m 131 #[.val (.ref ao0), .val (.ref ao1), .val (.int ((32 : Int32) - (1 : Int32))), .val (.int r9), .val (.int 0)] [])) st28 ?_
      replace E_ao0 := Exa.wr W28 E_ao0
      replace F_ao0_width := Fld.other W28 F_ao0_width (Or.inl ne_ao0_pt)
      replace F_ao0_states := Fld.other W28 F_ao0_states (Or.inl ne_ao0_pt)
      replace F_ao0_counts := Fld.other W28 F_ao0_counts (Or.inl ne_ao0_pt)
      replace F_ao0_homes := Fld.other W28 F_ao0_homes (Or.inl ne_ao0_pt)
      replace F_ao0_size := Fld.other W28 F_ao0_size (Or.inl ne_ao0_pt)
      replace F_ao0_slots := Fld.other W28 F_ao0_slots (Or.inl ne_ao0_pt)
      replace V_ao1 := V_ao1.other W28 (Ne.symm ne_pt_ao1)
      replace V_sa := V_sa.other W28 ne_sa_pt
      replace V_ca := V_ca.other W28 ne_ca_pt
      replace V_ha := V_ha.other W28 ne_ha_pt
      replace Zs := Nat.le_trans Zs (Keep.of_wr W28).1
      replace Nf := Fr.snoc X28 Nf g_pt
      replace Kp := Kp.wr W28 (Or.inl (by simp))
      have V_pt := Arh.push Ar28 q28 Sz28 Nn28 Hh28 Gg28 rfl W28 hin28
      refine own_go (x' := T28.setTop (mkF m 133 #[.val (.ref ao0), .val (.ref ao1), .val (.int ((32 : Int32) - (1 : Int32))), .val (.int r9), .val (.int 0)] [(.ref ao0), (.ref ao0)])) (fun _ k => XS.aloadN X28.here hx rfl (hb hby d4_131) rfl rfl (XS.dup X28.here hx rfl (hb hby d4_132) rfl rfl k)) ?_
      obtain ⟨T29, X29, e29, st29⟩ := getF X28 hx hZ hown (host := "") (Or.inl (own_w hw 24 rfl)) Via.refl e28 F_ao0_size (g := (mkF m 133 #[.val (.ref ao0), .val (.ref ao1), .val (.int ((32 : Int32) - (1 : Int32))), .val (.int r9), .val (.int 0)] [(.ref ao0), (.ref ao0)])) rfl rfl (hb hby d4_133)
      refine own_go (x' := T29.setTop (mkF m 136 #[.val (.ref ao0), .val (.ref ao1), .val (.int ((32 : Int32) - (1 : Int32))), .val (.int r9), .val (.int 0)] [(.int 1), (.ref ao0)])) st29 ?_
      refine own_go (x' := T29.setTop (mkF m 139 #[.val (.ref ao0), .val (.ref ao1), .val (.int ((32 : Int32) - (1 : Int32))), .val (.int r9), .val (.int 0)] [(.int ((1 : Int32) + (1 : Int32))), (.ref ao0), (.int 1)])) (fun _ k => XS.dupX1 X29.here hx rfl (hb hby d4_136) rfl rfl rfl (XS.iconst X29.here hx rfl (hb hby d4_137) (XS.iadd X29.here hx rfl (hb hby d4_138) rfl k))) ?_
      rw [show ((1 : Int32) + (1 : Int32)) = (2 : Int32) from by decide +kernel]
      obtain ⟨T30, h30, X30, e30, W30, st30⟩ := putF X29 hx hZ hown (host := "") (Or.inl (own_w hw 24 rfl)) Via.refl e29 F_ao0_size E_ao0 (Or.inl (own_w hw 25 rfl)) (own_w hw 2 rfl) (ty := .int) (by decide) rfl rfl (g := (mkF m 139 #[.val (.ref ao0), .val (.ref ao1), .val (.int ((32 : Int32) - (1 : Int32))), .val (.int r9), .val (.int 0)] [(.int 2), (.ref ao0), (.int 1)])) rfl rfl (hb hby d4_139)
      refine own_go (x' := T30.setTop (mkF m 142 #[.val (.ref ao0), .val (.ref ao1), .val (.int ((32 : Int32) - (1 : Int32))), .val (.int r9), .val (.int 0)] [(.int 1)])) st30 ?_
      replace E_ao0 := Exa.wr W30 E_ao0
      replace F_ao0_width := Fld.other W30 F_ao0_width (Or.inr (slot_ne (Or.inl (own_w hw 27 rfl)) (Or.inl (own_w hw 25 rfl)) (by decide) (t := .int) (t' := .int) (by decide) (by decide)))
      replace F_ao0_states := Fld.other W30 F_ao0_states (Or.inr (slot_ne (Or.inl (own_w hw 11 rfl)) (Or.inl (own_w hw 25 rfl)) (by decide) (t := (.array .long)) (t' := .int) (by decide) (by decide)))
      replace F_ao0_counts := Fld.other W30 F_ao0_counts (Or.inr (slot_ne (Or.inl (own_w hw 13 rfl)) (Or.inl (own_w hw 25 rfl)) (by decide) (t := (.array .long)) (t' := .int) (by decide) (by decide)))
      replace F_ao0_homes := Fld.other W30 F_ao0_homes (Or.inr (slot_ne (Or.inl (own_w hw 16 rfl)) (Or.inl (own_w hw 25 rfl)) (by decide) (t := (.array .int)) (t' := .int) (by decide) (by decide)))
      replace F_ao0_size := Fld.same W30 F_ao0_size
      replace F_ao0_slots := Fld.other W30 F_ao0_slots (Or.inr (slot_ne (Or.inl (own_w hw 18 rfl)) (Or.inl (own_w hw 25 rfl)) (by decide) (t := (.array .int)) (t' := .int) (by decide) (by decide)))
      replace V_ao1 := V_ao1.other W30 (Ne.symm ne_ao0_ao1)
      replace V_sa := V_sa.other W30 (Ne.symm ne_ao0_sa)
      replace V_ca := V_ca.other W30 (Ne.symm ne_ao0_ca)
      replace V_ha := V_ha.other W30 (Ne.symm ne_ao0_ha)
      replace V_pt := V_pt.other W30 (Ne.symm ne_ao0_pt)
      replace Zs := Nat.le_trans Zs (Keep.of_wr W30).1
      replace Nf := Fr.snoc X30 Nf g_ao0
      replace Kp := Kp.wr W30 (Or.inl (by simp))
      refine own_retI X30 hx hlk hret (hb hby d4_142) ?_ (by decide) (by decide)
      rw [e30]
      exact ⟨_, rfl, Nf, Kp, Or.inr ⟨r9, sv2, hz9, hL2, E_ao0, F_ao0_width, F_ao0_states, F_ao0_counts, F_ao0_homes, F_ao0_size, F_ao0_slots, V_sa, V_ca, V_ha, V_pt⟩⟩
    · refine own_go (x' := T8.setTop (mkF m 45 #[.val (.ref ao0), .val (.ref ao1), .val (.int ((32 : Int32) - (1 : Int32))), .val (.int r3), .val (.int 0)] [(.int 0)])) (fun _ k => XS.ifNo X8.here hx rfl (hb hby d4_40) rfl ((if0 _ _).trans (feq hc40).1) (XS.iload X8.here hx rfl (hb hby d4_43) rfl k)) ?_
      refine own_retI X8 hx hlk hret (hb hby d4_45) ?_ (by decide) (by decide)
      rw [eq8]
      exact ⟨_, rfl, Nf, Kp, Or.inl ⟨E_ao0, F_ao0_width, F_ao0_states, F_ao0_counts, F_ao0_homes, F_ao0_size, F_ao0_slots, V_sa, V_ca, V_ha, V_pt⟩⟩
  · refine own_go (x' := T3.setTop (mkF m 15 #[.val (.ref ao0), .val (.ref ao1), .val (.int ((32 : Int32) - (1 : Int32))), .val (.int r3), .unset] [(.ref ao0)])) (fun _ k => XS.aloadN X3.here hx rfl (hb hby d4_14) rfl rfl k) ?_
    obtain ⟨T31, X31, e31, st31⟩ := getF X3 hx hZ hown (host := "") (Or.inl (own_w hw 17 rfl)) Via.refl eq3 F_ao0_slots (g := (mkF m 15 #[.val (.ref ao0), .val (.ref ao1), .val (.int ((32 : Int32) - (1 : Int32))), .val (.int r3), .unset] [(.ref ao0)])) rfl rfl (hb hby d4_15)
    refine own_go (x' := T31.setTop (mkF m 18 #[.val (.ref ao0), .val (.ref ao1), .val (.int ((32 : Int32) - (1 : Int32))), .val (.int r3), .unset] [(.ref pt)])) st31 ?_
    refine own_go (x' := T31.setTop (mkF m 19 #[.val (.ref ao0), .val (.ref ao1), .val (.int ((32 : Int32) - (1 : Int32))), .val (.int r3), .unset] [(.int r3), (.ref pt)])) (fun _ k => XS.iloadN X31.here hx rfl (hb hby d4_18) rfl k) ?_
    obtain ⟨cl32, Ar32, q32, Sz32, Nn32, Hh32, Gg32⟩ := id V_pt
    have hin32 : ¬ (r3 < 0 ∨ cl32.slots.size ≤ (r3).toNatClampNeg) := inb_of Sz32 ⟨hz3.1, hz3.2⟩
    refine own_go (x' := T31.setTop (mkF m 20 #[.val (.ref ao0), .val (.ref ao1), .val (.int ((32 : Int32) - (1 : Int32))), .val (.int r3), .unset] [(.int 0)])) (X31.iaload hx (j := r3) (v := (.int 0)) (Eq.trans (congrArg (fun h_ => h_[_]?) e31) Ar32.1) (State.isArrayOf_alike hZ.alike Ar32.2.1) Ar32.2.2 hin32 (atH Hh32 hin32 (getH_miss hz3.1 hqr3 (hzr _))) (g := (mkF m 19 #[.val (.ref ao0), .val (.ref ao1), .val (.int ((32 : Int32) - (1 : Int32))), .val (.int r3), .unset] [(.int r3), (.ref pt)])) rfl rfl (hb hby d4_19)) ?_
    refine own_go (x' := T31.setTop (mkF m 56 #[.val (.ref ao0), .val (.ref ao1), .val (.int ((32 : Int32) - (1 : Int32))), .val (.int r3), .unset] [(.ref ao0)])) (fun _ k => XS.ifYes X31.here hx rfl (pc0 := 20) (pc' := 55) rfl (hb hby d4_20) rfl ((if0 _ _).trans (teq rfl).1) (by decide) (by decide) (XS.aloadN X31.here hx rfl (hb hby d4_55) rfl rfl k)) ?_
    obtain ⟨T33, X33, e33, st33⟩ := getF X31 hx hZ hown (host := "") (Or.inl (own_w hw 24 rfl)) Via.refl e31 F_ao0_size (g := (mkF m 56 #[.val (.ref ao0), .val (.ref ao1), .val (.int ((32 : Int32) - (1 : Int32))), .val (.int r3), .unset] [(.ref ao0)])) rfl rfl (hb hby d4_56)
    refine own_go (x' := T33.setTop (mkF m 59 #[.val (.ref ao0), .val (.ref ao1), .val (.int ((32 : Int32) - (1 : Int32))), .val (.int r3), .unset] [(.int 1)])) st33 ?_
    refine own_go (x' := T33.setTop (mkF m 60 #[.val (.ref ao0), .val (.ref ao1), .val (.int ((32 : Int32) - (1 : Int32))), .val (.int r3), .unset] [(.ref ao0), (.int 1)])) (fun _ k => XS.aloadN X33.here hx rfl (hb hby d4_59) rfl rfl k) ?_
    obtain ⟨T34, X34, e34, st34⟩ := getF X33 hx hZ hown (host := "") (Or.inl (own_w hw 12 rfl)) Via.refl e33 F_ao0_counts (g := (mkF m 60 #[.val (.ref ao0), .val (.ref ao1), .val (.int ((32 : Int32) - (1 : Int32))), .val (.int r3), .unset] [(.ref ao0), (.int 1)])) rfl rfl (hb hby d4_60)
    refine own_go (x' := T34.setTop (mkF m 63 #[.val (.ref ao0), .val (.ref ao1), .val (.int ((32 : Int32) - (1 : Int32))), .val (.int r3), .unset] [(.ref ca), (.int 1)])) st34 ?_
    obtain ⟨cl35, Ar35, -, Sz35, Nn35, -, -⟩ := id V_ca
    refine own_go (x' := T34.setTop (mkF m 64 #[.val (.ref ao0), .val (.ref ao1), .val (.int ((32 : Int32) - (1 : Int32))), .val (.int r3), .unset] [(.int 16), (.int 1)])) (fun t k => X34.arraylength hx (Eq.trans (congrArg (fun h_ => h_[_]?) e34) Ar35.1) (State.isArrayOf_alike hZ.alike Ar35.2.1) (g := (mkF m 63 #[.val (.ref ao0), .val (.ref ao1), .val (.int ((32 : Int32) - (1 : Int32))), .val (.int r3), .unset] [(.ref ca), (.int 1)])) rfl rfl (hb hby d4_63) t (by rw [len_of Sz35 Nn35]; exact k)) ?_
    refine own_go (x' := T34.setTop (mkF m 80 #[.val (.ref ao0), .val (.ref ao1), .val (.int ((32 : Int32) - (1 : Int32))), .val (.int r3), .unset] [(.ref ao0), (.int 0), (.ref ao1)])) (fun _ k => XS.icmpYes X34.here hx rfl (pc0 := 64) (pc' := 77) rfl (hb hby d4_64) rfl (feq (by decide +kernel : ¬ ((1 : Int32) = (16 : Int32)))).2 (by decide) (by decide) (XS.aloadN X34.here hx rfl (hb hby d4_77) rfl rfl (XS.iconst X34.here hx rfl (hb hby d4_78) (XS.aloadN X34.here hx rfl (hb hby d4_79) rfl rfl k)))) ?_
    obtain ⟨T36, X36, e36, st36⟩ := getF X34 hx hZ hown (host := "") (Or.inl (own_w hw 10 rfl)) Via.refl e34 F_ao0_states (g := (mkF m 80 #[.val (.ref ao0), .val (.ref ao1), .val (.int ((32 : Int32) - (1 : Int32))), .val (.int r3), .unset] [(.ref ao0), (.int 0), (.ref ao1)])) rfl rfl (hb hby d4_80)
    refine own_go (x' := T36.setTop (mkF m 83 #[.val (.ref ao0), .val (.ref ao1), .val (.int ((32 : Int32) - (1 : Int32))), .val (.int r3), .unset] [(.ref sa), (.int 0), (.ref ao1)])) st36 ?_
    refine own_go (x' := T36.setTop (mkF m 84 #[.val (.ref ao0), .val (.ref ao1), .val (.int ((32 : Int32) - (1 : Int32))), .val (.int r3), .unset] [(.ref ao0), (.ref sa), (.int 0), (.ref ao1)])) (fun _ k => XS.aloadN X36.here hx rfl (hb hby d4_83) rfl rfl k) ?_
    obtain ⟨T37, X37, e37, st37⟩ := getF X36 hx hZ hown (host := "") (Or.inl (own_w hw 24 rfl)) Via.refl e36 F_ao0_size (g := (mkF m 84 #[.val (.ref ao0), .val (.ref ao1), .val (.int ((32 : Int32) - (1 : Int32))), .val (.int r3), .unset] [(.ref ao0), (.ref sa), (.int 0), (.ref ao1)])) rfl rfl (hb hby d4_84)
    refine own_go (x' := T37.setTop (mkF m 87 #[.val (.ref ao0), .val (.ref ao1), .val (.int ((32 : Int32) - (1 : Int32))), .val (.int r3), .unset] [(.int 1), (.ref sa), (.int 0), (.ref ao1)])) st37 ?_
    refine own_go (x' := T37.setTop (mkF m 88 #[.val (.ref ao0), .val (.ref ao1), .val (.int ((32 : Int32) - (1 : Int32))), .val (.int r3), .unset] [(.ref ao0), (.int 1), (.ref sa), (.int 0), (.ref ao1)])) (fun _ k => XS.aloadN X37.here hx rfl (hb hby d4_87) rfl rfl k) ?_
    obtain ⟨T38, X38, e38, st38⟩ := getF X37 hx hZ hown (host := "") (Or.inl (own_w hw 26 rfl)) Via.refl e37 F_ao0_width (g := (mkF m 88 #[.val (.ref ao0), .val (.ref ao1), .val (.int ((32 : Int32) - (1 : Int32))), .val (.int r3), .unset] [(.ref ao0), (.int 1), (.ref sa), (.int 0), (.ref ao1)])) rfl rfl (hb hby d4_88)
    refine own_go (x' := T38.setTop (mkF m 91 #[.val (.ref ao0), .val (.ref ao1), .val (.int ((32 : Int32) - (1 : Int32))), .val (.int r3), .unset] [(.int wv), (.int 1), (.ref sa), (.int 0), (.ref ao1)])) st38 ?_
    refine own_go (x' := T38.setTop (mkF m 93 #[.val (.ref ao0), .val (.ref ao1), .val (.int ((32 : Int32) - (1 : Int32))), .val (.int r3), .unset] [(.ref ao0), (.int ((1 : Int32) * wv)), (.ref sa), (.int 0), (.ref ao1)])) (fun _ k => XS.imul X38.here hx rfl (hb hby d4_91) rfl (XS.aloadN X38.here hx rfl (hb hby d4_92) rfl rfl k)) ?_
    obtain ⟨T39, X39, e39, st39⟩ := getF X38 hx hZ hown (host := "") (Or.inl (own_w hw 26 rfl)) Via.refl e38 F_ao0_width (g := (mkF m 93 #[.val (.ref ao0), .val (.ref ao1), .val (.int ((32 : Int32) - (1 : Int32))), .val (.int r3), .unset] [(.ref ao0), (.int ((1 : Int32) * wv)), (.ref sa), (.int 0), (.ref ao1)])) rfl rfl (hb hby d4_93)
    refine own_go (x' := T39.setTop (mkF m 96 #[.val (.ref ao0), .val (.ref ao1), .val (.int ((32 : Int32) - (1 : Int32))), .val (.int r3), .unset] [(.int wv), (.int ((1 : Int32) * wv)), (.ref sa), (.int 0), (.ref ao1)])) st39 ?_
    rw [own_mw]
    have hul := own_usl hwv x0 x1 x2 x3
    obtain ⟨T40, h40, LL40, X40, e40, Nq40, K40, Vd40, st40⟩ := cpA X39 hx hZ hown (own_w hw 54 rfl) (own_w hw 57 rfl) (own_w hw 55 rfl) (own_w hw 56 rfl) e39 V_ao1 V_sa (us := own_usf wv x0 x1 x2 x3) (Or.inl ⟨rfl, rfl⟩) (by decide) hul.2.2.2 hul.2.2.2 (by rw [show (0 : Int32).toNatClampNeg = 0 from by decide, show (4 : Int32).toNatClampNeg = 4 from by decide]; omega) (by have := own_N hN; omega) rfl (by rw [hL]; omega) Nf g_sa (g := (mkF m 96 #[.val (.ref ao0), .val (.ref ao1), .val (.int ((32 : Int32) - (1 : Int32))), .val (.int r3), .unset] [(.int wv), (.int wv), (.ref sa), (.int 0), (.ref ao1)])) rfl (by rw [hml]; rfl) rfl (hb hby d4_96) (by decide) (W := 0) (by show 2 * 0 + _ ≤ _; exact Nat.le_of_eq rfl) (by decide)
    refine own_go (x' := T40.setTop (mkF m 99 #[.val (.ref ao0), .val (.ref ao1), .val (.int ((32 : Int32) - (1 : Int32))), .val (.int r3), .unset] [])) st40 ?_
    replace Nf := Nq40
    replace E_ao0 := E_ao0.keep K40
    replace F_ao0_width := F_ao0_width.keep K40 (ninS ne_ao0_sa nin0)
    replace F_ao0_states := F_ao0_states.keep K40 (ninS ne_ao0_sa nin0)
    replace F_ao0_counts := F_ao0_counts.keep K40 (ninS ne_ao0_sa nin0)
    replace F_ao0_homes := F_ao0_homes.keep K40 (ninS ne_ao0_sa nin0)
    replace F_ao0_size := F_ao0_size.keep K40 (ninS ne_ao0_sa nin0)
    replace F_ao0_slots := F_ao0_slots.keep K40 (ninS ne_ao0_sa nin0)
    replace V_ca := V_ca.keep K40 (ninS (Ne.symm ne_sa_ca) nin0)
    replace V_ha := V_ha.keep K40 (ninS (Ne.symm ne_sa_ha) nin0)
    replace V_pt := V_pt.keep K40 (ninS (Ne.symm ne_sa_pt) nin0)
    replace V_ao1 := V_ao1.keep K40 (ninS (Ne.symm ne_sa_ao1) nin0)
    replace Zs := Nat.le_trans Zs K40.1
    replace Kp := Kp.trans K40 (allS (Or.inl (by simp)) all0)
    obtain ⟨sv2, hsv2⟩ : ∃ z, z = sv.take wv.toNatClampNeg ++ own_usf wv x0 x1 x2 x3 ++ sv.drop (wv.toNatClampNeg + wv.toNatClampNeg) := ⟨_, rfl⟩
    have V_sa := Vd40
    rw [← hsv2] at V_sa
    have hL2 : sv2.length = 8 := by rw [hsv2, List.length_append, List.length_append, List.length_take, List.length_drop, hL, hul.1]; omega
    refine own_go (x' := T40.setTop (mkF m 100 #[.val (.ref ao0), .val (.ref ao1), .val (.int ((32 : Int32) - (1 : Int32))), .val (.int r3), .unset] [(.ref ao0)])) (fun _ k => XS.aloadN X40.here hx rfl (hb hby d4_99) rfl rfl k) ?_
    obtain ⟨T41, X41, e41, st41⟩ := getF X40 hx hZ hown (host := "") (Or.inl (own_w hw 12 rfl)) Via.refl e40 F_ao0_counts (g := (mkF m 100 #[.val (.ref ao0), .val (.ref ao1), .val (.int ((32 : Int32) - (1 : Int32))), .val (.int r3), .unset] [(.ref ao0)])) rfl rfl (hb hby d4_100)
    refine own_go (x' := T41.setTop (mkF m 103 #[.val (.ref ao0), .val (.ref ao1), .val (.int ((32 : Int32) - (1 : Int32))), .val (.int r3), .unset] [(.ref ca)])) st41 ?_
    refine own_go (x' := T41.setTop (mkF m 104 #[.val (.ref ao0), .val (.ref ao1), .val (.int ((32 : Int32) - (1 : Int32))), .val (.int r3), .unset] [(.ref ao0), (.ref ca)])) (fun _ k => XS.aloadN X41.here hx rfl (hb hby d4_103) rfl rfl k) ?_
    obtain ⟨T42, X42, e42, st42⟩ := getF X41 hx hZ hown (host := "") (Or.inl (own_w hw 24 rfl)) Via.refl e41 F_ao0_size (g := (mkF m 104 #[.val (.ref ao0), .val (.ref ao1), .val (.int ((32 : Int32) - (1 : Int32))), .val (.int r3), .unset] [(.ref ao0), (.ref ca)])) rfl rfl (hb hby d4_104)
    refine own_go (x' := T42.setTop (mkF m 107 #[.val (.ref ao0), .val (.ref ao1), .val (.int ((32 : Int32) - (1 : Int32))), .val (.int r3), .unset] [(.int 1), (.ref ca)])) st42 ?_
    refine own_go (x' := T42.setTop (mkF m 108 #[.val (.ref ao0), .val (.ref ao1), .val (.int ((32 : Int32) - (1 : Int32))), .val (.int r3), .unset] [(.long 0), (.int 1), (.ref ca)])) (fun _ k => XS.lconst X42.here hx rfl (hb hby d4_107) k) ?_
    obtain ⟨cl43, Ar43, q43, Sz43, Nn43, Hh43, Gg43⟩ := V_ca
    have hin43 : ¬ ((1 : Int32) < 0 ∨ cl43.slots.size ≤ ((1 : Int32)).toNatClampNeg) := inb_of Sz43 ⟨by decide, by decide⟩
    obtain ⟨T43, h43, X43, e43, W43, st43⟩ := stJ X42 hx hZ e42 Ar43 (j := (1 : Int32)) hin43 (g := (mkF m 108 #[.val (.ref ao0), .val (.ref ao1), .val (.int ((32 : Int32) - (1 : Int32))), .val (.int r3), .unset] [(.long 0), (.int 1), (.ref ca)])) rfl rfl (hb hby d4_108)
    refine own_go (x' := T43.setTop (mkF m 109 #[.val (.ref ao0), .val (.ref ao1), .val (.int ((32 : Int32) - (1 : Int32))), .val (.int r3), .unset] [])) st43 ?_
    replace E_ao0 := Exa.wr W43 E_ao0
    replace F_ao0_width := Fld.other W43 F_ao0_width (Or.inl ne_ao0_ca)
    replace F_ao0_states := Fld.other W43 F_ao0_states (Or.inl ne_ao0_ca)
    replace F_ao0_counts := Fld.other W43 F_ao0_counts (Or.inl ne_ao0_ca)
    replace F_ao0_homes := Fld.other W43 F_ao0_homes (Or.inl ne_ao0_ca)
    replace F_ao0_size := Fld.other W43 F_ao0_size (Or.inl ne_ao0_ca)
    replace F_ao0_slots := Fld.other W43 F_ao0_slots (Or.inl ne_ao0_ca)
    replace V_ha := V_ha.other W43 (Ne.symm ne_ca_ha)
    replace V_pt := V_pt.other W43 (Ne.symm ne_ca_pt)
    replace V_ao1 := V_ao1.other W43 (Ne.symm ne_ca_ao1)
    replace V_sa := V_sa.other W43 ne_sa_ca
    replace Zs := Nat.le_trans Zs (Keep.of_wr W43).1
    replace Nf := Fr.snoc X43 Nf g_ca
    replace Kp := Kp.wr W43 (Or.inl (by simp))
    have V_ca := Arh.push Ar43 q43 Sz43 Nn43 Hh43 Gg43 rfl W43 hin43
    refine own_go (x' := T43.setTop (mkF m 110 #[.val (.ref ao0), .val (.ref ao1), .val (.int ((32 : Int32) - (1 : Int32))), .val (.int r3), .unset] [(.ref ao0)])) (fun _ k => XS.aloadN X43.here hx rfl (hb hby d4_109) rfl rfl k) ?_
    obtain ⟨T44, X44, e44, st44⟩ := getF X43 hx hZ hown (host := "") (Or.inl (own_w hw 15 rfl)) Via.refl e43 F_ao0_homes (g := (mkF m 110 #[.val (.ref ao0), .val (.ref ao1), .val (.int ((32 : Int32) - (1 : Int32))), .val (.int r3), .unset] [(.ref ao0)])) rfl rfl (hb hby d4_110)
    refine own_go (x' := T44.setTop (mkF m 113 #[.val (.ref ao0), .val (.ref ao1), .val (.int ((32 : Int32) - (1 : Int32))), .val (.int r3), .unset] [(.ref ha)])) st44 ?_
    refine own_go (x' := T44.setTop (mkF m 114 #[.val (.ref ao0), .val (.ref ao1), .val (.int ((32 : Int32) - (1 : Int32))), .val (.int r3), .unset] [(.ref ao0), (.ref ha)])) (fun _ k => XS.aloadN X44.here hx rfl (hb hby d4_113) rfl rfl k) ?_
    obtain ⟨T45, X45, e45, st45⟩ := getF X44 hx hZ hown (host := "") (Or.inl (own_w hw 24 rfl)) Via.refl e44 F_ao0_size (g := (mkF m 114 #[.val (.ref ao0), .val (.ref ao1), .val (.int ((32 : Int32) - (1 : Int32))), .val (.int r3), .unset] [(.ref ao0), (.ref ha)])) rfl rfl (hb hby d4_114)
    refine own_go (x' := T45.setTop (mkF m 117 #[.val (.ref ao0), .val (.ref ao1), .val (.int ((32 : Int32) - (1 : Int32))), .val (.int r3), .unset] [(.int 1), (.ref ha)])) st45 ?_
    refine own_go (x' := T45.setTop (mkF m 118 #[.val (.ref ao0), .val (.ref ao1), .val (.int ((32 : Int32) - (1 : Int32))), .val (.int r3), .unset] [(.int r3), (.int 1), (.ref ha)])) (fun _ k => XS.iloadN X45.here hx rfl (hb hby d4_117) rfl k) ?_
    obtain ⟨cl46, Ar46, q46, Sz46, Nn46, Hh46, Gg46⟩ := V_ha
    have hin46 : ¬ ((1 : Int32) < 0 ∨ cl46.slots.size ≤ ((1 : Int32)).toNatClampNeg) := inb_of Sz46 ⟨by decide, by decide⟩
    obtain ⟨T46, h46, X46, e46, W46, st46⟩ := stI X45 hx hZ e45 Ar46 (j := (1 : Int32)) hin46 (g := (mkF m 118 #[.val (.ref ao0), .val (.ref ao1), .val (.int ((32 : Int32) - (1 : Int32))), .val (.int r3), .unset] [(.int r3), (.int 1), (.ref ha)])) rfl rfl (hb hby d4_118)
    refine own_go (x' := T46.setTop (mkF m 119 #[.val (.ref ao0), .val (.ref ao1), .val (.int ((32 : Int32) - (1 : Int32))), .val (.int r3), .unset] [])) st46 ?_
    replace E_ao0 := Exa.wr W46 E_ao0
    replace F_ao0_width := Fld.other W46 F_ao0_width (Or.inl ne_ao0_ha)
    replace F_ao0_states := Fld.other W46 F_ao0_states (Or.inl ne_ao0_ha)
    replace F_ao0_counts := Fld.other W46 F_ao0_counts (Or.inl ne_ao0_ha)
    replace F_ao0_homes := Fld.other W46 F_ao0_homes (Or.inl ne_ao0_ha)
    replace F_ao0_size := Fld.other W46 F_ao0_size (Or.inl ne_ao0_ha)
    replace F_ao0_slots := Fld.other W46 F_ao0_slots (Or.inl ne_ao0_ha)
    replace V_pt := V_pt.other W46 (Ne.symm ne_ha_pt)
    replace V_ao1 := V_ao1.other W46 (Ne.symm ne_ha_ao1)
    replace V_sa := V_sa.other W46 ne_sa_ha
    replace V_ca := V_ca.other W46 ne_ca_ha
    replace Zs := Nat.le_trans Zs (Keep.of_wr W46).1
    replace Nf := Fr.snoc X46 Nf g_ha
    replace Kp := Kp.wr W46 (Or.inl (by simp))
    have V_ha := Arh.push Ar46 q46 Sz46 Nn46 Hh46 Gg46 rfl W46 hin46
    refine own_go (x' := T46.setTop (mkF m 120 #[.val (.ref ao0), .val (.ref ao1), .val (.int ((32 : Int32) - (1 : Int32))), .val (.int r3), .unset] [(.ref ao0)])) (fun _ k => XS.aloadN X46.here hx rfl (hb hby d4_119) rfl rfl k) ?_
    obtain ⟨T47, X47, e47, st47⟩ := getF X46 hx hZ hown (host := "") (Or.inl (own_w hw 17 rfl)) Via.refl e46 F_ao0_slots (g := (mkF m 120 #[.val (.ref ao0), .val (.ref ao1), .val (.int ((32 : Int32) - (1 : Int32))), .val (.int r3), .unset] [(.ref ao0)])) rfl rfl (hb hby d4_120)
    refine own_go (x' := T47.setTop (mkF m 123 #[.val (.ref ao0), .val (.ref ao1), .val (.int ((32 : Int32) - (1 : Int32))), .val (.int r3), .unset] [(.ref pt)])) st47 ?_
    refine own_go (x' := T47.setTop (mkF m 125 #[.val (.ref ao0), .val (.ref ao1), .val (.int ((32 : Int32) - (1 : Int32))), .val (.int r3), .unset] [(.ref ao0), (.int r3), (.ref pt)])) (fun _ k => XS.iloadN X47.here hx rfl (hb hby d4_123) rfl (XS.aloadN X47.here hx rfl (hb hby d4_124) rfl rfl k)) ?_
    obtain ⟨T48, X48, e48, st48⟩ := getF X47 hx hZ hown (host := "") (Or.inl (own_w hw 24 rfl)) Via.refl e47 F_ao0_size (g := (mkF m 125 #[.val (.ref ao0), .val (.ref ao1), .val (.int ((32 : Int32) - (1 : Int32))), .val (.int r3), .unset] [(.ref ao0), (.int r3), (.ref pt)])) rfl rfl (hb hby d4_125)
    refine own_go (x' := T48.setTop (mkF m 128 #[.val (.ref ao0), .val (.ref ao1), .val (.int ((32 : Int32) - (1 : Int32))), .val (.int r3), .unset] [(.int 1), (.int r3), (.ref pt)])) st48 ?_
    refine own_go (x' := T48.setTop (mkF m 130 #[.val (.ref ao0), .val (.ref ao1), .val (.int ((32 : Int32) - (1 : Int32))), .val (.int r3), .unset] [(.int ((1 : Int32) + (1 : Int32))), (.int r3), (.ref pt)])) (fun _ k => XS.iconst X48.here hx rfl (hb hby d4_128) (XS.iadd X48.here hx rfl (hb hby d4_129) rfl k)) ?_
    rw [show ((1 : Int32) + (1 : Int32)) = (2 : Int32) from by decide +kernel]
    obtain ⟨cl49, Ar49, q49, Sz49, Nn49, Hh49, Gg49⟩ := V_pt
    have hin49 : ¬ (r3 < 0 ∨ cl49.slots.size ≤ (r3).toNatClampNeg) := inb_of Sz49 ⟨hz3.1, hz3.2⟩
    obtain ⟨T49, h49, X49, e49, W49, st49⟩ := stI X48 hx hZ e48 Ar49 (j := r3) hin49 (g := (mkF m 130 #[.val (.ref ao0), .val (.ref ao1), .val (.int ((32 : Int32) - (1 : Int32))), .val (.int r3), .unset] [(.int 2), (.int r3), (.ref pt)])) rfl rfl (hb hby d4_130)
    refine own_go (x' := T49.setTop (mkF m 131 #[.val (.ref ao0), .val (.ref ao1), .val (.int ((32 : Int32) - (1 : Int32))), .val (.int r3), .unset] [])) st49 ?_
    replace E_ao0 := Exa.wr W49 E_ao0
    replace F_ao0_width := Fld.other W49 F_ao0_width (Or.inl ne_ao0_pt)
    replace F_ao0_states := Fld.other W49 F_ao0_states (Or.inl ne_ao0_pt)
    replace F_ao0_counts := Fld.other W49 F_ao0_counts (Or.inl ne_ao0_pt)
    replace F_ao0_homes := Fld.other W49 F_ao0_homes (Or.inl ne_ao0_pt)
    replace F_ao0_size := Fld.other W49 F_ao0_size (Or.inl ne_ao0_pt)
    replace F_ao0_slots := Fld.other W49 F_ao0_slots (Or.inl ne_ao0_pt)
    replace V_ao1 := V_ao1.other W49 (Ne.symm ne_pt_ao1)
    replace V_sa := V_sa.other W49 ne_sa_pt
    replace V_ca := V_ca.other W49 ne_ca_pt
    replace V_ha := V_ha.other W49 ne_ha_pt
    replace Zs := Nat.le_trans Zs (Keep.of_wr W49).1
    replace Nf := Fr.snoc X49 Nf g_pt
    replace Kp := Kp.wr W49 (Or.inl (by simp))
    have V_pt := Arh.push Ar49 q49 Sz49 Nn49 Hh49 Gg49 rfl W49 hin49
    refine own_go (x' := T49.setTop (mkF m 133 #[.val (.ref ao0), .val (.ref ao1), .val (.int ((32 : Int32) - (1 : Int32))), .val (.int r3), .unset] [(.ref ao0), (.ref ao0)])) (fun _ k => XS.aloadN X49.here hx rfl (hb hby d4_131) rfl rfl (XS.dup X49.here hx rfl (hb hby d4_132) rfl rfl k)) ?_
    obtain ⟨T50, X50, e50, st50⟩ := getF X49 hx hZ hown (host := "") (Or.inl (own_w hw 24 rfl)) Via.refl e49 F_ao0_size (g := (mkF m 133 #[.val (.ref ao0), .val (.ref ao1), .val (.int ((32 : Int32) - (1 : Int32))), .val (.int r3), .unset] [(.ref ao0), (.ref ao0)])) rfl rfl (hb hby d4_133)
    refine own_go (x' := T50.setTop (mkF m 136 #[.val (.ref ao0), .val (.ref ao1), .val (.int ((32 : Int32) - (1 : Int32))), .val (.int r3), .unset] [(.int 1), (.ref ao0)])) st50 ?_
    refine own_go (x' := T50.setTop (mkF m 139 #[.val (.ref ao0), .val (.ref ao1), .val (.int ((32 : Int32) - (1 : Int32))), .val (.int r3), .unset] [(.int ((1 : Int32) + (1 : Int32))), (.ref ao0), (.int 1)])) (fun _ k => XS.dupX1 X50.here hx rfl (hb hby d4_136) rfl rfl rfl (XS.iconst X50.here hx rfl (hb hby d4_137) (XS.iadd X50.here hx rfl (hb hby d4_138) rfl k))) ?_
    rw [show ((1 : Int32) + (1 : Int32)) = (2 : Int32) from by decide +kernel]
    obtain ⟨T51, h51, X51, e51, W51, st51⟩ := putF X50 hx hZ hown (host := "") (Or.inl (own_w hw 24 rfl)) Via.refl e50 F_ao0_size E_ao0 (Or.inl (own_w hw 25 rfl)) (own_w hw 2 rfl) (ty := .int) (by decide) rfl rfl (g := (mkF m 139 #[.val (.ref ao0), .val (.ref ao1), .val (.int ((32 : Int32) - (1 : Int32))), .val (.int r3), .unset] [(.int 2), (.ref ao0), (.int 1)])) rfl rfl (hb hby d4_139)
    refine own_go (x' := T51.setTop (mkF m 142 #[.val (.ref ao0), .val (.ref ao1), .val (.int ((32 : Int32) - (1 : Int32))), .val (.int r3), .unset] [(.int 1)])) st51 ?_
    replace E_ao0 := Exa.wr W51 E_ao0
    replace F_ao0_width := Fld.other W51 F_ao0_width (Or.inr (slot_ne (Or.inl (own_w hw 27 rfl)) (Or.inl (own_w hw 25 rfl)) (by decide) (t := .int) (t' := .int) (by decide) (by decide)))
    replace F_ao0_states := Fld.other W51 F_ao0_states (Or.inr (slot_ne (Or.inl (own_w hw 11 rfl)) (Or.inl (own_w hw 25 rfl)) (by decide) (t := (.array .long)) (t' := .int) (by decide) (by decide)))
    replace F_ao0_counts := Fld.other W51 F_ao0_counts (Or.inr (slot_ne (Or.inl (own_w hw 13 rfl)) (Or.inl (own_w hw 25 rfl)) (by decide) (t := (.array .long)) (t' := .int) (by decide) (by decide)))
    replace F_ao0_homes := Fld.other W51 F_ao0_homes (Or.inr (slot_ne (Or.inl (own_w hw 16 rfl)) (Or.inl (own_w hw 25 rfl)) (by decide) (t := (.array .int)) (t' := .int) (by decide) (by decide)))
    replace F_ao0_size := Fld.same W51 F_ao0_size
    replace F_ao0_slots := Fld.other W51 F_ao0_slots (Or.inr (slot_ne (Or.inl (own_w hw 18 rfl)) (Or.inl (own_w hw 25 rfl)) (by decide) (t := (.array .int)) (t' := .int) (by decide) (by decide)))
    replace V_ao1 := V_ao1.other W51 (Ne.symm ne_ao0_ao1)
    replace V_sa := V_sa.other W51 (Ne.symm ne_ao0_sa)
    replace V_ca := V_ca.other W51 (Ne.symm ne_ao0_ca)
    replace V_ha := V_ha.other W51 (Ne.symm ne_ao0_ha)
    replace V_pt := V_pt.other W51 (Ne.symm ne_ao0_pt)
    replace Zs := Nat.le_trans Zs (Keep.of_wr W51).1
    replace Nf := Fr.snoc X51 Nf g_ao0
    replace Kp := Kp.wr W51 (Or.inl (by simp))
    refine own_retI X51 hx hlk hret (hb hby d4_142) ?_ (by decide) (by decide)
    rw [e51]
    exact ⟨_, rfl, Nf, Kp, Or.inr ⟨r3, sv2, hz3, hL2, E_ao0, F_ao0_width, F_ao0_states, F_ao0_counts, F_ao0_homes, F_ao0_size, F_ao0_slots, V_sa, V_ca, V_ha, V_pt⟩⟩
theorem d1_0 : decode prog_38_method_1_code 0 = .ok (.aload_n 0, 1) := by decide +kernel
theorem d1_1 : decode prog_38_method_1_code 1 = .ok (.invokespecial 3, 3) := by decide +kernel
theorem d1_4 : decode prog_38_method_1_code 4 = .ok (.aload_n 0, 1) := by decide +kernel
theorem d1_5 : decode prog_38_method_1_code 5 = .ok (.bipush 16, 2) := by decide +kernel
theorem d1_7 : decode prog_38_method_1_code 7 = .ok (.newarray .long, 2) := by decide +kernel
theorem d1_9 : decode prog_38_method_1_code 9 = .ok (.putfield 11, 3) := by decide +kernel
theorem d1_12 : decode prog_38_method_1_code 12 = .ok (.aload_n 0, 1) := by decide +kernel
theorem d1_13 : decode prog_38_method_1_code 13 = .ok (.bipush 16, 2) := by decide +kernel
theorem d1_15 : decode prog_38_method_1_code 15 = .ok (.newarray .long, 2) := by decide +kernel
theorem d1_17 : decode prog_38_method_1_code 17 = .ok (.putfield 15, 3) := by decide +kernel
theorem d1_20 : decode prog_38_method_1_code 20 = .ok (.aload_n 0, 1) := by decide +kernel
theorem d1_21 : decode prog_38_method_1_code 21 = .ok (.bipush 16, 2) := by decide +kernel
theorem d1_23 : decode prog_38_method_1_code 23 = .ok (.newarray .int, 2) := by decide +kernel
theorem d1_25 : decode prog_38_method_1_code 25 = .ok (.putfield 18, 3) := by decide +kernel
theorem d1_28 : decode prog_38_method_1_code 28 = .ok (.aload_n 0, 1) := by decide +kernel
theorem d1_29 : decode prog_38_method_1_code 29 = .ok (.bipush 32, 2) := by decide +kernel
theorem d1_31 : decode prog_38_method_1_code 31 = .ok (.newarray .int, 2) := by decide +kernel
theorem d1_33 : decode prog_38_method_1_code 33 = .ok (.putfield 22, 3) := by decide +kernel
theorem d1_36 : decode prog_38_method_1_code 36 = .ok (.return_, 1) := by decide +kernel
def Q_rm1 (Z : State) (ao0 : Addr) (h0 : Heap) (n0 : Nat) (v : Option Value) (h : Heap) (L : List Loc) : Prop := ∃ (sa ca ha pt : Addr) (ks kc kh kp : ClassId), v = none ∧ Fr n0 L ∧ Keep h0 h [ao0] ∧ h0.size ≤ sa ∧ h0.size ≤ ca ∧ h0.size ≤ ha ∧ h0.size ≤ pt ∧ sa ≠ ca ∧ sa ≠ ha ∧ sa ≠ pt ∧ ca ≠ ha ∧ ca ≠ pt ∧ ha ≠ pt ∧ n0 ≤ sa ∧ n0 ≤ ca ∧ n0 ≤ ha ∧ n0 ≤ pt ∧ Exa Z h ao0 "com/example/moving_tokens/movingtokens/PartialChoices" ∧ Fld Z h ao0 "com/example/moving_tokens/movingtokens/PartialChoices" "width" "I" (.int 0) ∧ Fld Z h ao0 "com/example/moving_tokens/movingtokens/PartialChoices" "states" "[J" (.ref sa) ∧ Fld Z h ao0 "com/example/moving_tokens/movingtokens/PartialChoices" "counts" "[J" (.ref ca) ∧ Fld Z h ao0 "com/example/moving_tokens/movingtokens/PartialChoices" "homes" "[I" (.ref ha) ∧ Fld Z h ao0 "com/example/moving_tokens/movingtokens/PartialChoices" "size" "I" (.int 0) ∧ Fld Z h ao0 "com/example/moving_tokens/movingtokens/PartialChoices" "slots" "[I" (.ref pt) ∧ Arv Z h sa ks .long (16 : Int32) (List.replicate 8 (.long (0 : Int64))) (.long (0 : Int64)) ∧ Arh Z h ca kc .long (16 : Int32) [] [] (.long (0 : Int64)) ∧ Arh Z h ha kh .int (16 : Int32) [] [] (.int (0 : Int32)) ∧ Arh Z h pt kp .int (32 : Int32) [] [] (.int (0 : Int32))
theorem pn_rm1 : plainName "com/example/moving_tokens/movingtokens/PartialChoices" = true := by first | (simp [plainName, overriddenIn]; done) | decide +kernel
theorem ef_rm1 (m : MethodId) (x0 : Addr) : entryFrame m #[(.ref x0)] 1 = mkF m 0 #[.val (.ref x0)] [] := by first | (simp [entryFrame, mkF, argsToLocals, Value.category]; done) | rfl
set_option maxRecDepth 65536 in
set_option maxHeartbeats 40000000 in
theorem rm1 (l : Launch) (Z : State) (a0 : Array Value) (hw : ∀ d ∈ tables_1, d.before a0 Z = true) (ws : List Jvm.Cond) (ao0 : Addr) (h0 : Heap) (n0 : Nat) (Z0 : n0 ≤ h0.size) (E_ao0 : Exa Z h0 ao0 "com/example/moving_tokens/movingtokens/PartialChoices") (F_ao0_width : Fld Z h0 ao0 "com/example/moving_tokens/movingtokens/PartialChoices" "width" "I" (.int 0)) (F_ao0_states : Fld Z h0 ao0 "com/example/moving_tokens/movingtokens/PartialChoices" "states" "[J" .null) (F_ao0_counts : Fld Z h0 ao0 "com/example/moving_tokens/movingtokens/PartialChoices" "counts" "[J" .null) (F_ao0_homes : Fld Z h0 ao0 "com/example/moving_tokens/movingtokens/PartialChoices" "homes" "[I" .null) (F_ao0_size : Fld Z h0 ao0 "com/example/moving_tokens/movingtokens/PartialChoices" "size" "I" (.int 0)) (F_ao0_slots : Fld Z h0 ao0 "com/example/moving_tokens/movingtokens/PartialChoices" "slots" "[I" .null) (g_ao0 : n0 ≤ ao0) :
    MetFree l (⟨"com/example/moving_tokens/movingtokens/PartialChoices", "<init>", "()V"⟩ : MethodName) (head1 (Jvm.Cond.code (⟨"com/example/moving_tokens/movingtokens/PartialChoices", "<init>", "()V"⟩ : MethodName) prog_38_method_1_code 1 none :: ws) ({ frames := 1, cells := 4, slots := 80, locals := 12 } : Room)) (fun a U => a = #[(.ref ao0)] ∧ Z.Warmed39 U.vm ∧ U.heap = h0) (fun _ _ _ _ _ => True) (fun _ U o U' => ∃ v L, o = .returned v ∧ (Q_rm1 Z ao0 h0 n0) v U'.heap L ∧ FrameEnd U o U' L ({ frames := 1, cells := 4, slots := 80, locals := 12 } : Room).cells ({ frames := 1, cells := 4, slots := 80, locals := 12 } : Room).slots) := by
  refine MetFree.of_bodySF (plainFor_of_name pn_rm1) hisR ?_
  intro p e s m args below meth c s₁ Bd hml0 hP hK
  obtain ⟨rfl, hZ, hh⟩ := hP
  have hx := Bd.exec
  have hby := Bd.bytes
  have hlk := BodyLoose.notSynchronized Bd
  have hret := Bd.returns
  have hml : c.maxLocals = 1 := hml0
  have hown : s.vm.findClass "com/example/moving_tokens/movingtokens/PartialChoices" = some m.cls := findClass_of_methodNamed Bd.named
  have hnm := (name_of_methodNamed Bd.named Bd.method).1
  have X0 : Stand p l e ({ frames := 1, cells := 4, slots := 80, locals := 12 } : Room) s m #[(.ref ao0)] below meth c s₁ [] 0 0 := Stand.of_body Bd
  have e0 : s₁.heap = h0 := by rw [← hh, Bd.state]; rfl
  have Nf := Fr.nil n0
  have Zs := Z0
  have Kp : Keep h0 h0 [ao0] := Keep.refl _ _
  show own_End p e below s (Q_rm1 Z ao0 h0 n0) ({ frames := 1, cells := 4, slots := 80, locals := 12 } : Room).cells ({ frames := 1, cells := 4, slots := 80, locals := 12 } : Room).slots (s₁.setTop (entryFrame m #[(.ref ao0)] 1))
  refine own_go (x' := s₁.setTop (mkF m 0 #[.val (.ref ao0)] [])) (fun t k => castTop (ef_rm1 m ao0) k) ?_
  refine own_go (x' := s₁.setTop (mkF m 1 #[.val (.ref ao0)] [(.ref ao0)])) (fun _ k => XS.aloadN X0.here hx rfl (hb hby d1_0) rfl rfl k) ?_
  obtain ⟨T1, X1, e1, st1⟩ := initO X0 hx hZ hown (own_w hw 7 rfl) (own_w hw 8 rfl) (own_w hw 9 rfl) e0 (g := (mkF m 1 #[.val (.ref ao0)] [(.ref ao0)])) rfl (by rw [hml]; rfl) rfl (hb hby d1_1) (by decide) (W := 0) (by show 2 * 0 + _ ≤ _; exact Nat.le_of_eq rfl) (by decide)
  refine own_go (x' := T1.setTop (mkF m 4 #[.val (.ref ao0)] [])) st1 ?_
  refine own_go (x' := T1.setTop (mkF m 7 #[.val (.ref ao0)] [(.int 16), (.ref ao0)])) (fun _ k => XS.aloadN X1.here hx rfl (hb hby d1_4) rfl rfl (XS.bipush X1.here hx rfl (hb hby d1_5) k)) ?_
  obtain ⟨T2, h2, k2, X2, e2, E2, A2, st2⟩ := newP X1 hx hZ (own_w hw 0 rfl) e1 (g := (mkF m 7 #[.val (.ref ao0)] [(.int 16), (.ref ao0)])) rfl (hb hby d1_7) rfl (by decide) (cap := 16) (by decide) (by decide) (by decide) (by decide)
  obtain ⟨b2, g2⟩ : ∃ z, z = h0.size := ⟨_, rfl⟩
  rw [← g2] at A2 st2
  have ne_ao0_b2 : ao0 ≠ b2 := Nat.ne_of_lt (Nat.lt_of_lt_of_le E_ao0.lt (Nat.le_of_eq g2.symm))
  have g_b2 : n0 ≤ b2 := Nat.le_trans Zs (Nat.le_of_eq g2.symm)
  have sz_b2 : h0.size ≤ b2 := Nat.le_trans Kp.1 (Nat.le_of_eq g2.symm)
  replace E_ao0 := Exa.ext E2 E_ao0
  replace F_ao0_width := Fld.ext E2 F_ao0_width
  replace F_ao0_states := Fld.ext E2 F_ao0_states
  replace F_ao0_counts := Fld.ext E2 F_ao0_counts
  replace F_ao0_homes := Fld.ext E2 F_ao0_homes
  replace F_ao0_size := Fld.ext E2 F_ao0_size
  replace F_ao0_slots := Fld.ext E2 F_ao0_slots
  replace Zs := Nat.le_trans Zs E2.1
  replace Kp := Kp.ext E2
  have V_b2 : Arv Z h2 b2 k2 .long (16 : Int32) [] (.long 0) := Arv.new A2 (by decide)
  refine own_go (x' := T2.setTop (mkF m 9 #[.val (.ref ao0)] [(.ref b2), (.ref ao0)])) st2 ?_
  obtain ⟨T3, h3, X3, e3, W3, st3⟩ := putF X2 hx hZ hown (host := "") (Or.inl (own_w hw 10 rfl)) Via.refl e2 F_ao0_states E_ao0 (Or.inl (own_w hw 11 rfl)) (own_w hw 2 rfl) (ty := (.array .long)) (by decide) rfl rfl (g := (mkF m 9 #[.val (.ref ao0)] [(.ref b2), (.ref ao0)])) rfl rfl (hb hby d1_9)
  refine own_go (x' := T3.setTop (mkF m 12 #[.val (.ref ao0)] [])) st3 ?_
  replace E_ao0 := Exa.wr W3 E_ao0
  replace F_ao0_width := Fld.other W3 F_ao0_width (Or.inr (slot_ne (Or.inl (own_w hw 27 rfl)) (Or.inl (own_w hw 11 rfl)) (by decide) (t := .int) (t' := (.array .long)) (by decide) (by decide)))
  replace F_ao0_states := Fld.same W3 F_ao0_states
  replace F_ao0_counts := Fld.other W3 F_ao0_counts (Or.inr (slot_ne (Or.inl (own_w hw 13 rfl)) (Or.inl (own_w hw 11 rfl)) (by decide) (t := (.array .long)) (t' := (.array .long)) (by decide) (by decide)))
  replace F_ao0_homes := Fld.other W3 F_ao0_homes (Or.inr (slot_ne (Or.inl (own_w hw 16 rfl)) (Or.inl (own_w hw 11 rfl)) (by decide) (t := (.array .int)) (t' := (.array .long)) (by decide) (by decide)))
  replace F_ao0_size := Fld.other W3 F_ao0_size (Or.inr (slot_ne (Or.inl (own_w hw 25 rfl)) (Or.inl (own_w hw 11 rfl)) (by decide) (t := .int) (t' := (.array .long)) (by decide) (by decide)))
  replace F_ao0_slots := Fld.other W3 F_ao0_slots (Or.inr (slot_ne (Or.inl (own_w hw 18 rfl)) (Or.inl (own_w hw 11 rfl)) (by decide) (t := (.array .int)) (t' := (.array .long)) (by decide) (by decide)))
  replace V_b2 := V_b2.other W3 (Ne.symm ne_ao0_b2)
  replace Zs := Nat.le_trans Zs (Keep.of_wr W3).1
  replace Nf := Fr.snoc X3 Nf g_ao0
  replace Kp := Kp.wr W3 (Or.inl (by simp))
  refine own_go (x' := T3.setTop (mkF m 15 #[.val (.ref ao0)] [(.int 16), (.ref ao0)])) (fun _ k => XS.aloadN X3.here hx rfl (hb hby d1_12) rfl rfl (XS.bipush X3.here hx rfl (hb hby d1_13) k)) ?_
  obtain ⟨T4, h4, k4, X4, e4, E4, A4, st4⟩ := newP X3 hx hZ (own_w hw 0 rfl) e3 (g := (mkF m 15 #[.val (.ref ao0)] [(.int 16), (.ref ao0)])) rfl (hb hby d1_15) rfl (by decide) (cap := 16) (by decide) (by decide) (by decide) (by decide)
  obtain ⟨b4, g4⟩ : ∃ z, z = h3.size := ⟨_, rfl⟩
  rw [← g4] at A4 st4
  have ne_ao0_b4 : ao0 ≠ b4 := Nat.ne_of_lt (Nat.lt_of_lt_of_le E_ao0.lt (Nat.le_of_eq g4.symm))
  have ne_b2_b4 : b2 ≠ b4 := Nat.ne_of_lt (Nat.lt_of_lt_of_le V_b2.lt (Nat.le_of_eq g4.symm))
  have g_b4 : n0 ≤ b4 := Nat.le_trans Zs (Nat.le_of_eq g4.symm)
  have sz_b4 : h0.size ≤ b4 := Nat.le_trans Kp.1 (Nat.le_of_eq g4.symm)
  replace E_ao0 := Exa.ext E4 E_ao0
  replace F_ao0_width := Fld.ext E4 F_ao0_width
  replace F_ao0_states := Fld.ext E4 F_ao0_states
  replace F_ao0_counts := Fld.ext E4 F_ao0_counts
  replace F_ao0_homes := Fld.ext E4 F_ao0_homes
  replace F_ao0_size := Fld.ext E4 F_ao0_size
  replace F_ao0_slots := Fld.ext E4 F_ao0_slots
  replace V_b2 := V_b2.ext E4
  replace Zs := Nat.le_trans Zs E4.1
  replace Kp := Kp.ext E4
  have V_b4 : Arv Z h4 b4 k4 .long (16 : Int32) [] (.long 0) := Arv.new A4 (by decide)
  replace V_b4 := V_b4.arh
  refine own_go (x' := T4.setTop (mkF m 17 #[.val (.ref ao0)] [(.ref b4), (.ref ao0)])) st4 ?_
  obtain ⟨T5, h5, X5, e5, W5, st5⟩ := putF X4 hx hZ hown (host := "") (Or.inl (own_w hw 12 rfl)) Via.refl e4 F_ao0_counts E_ao0 (Or.inl (own_w hw 13 rfl)) (own_w hw 2 rfl) (ty := (.array .long)) (by decide) rfl rfl (g := (mkF m 17 #[.val (.ref ao0)] [(.ref b4), (.ref ao0)])) rfl rfl (hb hby d1_17)
  refine own_go (x' := T5.setTop (mkF m 20 #[.val (.ref ao0)] [])) st5 ?_
  replace E_ao0 := Exa.wr W5 E_ao0
  replace F_ao0_width := Fld.other W5 F_ao0_width (Or.inr (slot_ne (Or.inl (own_w hw 27 rfl)) (Or.inl (own_w hw 13 rfl)) (by decide) (t := .int) (t' := (.array .long)) (by decide) (by decide)))
  replace F_ao0_states := Fld.other W5 F_ao0_states (Or.inr (slot_ne (Or.inl (own_w hw 11 rfl)) (Or.inl (own_w hw 13 rfl)) (by decide) (t := (.array .long)) (t' := (.array .long)) (by decide) (by decide)))
  replace F_ao0_counts := Fld.same W5 F_ao0_counts
  replace F_ao0_homes := Fld.other W5 F_ao0_homes (Or.inr (slot_ne (Or.inl (own_w hw 16 rfl)) (Or.inl (own_w hw 13 rfl)) (by decide) (t := (.array .int)) (t' := (.array .long)) (by decide) (by decide)))
  replace F_ao0_size := Fld.other W5 F_ao0_size (Or.inr (slot_ne (Or.inl (own_w hw 25 rfl)) (Or.inl (own_w hw 13 rfl)) (by decide) (t := .int) (t' := (.array .long)) (by decide) (by decide)))
  replace F_ao0_slots := Fld.other W5 F_ao0_slots (Or.inr (slot_ne (Or.inl (own_w hw 18 rfl)) (Or.inl (own_w hw 13 rfl)) (by decide) (t := (.array .int)) (t' := (.array .long)) (by decide) (by decide)))
  replace V_b2 := V_b2.other W5 (Ne.symm ne_ao0_b2)
  replace V_b4 := V_b4.other W5 (Ne.symm ne_ao0_b4)
  replace Zs := Nat.le_trans Zs (Keep.of_wr W5).1
  replace Nf := Fr.snoc X5 Nf g_ao0
  replace Kp := Kp.wr W5 (Or.inl (by simp))
  refine own_go (x' := T5.setTop (mkF m 23 #[.val (.ref ao0)] [(.int 16), (.ref ao0)])) (fun _ k => XS.aloadN X5.here hx rfl (hb hby d1_20) rfl rfl (XS.bipush X5.here hx rfl (hb hby d1_21) k)) ?_
  obtain ⟨T6, h6, k6, X6, e6, E6, A6, st6⟩ := newP X5 hx hZ (own_w hw 14 rfl) e5 (g := (mkF m 23 #[.val (.ref ao0)] [(.int 16), (.ref ao0)])) rfl (hb hby d1_23) rfl (by decide) (cap := 16) (by decide) (by decide) (by decide) (by decide)
  obtain ⟨b6, g6⟩ : ∃ z, z = h5.size := ⟨_, rfl⟩
  rw [← g6] at A6 st6
  have ne_ao0_b6 : ao0 ≠ b6 := Nat.ne_of_lt (Nat.lt_of_lt_of_le E_ao0.lt (Nat.le_of_eq g6.symm))
  have ne_b2_b6 : b2 ≠ b6 := Nat.ne_of_lt (Nat.lt_of_lt_of_le V_b2.lt (Nat.le_of_eq g6.symm))
  have ne_b4_b6 : b4 ≠ b6 := Nat.ne_of_lt (Nat.lt_of_lt_of_le V_b4.lt (Nat.le_of_eq g6.symm))
  have g_b6 : n0 ≤ b6 := Nat.le_trans Zs (Nat.le_of_eq g6.symm)
  have sz_b6 : h0.size ≤ b6 := Nat.le_trans Kp.1 (Nat.le_of_eq g6.symm)
  replace E_ao0 := Exa.ext E6 E_ao0
  replace F_ao0_width := Fld.ext E6 F_ao0_width
  replace F_ao0_states := Fld.ext E6 F_ao0_states
  replace F_ao0_counts := Fld.ext E6 F_ao0_counts
  replace F_ao0_homes := Fld.ext E6 F_ao0_homes
  replace F_ao0_size := Fld.ext E6 F_ao0_size
  replace F_ao0_slots := Fld.ext E6 F_ao0_slots
  replace V_b2 := V_b2.ext E6
  replace V_b4 := V_b4.ext E6
  replace Zs := Nat.le_trans Zs E6.1
  replace Kp := Kp.ext E6
  have V_b6 : Arv Z h6 b6 k6 .int (16 : Int32) [] (.int 0) := Arv.new A6 (by decide)
  replace V_b6 := V_b6.arh
  refine own_go (x' := T6.setTop (mkF m 25 #[.val (.ref ao0)] [(.ref b6), (.ref ao0)])) st6 ?_
  obtain ⟨T7, h7, X7, e7, W7, st7⟩ := putF X6 hx hZ hown (host := "") (Or.inl (own_w hw 15 rfl)) Via.refl e6 F_ao0_homes E_ao0 (Or.inl (own_w hw 16 rfl)) (own_w hw 2 rfl) (ty := (.array .int)) (by decide) rfl rfl (g := (mkF m 25 #[.val (.ref ao0)] [(.ref b6), (.ref ao0)])) rfl rfl (hb hby d1_25)
  refine own_go (x' := T7.setTop (mkF m 28 #[.val (.ref ao0)] [])) st7 ?_
  replace E_ao0 := Exa.wr W7 E_ao0
  replace F_ao0_width := Fld.other W7 F_ao0_width (Or.inr (slot_ne (Or.inl (own_w hw 27 rfl)) (Or.inl (own_w hw 16 rfl)) (by decide) (t := .int) (t' := (.array .int)) (by decide) (by decide)))
  replace F_ao0_states := Fld.other W7 F_ao0_states (Or.inr (slot_ne (Or.inl (own_w hw 11 rfl)) (Or.inl (own_w hw 16 rfl)) (by decide) (t := (.array .long)) (t' := (.array .int)) (by decide) (by decide)))
  replace F_ao0_counts := Fld.other W7 F_ao0_counts (Or.inr (slot_ne (Or.inl (own_w hw 13 rfl)) (Or.inl (own_w hw 16 rfl)) (by decide) (t := (.array .long)) (t' := (.array .int)) (by decide) (by decide)))
  replace F_ao0_homes := Fld.same W7 F_ao0_homes
  replace F_ao0_size := Fld.other W7 F_ao0_size (Or.inr (slot_ne (Or.inl (own_w hw 25 rfl)) (Or.inl (own_w hw 16 rfl)) (by decide) (t := .int) (t' := (.array .int)) (by decide) (by decide)))
  replace F_ao0_slots := Fld.other W7 F_ao0_slots (Or.inr (slot_ne (Or.inl (own_w hw 18 rfl)) (Or.inl (own_w hw 16 rfl)) (by decide) (t := (.array .int)) (t' := (.array .int)) (by decide) (by decide)))
  replace V_b2 := V_b2.other W7 (Ne.symm ne_ao0_b2)
  replace V_b4 := V_b4.other W7 (Ne.symm ne_ao0_b4)
  replace V_b6 := V_b6.other W7 (Ne.symm ne_ao0_b6)
  replace Zs := Nat.le_trans Zs (Keep.of_wr W7).1
  replace Nf := Fr.snoc X7 Nf g_ao0
  replace Kp := Kp.wr W7 (Or.inl (by simp))
  refine own_go (x' := T7.setTop (mkF m 31 #[.val (.ref ao0)] [(.int 32), (.ref ao0)])) (fun _ k => XS.aloadN X7.here hx rfl (hb hby d1_28) rfl rfl (XS.bipush X7.here hx rfl (hb hby d1_29) k)) ?_
  obtain ⟨T8, h8, k8, X8, e8, E8, A8, st8⟩ := newP X7 hx hZ (own_w hw 14 rfl) e7 (g := (mkF m 31 #[.val (.ref ao0)] [(.int 32), (.ref ao0)])) rfl (hb hby d1_31) rfl (by decide) (cap := 32) (by decide) (by decide) (by decide) (by decide)
  obtain ⟨b8, g8⟩ : ∃ z, z = h7.size := ⟨_, rfl⟩
  rw [← g8] at A8 st8
  have ne_ao0_b8 : ao0 ≠ b8 := Nat.ne_of_lt (Nat.lt_of_lt_of_le E_ao0.lt (Nat.le_of_eq g8.symm))
  have ne_b2_b8 : b2 ≠ b8 := Nat.ne_of_lt (Nat.lt_of_lt_of_le V_b2.lt (Nat.le_of_eq g8.symm))
  have ne_b4_b8 : b4 ≠ b8 := Nat.ne_of_lt (Nat.lt_of_lt_of_le V_b4.lt (Nat.le_of_eq g8.symm))
  have ne_b6_b8 : b6 ≠ b8 := Nat.ne_of_lt (Nat.lt_of_lt_of_le V_b6.lt (Nat.le_of_eq g8.symm))
  have g_b8 : n0 ≤ b8 := Nat.le_trans Zs (Nat.le_of_eq g8.symm)
  have sz_b8 : h0.size ≤ b8 := Nat.le_trans Kp.1 (Nat.le_of_eq g8.symm)
  replace E_ao0 := Exa.ext E8 E_ao0
  replace F_ao0_width := Fld.ext E8 F_ao0_width
  replace F_ao0_states := Fld.ext E8 F_ao0_states
  replace F_ao0_counts := Fld.ext E8 F_ao0_counts
  replace F_ao0_homes := Fld.ext E8 F_ao0_homes
  replace F_ao0_size := Fld.ext E8 F_ao0_size
  replace F_ao0_slots := Fld.ext E8 F_ao0_slots
  replace V_b2 := V_b2.ext E8
  replace V_b4 := V_b4.ext E8
  replace V_b6 := V_b6.ext E8
  replace Zs := Nat.le_trans Zs E8.1
  replace Kp := Kp.ext E8
  have V_b8 : Arv Z h8 b8 k8 .int (32 : Int32) [] (.int 0) := Arv.new A8 (by decide)
  replace V_b8 := V_b8.arh
  refine own_go (x' := T8.setTop (mkF m 33 #[.val (.ref ao0)] [(.ref b8), (.ref ao0)])) st8 ?_
  obtain ⟨T9, h9, X9, e9, W9, st9⟩ := putF X8 hx hZ hown (host := "") (Or.inl (own_w hw 17 rfl)) Via.refl e8 F_ao0_slots E_ao0 (Or.inl (own_w hw 18 rfl)) (own_w hw 2 rfl) (ty := (.array .int)) (by decide) rfl rfl (g := (mkF m 33 #[.val (.ref ao0)] [(.ref b8), (.ref ao0)])) rfl rfl (hb hby d1_33)
  refine own_go (x' := T9.setTop (mkF m 36 #[.val (.ref ao0)] [])) st9 ?_
  replace E_ao0 := Exa.wr W9 E_ao0
  replace F_ao0_width := Fld.other W9 F_ao0_width (Or.inr (slot_ne (Or.inl (own_w hw 27 rfl)) (Or.inl (own_w hw 18 rfl)) (by decide) (t := .int) (t' := (.array .int)) (by decide) (by decide)))
  replace F_ao0_states := Fld.other W9 F_ao0_states (Or.inr (slot_ne (Or.inl (own_w hw 11 rfl)) (Or.inl (own_w hw 18 rfl)) (by decide) (t := (.array .long)) (t' := (.array .int)) (by decide) (by decide)))
  replace F_ao0_counts := Fld.other W9 F_ao0_counts (Or.inr (slot_ne (Or.inl (own_w hw 13 rfl)) (Or.inl (own_w hw 18 rfl)) (by decide) (t := (.array .long)) (t' := (.array .int)) (by decide) (by decide)))
  replace F_ao0_homes := Fld.other W9 F_ao0_homes (Or.inr (slot_ne (Or.inl (own_w hw 16 rfl)) (Or.inl (own_w hw 18 rfl)) (by decide) (t := (.array .int)) (t' := (.array .int)) (by decide) (by decide)))
  replace F_ao0_size := Fld.other W9 F_ao0_size (Or.inr (slot_ne (Or.inl (own_w hw 25 rfl)) (Or.inl (own_w hw 18 rfl)) (by decide) (t := .int) (t' := (.array .int)) (by decide) (by decide)))
  replace F_ao0_slots := Fld.same W9 F_ao0_slots
  replace V_b2 := V_b2.other W9 (Ne.symm ne_ao0_b2)
  replace V_b4 := V_b4.other W9 (Ne.symm ne_ao0_b4)
  replace V_b6 := V_b6.other W9 (Ne.symm ne_ao0_b6)
  replace V_b8 := V_b8.other W9 (Ne.symm ne_ao0_b8)
  replace Zs := Nat.le_trans Zs (Keep.of_wr W9).1
  replace Nf := Fr.snoc X9 Nf g_ao0
  replace Kp := Kp.wr W9 (Or.inl (by simp))
  refine own_retV X9 hx hlk hret (hb hby d1_36) ?_ (by decide) (by decide)
  rw [e9]
  exact ⟨b2, b4, b6, b8, k2, k4, k6, k8, rfl, Nf, Kp, sz_b2, sz_b4, sz_b6, sz_b8, ne_b2_b4, ne_b2_b6, ne_b2_b8, ne_b4_b6, ne_b4_b8, ne_b6_b8, g_b2, g_b4, g_b6, g_b8, E_ao0, F_ao0_width, F_ao0_states, F_ao0_counts, F_ao0_homes, F_ao0_size, F_ao0_slots, V_b2.pad (pad_rep [] _ 8), V_b4, V_b6, V_b8⟩
theorem d3_0 : decode prog_38_method_2_code 0 = .ok (.iconst 0, 1) := by decide +kernel
theorem d3_1 : decode prog_38_method_2_code 1 = .ok (.istore_n 2, 1) := by decide +kernel
theorem d3_2 : decode prog_38_method_2_code 2 = .ok (.iload_n 2, 1) := by decide +kernel
theorem d3_3 : decode prog_38_method_2_code 3 = .ok (.aload_n 0, 1) := by decide +kernel
theorem d3_4 : decode prog_38_method_2_code 4 = .ok (.getfield 25, 3) := by decide +kernel
theorem d3_7 : decode prog_38_method_2_code 7 = .ok (.if_icmp .ge 21, 3) := by decide +kernel
theorem d3_28 : decode prog_38_method_2_code 28 = .ok (.aload_n 0, 1) := by decide +kernel
theorem d3_29 : decode prog_38_method_2_code 29 = .ok (.iconst 0, 1) := by decide +kernel
theorem d3_30 : decode prog_38_method_2_code 30 = .ok (.putfield 25, 3) := by decide +kernel
theorem d3_33 : decode prog_38_method_2_code 33 = .ok (.aload_n 0, 1) := by decide +kernel
theorem d3_34 : decode prog_38_method_2_code 34 = .ok (.iload_n 1, 1) := by decide +kernel
theorem d3_35 : decode prog_38_method_2_code 35 = .ok (.putfield 29, 3) := by decide +kernel
theorem d3_38 : decode prog_38_method_2_code 38 = .ok (.aload_n 0, 1) := by decide +kernel
theorem d3_39 : decode prog_38_method_2_code 39 = .ok (.getfield 15, 3) := by decide +kernel
theorem d3_42 : decode prog_38_method_2_code 42 = .ok (.arraylength, 1) := by decide +kernel
theorem d3_43 : decode prog_38_method_2_code 43 = .ok (.i2l, 1) := by decide +kernel
theorem d3_44 : decode prog_38_method_2_code 44 = .ok (.iload_n 1, 1) := by decide +kernel
theorem d3_45 : decode prog_38_method_2_code 45 = .ok (.i2l, 1) := by decide +kernel
theorem d3_46 : decode prog_38_method_2_code 46 = .ok (.lmul, 1) := by decide +kernel
theorem d3_47 : decode prog_38_method_2_code 47 = .ok (.lstore_n 2, 1) := by decide +kernel
theorem d3_48 : decode prog_38_method_2_code 48 = .ok (.lload_n 2, 1) := by decide +kernel
theorem d3_49 : decode prog_38_method_2_code 49 = .ok (.ldc2_w 32, 3) := by decide +kernel
theorem d3_52 : decode prog_38_method_2_code 52 = .ok (.lcmp, 1) := by decide +kernel
theorem d3_53 : decode prog_38_method_2_code 53 = .ok (.ifCond .le 40, 3) := by decide +kernel
theorem d3_93 : decode prog_38_method_2_code 93 = .ok (.aload_n 0, 1) := by decide +kernel
theorem d3_94 : decode prog_38_method_2_code 94 = .ok (.getfield 11, 3) := by decide +kernel
theorem d3_97 : decode prog_38_method_2_code 97 = .ok (.arraylength, 1) := by decide +kernel
theorem d3_98 : decode prog_38_method_2_code 98 = .ok (.i2l, 1) := by decide +kernel
theorem d3_99 : decode prog_38_method_2_code 99 = .ok (.lload_n 2, 1) := by decide +kernel
theorem d3_100 : decode prog_38_method_2_code 100 = .ok (.lcmp, 1) := by decide +kernel
theorem d3_101 : decode prog_38_method_2_code 101 = .ok (.ifCond .ge 11, 3) := by decide +kernel
theorem d3_104 : decode prog_38_method_2_code 104 = .ok (.aload_n 0, 1) := by decide +kernel
theorem d3_105 : decode prog_38_method_2_code 105 = .ok (.lload_n 2, 1) := by decide +kernel
theorem d3_106 : decode prog_38_method_2_code 106 = .ok (.l2i, 1) := by decide +kernel
theorem d3_107 : decode prog_38_method_2_code 107 = .ok (.newarray .long, 2) := by decide +kernel
theorem d3_109 : decode prog_38_method_2_code 109 = .ok (.putfield 11, 3) := by decide +kernel
theorem d3_112 : decode prog_38_method_2_code 112 = .ok (.return_, 1) := by decide +kernel
def Q_rm3_0 (Z : State) (ao0 : Addr) (wo wv : Int32) (sa ca ha pt : Addr) (ks kc kh kp : ClassId) (sn : Int32) (sv : List Value) (hc hm hs : List (Int32 × Value)) (h0 : Heap) (n0 : Nat) (v : Option Value) (h : Heap) (L : List Loc) : Prop := ∃ (sa' : Addr) (ks' : ClassId) (sn' : Int32) (sv' : List Value) (hm' hs' : List (Int32 × Value)), v = none ∧ Fr n0 L ∧ Keep h0 h [ao0, sa, ca, ha, pt] ∧ sv'.length = 8 ∧ (15 : Int32) < sn' ∧ n0 ≤ sa' ∧ (∀ x, x < h0.size → x ≠ sa → x ≠ sa') ∧ own_Zr hs' ∧ Exa Z h ao0 "com/example/moving_tokens/movingtokens/PartialChoices" ∧ Fld Z h ao0 "com/example/moving_tokens/movingtokens/PartialChoices" "width" "I" (.int wv) ∧ Fld Z h ao0 "com/example/moving_tokens/movingtokens/PartialChoices" "states" "[J" (.ref sa') ∧ Fld Z h ao0 "com/example/moving_tokens/movingtokens/PartialChoices" "counts" "[J" (.ref ca) ∧ Fld Z h ao0 "com/example/moving_tokens/movingtokens/PartialChoices" "homes" "[I" (.ref ha) ∧ Fld Z h ao0 "com/example/moving_tokens/movingtokens/PartialChoices" "size" "I" (.int 0) ∧ Fld Z h ao0 "com/example/moving_tokens/movingtokens/PartialChoices" "slots" "[I" (.ref pt) ∧ Arv Z h sa' ks' .long sn' sv' (.long (0 : Int64)) ∧ Arh Z h ca kc .long (16 : Int32) hc [] (.long (0 : Int64)) ∧ Arh Z h ha kh .int (16 : Int32) hm' [] (.int (0 : Int32)) ∧ Arh Z h pt kp .int (32 : Int32) hs' [] (.int (0 : Int32))
theorem pn_rm3_0 : plainName "com/example/moving_tokens/movingtokens/PartialChoices" = true := by first | (simp [plainName, overriddenIn]; done) | decide +kernel
theorem ef_rm3_0 (m : MethodId) (x0 : Addr) (x1 : Int32) : entryFrame m #[(.ref x0), (.int x1)] 4 = mkF m 0 #[.val (.ref x0), .val (.int x1), .unset, .unset] [] := by first | (simp [entryFrame, mkF, argsToLocals, Value.category]; done) | rfl
set_option maxRecDepth 65536 in
set_option maxHeartbeats 40000000 in
theorem rm3_0 (l : Launch) (Z : State) (a0 : Array Value) (hw : ∀ d ∈ tables_1, d.before a0 Z = true) (ws : List Jvm.Cond) (ao0 : Addr) (wo wv : Int32) (sa ca ha pt : Addr) (ks kc kh kp : ClassId) (sn : Int32) (sv : List Value) (hc hm hs : List (Int32 × Value)) (h0 : Heap) (n0 : Nat) (Z0 : n0 ≤ h0.size) (hwv : wv = 1 ∨ wv = 2 ∨ wv = 3 ∨ wv = 4) (E_ao0 : Exa Z h0 ao0 "com/example/moving_tokens/movingtokens/PartialChoices") (F_ao0_width : Fld Z h0 ao0 "com/example/moving_tokens/movingtokens/PartialChoices" "width" "I" (.int wo)) (F_ao0_states : Fld Z h0 ao0 "com/example/moving_tokens/movingtokens/PartialChoices" "states" "[J" (.ref sa)) (F_ao0_counts : Fld Z h0 ao0 "com/example/moving_tokens/movingtokens/PartialChoices" "counts" "[J" (.ref ca)) (F_ao0_homes : Fld Z h0 ao0 "com/example/moving_tokens/movingtokens/PartialChoices" "homes" "[I" (.ref ha)) (F_ao0_size : Fld Z h0 ao0 "com/example/moving_tokens/movingtokens/PartialChoices" "size" "I" (.int 0)) (F_ao0_slots : Fld Z h0 ao0 "com/example/moving_tokens/movingtokens/PartialChoices" "slots" "[I" (.ref pt)) (V_sa : Arv Z h0 sa ks .long sn sv (.long (0 : Int64))) (V_ca : Arh Z h0 ca kc .long (16 : Int32) hc [] (.long (0 : Int64))) (V_ha : Arh Z h0 ha kh .int (16 : Int32) hm [] (.int (0 : Int32))) (V_pt : Arh Z h0 pt kp .int (32 : Int32) hs [] (.int (0 : Int32))) (hL : sv.length = 8) (hN : (15 : Int32) < sn) (ne_ao0_sa : ao0 ≠ sa) (ne_ao0_ca : ao0 ≠ ca) (ne_ao0_ha : ao0 ≠ ha) (ne_ao0_pt : ao0 ≠ pt) (ne_sa_ca : sa ≠ ca) (ne_sa_ha : sa ≠ ha) (ne_sa_pt : sa ≠ pt) (ne_ca_ha : ca ≠ ha) (ne_ca_pt : ca ≠ pt) (ne_ha_pt : ha ≠ pt) (g_ao0 : n0 ≤ ao0) (g_sa : n0 ≤ sa) (g_ca : n0 ≤ ca) (g_ha : n0 ≤ ha) (g_pt : n0 ≤ pt) (hzr : own_Zr hs) :
    MetFree l (⟨"com/example/moving_tokens/movingtokens/PartialChoices", "clear", "(I)V"⟩ : MethodName) (head1 (Jvm.Cond.code (⟨"com/example/moving_tokens/movingtokens/PartialChoices", "clear", "(I)V"⟩ : MethodName) prog_38_method_2_code 4 none :: ws) ({ frames := 0, cells := 1, slots := 64, locals := 0 } : Room)) (fun a U => a = #[(.ref ao0), (.int wv)] ∧ Z.Warmed39 U.vm ∧ U.heap = h0) (fun _ _ _ _ _ => True) (fun _ U o U' => ∃ v L, o = .returned v ∧ (Q_rm3_0 Z ao0 wo wv sa ca ha pt ks kc kh kp sn sv hc hm hs h0 n0) v U'.heap L ∧ FrameEnd U o U' L ({ frames := 0, cells := 1, slots := 64, locals := 0 } : Room).cells ({ frames := 0, cells := 1, slots := 64, locals := 0 } : Room).slots) := by
  refine MetFree.of_bodySF (plainFor_of_name pn_rm3_0) hisR ?_
  intro p e s m args below meth c s₁ Bd hml0 hP hK
  obtain ⟨rfl, hZ, hh⟩ := hP
  have hx := Bd.exec
  have hby := Bd.bytes
  have hlk := BodyLoose.notSynchronized Bd
  have hret := Bd.returns
  have hml : c.maxLocals = 4 := hml0
  have hown : s.vm.findClass "com/example/moving_tokens/movingtokens/PartialChoices" = some m.cls := findClass_of_methodNamed Bd.named
  have hnm := (name_of_methodNamed Bd.named Bd.method).1
  have X0 : Stand p l e ({ frames := 0, cells := 1, slots := 64, locals := 0 } : Room) s m #[(.ref ao0), (.int wv)] below meth c s₁ [] 0 0 := Stand.of_body Bd
  have e0 : s₁.heap = h0 := by rw [← hh, Bd.state]; rfl
  have Nf := Fr.nil n0
  have Zs := Z0
  have Kp : Keep h0 h0 [ao0, sa, ca, ha, pt] := Keep.refl _ _
  show own_End p e below s (Q_rm3_0 Z ao0 wo wv sa ca ha pt ks kc kh kp sn sv hc hm hs h0 n0) ({ frames := 0, cells := 1, slots := 64, locals := 0 } : Room).cells ({ frames := 0, cells := 1, slots := 64, locals := 0 } : Room).slots (s₁.setTop (entryFrame m #[(.ref ao0), (.int wv)] 4))
  refine own_go (x' := s₁.setTop (mkF m 0 #[.val (.ref ao0), .val (.int wv), .unset, .unset] [])) (fun t k => castTop (ef_rm3_0 m ao0 wv) k) ?_
  refine own_go (x' := s₁.setTop (mkF m 4 #[.val (.ref ao0), .val (.int wv), .val (.int 0), .unset] [(.ref ao0), (.int 0)])) (fun _ k => XS.iconst X0.here hx rfl (hb hby d3_0) (XS.istoreN X0.here hx rfl (hb hby d3_1) rfl (l' := #[.val (.ref ao0), .val (.int wv), .val (.int 0), .unset]) rfl (XS.iloadN X0.here hx rfl (hb hby d3_2) rfl (XS.aloadN X0.here hx rfl (hb hby d3_3) rfl rfl k)))) ?_
  obtain ⟨T1, X1, e1, st1⟩ := getF X0 hx hZ hown (host := "") (Or.inl (own_w hw 24 rfl)) Via.refl e0 F_ao0_size (g := (mkF m 4 #[.val (.ref ao0), .val (.int wv), .val (.int 0), .unset] [(.ref ao0), (.int 0)])) rfl rfl (hb hby d3_4)
  refine own_go (x' := T1.setTop (mkF m 7 #[.val (.ref ao0), .val (.int wv), .val (.int 0), .unset] [(.int 0), (.int 0)])) st1 ?_
  refine own_go (x' := T1.setTop (mkF m 30 #[.val (.ref ao0), .val (.int wv), .val (.int 0), .unset] [(.int 0), (.ref ao0)])) (fun _ k => XS.icmpYes X1.here hx rfl (pc0 := 7) (pc' := 28) rfl (hb hby d3_7) rfl (flt (Int32.lt_irrefl)).2.1 (by decide) (by decide) (XS.aloadN X1.here hx rfl (hb hby d3_28) rfl rfl (XS.iconst X1.here hx rfl (hb hby d3_29) k))) ?_
  obtain ⟨T2, h2, X2, e2, W2, st2⟩ := putF X1 hx hZ hown (host := "") (Or.inl (own_w hw 24 rfl)) Via.refl e1 F_ao0_size E_ao0 (Or.inl (own_w hw 25 rfl)) (own_w hw 2 rfl) (ty := .int) (by decide) rfl rfl (g := (mkF m 30 #[.val (.ref ao0), .val (.int wv), .val (.int 0), .unset] [(.int 0), (.ref ao0)])) rfl rfl (hb hby d3_30)
  refine own_go (x' := T2.setTop (mkF m 33 #[.val (.ref ao0), .val (.int wv), .val (.int 0), .unset] [])) st2 ?_
  replace E_ao0 := Exa.wr W2 E_ao0
  replace F_ao0_width := Fld.other W2 F_ao0_width (Or.inr (slot_ne (Or.inl (own_w hw 27 rfl)) (Or.inl (own_w hw 25 rfl)) (by decide) (t := .int) (t' := .int) (by decide) (by decide)))
  replace F_ao0_states := Fld.other W2 F_ao0_states (Or.inr (slot_ne (Or.inl (own_w hw 11 rfl)) (Or.inl (own_w hw 25 rfl)) (by decide) (t := (.array .long)) (t' := .int) (by decide) (by decide)))
  replace F_ao0_counts := Fld.other W2 F_ao0_counts (Or.inr (slot_ne (Or.inl (own_w hw 13 rfl)) (Or.inl (own_w hw 25 rfl)) (by decide) (t := (.array .long)) (t' := .int) (by decide) (by decide)))
  replace F_ao0_homes := Fld.other W2 F_ao0_homes (Or.inr (slot_ne (Or.inl (own_w hw 16 rfl)) (Or.inl (own_w hw 25 rfl)) (by decide) (t := (.array .int)) (t' := .int) (by decide) (by decide)))
  replace F_ao0_size := Fld.same W2 F_ao0_size
  replace F_ao0_slots := Fld.other W2 F_ao0_slots (Or.inr (slot_ne (Or.inl (own_w hw 18 rfl)) (Or.inl (own_w hw 25 rfl)) (by decide) (t := (.array .int)) (t' := .int) (by decide) (by decide)))
  replace V_sa := V_sa.other W2 (Ne.symm ne_ao0_sa)
  replace V_ca := V_ca.other W2 (Ne.symm ne_ao0_ca)
  replace V_ha := V_ha.other W2 (Ne.symm ne_ao0_ha)
  replace V_pt := V_pt.other W2 (Ne.symm ne_ao0_pt)
  replace Zs := Nat.le_trans Zs (Keep.of_wr W2).1
  replace Nf := Fr.snoc X2 Nf g_ao0
  replace Kp := Kp.wr W2 (Or.inl (by simp))
  refine own_go (x' := T2.setTop (mkF m 35 #[.val (.ref ao0), .val (.int wv), .val (.int 0), .unset] [(.int wv), (.ref ao0)])) (fun _ k => XS.aloadN X2.here hx rfl (hb hby d3_33) rfl rfl (XS.iloadN X2.here hx rfl (hb hby d3_34) rfl k)) ?_
  obtain ⟨T3, h3, X3, e3, W3, st3⟩ := putF X2 hx hZ hown (host := "") (Or.inl (own_w hw 26 rfl)) Via.refl e2 F_ao0_width E_ao0 (Or.inl (own_w hw 27 rfl)) (own_w hw 2 rfl) (ty := .int) (by decide) rfl rfl (g := (mkF m 35 #[.val (.ref ao0), .val (.int wv), .val (.int 0), .unset] [(.int wv), (.ref ao0)])) rfl rfl (hb hby d3_35)
  refine own_go (x' := T3.setTop (mkF m 38 #[.val (.ref ao0), .val (.int wv), .val (.int 0), .unset] [])) st3 ?_
  replace E_ao0 := Exa.wr W3 E_ao0
  replace F_ao0_width := Fld.same W3 F_ao0_width
  replace F_ao0_states := Fld.other W3 F_ao0_states (Or.inr (slot_ne (Or.inl (own_w hw 11 rfl)) (Or.inl (own_w hw 27 rfl)) (by decide) (t := (.array .long)) (t' := .int) (by decide) (by decide)))
  replace F_ao0_counts := Fld.other W3 F_ao0_counts (Or.inr (slot_ne (Or.inl (own_w hw 13 rfl)) (Or.inl (own_w hw 27 rfl)) (by decide) (t := (.array .long)) (t' := .int) (by decide) (by decide)))
  replace F_ao0_homes := Fld.other W3 F_ao0_homes (Or.inr (slot_ne (Or.inl (own_w hw 16 rfl)) (Or.inl (own_w hw 27 rfl)) (by decide) (t := (.array .int)) (t' := .int) (by decide) (by decide)))
  replace F_ao0_size := Fld.other W3 F_ao0_size (Or.inr (slot_ne (Or.inl (own_w hw 25 rfl)) (Or.inl (own_w hw 27 rfl)) (by decide) (t := .int) (t' := .int) (by decide) (by decide)))
  replace F_ao0_slots := Fld.other W3 F_ao0_slots (Or.inr (slot_ne (Or.inl (own_w hw 18 rfl)) (Or.inl (own_w hw 27 rfl)) (by decide) (t := (.array .int)) (t' := .int) (by decide) (by decide)))
  replace V_sa := V_sa.other W3 (Ne.symm ne_ao0_sa)
  replace V_ca := V_ca.other W3 (Ne.symm ne_ao0_ca)
  replace V_ha := V_ha.other W3 (Ne.symm ne_ao0_ha)
  replace V_pt := V_pt.other W3 (Ne.symm ne_ao0_pt)
  replace Zs := Nat.le_trans Zs (Keep.of_wr W3).1
  replace Nf := Fr.snoc X3 Nf g_ao0
  replace Kp := Kp.wr W3 (Or.inl (by simp))
  refine own_go (x' := T3.setTop (mkF m 39 #[.val (.ref ao0), .val (.int wv), .val (.int 0), .unset] [(.ref ao0)])) (fun _ k => XS.aloadN X3.here hx rfl (hb hby d3_38) rfl rfl k) ?_
  obtain ⟨T4, X4, e4, st4⟩ := getF X3 hx hZ hown (host := "") (Or.inl (own_w hw 12 rfl)) Via.refl e3 F_ao0_counts (g := (mkF m 39 #[.val (.ref ao0), .val (.int wv), .val (.int 0), .unset] [(.ref ao0)])) rfl rfl (hb hby d3_39)
  refine own_go (x' := T4.setTop (mkF m 42 #[.val (.ref ao0), .val (.int wv), .val (.int 0), .unset] [(.ref ca)])) st4 ?_
  obtain ⟨cl5, Ar5, -, Sz5, Nn5, -, -⟩ := id V_ca
  refine own_go (x' := T4.setTop (mkF m 43 #[.val (.ref ao0), .val (.int wv), .val (.int 0), .unset] [(.int 16)])) (fun t k => X4.arraylength hx (Eq.trans (congrArg (fun h_ => h_[_]?) e4) Ar5.1) (State.isArrayOf_alike hZ.alike Ar5.2.1) (g := (mkF m 42 #[.val (.ref ao0), .val (.int wv), .val (.int 0), .unset] [(.ref ca)])) rfl rfl (hb hby d3_42) t (by rw [len_of Sz5 Nn5]; exact k)) ?_
  refine own_go (x' := T4.setTop (mkF m 49 #[.val (.ref ao0), .val (.int wv), .val (.long (((16 : Int32).toInt64) * (wv.toInt64))), .second] [(.long (((16 : Int32).toInt64) * (wv.toInt64)))])) (fun _ k => XS.i2l X4.here hx rfl (hb hby d3_43) rfl (XS.iloadN X4.here hx rfl (hb hby d3_44) rfl (XS.i2l X4.here hx rfl (hb hby d3_45) rfl (XS.lmul X4.here hx rfl (hb hby d3_46) rfl (XS.lstoreN X4.here hx rfl (hb hby d3_47) rfl (l' := #[.val (.ref ao0), .val (.int wv), .val (.long (((16 : Int32).toInt64) * (wv.toInt64))), .second]) rfl (XS.lloadN X4.here hx rfl (hb hby d3_48) rfl k)))))) ?_
  refine own_go (x' := T4.setTop (mkF m 52 #[.val (.ref ao0), .val (.int wv), .val (.long (((16 : Int32).toInt64) * (wv.toInt64))), .second] [(.long 2147483639), (.long (((16 : Int32).toInt64) * (wv.toInt64)))])) (fun t k => X4.ldc2Long hx hown (mvT hZ (own_w hw 28 rfl)) (g := (mkF m 49 #[.val (.ref ao0), .val (.int wv), .val (.long (((16 : Int32).toInt64) * (wv.toInt64))), .second] [(.long (((16 : Int32).toInt64) * (wv.toInt64)))])) rfl (hb hby d3_49) t k) ?_
  refine own_go (x' := T4.setTop (mkF m 94 #[.val (.ref ao0), .val (.int wv), .val (.long (((16 : Int32).toInt64) * (wv.toInt64))), .second] [(.ref ao0)])) (fun _ k => XS.lcmp X4.here hx rfl (hb hby d3_52) rfl (XS.ifYes X4.here hx rfl (pc0 := 53) (pc' := 93) rfl (hb hby d3_53) rfl ((if0 _ _).trans (flt (fun q_ => (own_cl hwv).1 ((lw_gt (((16 : Int32).toInt64) * (wv.toInt64)) (2147483639 : Int64)).mp q_))).2.2.2) (by decide) (by decide) (XS.aloadN X4.here hx rfl (hb hby d3_93) rfl rfl k))) ?_
  obtain ⟨T6, X6, e6, st6⟩ := getF X4 hx hZ hown (host := "") (Or.inl (own_w hw 10 rfl)) Via.refl e4 F_ao0_states (g := (mkF m 94 #[.val (.ref ao0), .val (.int wv), .val (.long (((16 : Int32).toInt64) * (wv.toInt64))), .second] [(.ref ao0)])) rfl rfl (hb hby d3_94)
  refine own_go (x' := T6.setTop (mkF m 97 #[.val (.ref ao0), .val (.int wv), .val (.long (((16 : Int32).toInt64) * (wv.toInt64))), .second] [(.ref sa)])) st6 ?_
  obtain ⟨cl7, Ar7, -, Sz7, Nn7, -, -⟩ := id V_sa
  refine own_go (x' := T6.setTop (mkF m 98 #[.val (.ref ao0), .val (.int wv), .val (.long (((16 : Int32).toInt64) * (wv.toInt64))), .second] [(.int sn)])) (fun t k => X6.arraylength hx (Eq.trans (congrArg (fun h_ => h_[_]?) e6) Ar7.1) (State.isArrayOf_alike hZ.alike Ar7.2.1) (g := (mkF m 97 #[.val (.ref ao0), .val (.int wv), .val (.long (((16 : Int32).toInt64) * (wv.toInt64))), .second] [(.ref sa)])) rfl rfl (hb hby d3_97) t (by rw [len_of Sz7 Nn7]; exact k)) ?_
  refine own_go (x' := T6.setTop (mkF m 101 #[.val (.ref ao0), .val (.int wv), .val (.long (((16 : Int32).toInt64) * (wv.toInt64))), .second] [(.int (lcmpW (sn.toInt64) (((16 : Int32).toInt64) * (wv.toInt64))))])) (fun _ k => XS.i2l X6.here hx rfl (hb hby d3_98) rfl (XS.lloadN X6.here hx rfl (hb hby d3_99) rfl (XS.lcmp X6.here hx rfl (hb hby d3_100) rfl k))) ?_
  by_cases hc101 : (sn.toInt64) < (((16 : Int32).toInt64) * (wv.toInt64))
  · refine own_go (x' := T6.setTop (mkF m 107 #[.val (.ref ao0), .val (.int wv), .val (.long (((16 : Int32).toInt64) * (wv.toInt64))), .second] [(.int ((((16 : Int32).toInt64) * (wv.toInt64)).toInt32)), (.ref ao0)])) (fun _ k => XS.ifNo X6.here hx rfl (hb hby d3_101) rfl ((if0 _ _).trans (tlt ((lw_lt (sn.toInt64) (((16 : Int32).toInt64) * (wv.toInt64))).mpr hc101)).2.1) (XS.aloadN X6.here hx rfl (hb hby d3_104) rfl rfl (XS.lloadN X6.here hx rfl (hb hby d3_105) rfl (XS.l2i X6.here hx rfl (hb hby d3_106) rfl k)))) ?_
    obtain ⟨T8, h8, k8, X8, e8, E8, A8, st8⟩ := newP X6 hx hZ (own_w hw 0 rfl) e6 (g := (mkF m 107 #[.val (.ref ao0), .val (.int wv), .val (.long (((16 : Int32).toInt64) * (wv.toInt64))), .second] [(.int ((((16 : Int32).toInt64) * (wv.toInt64)).toInt32)), (.ref ao0)])) rfl (hb hby d3_107) rfl (own_cl hwv).2.1 (cap := 64) (own_cl hwv).2.2.1 (by decide) (by decide) (by decide)
    obtain ⟨b8, g8⟩ : ∃ z, z = h3.size := ⟨_, rfl⟩
    rw [← g8] at A8 st8
    have ne_ao0_b8 : ao0 ≠ b8 := Nat.ne_of_lt (Nat.lt_of_lt_of_le E_ao0.lt (Nat.le_of_eq g8.symm))
    have ne_sa_b8 : sa ≠ b8 := Nat.ne_of_lt (Nat.lt_of_lt_of_le V_sa.lt (Nat.le_of_eq g8.symm))
    have ne_ca_b8 : ca ≠ b8 := Nat.ne_of_lt (Nat.lt_of_lt_of_le V_ca.lt (Nat.le_of_eq g8.symm))
    have ne_ha_b8 : ha ≠ b8 := Nat.ne_of_lt (Nat.lt_of_lt_of_le V_ha.lt (Nat.le_of_eq g8.symm))
    have ne_pt_b8 : pt ≠ b8 := Nat.ne_of_lt (Nat.lt_of_lt_of_le V_pt.lt (Nat.le_of_eq g8.symm))
    have g_b8 : n0 ≤ b8 := Nat.le_trans Zs (Nat.le_of_eq g8.symm)
    have sz_b8 : h0.size ≤ b8 := Nat.le_trans Kp.1 (Nat.le_of_eq g8.symm)
    replace E_ao0 := Exa.ext E8 E_ao0
    replace F_ao0_width := Fld.ext E8 F_ao0_width
    replace F_ao0_states := Fld.ext E8 F_ao0_states
    replace F_ao0_counts := Fld.ext E8 F_ao0_counts
    replace F_ao0_homes := Fld.ext E8 F_ao0_homes
    replace F_ao0_size := Fld.ext E8 F_ao0_size
    replace F_ao0_slots := Fld.ext E8 F_ao0_slots
    replace V_sa := V_sa.ext E8
    replace V_ca := V_ca.ext E8
    replace V_ha := V_ha.ext E8
    replace V_pt := V_pt.ext E8
    replace Zs := Nat.le_trans Zs E8.1
    replace Kp := Kp.ext E8
    have V_b8 : Arv Z h8 b8 k8 .long ((((16 : Int32).toInt64) * (wv.toInt64)).toInt32) [] (.long 0) := Arv.new A8 (own_cl hwv).2.1
    refine own_go (x' := T8.setTop (mkF m 109 #[.val (.ref ao0), .val (.int wv), .val (.long (((16 : Int32).toInt64) * (wv.toInt64))), .second] [(.ref b8), (.ref ao0)])) st8 ?_
    obtain ⟨T9, h9, X9, e9, W9, st9⟩ := putF X8 hx hZ hown (host := "") (Or.inl (own_w hw 10 rfl)) Via.refl e8 F_ao0_states E_ao0 (Or.inl (own_w hw 11 rfl)) (own_w hw 2 rfl) (ty := (.array .long)) (by decide) rfl rfl (g := (mkF m 109 #[.val (.ref ao0), .val (.int wv), .val (.long (((16 : Int32).toInt64) * (wv.toInt64))), .second] [(.ref b8), (.ref ao0)])) rfl rfl (hb hby d3_109)
    refine own_go (x' := T9.setTop (mkF m 112 #[.val (.ref ao0), .val (.int wv), .val (.long (((16 : Int32).toInt64) * (wv.toInt64))), .second] [])) st9 ?_
    replace E_ao0 := Exa.wr W9 E_ao0
    replace F_ao0_width := Fld.other W9 F_ao0_width (Or.inr (slot_ne (Or.inl (own_w hw 27 rfl)) (Or.inl (own_w hw 11 rfl)) (by decide) (t := .int) (t' := (.array .long)) (by decide) (by decide)))
    replace F_ao0_states := Fld.same W9 F_ao0_states
    replace F_ao0_counts := Fld.other W9 F_ao0_counts (Or.inr (slot_ne (Or.inl (own_w hw 13 rfl)) (Or.inl (own_w hw 11 rfl)) (by decide) (t := (.array .long)) (t' := (.array .long)) (by decide) (by decide)))
    replace F_ao0_homes := Fld.other W9 F_ao0_homes (Or.inr (slot_ne (Or.inl (own_w hw 16 rfl)) (Or.inl (own_w hw 11 rfl)) (by decide) (t := (.array .int)) (t' := (.array .long)) (by decide) (by decide)))
    replace F_ao0_size := Fld.other W9 F_ao0_size (Or.inr (slot_ne (Or.inl (own_w hw 25 rfl)) (Or.inl (own_w hw 11 rfl)) (by decide) (t := .int) (t' := (.array .long)) (by decide) (by decide)))
    replace F_ao0_slots := Fld.other W9 F_ao0_slots (Or.inr (slot_ne (Or.inl (own_w hw 18 rfl)) (Or.inl (own_w hw 11 rfl)) (by decide) (t := (.array .int)) (t' := (.array .long)) (by decide) (by decide)))
    replace V_sa := V_sa.other W9 (Ne.symm ne_ao0_sa)
    replace V_ca := V_ca.other W9 (Ne.symm ne_ao0_ca)
    replace V_ha := V_ha.other W9 (Ne.symm ne_ao0_ha)
    replace V_pt := V_pt.other W9 (Ne.symm ne_ao0_pt)
    replace V_b8 := V_b8.other W9 (Ne.symm ne_ao0_b8)
    replace Zs := Nat.le_trans Zs (Keep.of_wr W9).1
    replace Nf := Fr.snoc X9 Nf g_ao0
    replace Kp := Kp.wr W9 (Or.inl (by simp))
    refine own_retV X9 hx hlk hret (hb hby d3_112) ?_ (by decide) (by decide)
    rw [e9]
    exact ⟨b8, k8, _, _, _, _, rfl, Nf, Kp, rfl, (own_cl hwv).2.2.2, g_b8, fun _ q_ _ => Nat.ne_of_lt (Nat.lt_of_lt_of_le q_ sz_b8), hzr, E_ao0, F_ao0_width, F_ao0_states, F_ao0_counts, F_ao0_homes, F_ao0_size, F_ao0_slots, V_b8.pad (pad_rep [] _ 8), V_ca, V_ha, V_pt⟩
  · refine own_go (x' := T6.setTop (mkF m 112 #[.val (.ref ao0), .val (.int wv), .val (.long (((16 : Int32).toInt64) * (wv.toInt64))), .second] [])) (fun _ k => XS.ifYes X6.here hx rfl (pc0 := 101) (pc' := 112) rfl (hb hby d3_101) rfl ((if0 _ _).trans (flt (fun q_ => hc101 ((lw_lt (sn.toInt64) (((16 : Int32).toInt64) * (wv.toInt64))).mp q_))).2.1) (by decide) (by decide) k) ?_
    refine own_retV X6 hx hlk hret (hb hby d3_112) ?_ (by decide) (by decide)
    rw [e6]
    exact ⟨sa, ks, sn, sv, _, _, rfl, Nf, Kp, hL, hN, g_sa, fun _ _ q_ => q_, hzr, E_ao0, F_ao0_width, F_ao0_states, F_ao0_counts, F_ao0_homes, F_ao0_size, F_ao0_slots, V_sa, V_ca, V_ha, V_pt⟩
theorem d3_10 : decode prog_38_method_2_code 10 = .ok (.aload_n 0, 1) := by decide +kernel
theorem d3_11 : decode prog_38_method_2_code 11 = .ok (.getfield 22, 3) := by decide +kernel
theorem d3_14 : decode prog_38_method_2_code 14 = .ok (.aload_n 0, 1) := by decide +kernel
theorem d3_15 : decode prog_38_method_2_code 15 = .ok (.getfield 18, 3) := by decide +kernel
theorem d3_18 : decode prog_38_method_2_code 18 = .ok (.iload_n 2, 1) := by decide +kernel
theorem d3_19 : decode prog_38_method_2_code 19 = .ok (.iaload, 1) := by decide +kernel
theorem d3_20 : decode prog_38_method_2_code 20 = .ok (.iconst 0, 1) := by decide +kernel
theorem d3_21 : decode prog_38_method_2_code 21 = .ok (.iastore, 1) := by decide +kernel
theorem d3_22 : decode prog_38_method_2_code 22 = .ok (.iinc 2 1, 3) := by decide +kernel
theorem d3_25 : decode prog_38_method_2_code 25 = .ok (.goto (-23), 3) := by decide +kernel
def Q_rm3_1 (Z : State) (ao0 : Addr) (wo wv : Int32) (sa ca ha pt : Addr) (ks kc kh kp : ClassId) (sn : Int32) (sv : List Value) (hc hm hs : List (Int32 × Value)) (ro : Int32) (h0 : Heap) (n0 : Nat) (v : Option Value) (h : Heap) (L : List Loc) : Prop := ∃ (sa' : Addr) (ks' : ClassId) (sn' : Int32) (sv' : List Value) (hm' hs' : List (Int32 × Value)), v = none ∧ Fr n0 L ∧ Keep h0 h [ao0, sa, ca, ha, pt] ∧ sv'.length = 8 ∧ (15 : Int32) < sn' ∧ n0 ≤ sa' ∧ (∀ x, x < h0.size → x ≠ sa → x ≠ sa') ∧ own_Zr hs' ∧ Exa Z h ao0 "com/example/moving_tokens/movingtokens/PartialChoices" ∧ Fld Z h ao0 "com/example/moving_tokens/movingtokens/PartialChoices" "width" "I" (.int wv) ∧ Fld Z h ao0 "com/example/moving_tokens/movingtokens/PartialChoices" "states" "[J" (.ref sa') ∧ Fld Z h ao0 "com/example/moving_tokens/movingtokens/PartialChoices" "counts" "[J" (.ref ca) ∧ Fld Z h ao0 "com/example/moving_tokens/movingtokens/PartialChoices" "homes" "[I" (.ref ha) ∧ Fld Z h ao0 "com/example/moving_tokens/movingtokens/PartialChoices" "size" "I" (.int 0) ∧ Fld Z h ao0 "com/example/moving_tokens/movingtokens/PartialChoices" "slots" "[I" (.ref pt) ∧ Arv Z h sa' ks' .long sn' sv' (.long (0 : Int64)) ∧ Arh Z h ca kc .long (16 : Int32) hc [] (.long (0 : Int64)) ∧ Arh Z h ha kh .int (16 : Int32) hm' [] (.int (0 : Int32)) ∧ Arh Z h pt kp .int (32 : Int32) hs' [] (.int (0 : Int32))
theorem pn_rm3_1 : plainName "com/example/moving_tokens/movingtokens/PartialChoices" = true := by first | (simp [plainName, overriddenIn]; done) | decide +kernel
theorem ef_rm3_1 (m : MethodId) (x0 : Addr) (x1 : Int32) : entryFrame m #[(.ref x0), (.int x1)] 4 = mkF m 0 #[.val (.ref x0), .val (.int x1), .unset, .unset] [] := by first | (simp [entryFrame, mkF, argsToLocals, Value.category]; done) | rfl
set_option maxRecDepth 65536 in
set_option maxHeartbeats 40000000 in
theorem rm3_1 (l : Launch) (Z : State) (a0 : Array Value) (hw : ∀ d ∈ tables_1, d.before a0 Z = true) (ws : List Jvm.Cond) (ao0 : Addr) (wo wv : Int32) (sa ca ha pt : Addr) (ks kc kh kp : ClassId) (sn : Int32) (sv : List Value) (hc hm hs : List (Int32 × Value)) (ro : Int32) (h0 : Heap) (n0 : Nat) (Z0 : n0 ≤ h0.size) (hwv : wv = 1 ∨ wv = 2 ∨ wv = 3 ∨ wv = 4) (E_ao0 : Exa Z h0 ao0 "com/example/moving_tokens/movingtokens/PartialChoices") (F_ao0_width : Fld Z h0 ao0 "com/example/moving_tokens/movingtokens/PartialChoices" "width" "I" (.int wo)) (F_ao0_states : Fld Z h0 ao0 "com/example/moving_tokens/movingtokens/PartialChoices" "states" "[J" (.ref sa)) (F_ao0_counts : Fld Z h0 ao0 "com/example/moving_tokens/movingtokens/PartialChoices" "counts" "[J" (.ref ca)) (F_ao0_homes : Fld Z h0 ao0 "com/example/moving_tokens/movingtokens/PartialChoices" "homes" "[I" (.ref ha)) (F_ao0_size : Fld Z h0 ao0 "com/example/moving_tokens/movingtokens/PartialChoices" "size" "I" (.int 1)) (F_ao0_slots : Fld Z h0 ao0 "com/example/moving_tokens/movingtokens/PartialChoices" "slots" "[I" (.ref pt)) (V_sa : Arv Z h0 sa ks .long sn sv (.long (0 : Int64))) (V_ca : Arh Z h0 ca kc .long (16 : Int32) hc [] (.long (0 : Int64))) (V_ha : Arh Z h0 ha kh .int (16 : Int32) (((0 : Int32), .int ro) :: hm) [] (.int (0 : Int32))) (V_pt : Arh Z h0 pt kp .int (32 : Int32) ((ro, .int (1 : Int32)) :: hs) [] (.int (0 : Int32))) (hL : sv.length = 8) (hN : (15 : Int32) < sn) (ne_ao0_sa : ao0 ≠ sa) (ne_ao0_ca : ao0 ≠ ca) (ne_ao0_ha : ao0 ≠ ha) (ne_ao0_pt : ao0 ≠ pt) (ne_sa_ca : sa ≠ ca) (ne_sa_ha : sa ≠ ha) (ne_sa_pt : sa ≠ pt) (ne_ca_ha : ca ≠ ha) (ne_ca_pt : ca ≠ pt) (ne_ha_pt : ha ≠ pt) (g_ao0 : n0 ≤ ao0) (g_sa : n0 ≤ sa) (g_ca : n0 ≤ ca) (g_ha : n0 ≤ ha) (g_pt : n0 ≤ pt) (hro : ¬ ro < 0 ∧ ro < 32) (hzr : own_Zr hs) :
    MetFree l (⟨"com/example/moving_tokens/movingtokens/PartialChoices", "clear", "(I)V"⟩ : MethodName) (head1 (Jvm.Cond.code (⟨"com/example/moving_tokens/movingtokens/PartialChoices", "clear", "(I)V"⟩ : MethodName) prog_38_method_2_code 4 none :: ws) ({ frames := 0, cells := 1, slots := 64, locals := 0 } : Room)) (fun a U => a = #[(.ref ao0), (.int wv)] ∧ Z.Warmed39 U.vm ∧ U.heap = h0) (fun _ _ _ _ _ => True) (fun _ U o U' => ∃ v L, o = .returned v ∧ (Q_rm3_1 Z ao0 wo wv sa ca ha pt ks kc kh kp sn sv hc hm hs ro h0 n0) v U'.heap L ∧ FrameEnd U o U' L ({ frames := 0, cells := 1, slots := 64, locals := 0 } : Room).cells ({ frames := 0, cells := 1, slots := 64, locals := 0 } : Room).slots) := by
  refine MetFree.of_bodySF (plainFor_of_name pn_rm3_1) hisR ?_
  intro p e s m args below meth c s₁ Bd hml0 hP hK
  obtain ⟨rfl, hZ, hh⟩ := hP
  have hx := Bd.exec
  have hby := Bd.bytes
  have hlk := BodyLoose.notSynchronized Bd
  have hret := Bd.returns
  have hml : c.maxLocals = 4 := hml0
  have hown : s.vm.findClass "com/example/moving_tokens/movingtokens/PartialChoices" = some m.cls := findClass_of_methodNamed Bd.named
  have hnm := (name_of_methodNamed Bd.named Bd.method).1
  have X0 : Stand p l e ({ frames := 0, cells := 1, slots := 64, locals := 0 } : Room) s m #[(.ref ao0), (.int wv)] below meth c s₁ [] 0 0 := Stand.of_body Bd
  have e0 : s₁.heap = h0 := by rw [← hh, Bd.state]; rfl
  have Nf := Fr.nil n0
  have Zs := Z0
  have Kp : Keep h0 h0 [ao0, sa, ca, ha, pt] := Keep.refl _ _
  show own_End p e below s (Q_rm3_1 Z ao0 wo wv sa ca ha pt ks kc kh kp sn sv hc hm hs ro h0 n0) ({ frames := 0, cells := 1, slots := 64, locals := 0 } : Room).cells ({ frames := 0, cells := 1, slots := 64, locals := 0 } : Room).slots (s₁.setTop (entryFrame m #[(.ref ao0), (.int wv)] 4))
  refine own_go (x' := s₁.setTop (mkF m 0 #[.val (.ref ao0), .val (.int wv), .unset, .unset] [])) (fun t k => castTop (ef_rm3_1 m ao0 wv) k) ?_
  refine own_go (x' := s₁.setTop (mkF m 4 #[.val (.ref ao0), .val (.int wv), .val (.int 0), .unset] [(.ref ao0), (.int 0)])) (fun _ k => XS.iconst X0.here hx rfl (hb hby d3_0) (XS.istoreN X0.here hx rfl (hb hby d3_1) rfl (l' := #[.val (.ref ao0), .val (.int wv), .val (.int 0), .unset]) rfl (XS.iloadN X0.here hx rfl (hb hby d3_2) rfl (XS.aloadN X0.here hx rfl (hb hby d3_3) rfl rfl k)))) ?_
  obtain ⟨T1, X1, e1, st1⟩ := getF X0 hx hZ hown (host := "") (Or.inl (own_w hw 24 rfl)) Via.refl e0 F_ao0_size (g := (mkF m 4 #[.val (.ref ao0), .val (.int wv), .val (.int 0), .unset] [(.ref ao0), (.int 0)])) rfl rfl (hb hby d3_4)
  refine own_go (x' := T1.setTop (mkF m 7 #[.val (.ref ao0), .val (.int wv), .val (.int 0), .unset] [(.int 1), (.int 0)])) st1 ?_
  refine own_go (x' := T1.setTop (mkF m 11 #[.val (.ref ao0), .val (.int wv), .val (.int 0), .unset] [(.ref ao0)])) (fun _ k => XS.icmpNo X1.here hx rfl (hb hby d3_7) rfl (tlt (by decide +kernel : ((0 : Int32) < (1 : Int32)))).2.1 (XS.aloadN X1.here hx rfl (hb hby d3_10) rfl rfl k)) ?_
  obtain ⟨T2, X2, e2, st2⟩ := getF X1 hx hZ hown (host := "") (Or.inl (own_w hw 17 rfl)) Via.refl e1 F_ao0_slots (g := (mkF m 11 #[.val (.ref ao0), .val (.int wv), .val (.int 0), .unset] [(.ref ao0)])) rfl rfl (hb hby d3_11)
  refine own_go (x' := T2.setTop (mkF m 14 #[.val (.ref ao0), .val (.int wv), .val (.int 0), .unset] [(.ref pt)])) st2 ?_
  refine own_go (x' := T2.setTop (mkF m 15 #[.val (.ref ao0), .val (.int wv), .val (.int 0), .unset] [(.ref ao0), (.ref pt)])) (fun _ k => XS.aloadN X2.here hx rfl (hb hby d3_14) rfl rfl k) ?_
  obtain ⟨T3, X3, e3, st3⟩ := getF X2 hx hZ hown (host := "") (Or.inl (own_w hw 15 rfl)) Via.refl e2 F_ao0_homes (g := (mkF m 15 #[.val (.ref ao0), .val (.int wv), .val (.int 0), .unset] [(.ref ao0), (.ref pt)])) rfl rfl (hb hby d3_15)
  refine own_go (x' := T3.setTop (mkF m 18 #[.val (.ref ao0), .val (.int wv), .val (.int 0), .unset] [(.ref ha), (.ref pt)])) st3 ?_
  refine own_go (x' := T3.setTop (mkF m 19 #[.val (.ref ao0), .val (.int wv), .val (.int 0), .unset] [(.int 0), (.ref ha), (.ref pt)])) (fun _ k => XS.iloadN X3.here hx rfl (hb hby d3_18) rfl k) ?_
  obtain ⟨cl4, Ar4, q4, Sz4, Nn4, Hh4, Gg4⟩ := id V_ha
  have hin4 : ¬ ((0 : Int32) < 0 ∨ cl4.slots.size ≤ ((0 : Int32)).toNatClampNeg) := inb_of Sz4 ⟨by decide, by decide⟩
  refine own_go (x' := T3.setTop (mkF m 20 #[.val (.ref ao0), .val (.int wv), .val (.int 0), .unset] [(.int ro), (.ref pt)])) (X3.iaload hx (j := (0 : Int32)) (v := (.int ro)) (Eq.trans (congrArg (fun h_ => h_[_]?) e3) Ar4.1) (State.isArrayOf_alike hZ.alike Ar4.2.1) Ar4.2.2 hin4 (atH Hh4 hin4 (getH_hit (by decide) rfl)) (g := (mkF m 19 #[.val (.ref ao0), .val (.int wv), .val (.int 0), .unset] [(.int 0), (.ref ha), (.ref pt)])) rfl rfl (hb hby d3_19)) ?_
  refine own_go (x' := T3.setTop (mkF m 21 #[.val (.ref ao0), .val (.int wv), .val (.int 0), .unset] [(.int 0), (.int ro), (.ref pt)])) (fun _ k => XS.iconst X3.here hx rfl (hb hby d3_20) k) ?_
  obtain ⟨cl5, Ar5, q5, Sz5, Nn5, Hh5, Gg5⟩ := V_pt
  have hin5 : ¬ (ro < 0 ∨ cl5.slots.size ≤ (ro).toNatClampNeg) := inb_of Sz5 hro
  obtain ⟨T5, h5, X5, e5, W5, st5⟩ := stI X3 hx hZ e3 Ar5 (j := ro) hin5 (g := (mkF m 21 #[.val (.ref ao0), .val (.int wv), .val (.int 0), .unset] [(.int 0), (.int ro), (.ref pt)])) rfl rfl (hb hby d3_21)
  refine own_go (x' := T5.setTop (mkF m 22 #[.val (.ref ao0), .val (.int wv), .val (.int 0), .unset] [])) st5 ?_
  replace E_ao0 := Exa.wr W5 E_ao0
  replace F_ao0_width := Fld.other W5 F_ao0_width (Or.inl ne_ao0_pt)
  replace F_ao0_states := Fld.other W5 F_ao0_states (Or.inl ne_ao0_pt)
  replace F_ao0_counts := Fld.other W5 F_ao0_counts (Or.inl ne_ao0_pt)
  replace F_ao0_homes := Fld.other W5 F_ao0_homes (Or.inl ne_ao0_pt)
  replace F_ao0_size := Fld.other W5 F_ao0_size (Or.inl ne_ao0_pt)
  replace F_ao0_slots := Fld.other W5 F_ao0_slots (Or.inl ne_ao0_pt)
  replace V_sa := V_sa.other W5 ne_sa_pt
  replace V_ca := V_ca.other W5 ne_ca_pt
  replace V_ha := V_ha.other W5 ne_ha_pt
  replace Zs := Nat.le_trans Zs (Keep.of_wr W5).1
  replace Nf := Fr.snoc X5 Nf g_pt
  replace Kp := Kp.wr W5 (Or.inl (by simp))
  have V_pt := Arh.push Ar5 q5 Sz5 Nn5 Hh5 Gg5 rfl W5 hin5
  refine own_go (x' := T5.setTop (mkF m 2 #[.val (.ref ao0), .val (.int wv), .val (.int ((0 : Int32) + (1 : Int32))), .unset] [])) (fun _ k => XS.iinc X5.here hx rfl (hb hby d3_22) rfl (l' := #[.val (.ref ao0), .val (.int wv), .val (.int ((0 : Int32) + (1 : Int32))), .unset]) rfl (XS.goto X5.here hx rfl (pc0 := 25) (pc' := 2) rfl (hb hby d3_25) (by decide) (by decide) k)) ?_
  rw [show ((0 : Int32) + (1 : Int32)) = (1 : Int32) from by decide +kernel]
  refine own_go (x' := T5.setTop (mkF m 4 #[.val (.ref ao0), .val (.int wv), .val (.int 1), .unset] [(.ref ao0), (.int 1)])) (fun _ k => XS.iloadN X5.here hx rfl (hb hby d3_2) rfl (XS.aloadN X5.here hx rfl (hb hby d3_3) rfl rfl k)) ?_
  obtain ⟨T6, X6, e6, st6⟩ := getF X5 hx hZ hown (host := "") (Or.inl (own_w hw 24 rfl)) Via.refl e5 F_ao0_size (g := (mkF m 4 #[.val (.ref ao0), .val (.int wv), .val (.int 1), .unset] [(.ref ao0), (.int 1)])) rfl rfl (hb hby d3_4)
  refine own_go (x' := T6.setTop (mkF m 7 #[.val (.ref ao0), .val (.int wv), .val (.int 1), .unset] [(.int 1), (.int 1)])) st6 ?_
  refine own_go (x' := T6.setTop (mkF m 30 #[.val (.ref ao0), .val (.int wv), .val (.int 1), .unset] [(.int 0), (.ref ao0)])) (fun _ k => XS.icmpYes X6.here hx rfl (pc0 := 7) (pc' := 28) rfl (hb hby d3_7) rfl (flt (Int32.lt_irrefl)).2.1 (by decide) (by decide) (XS.aloadN X6.here hx rfl (hb hby d3_28) rfl rfl (XS.iconst X6.here hx rfl (hb hby d3_29) k))) ?_
  obtain ⟨T7, h7, X7, e7, W7, st7⟩ := putF X6 hx hZ hown (host := "") (Or.inl (own_w hw 24 rfl)) Via.refl e6 F_ao0_size E_ao0 (Or.inl (own_w hw 25 rfl)) (own_w hw 2 rfl) (ty := .int) (by decide) rfl rfl (g := (mkF m 30 #[.val (.ref ao0), .val (.int wv), .val (.int 1), .unset] [(.int 0), (.ref ao0)])) rfl rfl (hb hby d3_30)
  refine own_go (x' := T7.setTop (mkF m 33 #[.val (.ref ao0), .val (.int wv), .val (.int 1), .unset] [])) st7 ?_
  replace E_ao0 := Exa.wr W7 E_ao0
  replace F_ao0_width := Fld.other W7 F_ao0_width (Or.inr (slot_ne (Or.inl (own_w hw 27 rfl)) (Or.inl (own_w hw 25 rfl)) (by decide) (t := .int) (t' := .int) (by decide) (by decide)))
  replace F_ao0_states := Fld.other W7 F_ao0_states (Or.inr (slot_ne (Or.inl (own_w hw 11 rfl)) (Or.inl (own_w hw 25 rfl)) (by decide) (t := (.array .long)) (t' := .int) (by decide) (by decide)))
  replace F_ao0_counts := Fld.other W7 F_ao0_counts (Or.inr (slot_ne (Or.inl (own_w hw 13 rfl)) (Or.inl (own_w hw 25 rfl)) (by decide) (t := (.array .long)) (t' := .int) (by decide) (by decide)))
  replace F_ao0_homes := Fld.other W7 F_ao0_homes (Or.inr (slot_ne (Or.inl (own_w hw 16 rfl)) (Or.inl (own_w hw 25 rfl)) (by decide) (t := (.array .int)) (t' := .int) (by decide) (by decide)))
  replace F_ao0_size := Fld.same W7 F_ao0_size
  replace F_ao0_slots := Fld.other W7 F_ao0_slots (Or.inr (slot_ne (Or.inl (own_w hw 18 rfl)) (Or.inl (own_w hw 25 rfl)) (by decide) (t := (.array .int)) (t' := .int) (by decide) (by decide)))
  replace V_sa := V_sa.other W7 (Ne.symm ne_ao0_sa)
  replace V_ca := V_ca.other W7 (Ne.symm ne_ao0_ca)
  replace V_ha := V_ha.other W7 (Ne.symm ne_ao0_ha)
  replace V_pt := V_pt.other W7 (Ne.symm ne_ao0_pt)
  replace Zs := Nat.le_trans Zs (Keep.of_wr W7).1
  replace Nf := Fr.snoc X7 Nf g_ao0
  replace Kp := Kp.wr W7 (Or.inl (by simp))
  refine own_go (x' := T7.setTop (mkF m 35 #[.val (.ref ao0), .val (.int wv), .val (.int 1), .unset] [(.int wv), (.ref ao0)])) (fun _ k => XS.aloadN X7.here hx rfl (hb hby d3_33) rfl rfl (XS.iloadN X7.here hx rfl (hb hby d3_34) rfl k)) ?_
  obtain ⟨T8, h8, X8, e8, W8, st8⟩ := putF X7 hx hZ hown (host := "") (Or.inl (own_w hw 26 rfl)) Via.refl e7 F_ao0_width E_ao0 (Or.inl (own_w hw 27 rfl)) (own_w hw 2 rfl) (ty := .int) (by decide) rfl rfl (g := (mkF m 35 #[.val (.ref ao0), .val (.int wv), .val (.int 1), .unset] [(.int wv), (.ref ao0)])) rfl rfl (hb hby d3_35)
  refine own_go (x' := T8.setTop (mkF m 38 #[.val (.ref ao0), .val (.int wv), .val (.int 1), .unset] [])) st8 ?_
  replace E_ao0 := Exa.wr W8 E_ao0
  replace F_ao0_width := Fld.same W8 F_ao0_width
  replace F_ao0_states := Fld.other W8 F_ao0_states (Or.inr (slot_ne (Or.inl (own_w hw 11 rfl)) (Or.inl (own_w hw 27 rfl)) (by decide) (t := (.array .long)) (t' := .int) (by decide) (by decide)))
  replace F_ao0_counts := Fld.other W8 F_ao0_counts (Or.inr (slot_ne (Or.inl (own_w hw 13 rfl)) (Or.inl (own_w hw 27 rfl)) (by decide) (t := (.array .long)) (t' := .int) (by decide) (by decide)))
  replace F_ao0_homes := Fld.other W8 F_ao0_homes (Or.inr (slot_ne (Or.inl (own_w hw 16 rfl)) (Or.inl (own_w hw 27 rfl)) (by decide) (t := (.array .int)) (t' := .int) (by decide) (by decide)))
  replace F_ao0_size := Fld.other W8 F_ao0_size (Or.inr (slot_ne (Or.inl (own_w hw 25 rfl)) (Or.inl (own_w hw 27 rfl)) (by decide) (t := .int) (t' := .int) (by decide) (by decide)))
  replace F_ao0_slots := Fld.other W8 F_ao0_slots (Or.inr (slot_ne (Or.inl (own_w hw 18 rfl)) (Or.inl (own_w hw 27 rfl)) (by decide) (t := (.array .int)) (t' := .int) (by decide) (by decide)))
  replace V_sa := V_sa.other W8 (Ne.symm ne_ao0_sa)
  replace V_ca := V_ca.other W8 (Ne.symm ne_ao0_ca)
  replace V_ha := V_ha.other W8 (Ne.symm ne_ao0_ha)
  replace V_pt := V_pt.other W8 (Ne.symm ne_ao0_pt)
  replace Zs := Nat.le_trans Zs (Keep.of_wr W8).1
  replace Nf := Fr.snoc X8 Nf g_ao0
  replace Kp := Kp.wr W8 (Or.inl (by simp))
  refine own_go (x' := T8.setTop (mkF m 39 #[.val (.ref ao0), .val (.int wv), .val (.int 1), .unset] [(.ref ao0)])) (fun _ k => XS.aloadN X8.here hx rfl (hb hby d3_38) rfl rfl k) ?_
  obtain ⟨T9, X9, e9, st9⟩ := getF X8 hx hZ hown (host := "") (Or.inl (own_w hw 12 rfl)) Via.refl e8 F_ao0_counts (g := (mkF m 39 #[.val (.ref ao0), .val (.int wv), .val (.int 1), .unset] [(.ref ao0)])) rfl rfl (hb hby d3_39)
  refine own_go (x' := T9.setTop (mkF m 42 #[.val (.ref ao0), .val (.int wv), .val (.int 1), .unset] [(.ref ca)])) st9 ?_
  obtain ⟨cl10, Ar10, -, Sz10, Nn10, -, -⟩ := id V_ca
  refine own_go (x' := T9.setTop (mkF m 43 #[.val (.ref ao0), .val (.int wv), .val (.int 1), .unset] [(.int 16)])) (fun t k => X9.arraylength hx (Eq.trans (congrArg (fun h_ => h_[_]?) e9) Ar10.1) (State.isArrayOf_alike hZ.alike Ar10.2.1) (g := (mkF m 42 #[.val (.ref ao0), .val (.int wv), .val (.int 1), .unset] [(.ref ca)])) rfl rfl (hb hby d3_42) t (by rw [len_of Sz10 Nn10]; exact k)) ?_
  refine own_go (x' := T9.setTop (mkF m 49 #[.val (.ref ao0), .val (.int wv), .val (.long (((16 : Int32).toInt64) * (wv.toInt64))), .second] [(.long (((16 : Int32).toInt64) * (wv.toInt64)))])) (fun _ k => XS.i2l X9.here hx rfl (hb hby d3_43) rfl (XS.iloadN X9.here hx rfl (hb hby d3_44) rfl (XS.i2l X9.here hx rfl (hb hby d3_45) rfl (XS.lmul X9.here hx rfl (hb hby d3_46) rfl (XS.lstoreN X9.here hx rfl (hb hby d3_47) rfl (l' := #[.val (.ref ao0), .val (.int wv), .val (.long (((16 : Int32).toInt64) * (wv.toInt64))), .second]) rfl (XS.lloadN X9.here hx rfl (hb hby d3_48) rfl k)))))) ?_
  refine own_go (x' := T9.setTop (mkF m 52 #[.val (.ref ao0), .val (.int wv), .val (.long (((16 : Int32).toInt64) * (wv.toInt64))), .second] [(.long 2147483639), (.long (((16 : Int32).toInt64) * (wv.toInt64)))])) (fun t k => X9.ldc2Long hx hown (mvT hZ (own_w hw 28 rfl)) (g := (mkF m 49 #[.val (.ref ao0), .val (.int wv), .val (.long (((16 : Int32).toInt64) * (wv.toInt64))), .second] [(.long (((16 : Int32).toInt64) * (wv.toInt64)))])) rfl (hb hby d3_49) t k) ?_
  refine own_go (x' := T9.setTop (mkF m 94 #[.val (.ref ao0), .val (.int wv), .val (.long (((16 : Int32).toInt64) * (wv.toInt64))), .second] [(.ref ao0)])) (fun _ k => XS.lcmp X9.here hx rfl (hb hby d3_52) rfl (XS.ifYes X9.here hx rfl (pc0 := 53) (pc' := 93) rfl (hb hby d3_53) rfl ((if0 _ _).trans (flt (fun q_ => (own_cl hwv).1 ((lw_gt (((16 : Int32).toInt64) * (wv.toInt64)) (2147483639 : Int64)).mp q_))).2.2.2) (by decide) (by decide) (XS.aloadN X9.here hx rfl (hb hby d3_93) rfl rfl k))) ?_
  obtain ⟨T11, X11, e11, st11⟩ := getF X9 hx hZ hown (host := "") (Or.inl (own_w hw 10 rfl)) Via.refl e9 F_ao0_states (g := (mkF m 94 #[.val (.ref ao0), .val (.int wv), .val (.long (((16 : Int32).toInt64) * (wv.toInt64))), .second] [(.ref ao0)])) rfl rfl (hb hby d3_94)
  refine own_go (x' := T11.setTop (mkF m 97 #[.val (.ref ao0), .val (.int wv), .val (.long (((16 : Int32).toInt64) * (wv.toInt64))), .second] [(.ref sa)])) st11 ?_
  obtain ⟨cl12, Ar12, -, Sz12, Nn12, -, -⟩ := id V_sa
  refine own_go (x' := T11.setTop (mkF m 98 #[.val (.ref ao0), .val (.int wv), .val (.long (((16 : Int32).toInt64) * (wv.toInt64))), .second] [(.int sn)])) (fun t k => X11.arraylength hx (Eq.trans (congrArg (fun h_ => h_[_]?) e11) Ar12.1) (State.isArrayOf_alike hZ.alike Ar12.2.1) (g := (mkF m 97 #[.val (.ref ao0), .val (.int wv), .val (.long (((16 : Int32).toInt64) * (wv.toInt64))), .second] [(.ref sa)])) rfl rfl (hb hby d3_97) t (by rw [len_of Sz12 Nn12]; exact k)) ?_
  refine own_go (x' := T11.setTop (mkF m 101 #[.val (.ref ao0), .val (.int wv), .val (.long (((16 : Int32).toInt64) * (wv.toInt64))), .second] [(.int (lcmpW (sn.toInt64) (((16 : Int32).toInt64) * (wv.toInt64))))])) (fun _ k => XS.i2l X11.here hx rfl (hb hby d3_98) rfl (XS.lloadN X11.here hx rfl (hb hby d3_99) rfl (XS.lcmp X11.here hx rfl (hb hby d3_100) rfl k))) ?_
  by_cases hc101 : (sn.toInt64) < (((16 : Int32).toInt64) * (wv.toInt64))
  · refine own_go (x' := T11.setTop (mkF m 107 #[.val (.ref ao0), .val (.int wv), .val (.long (((16 : Int32).toInt64) * (wv.toInt64))), .second] [(.int ((((16 : Int32).toInt64) * (wv.toInt64)).toInt32)), (.ref ao0)])) (fun _ k => XS.ifNo X11.here hx rfl (hb hby d3_101) rfl ((if0 _ _).trans (tlt ((lw_lt (sn.toInt64) (((16 : Int32).toInt64) * (wv.toInt64))).mpr hc101)).2.1) (XS.aloadN X11.here hx rfl (hb hby d3_104) rfl rfl (XS.lloadN X11.here hx rfl (hb hby d3_105) rfl (XS.l2i X11.here hx rfl (hb hby d3_106) rfl k)))) ?_
    obtain ⟨T13, h13, k13, X13, e13, E13, A13, st13⟩ := newP X11 hx hZ (own_w hw 0 rfl) e11 (g := (mkF m 107 #[.val (.ref ao0), .val (.int wv), .val (.long (((16 : Int32).toInt64) * (wv.toInt64))), .second] [(.int ((((16 : Int32).toInt64) * (wv.toInt64)).toInt32)), (.ref ao0)])) rfl (hb hby d3_107) rfl (own_cl hwv).2.1 (cap := 64) (own_cl hwv).2.2.1 (by decide) (by decide) (by decide)
    obtain ⟨b13, g13⟩ : ∃ z, z = h8.size := ⟨_, rfl⟩
    rw [← g13] at A13 st13
    have ne_ao0_b13 : ao0 ≠ b13 := Nat.ne_of_lt (Nat.lt_of_lt_of_le E_ao0.lt (Nat.le_of_eq g13.symm))
    have ne_sa_b13 : sa ≠ b13 := Nat.ne_of_lt (Nat.lt_of_lt_of_le V_sa.lt (Nat.le_of_eq g13.symm))
    have ne_ca_b13 : ca ≠ b13 := Nat.ne_of_lt (Nat.lt_of_lt_of_le V_ca.lt (Nat.le_of_eq g13.symm))
    have ne_ha_b13 : ha ≠ b13 := Nat.ne_of_lt (Nat.lt_of_lt_of_le V_ha.lt (Nat.le_of_eq g13.symm))
    have ne_pt_b13 : pt ≠ b13 := Nat.ne_of_lt (Nat.lt_of_lt_of_le V_pt.lt (Nat.le_of_eq g13.symm))
    have g_b13 : n0 ≤ b13 := Nat.le_trans Zs (Nat.le_of_eq g13.symm)
    have sz_b13 : h0.size ≤ b13 := Nat.le_trans Kp.1 (Nat.le_of_eq g13.symm)
    replace E_ao0 := Exa.ext E13 E_ao0
    replace F_ao0_width := Fld.ext E13 F_ao0_width
    replace F_ao0_states := Fld.ext E13 F_ao0_states
    replace F_ao0_counts := Fld.ext E13 F_ao0_counts
    replace F_ao0_homes := Fld.ext E13 F_ao0_homes
    replace F_ao0_size := Fld.ext E13 F_ao0_size
    replace F_ao0_slots := Fld.ext E13 F_ao0_slots
    replace V_sa := V_sa.ext E13
    replace V_ca := V_ca.ext E13
    replace V_ha := V_ha.ext E13
    replace V_pt := V_pt.ext E13
    replace Zs := Nat.le_trans Zs E13.1
    replace Kp := Kp.ext E13
    have V_b13 : Arv Z h13 b13 k13 .long ((((16 : Int32).toInt64) * (wv.toInt64)).toInt32) [] (.long 0) := Arv.new A13 (own_cl hwv).2.1
    refine own_go (x' := T13.setTop (mkF m 109 #[.val (.ref ao0), .val (.int wv), .val (.long (((16 : Int32).toInt64) * (wv.toInt64))), .second] [(.ref b13), (.ref ao0)])) st13 ?_
    obtain ⟨T14, h14, X14, e14, W14, st14⟩ := putF X13 hx hZ hown (host := "") (Or.inl (own_w hw 10 rfl)) Via.refl e13 F_ao0_states E_ao0 (Or.inl (own_w hw 11 rfl)) (own_w hw 2 rfl) (ty := (.array .long)) (by decide) rfl rfl (g := (mkF m 109 #[.val (.ref ao0), .val (.int wv), .val (.long (((16 : Int32).toInt64) * (wv.toInt64))), .second] [(.ref b13), (.ref ao0)])) rfl rfl (hb hby d3_109)
    refine own_go (x' := T14.setTop (mkF m 112 #[.val (.ref ao0), .val (.int wv), .val (.long (((16 : Int32).toInt64) * (wv.toInt64))), .second] [])) st14 ?_
    replace E_ao0 := Exa.wr W14 E_ao0
    replace F_ao0_width := Fld.other W14 F_ao0_width (Or.inr (slot_ne (Or.inl (own_w hw 27 rfl)) (Or.inl (own_w hw 11 rfl)) (by decide) (t := .int) (t' := (.array .long)) (by decide) (by decide)))
    replace F_ao0_states := Fld.same W14 F_ao0_states
    replace F_ao0_counts := Fld.other W14 F_ao0_counts (Or.inr (slot_ne (Or.inl (own_w hw 13 rfl)) (Or.inl (own_w hw 11 rfl)) (by decide) (t := (.array .long)) (t' := (.array .long)) (by decide) (by decide)))
    replace F_ao0_homes := Fld.other W14 F_ao0_homes (Or.inr (slot_ne (Or.inl (own_w hw 16 rfl)) (Or.inl (own_w hw 11 rfl)) (by decide) (t := (.array .int)) (t' := (.array .long)) (by decide) (by decide)))
    replace F_ao0_size := Fld.other W14 F_ao0_size (Or.inr (slot_ne (Or.inl (own_w hw 25 rfl)) (Or.inl (own_w hw 11 rfl)) (by decide) (t := .int) (t' := (.array .long)) (by decide) (by decide)))
    replace F_ao0_slots := Fld.other W14 F_ao0_slots (Or.inr (slot_ne (Or.inl (own_w hw 18 rfl)) (Or.inl (own_w hw 11 rfl)) (by decide) (t := (.array .int)) (t' := (.array .long)) (by decide) (by decide)))
    replace V_sa := V_sa.other W14 (Ne.symm ne_ao0_sa)
    replace V_ca := V_ca.other W14 (Ne.symm ne_ao0_ca)
    replace V_ha := V_ha.other W14 (Ne.symm ne_ao0_ha)
    replace V_pt := V_pt.other W14 (Ne.symm ne_ao0_pt)
    replace V_b13 := V_b13.other W14 (Ne.symm ne_ao0_b13)
    replace Zs := Nat.le_trans Zs (Keep.of_wr W14).1
    replace Nf := Fr.snoc X14 Nf g_ao0
    replace Kp := Kp.wr W14 (Or.inl (by simp))
    refine own_retV X14 hx hlk hret (hb hby d3_112) ?_ (by decide) (by decide)
    rw [e14]
    exact ⟨b13, k13, _, _, _, _, rfl, Nf, Kp, rfl, (own_cl hwv).2.2.2, g_b13, fun _ q_ _ => Nat.ne_of_lt (Nat.lt_of_lt_of_le q_ sz_b13), own_zr1 hzr _ _, E_ao0, F_ao0_width, F_ao0_states, F_ao0_counts, F_ao0_homes, F_ao0_size, F_ao0_slots, V_b13.pad (pad_rep [] _ 8), V_ca, V_ha, V_pt⟩
  · refine own_go (x' := T11.setTop (mkF m 112 #[.val (.ref ao0), .val (.int wv), .val (.long (((16 : Int32).toInt64) * (wv.toInt64))), .second] [])) (fun _ k => XS.ifYes X11.here hx rfl (pc0 := 101) (pc' := 112) rfl (hb hby d3_101) rfl ((if0 _ _).trans (flt (fun q_ => hc101 ((lw_lt (sn.toInt64) (((16 : Int32).toInt64) * (wv.toInt64))).mp q_))).2.1) (by decide) (by decide) k) ?_
    refine own_retV X11 hx hlk hret (hb hby d3_112) ?_ (by decide) (by decide)
    rw [e11]
    exact ⟨sa, ks, sn, sv, _, _, rfl, Nf, Kp, hL, hN, g_sa, fun _ _ q_ => q_, own_zr1 hzr _ _, E_ao0, F_ao0_width, F_ao0_states, F_ao0_counts, F_ao0_homes, F_ao0_size, F_ao0_slots, V_sa, V_ca, V_ha, V_pt⟩
def Q_rm3_2 (Z : State) (ao0 : Addr) (wo wv : Int32) (sa ca ha pt : Addr) (ks kc kh kp : ClassId) (sn : Int32) (sv : List Value) (hc hm hs : List (Int32 × Value)) (r ro : Int32) (h0 : Heap) (n0 : Nat) (v : Option Value) (h : Heap) (L : List Loc) : Prop := ∃ (sa' : Addr) (ks' : ClassId) (sn' : Int32) (sv' : List Value) (hm' hs' : List (Int32 × Value)), v = none ∧ Fr n0 L ∧ Keep h0 h [ao0, sa, ca, ha, pt] ∧ sv'.length = 8 ∧ (15 : Int32) < sn' ∧ n0 ≤ sa' ∧ (∀ x, x < h0.size → x ≠ sa → x ≠ sa') ∧ own_Zr hs' ∧ Exa Z h ao0 "com/example/moving_tokens/movingtokens/PartialChoices" ∧ Fld Z h ao0 "com/example/moving_tokens/movingtokens/PartialChoices" "width" "I" (.int wv) ∧ Fld Z h ao0 "com/example/moving_tokens/movingtokens/PartialChoices" "states" "[J" (.ref sa') ∧ Fld Z h ao0 "com/example/moving_tokens/movingtokens/PartialChoices" "counts" "[J" (.ref ca) ∧ Fld Z h ao0 "com/example/moving_tokens/movingtokens/PartialChoices" "homes" "[I" (.ref ha) ∧ Fld Z h ao0 "com/example/moving_tokens/movingtokens/PartialChoices" "size" "I" (.int 0) ∧ Fld Z h ao0 "com/example/moving_tokens/movingtokens/PartialChoices" "slots" "[I" (.ref pt) ∧ Arv Z h sa' ks' .long sn' sv' (.long (0 : Int64)) ∧ Arh Z h ca kc .long (16 : Int32) hc [] (.long (0 : Int64)) ∧ Arh Z h ha kh .int (16 : Int32) hm' [] (.int (0 : Int32)) ∧ Arh Z h pt kp .int (32 : Int32) hs' [] (.int (0 : Int32))
theorem pn_rm3_2 : plainName "com/example/moving_tokens/movingtokens/PartialChoices" = true := by first | (simp [plainName, overriddenIn]; done) | decide +kernel
theorem ef_rm3_2 (m : MethodId) (x0 : Addr) (x1 : Int32) : entryFrame m #[(.ref x0), (.int x1)] 4 = mkF m 0 #[.val (.ref x0), .val (.int x1), .unset, .unset] [] := by first | (simp [entryFrame, mkF, argsToLocals, Value.category]; done) | rfl
set_option maxRecDepth 65536 in
set_option maxHeartbeats 40000000 in
theorem rm3_2 (l : Launch) (Z : State) (a0 : Array Value) (hw : ∀ d ∈ tables_1, d.before a0 Z = true) (ws : List Jvm.Cond) (ao0 : Addr) (wo wv : Int32) (sa ca ha pt : Addr) (ks kc kh kp : ClassId) (sn : Int32) (sv : List Value) (hc hm hs : List (Int32 × Value)) (r ro : Int32) (h0 : Heap) (n0 : Nat) (Z0 : n0 ≤ h0.size) (hwv : wv = 1 ∨ wv = 2 ∨ wv = 3 ∨ wv = 4) (E_ao0 : Exa Z h0 ao0 "com/example/moving_tokens/movingtokens/PartialChoices") (F_ao0_width : Fld Z h0 ao0 "com/example/moving_tokens/movingtokens/PartialChoices" "width" "I" (.int wo)) (F_ao0_states : Fld Z h0 ao0 "com/example/moving_tokens/movingtokens/PartialChoices" "states" "[J" (.ref sa)) (F_ao0_counts : Fld Z h0 ao0 "com/example/moving_tokens/movingtokens/PartialChoices" "counts" "[J" (.ref ca)) (F_ao0_homes : Fld Z h0 ao0 "com/example/moving_tokens/movingtokens/PartialChoices" "homes" "[I" (.ref ha)) (F_ao0_size : Fld Z h0 ao0 "com/example/moving_tokens/movingtokens/PartialChoices" "size" "I" (.int 2)) (F_ao0_slots : Fld Z h0 ao0 "com/example/moving_tokens/movingtokens/PartialChoices" "slots" "[I" (.ref pt)) (V_sa : Arv Z h0 sa ks .long sn sv (.long (0 : Int64))) (V_ca : Arh Z h0 ca kc .long (16 : Int32) hc [] (.long (0 : Int64))) (V_ha : Arh Z h0 ha kh .int (16 : Int32) (((1 : Int32), .int r) :: ((0 : Int32), .int ro) :: hm) [] (.int (0 : Int32))) (V_pt : Arh Z h0 pt kp .int (32 : Int32) ((r, .int (2 : Int32)) :: (ro, .int (1 : Int32)) :: hs) [] (.int (0 : Int32))) (hL : sv.length = 8) (hN : (15 : Int32) < sn) (ne_ao0_sa : ao0 ≠ sa) (ne_ao0_ca : ao0 ≠ ca) (ne_ao0_ha : ao0 ≠ ha) (ne_ao0_pt : ao0 ≠ pt) (ne_sa_ca : sa ≠ ca) (ne_sa_ha : sa ≠ ha) (ne_sa_pt : sa ≠ pt) (ne_ca_ha : ca ≠ ha) (ne_ca_pt : ca ≠ pt) (ne_ha_pt : ha ≠ pt) (g_ao0 : n0 ≤ ao0) (g_sa : n0 ≤ sa) (g_ca : n0 ≤ ca) (g_ha : n0 ≤ ha) (g_pt : n0 ≤ pt) (hr : ¬ r < 0 ∧ r < 32) (hro : ¬ ro < 0 ∧ ro < 32) (hzr : own_Zr hs) :
    MetFree l (⟨"com/example/moving_tokens/movingtokens/PartialChoices", "clear", "(I)V"⟩ : MethodName) (head1 (Jvm.Cond.code (⟨"com/example/moving_tokens/movingtokens/PartialChoices", "clear", "(I)V"⟩ : MethodName) prog_38_method_2_code 4 none :: ws) ({ frames := 0, cells := 1, slots := 64, locals := 0 } : Room)) (fun a U => a = #[(.ref ao0), (.int wv)] ∧ Z.Warmed39 U.vm ∧ U.heap = h0) (fun _ _ _ _ _ => True) (fun _ U o U' => ∃ v L, o = .returned v ∧ (Q_rm3_2 Z ao0 wo wv sa ca ha pt ks kc kh kp sn sv hc hm hs r ro h0 n0) v U'.heap L ∧ FrameEnd U o U' L ({ frames := 0, cells := 1, slots := 64, locals := 0 } : Room).cells ({ frames := 0, cells := 1, slots := 64, locals := 0 } : Room).slots) := by
  refine MetFree.of_bodySF (plainFor_of_name pn_rm3_2) hisR ?_
  intro p e s m args below meth c s₁ Bd hml0 hP hK
  obtain ⟨rfl, hZ, hh⟩ := hP
  have hx := Bd.exec
  have hby := Bd.bytes
  have hlk := BodyLoose.notSynchronized Bd
  have hret := Bd.returns
  have hml : c.maxLocals = 4 := hml0
  have hown : s.vm.findClass "com/example/moving_tokens/movingtokens/PartialChoices" = some m.cls := findClass_of_methodNamed Bd.named
  have hnm := (name_of_methodNamed Bd.named Bd.method).1
  have X0 : Stand p l e ({ frames := 0, cells := 1, slots := 64, locals := 0 } : Room) s m #[(.ref ao0), (.int wv)] below meth c s₁ [] 0 0 := Stand.of_body Bd
  have e0 : s₁.heap = h0 := by rw [← hh, Bd.state]; rfl
  have Nf := Fr.nil n0
  have Zs := Z0
  have Kp : Keep h0 h0 [ao0, sa, ca, ha, pt] := Keep.refl _ _
  show own_End p e below s (Q_rm3_2 Z ao0 wo wv sa ca ha pt ks kc kh kp sn sv hc hm hs r ro h0 n0) ({ frames := 0, cells := 1, slots := 64, locals := 0 } : Room).cells ({ frames := 0, cells := 1, slots := 64, locals := 0 } : Room).slots (s₁.setTop (entryFrame m #[(.ref ao0), (.int wv)] 4))
  refine own_go (x' := s₁.setTop (mkF m 0 #[.val (.ref ao0), .val (.int wv), .unset, .unset] [])) (fun t k => castTop (ef_rm3_2 m ao0 wv) k) ?_
  refine own_go (x' := s₁.setTop (mkF m 4 #[.val (.ref ao0), .val (.int wv), .val (.int 0), .unset] [(.ref ao0), (.int 0)])) (fun _ k => XS.iconst X0.here hx rfl (hb hby d3_0) (XS.istoreN X0.here hx rfl (hb hby d3_1) rfl (l' := #[.val (.ref ao0), .val (.int wv), .val (.int 0), .unset]) rfl (XS.iloadN X0.here hx rfl (hb hby d3_2) rfl (XS.aloadN X0.here hx rfl (hb hby d3_3) rfl rfl k)))) ?_
  obtain ⟨T1, X1, e1, st1⟩ := getF X0 hx hZ hown (host := "") (Or.inl (own_w hw 24 rfl)) Via.refl e0 F_ao0_size (g := (mkF m 4 #[.val (.ref ao0), .val (.int wv), .val (.int 0), .unset] [(.ref ao0), (.int 0)])) rfl rfl (hb hby d3_4)
  refine own_go (x' := T1.setTop (mkF m 7 #[.val (.ref ao0), .val (.int wv), .val (.int 0), .unset] [(.int 2), (.int 0)])) st1 ?_
  refine own_go (x' := T1.setTop (mkF m 11 #[.val (.ref ao0), .val (.int wv), .val (.int 0), .unset] [(.ref ao0)])) (fun _ k => XS.icmpNo X1.here hx rfl (hb hby d3_7) rfl (tlt (by decide +kernel : ((0 : Int32) < (2 : Int32)))).2.1 (XS.aloadN X1.here hx rfl (hb hby d3_10) rfl rfl k)) ?_
  obtain ⟨T2, X2, e2, st2⟩ := getF X1 hx hZ hown (host := "") (Or.inl (own_w hw 17 rfl)) Via.refl e1 F_ao0_slots (g := (mkF m 11 #[.val (.ref ao0), .val (.int wv), .val (.int 0), .unset] [(.ref ao0)])) rfl rfl (hb hby d3_11)
  refine own_go (x' := T2.setTop (mkF m 14 #[.val (.ref ao0), .val (.int wv), .val (.int 0), .unset] [(.ref pt)])) st2 ?_
  refine own_go (x' := T2.setTop (mkF m 15 #[.val (.ref ao0), .val (.int wv), .val (.int 0), .unset] [(.ref ao0), (.ref pt)])) (fun _ k => XS.aloadN X2.here hx rfl (hb hby d3_14) rfl rfl k) ?_
  obtain ⟨T3, X3, e3, st3⟩ := getF X2 hx hZ hown (host := "") (Or.inl (own_w hw 15 rfl)) Via.refl e2 F_ao0_homes (g := (mkF m 15 #[.val (.ref ao0), .val (.int wv), .val (.int 0), .unset] [(.ref ao0), (.ref pt)])) rfl rfl (hb hby d3_15)
  refine own_go (x' := T3.setTop (mkF m 18 #[.val (.ref ao0), .val (.int wv), .val (.int 0), .unset] [(.ref ha), (.ref pt)])) st3 ?_
  refine own_go (x' := T3.setTop (mkF m 19 #[.val (.ref ao0), .val (.int wv), .val (.int 0), .unset] [(.int 0), (.ref ha), (.ref pt)])) (fun _ k => XS.iloadN X3.here hx rfl (hb hby d3_18) rfl k) ?_
  obtain ⟨cl4, Ar4, q4, Sz4, Nn4, Hh4, Gg4⟩ := id V_ha
  have hin4 : ¬ ((0 : Int32) < 0 ∨ cl4.slots.size ≤ ((0 : Int32)).toNatClampNeg) := inb_of Sz4 ⟨by decide, by decide⟩
  refine own_go (x' := T3.setTop (mkF m 20 #[.val (.ref ao0), .val (.int wv), .val (.int 0), .unset] [(.int ro), (.ref pt)])) (X3.iaload hx (j := (0 : Int32)) (v := (.int ro)) (Eq.trans (congrArg (fun h_ => h_[_]?) e3) Ar4.1) (State.isArrayOf_alike hZ.alike Ar4.2.1) Ar4.2.2 hin4 (atH Hh4 hin4 (getH_miss (by decide) (by decide) (getH_hit (by decide) rfl))) (g := (mkF m 19 #[.val (.ref ao0), .val (.int wv), .val (.int 0), .unset] [(.int 0), (.ref ha), (.ref pt)])) rfl rfl (hb hby d3_19)) ?_
  refine own_go (x' := T3.setTop (mkF m 21 #[.val (.ref ao0), .val (.int wv), .val (.int 0), .unset] [(.int 0), (.int ro), (.ref pt)])) (fun _ k => XS.iconst X3.here hx rfl (hb hby d3_20) k) ?_
  obtain ⟨cl5, Ar5, q5, Sz5, Nn5, Hh5, Gg5⟩ := V_pt
  have hin5 : ¬ (ro < 0 ∨ cl5.slots.size ≤ (ro).toNatClampNeg) := inb_of Sz5 hro
  obtain ⟨T5, h5, X5, e5, W5, st5⟩ := stI X3 hx hZ e3 Ar5 (j := ro) hin5 (g := (mkF m 21 #[.val (.ref ao0), .val (.int wv), .val (.int 0), .unset] [(.int 0), (.int ro), (.ref pt)])) rfl rfl (hb hby d3_21)
  refine own_go (x' := T5.setTop (mkF m 22 #[.val (.ref ao0), .val (.int wv), .val (.int 0), .unset] [])) st5 ?_
  replace E_ao0 := Exa.wr W5 E_ao0
  replace F_ao0_width := Fld.other W5 F_ao0_width (Or.inl ne_ao0_pt)
  replace F_ao0_states := Fld.other W5 F_ao0_states (Or.inl ne_ao0_pt)
  replace F_ao0_counts := Fld.other W5 F_ao0_counts (Or.inl ne_ao0_pt)
  replace F_ao0_homes := Fld.other W5 F_ao0_homes (Or.inl ne_ao0_pt)
  replace F_ao0_size := Fld.other W5 F_ao0_size (Or.inl ne_ao0_pt)
  replace F_ao0_slots := Fld.other W5 F_ao0_slots (Or.inl ne_ao0_pt)
  replace V_sa := V_sa.other W5 ne_sa_pt
  replace V_ca := V_ca.other W5 ne_ca_pt
  replace V_ha := V_ha.other W5 ne_ha_pt
  replace Zs := Nat.le_trans Zs (Keep.of_wr W5).1
  replace Nf := Fr.snoc X5 Nf g_pt
  replace Kp := Kp.wr W5 (Or.inl (by simp))
  have V_pt := Arh.push Ar5 q5 Sz5 Nn5 Hh5 Gg5 rfl W5 hin5
  refine own_go (x' := T5.setTop (mkF m 2 #[.val (.ref ao0), .val (.int wv), .val (.int ((0 : Int32) + (1 : Int32))), .unset] [])) (fun _ k => XS.iinc X5.here hx rfl (hb hby d3_22) rfl (l' := #[.val (.ref ao0), .val (.int wv), .val (.int ((0 : Int32) + (1 : Int32))), .unset]) rfl (XS.goto X5.here hx rfl (pc0 := 25) (pc' := 2) rfl (hb hby d3_25) (by decide) (by decide) k)) ?_
  rw [show ((0 : Int32) + (1 : Int32)) = (1 : Int32) from by decide +kernel]
  refine own_go (x' := T5.setTop (mkF m 4 #[.val (.ref ao0), .val (.int wv), .val (.int 1), .unset] [(.ref ao0), (.int 1)])) (fun _ k => XS.iloadN X5.here hx rfl (hb hby d3_2) rfl (XS.aloadN X5.here hx rfl (hb hby d3_3) rfl rfl k)) ?_
  obtain ⟨T6, X6, e6, st6⟩ := getF X5 hx hZ hown (host := "") (Or.inl (own_w hw 24 rfl)) Via.refl e5 F_ao0_size (g := (mkF m 4 #[.val (.ref ao0), .val (.int wv), .val (.int 1), .unset] [(.ref ao0), (.int 1)])) rfl rfl (hb hby d3_4)
  refine own_go (x' := T6.setTop (mkF m 7 #[.val (.ref ao0), .val (.int wv), .val (.int 1), .unset] [(.int 2), (.int 1)])) st6 ?_
  refine own_go (x' := T6.setTop (mkF m 11 #[.val (.ref ao0), .val (.int wv), .val (.int 1), .unset] [(.ref ao0)])) (fun _ k => XS.icmpNo X6.here hx rfl (hb hby d3_7) rfl (tlt (by decide +kernel : ((1 : Int32) < (2 : Int32)))).2.1 (XS.aloadN X6.here hx rfl (hb hby d3_10) rfl rfl k)) ?_
  obtain ⟨T7, X7, e7, st7⟩ := getF X6 hx hZ hown (host := "") (Or.inl (own_w hw 17 rfl)) Via.refl e6 F_ao0_slots (g := (mkF m 11 #[.val (.ref ao0), .val (.int wv), .val (.int 1), .unset] [(.ref ao0)])) rfl rfl (hb hby d3_11)
  refine own_go (x' := T7.setTop (mkF m 14 #[.val (.ref ao0), .val (.int wv), .val (.int 1), .unset] [(.ref pt)])) st7 ?_
  refine own_go (x' := T7.setTop (mkF m 15 #[.val (.ref ao0), .val (.int wv), .val (.int 1), .unset] [(.ref ao0), (.ref pt)])) (fun _ k => XS.aloadN X7.here hx rfl (hb hby d3_14) rfl rfl k) ?_
  obtain ⟨T8, X8, e8, st8⟩ := getF X7 hx hZ hown (host := "") (Or.inl (own_w hw 15 rfl)) Via.refl e7 F_ao0_homes (g := (mkF m 15 #[.val (.ref ao0), .val (.int wv), .val (.int 1), .unset] [(.ref ao0), (.ref pt)])) rfl rfl (hb hby d3_15)
  refine own_go (x' := T8.setTop (mkF m 18 #[.val (.ref ao0), .val (.int wv), .val (.int 1), .unset] [(.ref ha), (.ref pt)])) st8 ?_
  refine own_go (x' := T8.setTop (mkF m 19 #[.val (.ref ao0), .val (.int wv), .val (.int 1), .unset] [(.int 1), (.ref ha), (.ref pt)])) (fun _ k => XS.iloadN X8.here hx rfl (hb hby d3_18) rfl k) ?_
  obtain ⟨cl9, Ar9, q9, Sz9, Nn9, Hh9, Gg9⟩ := id V_ha
  have hin9 : ¬ ((1 : Int32) < 0 ∨ cl9.slots.size ≤ ((1 : Int32)).toNatClampNeg) := inb_of Sz9 ⟨by decide, by decide⟩
  refine own_go (x' := T8.setTop (mkF m 20 #[.val (.ref ao0), .val (.int wv), .val (.int 1), .unset] [(.int r), (.ref pt)])) (X8.iaload hx (j := (1 : Int32)) (v := (.int r)) (Eq.trans (congrArg (fun h_ => h_[_]?) e8) Ar9.1) (State.isArrayOf_alike hZ.alike Ar9.2.1) Ar9.2.2 hin9 (atH Hh9 hin9 (getH_hit (by decide) rfl)) (g := (mkF m 19 #[.val (.ref ao0), .val (.int wv), .val (.int 1), .unset] [(.int 1), (.ref ha), (.ref pt)])) rfl rfl (hb hby d3_19)) ?_
  refine own_go (x' := T8.setTop (mkF m 21 #[.val (.ref ao0), .val (.int wv), .val (.int 1), .unset] [(.int 0), (.int r), (.ref pt)])) (fun _ k => XS.iconst X8.here hx rfl (hb hby d3_20) k) ?_
  obtain ⟨cl10, Ar10, q10, Sz10, Nn10, Hh10, Gg10⟩ := V_pt
  have hin10 : ¬ (r < 0 ∨ cl10.slots.size ≤ (r).toNatClampNeg) := inb_of Sz10 hr
  obtain ⟨T10, h10, X10, e10, W10, st10⟩ := stI X8 hx hZ e8 Ar10 (j := r) hin10 (g := (mkF m 21 #[.val (.ref ao0), .val (.int wv), .val (.int 1), .unset] [(.int 0), (.int r), (.ref pt)])) rfl rfl (hb hby d3_21)
  refine own_go (x' := T10.setTop (mkF m 22 #[.val (.ref ao0), .val (.int wv), .val (.int 1), .unset] [])) st10 ?_
  replace E_ao0 := Exa.wr W10 E_ao0
  replace F_ao0_width := Fld.other W10 F_ao0_width (Or.inl ne_ao0_pt)
  replace F_ao0_states := Fld.other W10 F_ao0_states (Or.inl ne_ao0_pt)
  replace F_ao0_counts := Fld.other W10 F_ao0_counts (Or.inl ne_ao0_pt)
  replace F_ao0_homes := Fld.other W10 F_ao0_homes (Or.inl ne_ao0_pt)
  replace F_ao0_size := Fld.other W10 F_ao0_size (Or.inl ne_ao0_pt)
  replace F_ao0_slots := Fld.other W10 F_ao0_slots (Or.inl ne_ao0_pt)
  replace V_sa := V_sa.other W10 ne_sa_pt
  replace V_ca := V_ca.other W10 ne_ca_pt
  replace V_ha := V_ha.other W10 ne_ha_pt
  replace Zs := Nat.le_trans Zs (Keep.of_wr W10).1
  replace Nf := Fr.snoc X10 Nf g_pt
  replace Kp := Kp.wr W10 (Or.inl (by simp))
  have V_pt := Arh.push Ar10 q10 Sz10 Nn10 Hh10 Gg10 rfl W10 hin10
  refine own_go (x' := T10.setTop (mkF m 2 #[.val (.ref ao0), .val (.int wv), .val (.int ((1 : Int32) + (1 : Int32))), .unset] [])) (fun _ k => XS.iinc X10.here hx rfl (hb hby d3_22) rfl (l' := #[.val (.ref ao0), .val (.int wv), .val (.int ((1 : Int32) + (1 : Int32))), .unset]) rfl (XS.goto X10.here hx rfl (pc0 := 25) (pc' := 2) rfl (hb hby d3_25) (by decide) (by decide) k)) ?_
  rw [show ((1 : Int32) + (1 : Int32)) = (2 : Int32) from by decide +kernel]
  refine own_go (x' := T10.setTop (mkF m 4 #[.val (.ref ao0), .val (.int wv), .val (.int 2), .unset] [(.ref ao0), (.int 2)])) (fun _ k => XS.iloadN X10.here hx rfl (hb hby d3_2) rfl (XS.aloadN X10.here hx rfl (hb hby d3_3) rfl rfl k)) ?_
  obtain ⟨T11, X11, e11, st11⟩ := getF X10 hx hZ hown (host := "") (Or.inl (own_w hw 24 rfl)) Via.refl e10 F_ao0_size (g := (mkF m 4 #[.val (.ref ao0), .val (.int wv), .val (.int 2), .unset] [(.ref ao0), (.int 2)])) rfl rfl (hb hby d3_4)
  refine own_go (x' := T11.setTop (mkF m 7 #[.val (.ref ao0), .val (.int wv), .val (.int 2), .unset] [(.int 2), (.int 2)])) st11 ?_
  refine own_go (x' := T11.setTop (mkF m 30 #[.val (.ref ao0), .val (.int wv), .val (.int 2), .unset] [(.int 0), (.ref ao0)])) (fun _ k => XS.icmpYes X11.here hx rfl (pc0 := 7) (pc' := 28) rfl (hb hby d3_7) rfl (flt (Int32.lt_irrefl)).2.1 (by decide) (by decide) (XS.aloadN X11.here hx rfl (hb hby d3_28) rfl rfl (XS.iconst X11.here hx rfl (hb hby d3_29) k))) ?_
  obtain ⟨T12, h12, X12, e12, W12, st12⟩ := putF X11 hx hZ hown (host := "") (Or.inl (own_w hw 24 rfl)) Via.refl e11 F_ao0_size E_ao0 (Or.inl (own_w hw 25 rfl)) (own_w hw 2 rfl) (ty := .int) (by decide) rfl rfl (g := (mkF m 30 #[.val (.ref ao0), .val (.int wv), .val (.int 2), .unset] [(.int 0), (.ref ao0)])) rfl rfl (hb hby d3_30)
  refine own_go (x' := T12.setTop (mkF m 33 #[.val (.ref ao0), .val (.int wv), .val (.int 2), .unset] [])) st12 ?_
  replace E_ao0 := Exa.wr W12 E_ao0
  replace F_ao0_width := Fld.other W12 F_ao0_width (Or.inr (slot_ne (Or.inl (own_w hw 27 rfl)) (Or.inl (own_w hw 25 rfl)) (by decide) (t := .int) (t' := .int) (by decide) (by decide)))
  replace F_ao0_states := Fld.other W12 F_ao0_states (Or.inr (slot_ne (Or.inl (own_w hw 11 rfl)) (Or.inl (own_w hw 25 rfl)) (by decide) (t := (.array .long)) (t' := .int) (by decide) (by decide)))
  replace F_ao0_counts := Fld.other W12 F_ao0_counts (Or.inr (slot_ne (Or.inl (own_w hw 13 rfl)) (Or.inl (own_w hw 25 rfl)) (by decide) (t := (.array .long)) (t' := .int) (by decide) (by decide)))
  replace F_ao0_homes := Fld.other W12 F_ao0_homes (Or.inr (slot_ne (Or.inl (own_w hw 16 rfl)) (Or.inl (own_w hw 25 rfl)) (by decide) (t := (.array .int)) (t' := .int) (by decide) (by decide)))
  replace F_ao0_size := Fld.same W12 F_ao0_size
  replace F_ao0_slots := Fld.other W12 F_ao0_slots (Or.inr (slot_ne (Or.inl (own_w hw 18 rfl)) (Or.inl (own_w hw 25 rfl)) (by decide) (t := (.array .int)) (t' := .int) (by decide) (by decide)))
  replace V_sa := V_sa.other W12 (Ne.symm ne_ao0_sa)
  replace V_ca := V_ca.other W12 (Ne.symm ne_ao0_ca)
  replace V_ha := V_ha.other W12 (Ne.symm ne_ao0_ha)
  replace V_pt := V_pt.other W12 (Ne.symm ne_ao0_pt)
  replace Zs := Nat.le_trans Zs (Keep.of_wr W12).1
  replace Nf := Fr.snoc X12 Nf g_ao0
  replace Kp := Kp.wr W12 (Or.inl (by simp))
  refine own_go (x' := T12.setTop (mkF m 35 #[.val (.ref ao0), .val (.int wv), .val (.int 2), .unset] [(.int wv), (.ref ao0)])) (fun _ k => XS.aloadN X12.here hx rfl (hb hby d3_33) rfl rfl (XS.iloadN X12.here hx rfl (hb hby d3_34) rfl k)) ?_
  obtain ⟨T13, h13, X13, e13, W13, st13⟩ := putF X12 hx hZ hown (host := "") (Or.inl (own_w hw 26 rfl)) Via.refl e12 F_ao0_width E_ao0 (Or.inl (own_w hw 27 rfl)) (own_w hw 2 rfl) (ty := .int) (by decide) rfl rfl (g := (mkF m 35 #[.val (.ref ao0), .val (.int wv), .val (.int 2), .unset] [(.int wv), (.ref ao0)])) rfl rfl (hb hby d3_35)
  refine own_go (x' := T13.setTop (mkF m 38 #[.val (.ref ao0), .val (.int wv), .val (.int 2), .unset] [])) st13 ?_
  replace E_ao0 := Exa.wr W13 E_ao0
  replace F_ao0_width := Fld.same W13 F_ao0_width
  replace F_ao0_states := Fld.other W13 F_ao0_states (Or.inr (slot_ne (Or.inl (own_w hw 11 rfl)) (Or.inl (own_w hw 27 rfl)) (by decide) (t := (.array .long)) (t' := .int) (by decide) (by decide)))
  replace F_ao0_counts := Fld.other W13 F_ao0_counts (Or.inr (slot_ne (Or.inl (own_w hw 13 rfl)) (Or.inl (own_w hw 27 rfl)) (by decide) (t := (.array .long)) (t' := .int) (by decide) (by decide)))
  replace F_ao0_homes := Fld.other W13 F_ao0_homes (Or.inr (slot_ne (Or.inl (own_w hw 16 rfl)) (Or.inl (own_w hw 27 rfl)) (by decide) (t := (.array .int)) (t' := .int) (by decide) (by decide)))
  replace F_ao0_size := Fld.other W13 F_ao0_size (Or.inr (slot_ne (Or.inl (own_w hw 25 rfl)) (Or.inl (own_w hw 27 rfl)) (by decide) (t := .int) (t' := .int) (by decide) (by decide)))
  replace F_ao0_slots := Fld.other W13 F_ao0_slots (Or.inr (slot_ne (Or.inl (own_w hw 18 rfl)) (Or.inl (own_w hw 27 rfl)) (by decide) (t := (.array .int)) (t' := .int) (by decide) (by decide)))
  replace V_sa := V_sa.other W13 (Ne.symm ne_ao0_sa)
  replace V_ca := V_ca.other W13 (Ne.symm ne_ao0_ca)
  replace V_ha := V_ha.other W13 (Ne.symm ne_ao0_ha)
  replace V_pt := V_pt.other W13 (Ne.symm ne_ao0_pt)
  replace Zs := Nat.le_trans Zs (Keep.of_wr W13).1
  replace Nf := Fr.snoc X13 Nf g_ao0
  replace Kp := Kp.wr W13 (Or.inl (by simp))
  refine own_go (x' := T13.setTop (mkF m 39 #[.val (.ref ao0), .val (.int wv), .val (.int 2), .unset] [(.ref ao0)])) (fun _ k => XS.aloadN X13.here hx rfl (hb hby d3_38) rfl rfl k) ?_
  obtain ⟨T14, X14, e14, st14⟩ := getF X13 hx hZ hown (host := "") (Or.inl (own_w hw 12 rfl)) Via.refl e13 F_ao0_counts (g := (mkF m 39 #[.val (.ref ao0), .val (.int wv), .val (.int 2), .unset] [(.ref ao0)])) rfl rfl (hb hby d3_39)
  refine own_go (x' := T14.setTop (mkF m 42 #[.val (.ref ao0), .val (.int wv), .val (.int 2), .unset] [(.ref ca)])) st14 ?_
  obtain ⟨cl15, Ar15, -, Sz15, Nn15, -, -⟩ := id V_ca
  refine own_go (x' := T14.setTop (mkF m 43 #[.val (.ref ao0), .val (.int wv), .val (.int 2), .unset] [(.int 16)])) (fun t k => X14.arraylength hx (Eq.trans (congrArg (fun h_ => h_[_]?) e14) Ar15.1) (State.isArrayOf_alike hZ.alike Ar15.2.1) (g := (mkF m 42 #[.val (.ref ao0), .val (.int wv), .val (.int 2), .unset] [(.ref ca)])) rfl rfl (hb hby d3_42) t (by rw [len_of Sz15 Nn15]; exact k)) ?_
  refine own_go (x' := T14.setTop (mkF m 49 #[.val (.ref ao0), .val (.int wv), .val (.long (((16 : Int32).toInt64) * (wv.toInt64))), .second] [(.long (((16 : Int32).toInt64) * (wv.toInt64)))])) (fun _ k => XS.i2l X14.here hx rfl (hb hby d3_43) rfl (XS.iloadN X14.here hx rfl (hb hby d3_44) rfl (XS.i2l X14.here hx rfl (hb hby d3_45) rfl (XS.lmul X14.here hx rfl (hb hby d3_46) rfl (XS.lstoreN X14.here hx rfl (hb hby d3_47) rfl (l' := #[.val (.ref ao0), .val (.int wv), .val (.long (((16 : Int32).toInt64) * (wv.toInt64))), .second]) rfl (XS.lloadN X14.here hx rfl (hb hby d3_48) rfl k)))))) ?_
  refine own_go (x' := T14.setTop (mkF m 52 #[.val (.ref ao0), .val (.int wv), .val (.long (((16 : Int32).toInt64) * (wv.toInt64))), .second] [(.long 2147483639), (.long (((16 : Int32).toInt64) * (wv.toInt64)))])) (fun t k => X14.ldc2Long hx hown (mvT hZ (own_w hw 28 rfl)) (g := (mkF m 49 #[.val (.ref ao0), .val (.int wv), .val (.long (((16 : Int32).toInt64) * (wv.toInt64))), .second] [(.long (((16 : Int32).toInt64) * (wv.toInt64)))])) rfl (hb hby d3_49) t k) ?_
  refine own_go (x' := T14.setTop (mkF m 94 #[.val (.ref ao0), .val (.int wv), .val (.long (((16 : Int32).toInt64) * (wv.toInt64))), .second] [(.ref ao0)])) (fun _ k => XS.lcmp X14.here hx rfl (hb hby d3_52) rfl (XS.ifYes X14.here hx rfl (pc0 := 53) (pc' := 93) rfl (hb hby d3_53) rfl ((if0 _ _).trans (flt (fun q_ => (own_cl hwv).1 ((lw_gt (((16 : Int32).toInt64) * (wv.toInt64)) (2147483639 : Int64)).mp q_))).2.2.2) (by decide) (by decide) (XS.aloadN X14.here hx rfl (hb hby d3_93) rfl rfl k))) ?_
  obtain ⟨T16, X16, e16, st16⟩ := getF X14 hx hZ hown (host := "") (Or.inl (own_w hw 10 rfl)) Via.refl e14 F_ao0_states (g := (mkF m 94 #[.val (.ref ao0), .val (.int wv), .val (.long (((16 : Int32).toInt64) * (wv.toInt64))), .second] [(.ref ao0)])) rfl rfl (hb hby d3_94)
  refine own_go (x' := T16.setTop (mkF m 97 #[.val (.ref ao0), .val (.int wv), .val (.long (((16 : Int32).toInt64) * (wv.toInt64))), .second] [(.ref sa)])) st16 ?_
  obtain ⟨cl17, Ar17, -, Sz17, Nn17, -, -⟩ := id V_sa
  refine own_go (x' := T16.setTop (mkF m 98 #[.val (.ref ao0), .val (.int wv), .val (.long (((16 : Int32).toInt64) * (wv.toInt64))), .second] [(.int sn)])) (fun t k => X16.arraylength hx (Eq.trans (congrArg (fun h_ => h_[_]?) e16) Ar17.1) (State.isArrayOf_alike hZ.alike Ar17.2.1) (g := (mkF m 97 #[.val (.ref ao0), .val (.int wv), .val (.long (((16 : Int32).toInt64) * (wv.toInt64))), .second] [(.ref sa)])) rfl rfl (hb hby d3_97) t (by rw [len_of Sz17 Nn17]; exact k)) ?_
  refine own_go (x' := T16.setTop (mkF m 101 #[.val (.ref ao0), .val (.int wv), .val (.long (((16 : Int32).toInt64) * (wv.toInt64))), .second] [(.int (lcmpW (sn.toInt64) (((16 : Int32).toInt64) * (wv.toInt64))))])) (fun _ k => XS.i2l X16.here hx rfl (hb hby d3_98) rfl (XS.lloadN X16.here hx rfl (hb hby d3_99) rfl (XS.lcmp X16.here hx rfl (hb hby d3_100) rfl k))) ?_
  by_cases hc101 : (sn.toInt64) < (((16 : Int32).toInt64) * (wv.toInt64))
  · refine own_go (x' := T16.setTop (mkF m 107 #[.val (.ref ao0), .val (.int wv), .val (.long (((16 : Int32).toInt64) * (wv.toInt64))), .second] [(.int ((((16 : Int32).toInt64) * (wv.toInt64)).toInt32)), (.ref ao0)])) (fun _ k => XS.ifNo X16.here hx rfl (hb hby d3_101) rfl ((if0 _ _).trans (tlt ((lw_lt (sn.toInt64) (((16 : Int32).toInt64) * (wv.toInt64))).mpr hc101)).2.1) (XS.aloadN X16.here hx rfl (hb hby d3_104) rfl rfl (XS.lloadN X16.here hx rfl (hb hby d3_105) rfl (XS.l2i X16.here hx rfl (hb hby d3_106) rfl k)))) ?_
    obtain ⟨T18, h18, k18, X18, e18, E18, A18, st18⟩ := newP X16 hx hZ (own_w hw 0 rfl) e16 (g := (mkF m 107 #[.val (.ref ao0), .val (.int wv), .val (.long (((16 : Int32).toInt64) * (wv.toInt64))), .second] [(.int ((((16 : Int32).toInt64) * (wv.toInt64)).toInt32)), (.ref ao0)])) rfl (hb hby d3_107) rfl (own_cl hwv).2.1 (cap := 64) (own_cl hwv).2.2.1 (by decide) (by decide) (by decide)
    obtain ⟨b18, g18⟩ : ∃ z, z = h13.size := ⟨_, rfl⟩
    rw [← g18] at A18 st18
    have ne_ao0_b18 : ao0 ≠ b18 := Nat.ne_of_lt (Nat.lt_of_lt_of_le E_ao0.lt (Nat.le_of_eq g18.symm))
    have ne_sa_b18 : sa ≠ b18 := Nat.ne_of_lt (Nat.lt_of_lt_of_le V_sa.lt (Nat.le_of_eq g18.symm))
    have ne_ca_b18 : ca ≠ b18 := Nat.ne_of_lt (Nat.lt_of_lt_of_le V_ca.lt (Nat.le_of_eq g18.symm))
    have ne_ha_b18 : ha ≠ b18 := Nat.ne_of_lt (Nat.lt_of_lt_of_le V_ha.lt (Nat.le_of_eq g18.symm))
    have ne_pt_b18 : pt ≠ b18 := Nat.ne_of_lt (Nat.lt_of_lt_of_le V_pt.lt (Nat.le_of_eq g18.symm))
    have g_b18 : n0 ≤ b18 := Nat.le_trans Zs (Nat.le_of_eq g18.symm)
    have sz_b18 : h0.size ≤ b18 := Nat.le_trans Kp.1 (Nat.le_of_eq g18.symm)
    replace E_ao0 := Exa.ext E18 E_ao0
    replace F_ao0_width := Fld.ext E18 F_ao0_width
    replace F_ao0_states := Fld.ext E18 F_ao0_states
    replace F_ao0_counts := Fld.ext E18 F_ao0_counts
    replace F_ao0_homes := Fld.ext E18 F_ao0_homes
    replace F_ao0_size := Fld.ext E18 F_ao0_size
    replace F_ao0_slots := Fld.ext E18 F_ao0_slots
    replace V_sa := V_sa.ext E18
    replace V_ca := V_ca.ext E18
    replace V_ha := V_ha.ext E18
    replace V_pt := V_pt.ext E18
    replace Zs := Nat.le_trans Zs E18.1
    replace Kp := Kp.ext E18
    have V_b18 : Arv Z h18 b18 k18 .long ((((16 : Int32).toInt64) * (wv.toInt64)).toInt32) [] (.long 0) := Arv.new A18 (own_cl hwv).2.1
    refine own_go (x' := T18.setTop (mkF m 109 #[.val (.ref ao0), .val (.int wv), .val (.long (((16 : Int32).toInt64) * (wv.toInt64))), .second] [(.ref b18), (.ref ao0)])) st18 ?_
    obtain ⟨T19, h19, X19, e19, W19, st19⟩ := putF X18 hx hZ hown (host := "") (Or.inl (own_w hw 10 rfl)) Via.refl e18 F_ao0_states E_ao0 (Or.inl (own_w hw 11 rfl)) (own_w hw 2 rfl) (ty := (.array .long)) (by decide) rfl rfl (g := (mkF m 109 #[.val (.ref ao0), .val (.int wv), .val (.long (((16 : Int32).toInt64) * (wv.toInt64))), .second] [(.ref b18), (.ref ao0)])) rfl rfl (hb hby d3_109)
    refine own_go (x' := T19.setTop (mkF m 112 #[.val (.ref ao0), .val (.int wv), .val (.long (((16 : Int32).toInt64) * (wv.toInt64))), .second] [])) st19 ?_
    replace E_ao0 := Exa.wr W19 E_ao0
    replace F_ao0_width := Fld.other W19 F_ao0_width (Or.inr (slot_ne (Or.inl (own_w hw 27 rfl)) (Or.inl (own_w hw 11 rfl)) (by decide) (t := .int) (t' := (.array .long)) (by decide) (by decide)))
    replace F_ao0_states := Fld.same W19 F_ao0_states
    replace F_ao0_counts := Fld.other W19 F_ao0_counts (Or.inr (slot_ne (Or.inl (own_w hw 13 rfl)) (Or.inl (own_w hw 11 rfl)) (by decide) (t := (.array .long)) (t' := (.array .long)) (by decide) (by decide)))
    replace F_ao0_homes := Fld.other W19 F_ao0_homes (Or.inr (slot_ne (Or.inl (own_w hw 16 rfl)) (Or.inl (own_w hw 11 rfl)) (by decide) (t := (.array .int)) (t' := (.array .long)) (by decide) (by decide)))
    replace F_ao0_size := Fld.other W19 F_ao0_size (Or.inr (slot_ne (Or.inl (own_w hw 25 rfl)) (Or.inl (own_w hw 11 rfl)) (by decide) (t := .int) (t' := (.array .long)) (by decide) (by decide)))
    replace F_ao0_slots := Fld.other W19 F_ao0_slots (Or.inr (slot_ne (Or.inl (own_w hw 18 rfl)) (Or.inl (own_w hw 11 rfl)) (by decide) (t := (.array .int)) (t' := (.array .long)) (by decide) (by decide)))
    replace V_sa := V_sa.other W19 (Ne.symm ne_ao0_sa)
    replace V_ca := V_ca.other W19 (Ne.symm ne_ao0_ca)
    replace V_ha := V_ha.other W19 (Ne.symm ne_ao0_ha)
    replace V_pt := V_pt.other W19 (Ne.symm ne_ao0_pt)
    replace V_b18 := V_b18.other W19 (Ne.symm ne_ao0_b18)
    replace Zs := Nat.le_trans Zs (Keep.of_wr W19).1
    replace Nf := Fr.snoc X19 Nf g_ao0
    replace Kp := Kp.wr W19 (Or.inl (by simp))
    refine own_retV X19 hx hlk hret (hb hby d3_112) ?_ (by decide) (by decide)
    rw [e19]
    exact ⟨b18, k18, _, _, _, _, rfl, Nf, Kp, rfl, (own_cl hwv).2.2.2, g_b18, fun _ q_ _ => Nat.ne_of_lt (Nat.lt_of_lt_of_le q_ sz_b18), own_zr2 hzr _ _ _ _, E_ao0, F_ao0_width, F_ao0_states, F_ao0_counts, F_ao0_homes, F_ao0_size, F_ao0_slots, V_b18.pad (pad_rep [] _ 8), V_ca, V_ha, V_pt⟩
  · refine own_go (x' := T16.setTop (mkF m 112 #[.val (.ref ao0), .val (.int wv), .val (.long (((16 : Int32).toInt64) * (wv.toInt64))), .second] [])) (fun _ k => XS.ifYes X16.here hx rfl (pc0 := 101) (pc' := 112) rfl (hb hby d3_101) rfl ((if0 _ _).trans (flt (fun q_ => hc101 ((lw_lt (sn.toInt64) (((16 : Int32).toInt64) * (wv.toInt64))).mp q_))).2.1) (by decide) (by decide) k) ?_
    refine own_retV X16 hx hlk hret (hb hby d3_112) ?_ (by decide) (by decide)
    rw [e16]
    exact ⟨sa, ks, sn, sv, _, _, rfl, Nf, Kp, hL, hN, g_sa, fun _ _ q_ => q_, own_zr2 hzr _ _ _ _, E_ao0, F_ao0_width, F_ao0_states, F_ao0_counts, F_ao0_homes, F_ao0_size, F_ao0_slots, V_sa, V_ca, V_ha, V_pt⟩
theorem d10_0 : decode prog_38_method_3_code 0 = .ok (.aload_n 0, 1) := by decide +kernel
theorem d10_1 : decode prog_38_method_3_code 1 = .ok (.getfield 25, 3) := by decide +kernel
theorem d10_4 : decode prog_38_method_3_code 4 = .ok (.ireturn, 1) := by decide +kernel
def Q_rm10 (Z : State) (ao0 : Addr) (h0 : Heap) (n0 : Nat) (v : Option Value) (h : Heap) (L : List Loc) : Prop := v = some (.int (0 : Int32)) ∧ Fr n0 L ∧ h = h0
theorem pn_rm10 : plainName "com/example/moving_tokens/movingtokens/PartialChoices" = true := by first | (simp [plainName, overriddenIn]; done) | decide +kernel
theorem ef_rm10 (m : MethodId) (x0 : Addr) : entryFrame m #[(.ref x0)] 1 = mkF m 0 #[.val (.ref x0)] [] := by first | (simp [entryFrame, mkF, argsToLocals, Value.category]; done) | rfl
set_option maxRecDepth 65536 in
set_option maxHeartbeats 40000000 in
theorem rm10 (l : Launch) (Z : State) (a0 : Array Value) (hw : ∀ d ∈ tables_1, d.before a0 Z = true) (ws : List Jvm.Cond) (ao0 : Addr) (h0 : Heap) (n0 : Nat) (Z0 : n0 ≤ h0.size) (F_ao0_size : Fld Z h0 ao0 "com/example/moving_tokens/movingtokens/PartialChoices" "size" "I" (.int 0)) :
    MetFree l (⟨"com/example/moving_tokens/movingtokens/PartialChoices", "size", "()I"⟩ : MethodName) (head1 (Jvm.Cond.code (⟨"com/example/moving_tokens/movingtokens/PartialChoices", "size", "()I"⟩ : MethodName) prog_38_method_3_code 1 (some .int) :: ws) ({ frames := 0, cells := 0, slots := 0, locals := 0 } : Room)) (fun a U => a = #[(.ref ao0)] ∧ Z.Warmed39 U.vm ∧ U.heap = h0) (fun _ _ _ _ _ => True) (fun _ U o U' => ∃ v L, o = .returned v ∧ (Q_rm10 Z ao0 h0 n0) v U'.heap L ∧ FrameEnd U o U' L ({ frames := 0, cells := 0, slots := 0, locals := 0 } : Room).cells ({ frames := 0, cells := 0, slots := 0, locals := 0 } : Room).slots) := by
  refine MetFree.of_bodySF (plainFor_of_name pn_rm10) hisR ?_
  intro p e s m args below meth c s₁ Bd hml0 hP hK
  obtain ⟨rfl, hZ, hh⟩ := hP
  have hx := Bd.exec
  have hby := Bd.bytes
  have hlk := BodyLoose.notSynchronized Bd
  have hret := Bd.returns
  have hml : c.maxLocals = 1 := hml0
  have hown : s.vm.findClass "com/example/moving_tokens/movingtokens/PartialChoices" = some m.cls := findClass_of_methodNamed Bd.named
  have hnm := (name_of_methodNamed Bd.named Bd.method).1
  have X0 : Stand p l e ({ frames := 0, cells := 0, slots := 0, locals := 0 } : Room) s m #[(.ref ao0)] below meth c s₁ [] 0 0 := Stand.of_body Bd
  have e0 : s₁.heap = h0 := by rw [← hh, Bd.state]; rfl
  have Nf := Fr.nil n0
  have Zs := Z0
  have Kp : Keep h0 h0 [] := Keep.refl _ _
  show own_End p e below s (Q_rm10 Z ao0 h0 n0) ({ frames := 0, cells := 0, slots := 0, locals := 0 } : Room).cells ({ frames := 0, cells := 0, slots := 0, locals := 0 } : Room).slots (s₁.setTop (entryFrame m #[(.ref ao0)] 1))
  refine own_go (x' := s₁.setTop (mkF m 0 #[.val (.ref ao0)] [])) (fun t k => castTop (ef_rm10 m ao0) k) ?_
  refine own_go (x' := s₁.setTop (mkF m 1 #[.val (.ref ao0)] [(.ref ao0)])) (fun _ k => XS.aloadN X0.here hx rfl (hb hby d10_0) rfl rfl k) ?_
  obtain ⟨T1, X1, e1, st1⟩ := getF X0 hx hZ hown (host := "") (Or.inl (own_w hw 24 rfl)) Via.refl e0 F_ao0_size (g := (mkF m 1 #[.val (.ref ao0)] [(.ref ao0)])) rfl rfl (hb hby d10_1)
  refine own_go (x' := T1.setTop (mkF m 4 #[.val (.ref ao0)] [(.int 0)])) st1 ?_
  refine own_retI X1 hx hlk hret (hb hby d10_4) ?_ (by decide) (by decide)
  rw [e1]
  exact ⟨rfl, Nf, rfl⟩
theorem d11_0 : decode prog_38_method_4_code 0 = .ok (.aload_n 0, 1) := by decide +kernel
theorem d11_1 : decode prog_38_method_4_code 1 = .ok (.getfield 22, 3) := by decide +kernel
theorem d11_4 : decode prog_38_method_4_code 4 = .ok (.arraylength, 1) := by decide +kernel
theorem d11_5 : decode prog_38_method_4_code 5 = .ok (.iconst 1, 1) := by decide +kernel
theorem d11_6 : decode prog_38_method_4_code 6 = .ok (.isub, 1) := by decide +kernel
theorem d11_7 : decode prog_38_method_4_code 7 = .ok (.istore_n 2, 1) := by decide +kernel
theorem d11_8 : decode prog_38_method_4_code 8 = .ok (.aload_n 0, 1) := by decide +kernel
theorem d11_9 : decode prog_38_method_4_code 9 = .ok (.aload_n 1, 1) := by decide +kernel
theorem d11_10 : decode prog_38_method_4_code 10 = .ok (.invokevirtual 34, 3) := by decide +kernel
theorem d11_13 : decode prog_38_method_4_code 13 = .ok (.istore_n 3, 1) := by decide +kernel
theorem d11_14 : decode prog_38_method_4_code 14 = .ok (.aload_n 0, 1) := by decide +kernel
theorem d11_15 : decode prog_38_method_4_code 15 = .ok (.getfield 22, 3) := by decide +kernel
theorem d11_18 : decode prog_38_method_4_code 18 = .ok (.iload_n 3, 1) := by decide +kernel
theorem d11_19 : decode prog_38_method_4_code 19 = .ok (.iaload, 1) := by decide +kernel
theorem d11_20 : decode prog_38_method_4_code 20 = .ok (.ifCond .eq 35, 3) := by decide +kernel
theorem d11_55 : decode prog_38_method_4_code 55 = .ok (.iconst (-1), 1) := by decide +kernel
theorem d11_56 : decode prog_38_method_4_code 56 = .ok (.ireturn, 1) := by decide +kernel
def Q_rm11 (Z : State) (ao0 ao1 : Addr) (wv : Int32) (kx : ClassId) (x0 x1 x2 x3 : Int64) (sa ca ha pt : Addr) (ks kc kh kp : ClassId) (sn : Int32) (sv : List Value) (hc hm hs : List (Int32 × Value)) (h0 : Heap) (n0 : Nat) (v : Option Value) (h : Heap) (L : List Loc) : Prop := v = some (.int (-1 : Int32)) ∧ Fr n0 L ∧ h = h0
theorem pn_rm11 : plainName "com/example/moving_tokens/movingtokens/PartialChoices" = true := by first | (simp [plainName, overriddenIn]; done) | decide +kernel
theorem ef_rm11 (m : MethodId) (x0 : Addr) (x1 : Addr) : entryFrame m #[(.ref x0), (.ref x1)] 5 = mkF m 0 #[.val (.ref x0), .val (.ref x1), .unset, .unset, .unset] [] := by first | (simp [entryFrame, mkF, argsToLocals, Value.category]; done) | rfl
set_option maxRecDepth 65536 in
set_option maxHeartbeats 40000000 in
theorem rm11 (l : Launch) (Z : State) (a0 : Array Value) (hw : ∀ d ∈ tables_1, d.before a0 Z = true) (ws : List Jvm.Cond) (ao0 ao1 : Addr) (wv : Int32) (kx : ClassId) (x0 x1 x2 x3 : Int64) (sa ca ha pt : Addr) (ks kc kh kp : ClassId) (sn : Int32) (sv : List Value) (hc hm hs : List (Int32 × Value)) (h0 : Heap) (n0 : Nat) (Z0 : n0 ≤ h0.size) (hwv : wv = 1 ∨ wv = 2 ∨ wv = 3 ∨ wv = 4) (E_ao0 : Exa Z h0 ao0 "com/example/moving_tokens/movingtokens/PartialChoices") (F_ao0_width : Fld Z h0 ao0 "com/example/moving_tokens/movingtokens/PartialChoices" "width" "I" (.int wv)) (F_ao0_states : Fld Z h0 ao0 "com/example/moving_tokens/movingtokens/PartialChoices" "states" "[J" (.ref sa)) (F_ao0_counts : Fld Z h0 ao0 "com/example/moving_tokens/movingtokens/PartialChoices" "counts" "[J" (.ref ca)) (F_ao0_homes : Fld Z h0 ao0 "com/example/moving_tokens/movingtokens/PartialChoices" "homes" "[I" (.ref ha)) (F_ao0_size : Fld Z h0 ao0 "com/example/moving_tokens/movingtokens/PartialChoices" "size" "I" (.int 0)) (F_ao0_slots : Fld Z h0 ao0 "com/example/moving_tokens/movingtokens/PartialChoices" "slots" "[I" (.ref pt)) (V_sa : Arv Z h0 sa ks .long sn sv (.long (0 : Int64))) (V_ca : Arh Z h0 ca kc .long (16 : Int32) hc [] (.long (0 : Int64))) (V_ha : Arh Z h0 ha kh .int (16 : Int32) hm [] (.int (0 : Int32))) (V_pt : Arh Z h0 pt kp .int (32 : Int32) hs [] (.int (0 : Int32))) (hL : sv.length = 8) (hN : (15 : Int32) < sn) (ne_ao0_sa : ao0 ≠ sa) (ne_ao0_ca : ao0 ≠ ca) (ne_ao0_ha : ao0 ≠ ha) (ne_ao0_pt : ao0 ≠ pt) (ne_sa_ca : sa ≠ ca) (ne_sa_ha : sa ≠ ha) (ne_sa_pt : sa ≠ pt) (ne_ca_ha : ca ≠ ha) (ne_ca_pt : ca ≠ pt) (ne_ha_pt : ha ≠ pt) (g_ao0 : n0 ≤ ao0) (g_sa : n0 ≤ sa) (g_ca : n0 ≤ ca) (g_ha : n0 ≤ ha) (g_pt : n0 ≤ pt) (hzr : own_Zr hs) (V_ao1 : Arv Z h0 ao1 kx .long (4 : Int32) [.long x0, .long x1, .long x2, .long x3] (.long (0 : Int64))) :
    MetFree l (⟨"com/example/moving_tokens/movingtokens/PartialChoices", "find", "([J)I"⟩ : MethodName) (head1 (Jvm.Cond.code (⟨"com/example/moving_tokens/movingtokens/PartialChoices", "find", "([J)I"⟩ : MethodName) prog_38_method_4_code 5 (some .int) :: ws) ({ frames := 5, cells := 0, slots := 0, locals := 75 } : Room)) (fun a U => a = #[(.ref ao0), (.ref ao1)] ∧ Z.Warmed39 U.vm ∧ U.heap = h0) (fun _ _ _ _ _ => True) (fun _ U o U' => ∃ v L, o = .returned v ∧ (Q_rm11 Z ao0 ao1 wv kx x0 x1 x2 x3 sa ca ha pt ks kc kh kp sn sv hc hm hs h0 n0) v U'.heap L ∧ FrameEnd U o U' L ({ frames := 5, cells := 0, slots := 0, locals := 75 } : Room).cells ({ frames := 5, cells := 0, slots := 0, locals := 75 } : Room).slots) := by
  refine MetFree.of_bodySF (plainFor_of_name pn_rm11) hisR ?_
  intro p e s m args below meth c s₁ Bd hml0 hP hK
  obtain ⟨rfl, hZ, hh⟩ := hP
  have hx := Bd.exec
  have hby := Bd.bytes
  have hlk := BodyLoose.notSynchronized Bd
  have hret := Bd.returns
  have hml : c.maxLocals = 5 := hml0
  have hown : s.vm.findClass "com/example/moving_tokens/movingtokens/PartialChoices" = some m.cls := findClass_of_methodNamed Bd.named
  have hnm := (name_of_methodNamed Bd.named Bd.method).1
  have X0 : Stand p l e ({ frames := 5, cells := 0, slots := 0, locals := 75 } : Room) s m #[(.ref ao0), (.ref ao1)] below meth c s₁ [] 0 0 := Stand.of_body Bd
  have e0 : s₁.heap = h0 := by rw [← hh, Bd.state]; rfl
  have Nf := Fr.nil n0
  have Zs := Z0
  have Kp : Keep h0 h0 [ao0, sa, ca, ha, pt] := Keep.refl _ _
  show own_End p e below s (Q_rm11 Z ao0 ao1 wv kx x0 x1 x2 x3 sa ca ha pt ks kc kh kp sn sv hc hm hs h0 n0) ({ frames := 5, cells := 0, slots := 0, locals := 75 } : Room).cells ({ frames := 5, cells := 0, slots := 0, locals := 75 } : Room).slots (s₁.setTop (entryFrame m #[(.ref ao0), (.ref ao1)] 5))
  refine own_go (x' := s₁.setTop (mkF m 0 #[.val (.ref ao0), .val (.ref ao1), .unset, .unset, .unset] [])) (fun t k => castTop (ef_rm11 m ao0 ao1) k) ?_
  refine own_go (x' := s₁.setTop (mkF m 1 #[.val (.ref ao0), .val (.ref ao1), .unset, .unset, .unset] [(.ref ao0)])) (fun _ k => XS.aloadN X0.here hx rfl (hb hby d11_0) rfl rfl k) ?_
  obtain ⟨T1, X1, e1, st1⟩ := getF X0 hx hZ hown (host := "") (Or.inl (own_w hw 17 rfl)) Via.refl e0 F_ao0_slots (g := (mkF m 1 #[.val (.ref ao0), .val (.ref ao1), .unset, .unset, .unset] [(.ref ao0)])) rfl rfl (hb hby d11_1)
  refine own_go (x' := T1.setTop (mkF m 4 #[.val (.ref ao0), .val (.ref ao1), .unset, .unset, .unset] [(.ref pt)])) st1 ?_
  obtain ⟨cl2, Ar2, -, Sz2, Nn2, -, -⟩ := id V_pt
  refine own_go (x' := T1.setTop (mkF m 5 #[.val (.ref ao0), .val (.ref ao1), .unset, .unset, .unset] [(.int 32)])) (fun t k => X1.arraylength hx (Eq.trans (congrArg (fun h_ => h_[_]?) e1) Ar2.1) (State.isArrayOf_alike hZ.alike Ar2.2.1) (g := (mkF m 4 #[.val (.ref ao0), .val (.ref ao1), .unset, .unset, .unset] [(.ref pt)])) rfl rfl (hb hby d11_4) t (by rw [len_of Sz2 Nn2]; exact k)) ?_
  refine own_go (x' := T1.setTop (mkF m 10 #[.val (.ref ao0), .val (.ref ao1), .val (.int ((32 : Int32) - (1 : Int32))), .unset, .unset] [(.ref ao1), (.ref ao0)])) (fun _ k => XS.iconst X1.here hx rfl (hb hby d11_5) (XS.isub X1.here hx rfl (hb hby d11_6) rfl (XS.istoreN X1.here hx rfl (hb hby d11_7) rfl (l' := #[.val (.ref ao0), .val (.ref ao1), .val (.int ((32 : Int32) - (1 : Int32))), .unset, .unset]) rfl (XS.aloadN X1.here hx rfl (hb hby d11_8) rfl rfl (XS.aloadN X1.here hx rfl (hb hby d11_9) rfl rfl k))))) ?_
  obtain ⟨cq3, q3, q3'⟩ := E_ao0.cell
  obtain ⟨_, _, ⟨T3, L3, k3, n3⟩, -, X3, ⟨Lc3, hQ3, l3, y3, z3⟩, st3⟩ := X1.privateBack hx (y := (⟨"com/example/moving_tokens/movingtokens/PartialChoices", "home", "([J)I"⟩ : MethodName)) hown (mvT hZ (own_w hw 34 rfl)) (mvT hZ (own_w hw 35 rfl)) (mvT hZ (own_self (y := (⟨"com/example/moving_tokens/movingtokens/PartialChoices", "home", "([J)I"⟩ : MethodName)) (own_w hw 2 rfl) (own_w hw 35 rfl) (own_w hw 36 rfl) (by decide))) (Cond.privateMethod_at (mvP hZ (own_w hw 36 rfl) (args := #[]))) (mvT hZ (own_w hw 37 rfl)) (by decide) (backOf (W := 0) (rm5S l Z a0 hw [] ao0 ao1 wv kx x0 x1 x2 x3 pt kp _ h0 n0 Zs hwv F_ao0_width F_ao0_slots V_ao1 V_pt) hZ (own_w hw 37 rfl) (own_w hw 3 rfl) (by decide) (by decide)) (g := (mkF m 10 #[.val (.ref ao0), .val (.ref ao1), .val (.int ((32 : Int32) - (1 : Int32))), .unset, .unset] [(.ref ao1), (.ref ao0)])) rfl (by rw [hml]; rfl) (Steps.refl _) (a := ao0) (Eq.trans (congrArg (fun h_ => h_[_]?) e1) q3) q3' (argsL := [(.ref ao1)]) (rest := []) (lenOf pd_3 rfl) rfl (by show 2 * 0 + _ ≤ _; exact Nat.le_of_eq rfl) (hb hby d11_10) (fun _ _ => ⟨rfl, e1, (by decide : 0 + 0 ≤ _), (by decide : 0 + 0 ≤ _)⟩)
  dsimp only [Pt.U, Pt.locs, Pt.cells, Pt.slots] at X3 l3 y3 z3 st3 hQ3
  subst l3 y3 z3
  obtain ⟨r3, hz3, hv3, Nq3, eq3⟩ := hQ3
  subst hv3
  replace Nf := Fr.app Nf Nq3
  refine own_go (x' := T3.setTop (mkF m 13 #[.val (.ref ao0), .val (.ref ao1), .val (.int ((32 : Int32) - (1 : Int32))), .unset, .unset] [(.int r3)])) (fun _ k => st3.trans k) ?_
  refine own_go (x' := T3.setTop (mkF m 15 #[.val (.ref ao0), .val (.ref ao1), .val (.int ((32 : Int32) - (1 : Int32))), .val (.int r3), .unset] [(.ref ao0)])) (fun _ k => XS.istoreN X3.here hx rfl (hb hby d11_13) rfl (l' := #[.val (.ref ao0), .val (.ref ao1), .val (.int ((32 : Int32) - (1 : Int32))), .val (.int r3), .unset]) rfl (XS.aloadN X3.here hx rfl (hb hby d11_14) rfl rfl k)) ?_
  obtain ⟨T4, X4, e4, st4⟩ := getF X3 hx hZ hown (host := "") (Or.inl (own_w hw 17 rfl)) Via.refl eq3 F_ao0_slots (g := (mkF m 15 #[.val (.ref ao0), .val (.ref ao1), .val (.int ((32 : Int32) - (1 : Int32))), .val (.int r3), .unset] [(.ref ao0)])) rfl rfl (hb hby d11_15)
  refine own_go (x' := T4.setTop (mkF m 18 #[.val (.ref ao0), .val (.ref ao1), .val (.int ((32 : Int32) - (1 : Int32))), .val (.int r3), .unset] [(.ref pt)])) st4 ?_
  refine own_go (x' := T4.setTop (mkF m 19 #[.val (.ref ao0), .val (.ref ao1), .val (.int ((32 : Int32) - (1 : Int32))), .val (.int r3), .unset] [(.int r3), (.ref pt)])) (fun _ k => XS.iloadN X4.here hx rfl (hb hby d11_18) rfl k) ?_
  obtain ⟨cl5, Ar5, q5, Sz5, Nn5, Hh5, Gg5⟩ := id V_pt
  have hin5 : ¬ (r3 < 0 ∨ cl5.slots.size ≤ (r3).toNatClampNeg) := inb_of Sz5 ⟨hz3.1, hz3.2⟩
  refine own_go (x' := T4.setTop (mkF m 20 #[.val (.ref ao0), .val (.ref ao1), .val (.int ((32 : Int32) - (1 : Int32))), .val (.int r3), .unset] [(.int 0)])) (X4.iaload hx (j := r3) (v := (.int 0)) (Eq.trans (congrArg (fun h_ => h_[_]?) e4) Ar5.1) (State.isArrayOf_alike hZ.alike Ar5.2.1) Ar5.2.2 hin5 (atH Hh5 hin5 (hzr _)) (g := (mkF m 19 #[.val (.ref ao0), .val (.ref ao1), .val (.int ((32 : Int32) - (1 : Int32))), .val (.int r3), .unset] [(.int r3), (.ref pt)])) rfl rfl (hb hby d11_19)) ?_
  refine own_go (x' := T4.setTop (mkF m 56 #[.val (.ref ao0), .val (.ref ao1), .val (.int ((32 : Int32) - (1 : Int32))), .val (.int r3), .unset] [(.int (-1))])) (fun _ k => XS.ifYes X4.here hx rfl (pc0 := 20) (pc' := 55) rfl (hb hby d11_20) rfl ((if0 _ _).trans (teq rfl).1) (by decide) (by decide) (XS.iconst X4.here hx rfl (hb hby d11_55) k)) ?_
  refine own_retI X4 hx hlk hret (hb hby d11_56) ?_ (by decide) (by decide)
  rw [e4]
  exact ⟨rfl, Nf, rfl⟩
theorem d12_0 : decode prog_38_method_8_code 0 = .ok (.aload_n 0, 1) := by decide +kernel
theorem d12_1 : decode prog_38_method_8_code 1 = .ok (.getfield 11, 3) := by decide +kernel
theorem d12_4 : decode prog_38_method_8_code 4 = .ok (.iload_n 1, 1) := by decide +kernel
theorem d12_5 : decode prog_38_method_8_code 5 = .ok (.aload_n 0, 1) := by decide +kernel
theorem d12_6 : decode prog_38_method_8_code 6 = .ok (.getfield 29, 3) := by decide +kernel
theorem d12_9 : decode prog_38_method_8_code 9 = .ok (.imul, 1) := by decide +kernel
theorem d12_10 : decode prog_38_method_8_code 10 = .ok (.aload_n 2, 1) := by decide +kernel
theorem d12_11 : decode prog_38_method_8_code 11 = .ok (.iconst 0, 1) := by decide +kernel
theorem d12_12 : decode prog_38_method_8_code 12 = .ok (.aload_n 0, 1) := by decide +kernel
theorem d12_13 : decode prog_38_method_8_code 13 = .ok (.getfield 29, 3) := by decide +kernel
theorem d12_16 : decode prog_38_method_8_code 16 = .ok (.invokestatic 48, 3) := by decide +kernel
theorem d12_19 : decode prog_38_method_8_code 19 = .ok (.return_, 1) := by decide +kernel
def Q_rm12_1 (Z : State) (ao0 sa ao2 : Addr) (ks ki : ClassId) (sn : Int32) (sv : List Value) (x0 x1 x2 x3 : Int64) (h0 : Heap) (n0 : Nat) (v : Option Value) (h : Heap) (L : List Loc) : Prop := v = none ∧ Fr n0 L ∧ Keep h0 h [ao2] ∧ Arv Z h ao2 ki .long (4 : Int32) [.long x0, .long (0 : Int64), .long (0 : Int64), .long (0 : Int64)] (.long (0 : Int64))
theorem pn_rm12_1 : plainName "com/example/moving_tokens/movingtokens/PartialChoices" = true := by first | (simp [plainName, overriddenIn]; done) | decide +kernel
theorem ef_rm12_1 (m : MethodId) (x0 : Addr) (x1 : Int32) (x2 : Addr) : entryFrame m #[(.ref x0), (.int x1), (.ref x2)] 3 = mkF m 0 #[.val (.ref x0), .val (.int x1), .val (.ref x2)] [] := by first | (simp [entryFrame, mkF, argsToLocals, Value.category]; done) | rfl
set_option maxRecDepth 65536 in
set_option maxHeartbeats 40000000 in
theorem rm12_1 (l : Launch) (Z : State) (a0 : Array Value) (hw : ∀ d ∈ tables_1, d.before a0 Z = true) (ws : List Jvm.Cond) (ao0 sa ao2 : Addr) (ks ki : ClassId) (sn : Int32) (sv : List Value) (x0 x1 x2 x3 : Int64) (h0 : Heap) (n0 : Nat) (Z0 : n0 ≤ h0.size) (F_ao0_width : Fld Z h0 ao0 "com/example/moving_tokens/movingtokens/PartialChoices" "width" "I" (.int 1)) (F_ao0_states : Fld Z h0 ao0 "com/example/moving_tokens/movingtokens/PartialChoices" "states" "[J" (.ref sa)) (V_sa : Arv Z h0 sa ks .long sn ([.long x0] ++ sv) (.long (0 : Int64))) (V_ao2 : Arv Z h0 ao2 ki .long (4 : Int32) [.long (0 : Int64), .long (0 : Int64), .long (0 : Int64), .long (0 : Int64)] (.long (0 : Int64))) (hN : (15 : Int32) < sn) (ne_ao0_ao2 : ao0 ≠ ao2) (ne_sa_ao2 : sa ≠ ao2) (g_ao2 : n0 ≤ ao2) :
    MetFree l (⟨"com/example/moving_tokens/movingtokens/PartialChoices", "copyState", "(I[J)V"⟩ : MethodName) (head1 (Jvm.Cond.code (⟨"com/example/moving_tokens/movingtokens/PartialChoices", "copyState", "(I[J)V"⟩ : MethodName) prog_38_method_8_code 3 none :: ws) ({ frames := 1, cells := 0, slots := 0, locals := 80 } : Room)) (fun a U => a = #[(.ref ao0), (.int 0), (.ref ao2)] ∧ Z.Warmed39 U.vm ∧ U.heap = h0) (fun _ _ _ _ _ => True) (fun _ U o U' => ∃ v L, o = .returned v ∧ (Q_rm12_1 Z ao0 sa ao2 ks ki sn sv x0 x1 x2 x3 h0 n0) v U'.heap L ∧ FrameEnd U o U' L ({ frames := 1, cells := 0, slots := 0, locals := 80 } : Room).cells ({ frames := 1, cells := 0, slots := 0, locals := 80 } : Room).slots) := by
  refine MetFree.of_bodySF (plainFor_of_name pn_rm12_1) hisR ?_
  intro p e s m args below meth c s₁ Bd hml0 hP hK
  obtain ⟨rfl, hZ, hh⟩ := hP
  have hx := Bd.exec
  have hby := Bd.bytes
  have hlk := BodyLoose.notSynchronized Bd
  have hret := Bd.returns
  have hml : c.maxLocals = 3 := hml0
  have hown : s.vm.findClass "com/example/moving_tokens/movingtokens/PartialChoices" = some m.cls := findClass_of_methodNamed Bd.named
  have hnm := (name_of_methodNamed Bd.named Bd.method).1
  have X0 : Stand p l e ({ frames := 1, cells := 0, slots := 0, locals := 80 } : Room) s m #[(.ref ao0), (.int 0), (.ref ao2)] below meth c s₁ [] 0 0 := Stand.of_body Bd
  have e0 : s₁.heap = h0 := by rw [← hh, Bd.state]; rfl
  have Nf := Fr.nil n0
  have Zs := Z0
  have Kp : Keep h0 h0 [ao2] := Keep.refl _ _
  show own_End p e below s (Q_rm12_1 Z ao0 sa ao2 ks ki sn sv x0 x1 x2 x3 h0 n0) ({ frames := 1, cells := 0, slots := 0, locals := 80 } : Room).cells ({ frames := 1, cells := 0, slots := 0, locals := 80 } : Room).slots (s₁.setTop (entryFrame m #[(.ref ao0), (.int 0), (.ref ao2)] 3))
  refine own_go (x' := s₁.setTop (mkF m 0 #[.val (.ref ao0), .val (.int 0), .val (.ref ao2)] [])) (fun t k => castTop (ef_rm12_1 m ao0 (0 : Int32) ao2) k) ?_
  refine own_go (x' := s₁.setTop (mkF m 1 #[.val (.ref ao0), .val (.int 0), .val (.ref ao2)] [(.ref ao0)])) (fun _ k => XS.aloadN X0.here hx rfl (hb hby d12_0) rfl rfl k) ?_
  obtain ⟨T1, X1, e1, st1⟩ := getF X0 hx hZ hown (host := "") (Or.inl (own_w hw 10 rfl)) Via.refl e0 F_ao0_states (g := (mkF m 1 #[.val (.ref ao0), .val (.int 0), .val (.ref ao2)] [(.ref ao0)])) rfl rfl (hb hby d12_1)
  refine own_go (x' := T1.setTop (mkF m 4 #[.val (.ref ao0), .val (.int 0), .val (.ref ao2)] [(.ref sa)])) st1 ?_
  refine own_go (x' := T1.setTop (mkF m 6 #[.val (.ref ao0), .val (.int 0), .val (.ref ao2)] [(.ref ao0), (.int 0), (.ref sa)])) (fun _ k => XS.iloadN X1.here hx rfl (hb hby d12_4) rfl (XS.aloadN X1.here hx rfl (hb hby d12_5) rfl rfl k)) ?_
  obtain ⟨T2, X2, e2, st2⟩ := getF X1 hx hZ hown (host := "") (Or.inl (own_w hw 26 rfl)) Via.refl e1 F_ao0_width (g := (mkF m 6 #[.val (.ref ao0), .val (.int 0), .val (.ref ao2)] [(.ref ao0), (.int 0), (.ref sa)])) rfl rfl (hb hby d12_6)
  refine own_go (x' := T2.setTop (mkF m 9 #[.val (.ref ao0), .val (.int 0), .val (.ref ao2)] [(.int 1), (.int 0), (.ref sa)])) st2 ?_
  refine own_go (x' := T2.setTop (mkF m 13 #[.val (.ref ao0), .val (.int 0), .val (.ref ao2)] [(.ref ao0), (.int 0), (.ref ao2), (.int ((0 : Int32) * (1 : Int32))), (.ref sa)])) (fun _ k => XS.imul X2.here hx rfl (hb hby d12_9) rfl (XS.aloadN X2.here hx rfl (hb hby d12_10) rfl rfl (XS.iconst X2.here hx rfl (hb hby d12_11) (XS.aloadN X2.here hx rfl (hb hby d12_12) rfl rfl k)))) ?_
  obtain ⟨T3, X3, e3, st3⟩ := getF X2 hx hZ hown (host := "") (Or.inl (own_w hw 26 rfl)) Via.refl e2 F_ao0_width (g := (mkF m 13 #[.val (.ref ao0), .val (.int 0), .val (.ref ao2)] [(.ref ao0), (.int 0), (.ref ao2), (.int ((0 : Int32) * (1 : Int32))), (.ref sa)])) rfl rfl (hb hby d12_13)
  refine own_go (x' := T3.setTop (mkF m 16 #[.val (.ref ao0), .val (.int 0), .val (.ref ao2)] [(.int 1), (.int 0), (.ref ao2), (.int ((0 : Int32) * (1 : Int32))), (.ref sa)])) st3 ?_
  rw [show ((0 : Int32) * (1 : Int32)) = (0 : Int32) from by decide +kernel]
  obtain ⟨T4, h4, LL4, X4, e4, Nq4, K4, Vd4, st4⟩ := cpA X3 hx hZ hown (own_w hw 54 rfl) (own_w hw 57 rfl) (own_w hw 55 rfl) (own_w hw 56 rfl) e3 V_sa V_ao2 (us := [(.long x0)]) (Or.inl ⟨rfl, rfl⟩) (by decide) (by decide) (by decide) (Nat.le_trans (by decide) (own_N hN)) (by decide) rfl (by decide) Nf g_ao2 (g := (mkF m 16 #[.val (.ref ao0), .val (.int 0), .val (.ref ao2)] [(.int 1), (.int 0), (.ref ao2), (.int 0), (.ref sa)])) rfl (by rw [hml]; rfl) rfl (hb hby d12_16) (by decide) (W := 0) (by show 2 * 0 + _ ≤ _; exact Nat.le_of_eq rfl) (by decide)
  refine own_go (x' := T4.setTop (mkF m 19 #[.val (.ref ao0), .val (.int 0), .val (.ref ao2)] [])) st4 ?_
  replace Nf := Nq4
  replace F_ao0_states := F_ao0_states.keep K4 (ninS ne_ao0_ao2 nin0)
  replace F_ao0_width := F_ao0_width.keep K4 (ninS ne_ao0_ao2 nin0)
  replace V_sa := V_sa.keep K4 (ninS ne_sa_ao2 nin0)
  replace Zs := Nat.le_trans Zs K4.1
  replace Kp := Kp.trans K4 (allS (Or.inl (by simp)) all0)
  have V_ao2 : Arv Z h4 ao2 ki .long (4 : Int32) [.long x0, .long (0 : Int64), .long (0 : Int64), .long (0 : Int64)] (.long (0 : Int64)) := Vd4
  refine own_retV X4 hx hlk hret (hb hby d12_19) ?_ (by decide) (by decide)
  rw [e4]
  exact ⟨rfl, Nf, Kp, V_ao2⟩
def Q_rm12_2 (Z : State) (ao0 sa ao2 : Addr) (ks ki : ClassId) (sn : Int32) (sv : List Value) (x0 x1 x2 x3 : Int64) (h0 : Heap) (n0 : Nat) (v : Option Value) (h : Heap) (L : List Loc) : Prop := v = none ∧ Fr n0 L ∧ Keep h0 h [ao2] ∧ Arv Z h ao2 ki .long (4 : Int32) [.long x0, .long x1, .long (0 : Int64), .long (0 : Int64)] (.long (0 : Int64))
theorem pn_rm12_2 : plainName "com/example/moving_tokens/movingtokens/PartialChoices" = true := by first | (simp [plainName, overriddenIn]; done) | decide +kernel
theorem ef_rm12_2 (m : MethodId) (x0 : Addr) (x1 : Int32) (x2 : Addr) : entryFrame m #[(.ref x0), (.int x1), (.ref x2)] 3 = mkF m 0 #[.val (.ref x0), .val (.int x1), .val (.ref x2)] [] := by first | (simp [entryFrame, mkF, argsToLocals, Value.category]; done) | rfl
set_option maxRecDepth 65536 in
set_option maxHeartbeats 40000000 in
theorem rm12_2 (l : Launch) (Z : State) (a0 : Array Value) (hw : ∀ d ∈ tables_1, d.before a0 Z = true) (ws : List Jvm.Cond) (ao0 sa ao2 : Addr) (ks ki : ClassId) (sn : Int32) (sv : List Value) (x0 x1 x2 x3 : Int64) (h0 : Heap) (n0 : Nat) (Z0 : n0 ≤ h0.size) (F_ao0_width : Fld Z h0 ao0 "com/example/moving_tokens/movingtokens/PartialChoices" "width" "I" (.int 2)) (F_ao0_states : Fld Z h0 ao0 "com/example/moving_tokens/movingtokens/PartialChoices" "states" "[J" (.ref sa)) (V_sa : Arv Z h0 sa ks .long sn ([.long x0, .long x1] ++ sv) (.long (0 : Int64))) (V_ao2 : Arv Z h0 ao2 ki .long (4 : Int32) [.long (0 : Int64), .long (0 : Int64), .long (0 : Int64), .long (0 : Int64)] (.long (0 : Int64))) (hN : (15 : Int32) < sn) (ne_ao0_ao2 : ao0 ≠ ao2) (ne_sa_ao2 : sa ≠ ao2) (g_ao2 : n0 ≤ ao2) :
    MetFree l (⟨"com/example/moving_tokens/movingtokens/PartialChoices", "copyState", "(I[J)V"⟩ : MethodName) (head1 (Jvm.Cond.code (⟨"com/example/moving_tokens/movingtokens/PartialChoices", "copyState", "(I[J)V"⟩ : MethodName) prog_38_method_8_code 3 none :: ws) ({ frames := 1, cells := 0, slots := 0, locals := 80 } : Room)) (fun a U => a = #[(.ref ao0), (.int 0), (.ref ao2)] ∧ Z.Warmed39 U.vm ∧ U.heap = h0) (fun _ _ _ _ _ => True) (fun _ U o U' => ∃ v L, o = .returned v ∧ (Q_rm12_2 Z ao0 sa ao2 ks ki sn sv x0 x1 x2 x3 h0 n0) v U'.heap L ∧ FrameEnd U o U' L ({ frames := 1, cells := 0, slots := 0, locals := 80 } : Room).cells ({ frames := 1, cells := 0, slots := 0, locals := 80 } : Room).slots) := by
  refine MetFree.of_bodySF (plainFor_of_name pn_rm12_2) hisR ?_
  intro p e s m args below meth c s₁ Bd hml0 hP hK
  obtain ⟨rfl, hZ, hh⟩ := hP
  have hx := Bd.exec
  have hby := Bd.bytes
  have hlk := BodyLoose.notSynchronized Bd
  have hret := Bd.returns
  have hml : c.maxLocals = 3 := hml0
  have hown : s.vm.findClass "com/example/moving_tokens/movingtokens/PartialChoices" = some m.cls := findClass_of_methodNamed Bd.named
  have hnm := (name_of_methodNamed Bd.named Bd.method).1
  have X0 : Stand p l e ({ frames := 1, cells := 0, slots := 0, locals := 80 } : Room) s m #[(.ref ao0), (.int 0), (.ref ao2)] below meth c s₁ [] 0 0 := Stand.of_body Bd
  have e0 : s₁.heap = h0 := by rw [← hh, Bd.state]; rfl
  have Nf := Fr.nil n0
  have Zs := Z0
  have Kp : Keep h0 h0 [ao2] := Keep.refl _ _
  show own_End p e below s (Q_rm12_2 Z ao0 sa ao2 ks ki sn sv x0 x1 x2 x3 h0 n0) ({ frames := 1, cells := 0, slots := 0, locals := 80 } : Room).cells ({ frames := 1, cells := 0, slots := 0, locals := 80 } : Room).slots (s₁.setTop (entryFrame m #[(.ref ao0), (.int 0), (.ref ao2)] 3))
  refine own_go (x' := s₁.setTop (mkF m 0 #[.val (.ref ao0), .val (.int 0), .val (.ref ao2)] [])) (fun t k => castTop (ef_rm12_2 m ao0 (0 : Int32) ao2) k) ?_
  refine own_go (x' := s₁.setTop (mkF m 1 #[.val (.ref ao0), .val (.int 0), .val (.ref ao2)] [(.ref ao0)])) (fun _ k => XS.aloadN X0.here hx rfl (hb hby d12_0) rfl rfl k) ?_
  obtain ⟨T1, X1, e1, st1⟩ := getF X0 hx hZ hown (host := "") (Or.inl (own_w hw 10 rfl)) Via.refl e0 F_ao0_states (g := (mkF m 1 #[.val (.ref ao0), .val (.int 0), .val (.ref ao2)] [(.ref ao0)])) rfl rfl (hb hby d12_1)
  refine own_go (x' := T1.setTop (mkF m 4 #[.val (.ref ao0), .val (.int 0), .val (.ref ao2)] [(.ref sa)])) st1 ?_
  refine own_go (x' := T1.setTop (mkF m 6 #[.val (.ref ao0), .val (.int 0), .val (.ref ao2)] [(.ref ao0), (.int 0), (.ref sa)])) (fun _ k => XS.iloadN X1.here hx rfl (hb hby d12_4) rfl (XS.aloadN X1.here hx rfl (hb hby d12_5) rfl rfl k)) ?_
  obtain ⟨T2, X2, e2, st2⟩ := getF X1 hx hZ hown (host := "") (Or.inl (own_w hw 26 rfl)) Via.refl e1 F_ao0_width (g := (mkF m 6 #[.val (.ref ao0), .val (.int 0), .val (.ref ao2)] [(.ref ao0), (.int 0), (.ref sa)])) rfl rfl (hb hby d12_6)
  refine own_go (x' := T2.setTop (mkF m 9 #[.val (.ref ao0), .val (.int 0), .val (.ref ao2)] [(.int 2), (.int 0), (.ref sa)])) st2 ?_
  refine own_go (x' := T2.setTop (mkF m 13 #[.val (.ref ao0), .val (.int 0), .val (.ref ao2)] [(.ref ao0), (.int 0), (.ref ao2), (.int ((0 : Int32) * (2 : Int32))), (.ref sa)])) (fun _ k => XS.imul X2.here hx rfl (hb hby d12_9) rfl (XS.aloadN X2.here hx rfl (hb hby d12_10) rfl rfl (XS.iconst X2.here hx rfl (hb hby d12_11) (XS.aloadN X2.here hx rfl (hb hby d12_12) rfl rfl k)))) ?_
  obtain ⟨T3, X3, e3, st3⟩ := getF X2 hx hZ hown (host := "") (Or.inl (own_w hw 26 rfl)) Via.refl e2 F_ao0_width (g := (mkF m 13 #[.val (.ref ao0), .val (.int 0), .val (.ref ao2)] [(.ref ao0), (.int 0), (.ref ao2), (.int ((0 : Int32) * (2 : Int32))), (.ref sa)])) rfl rfl (hb hby d12_13)
  refine own_go (x' := T3.setTop (mkF m 16 #[.val (.ref ao0), .val (.int 0), .val (.ref ao2)] [(.int 2), (.int 0), (.ref ao2), (.int ((0 : Int32) * (2 : Int32))), (.ref sa)])) st3 ?_
  rw [show ((0 : Int32) * (2 : Int32)) = (0 : Int32) from by decide +kernel]
  obtain ⟨T4, h4, LL4, X4, e4, Nq4, K4, Vd4, st4⟩ := cpA X3 hx hZ hown (own_w hw 54 rfl) (own_w hw 57 rfl) (own_w hw 55 rfl) (own_w hw 56 rfl) e3 V_sa V_ao2 (us := [(.long x0), (.long x1)]) (Or.inl ⟨rfl, rfl⟩) (by decide) (by decide) (by decide) (Nat.le_trans (by decide) (own_N hN)) (by decide) rfl (by decide) Nf g_ao2 (g := (mkF m 16 #[.val (.ref ao0), .val (.int 0), .val (.ref ao2)] [(.int 2), (.int 0), (.ref ao2), (.int 0), (.ref sa)])) rfl (by rw [hml]; rfl) rfl (hb hby d12_16) (by decide) (W := 0) (by show 2 * 0 + _ ≤ _; exact Nat.le_of_eq rfl) (by decide)
  refine own_go (x' := T4.setTop (mkF m 19 #[.val (.ref ao0), .val (.int 0), .val (.ref ao2)] [])) st4 ?_
  replace Nf := Nq4
  replace F_ao0_states := F_ao0_states.keep K4 (ninS ne_ao0_ao2 nin0)
  replace F_ao0_width := F_ao0_width.keep K4 (ninS ne_ao0_ao2 nin0)
  replace V_sa := V_sa.keep K4 (ninS ne_sa_ao2 nin0)
  replace Zs := Nat.le_trans Zs K4.1
  replace Kp := Kp.trans K4 (allS (Or.inl (by simp)) all0)
  have V_ao2 : Arv Z h4 ao2 ki .long (4 : Int32) [.long x0, .long x1, .long (0 : Int64), .long (0 : Int64)] (.long (0 : Int64)) := Vd4
  refine own_retV X4 hx hlk hret (hb hby d12_19) ?_ (by decide) (by decide)
  rw [e4]
  exact ⟨rfl, Nf, Kp, V_ao2⟩
def Q_rm12_3 (Z : State) (ao0 sa ao2 : Addr) (ks ki : ClassId) (sn : Int32) (sv : List Value) (x0 x1 x2 x3 : Int64) (h0 : Heap) (n0 : Nat) (v : Option Value) (h : Heap) (L : List Loc) : Prop := v = none ∧ Fr n0 L ∧ Keep h0 h [ao2] ∧ Arv Z h ao2 ki .long (4 : Int32) [.long x0, .long x1, .long x2, .long (0 : Int64)] (.long (0 : Int64))
theorem pn_rm12_3 : plainName "com/example/moving_tokens/movingtokens/PartialChoices" = true := by first | (simp [plainName, overriddenIn]; done) | decide +kernel
theorem ef_rm12_3 (m : MethodId) (x0 : Addr) (x1 : Int32) (x2 : Addr) : entryFrame m #[(.ref x0), (.int x1), (.ref x2)] 3 = mkF m 0 #[.val (.ref x0), .val (.int x1), .val (.ref x2)] [] := by first | (simp [entryFrame, mkF, argsToLocals, Value.category]; done) | rfl
set_option maxRecDepth 65536 in
set_option maxHeartbeats 40000000 in
theorem rm12_3 (l : Launch) (Z : State) (a0 : Array Value) (hw : ∀ d ∈ tables_1, d.before a0 Z = true) (ws : List Jvm.Cond) (ao0 sa ao2 : Addr) (ks ki : ClassId) (sn : Int32) (sv : List Value) (x0 x1 x2 x3 : Int64) (h0 : Heap) (n0 : Nat) (Z0 : n0 ≤ h0.size) (F_ao0_width : Fld Z h0 ao0 "com/example/moving_tokens/movingtokens/PartialChoices" "width" "I" (.int 3)) (F_ao0_states : Fld Z h0 ao0 "com/example/moving_tokens/movingtokens/PartialChoices" "states" "[J" (.ref sa)) (V_sa : Arv Z h0 sa ks .long sn ([.long x0, .long x1, .long x2] ++ sv) (.long (0 : Int64))) (V_ao2 : Arv Z h0 ao2 ki .long (4 : Int32) [.long (0 : Int64), .long (0 : Int64), .long (0 : Int64), .long (0 : Int64)] (.long (0 : Int64))) (hN : (15 : Int32) < sn) (ne_ao0_ao2 : ao0 ≠ ao2) (ne_sa_ao2 : sa ≠ ao2) (g_ao2 : n0 ≤ ao2) :
    MetFree l (⟨"com/example/moving_tokens/movingtokens/PartialChoices", "copyState", "(I[J)V"⟩ : MethodName) (head1 (Jvm.Cond.code (⟨"com/example/moving_tokens/movingtokens/PartialChoices", "copyState", "(I[J)V"⟩ : MethodName) prog_38_method_8_code 3 none :: ws) ({ frames := 1, cells := 0, slots := 0, locals := 80 } : Room)) (fun a U => a = #[(.ref ao0), (.int 0), (.ref ao2)] ∧ Z.Warmed39 U.vm ∧ U.heap = h0) (fun _ _ _ _ _ => True) (fun _ U o U' => ∃ v L, o = .returned v ∧ (Q_rm12_3 Z ao0 sa ao2 ks ki sn sv x0 x1 x2 x3 h0 n0) v U'.heap L ∧ FrameEnd U o U' L ({ frames := 1, cells := 0, slots := 0, locals := 80 } : Room).cells ({ frames := 1, cells := 0, slots := 0, locals := 80 } : Room).slots) := by
  refine MetFree.of_bodySF (plainFor_of_name pn_rm12_3) hisR ?_
  intro p e s m args below meth c s₁ Bd hml0 hP hK
  obtain ⟨rfl, hZ, hh⟩ := hP
  have hx := Bd.exec
  have hby := Bd.bytes
  have hlk := BodyLoose.notSynchronized Bd
  have hret := Bd.returns
  have hml : c.maxLocals = 3 := hml0
  have hown : s.vm.findClass "com/example/moving_tokens/movingtokens/PartialChoices" = some m.cls := findClass_of_methodNamed Bd.named
  have hnm := (name_of_methodNamed Bd.named Bd.method).1
  have X0 : Stand p l e ({ frames := 1, cells := 0, slots := 0, locals := 80 } : Room) s m #[(.ref ao0), (.int 0), (.ref ao2)] below meth c s₁ [] 0 0 := Stand.of_body Bd
  have e0 : s₁.heap = h0 := by rw [← hh, Bd.state]; rfl
  have Nf := Fr.nil n0
  have Zs := Z0
  have Kp : Keep h0 h0 [ao2] := Keep.refl _ _
  show own_End p e below s (Q_rm12_3 Z ao0 sa ao2 ks ki sn sv x0 x1 x2 x3 h0 n0) ({ frames := 1, cells := 0, slots := 0, locals := 80 } : Room).cells ({ frames := 1, cells := 0, slots := 0, locals := 80 } : Room).slots (s₁.setTop (entryFrame m #[(.ref ao0), (.int 0), (.ref ao2)] 3))
  refine own_go (x' := s₁.setTop (mkF m 0 #[.val (.ref ao0), .val (.int 0), .val (.ref ao2)] [])) (fun t k => castTop (ef_rm12_3 m ao0 (0 : Int32) ao2) k) ?_
  refine own_go (x' := s₁.setTop (mkF m 1 #[.val (.ref ao0), .val (.int 0), .val (.ref ao2)] [(.ref ao0)])) (fun _ k => XS.aloadN X0.here hx rfl (hb hby d12_0) rfl rfl k) ?_
  obtain ⟨T1, X1, e1, st1⟩ := getF X0 hx hZ hown (host := "") (Or.inl (own_w hw 10 rfl)) Via.refl e0 F_ao0_states (g := (mkF m 1 #[.val (.ref ao0), .val (.int 0), .val (.ref ao2)] [(.ref ao0)])) rfl rfl (hb hby d12_1)
  refine own_go (x' := T1.setTop (mkF m 4 #[.val (.ref ao0), .val (.int 0), .val (.ref ao2)] [(.ref sa)])) st1 ?_
  refine own_go (x' := T1.setTop (mkF m 6 #[.val (.ref ao0), .val (.int 0), .val (.ref ao2)] [(.ref ao0), (.int 0), (.ref sa)])) (fun _ k => XS.iloadN X1.here hx rfl (hb hby d12_4) rfl (XS.aloadN X1.here hx rfl (hb hby d12_5) rfl rfl k)) ?_
  obtain ⟨T2, X2, e2, st2⟩ := getF X1 hx hZ hown (host := "") (Or.inl (own_w hw 26 rfl)) Via.refl e1 F_ao0_width (g := (mkF m 6 #[.val (.ref ao0), .val (.int 0), .val (.ref ao2)] [(.ref ao0), (.int 0), (.ref sa)])) rfl rfl (hb hby d12_6)
  refine own_go (x' := T2.setTop (mkF m 9 #[.val (.ref ao0), .val (.int 0), .val (.ref ao2)] [(.int 3), (.int 0), (.ref sa)])) st2 ?_
  refine own_go (x' := T2.setTop (mkF m 13 #[.val (.ref ao0), .val (.int 0), .val (.ref ao2)] [(.ref ao0), (.int 0), (.ref ao2), (.int ((0 : Int32) * (3 : Int32))), (.ref sa)])) (fun _ k => XS.imul X2.here hx rfl (hb hby d12_9) rfl (XS.aloadN X2.here hx rfl (hb hby d12_10) rfl rfl (XS.iconst X2.here hx rfl (hb hby d12_11) (XS.aloadN X2.here hx rfl (hb hby d12_12) rfl rfl k)))) ?_
  obtain ⟨T3, X3, e3, st3⟩ := getF X2 hx hZ hown (host := "") (Or.inl (own_w hw 26 rfl)) Via.refl e2 F_ao0_width (g := (mkF m 13 #[.val (.ref ao0), .val (.int 0), .val (.ref ao2)] [(.ref ao0), (.int 0), (.ref ao2), (.int ((0 : Int32) * (3 : Int32))), (.ref sa)])) rfl rfl (hb hby d12_13)
  refine own_go (x' := T3.setTop (mkF m 16 #[.val (.ref ao0), .val (.int 0), .val (.ref ao2)] [(.int 3), (.int 0), (.ref ao2), (.int ((0 : Int32) * (3 : Int32))), (.ref sa)])) st3 ?_
  rw [show ((0 : Int32) * (3 : Int32)) = (0 : Int32) from by decide +kernel]
  obtain ⟨T4, h4, LL4, X4, e4, Nq4, K4, Vd4, st4⟩ := cpA X3 hx hZ hown (own_w hw 54 rfl) (own_w hw 57 rfl) (own_w hw 55 rfl) (own_w hw 56 rfl) e3 V_sa V_ao2 (us := [(.long x0), (.long x1), (.long x2)]) (Or.inl ⟨rfl, rfl⟩) (by decide) (by decide) (by decide) (Nat.le_trans (by decide) (own_N hN)) (by decide) rfl (by decide) Nf g_ao2 (g := (mkF m 16 #[.val (.ref ao0), .val (.int 0), .val (.ref ao2)] [(.int 3), (.int 0), (.ref ao2), (.int 0), (.ref sa)])) rfl (by rw [hml]; rfl) rfl (hb hby d12_16) (by decide) (W := 0) (by show 2 * 0 + _ ≤ _; exact Nat.le_of_eq rfl) (by decide)
  refine own_go (x' := T4.setTop (mkF m 19 #[.val (.ref ao0), .val (.int 0), .val (.ref ao2)] [])) st4 ?_
  replace Nf := Nq4
  replace F_ao0_states := F_ao0_states.keep K4 (ninS ne_ao0_ao2 nin0)
  replace F_ao0_width := F_ao0_width.keep K4 (ninS ne_ao0_ao2 nin0)
  replace V_sa := V_sa.keep K4 (ninS ne_sa_ao2 nin0)
  replace Zs := Nat.le_trans Zs K4.1
  replace Kp := Kp.trans K4 (allS (Or.inl (by simp)) all0)
  have V_ao2 : Arv Z h4 ao2 ki .long (4 : Int32) [.long x0, .long x1, .long x2, .long (0 : Int64)] (.long (0 : Int64)) := Vd4
  refine own_retV X4 hx hlk hret (hb hby d12_19) ?_ (by decide) (by decide)
  rw [e4]
  exact ⟨rfl, Nf, Kp, V_ao2⟩
def Q_rm12_4 (Z : State) (ao0 sa ao2 : Addr) (ks ki : ClassId) (sn : Int32) (sv : List Value) (x0 x1 x2 x3 : Int64) (h0 : Heap) (n0 : Nat) (v : Option Value) (h : Heap) (L : List Loc) : Prop := v = none ∧ Fr n0 L ∧ Keep h0 h [ao2] ∧ Arv Z h ao2 ki .long (4 : Int32) [.long x0, .long x1, .long x2, .long x3] (.long (0 : Int64))
theorem pn_rm12_4 : plainName "com/example/moving_tokens/movingtokens/PartialChoices" = true := by first | (simp [plainName, overriddenIn]; done) | decide +kernel
theorem ef_rm12_4 (m : MethodId) (x0 : Addr) (x1 : Int32) (x2 : Addr) : entryFrame m #[(.ref x0), (.int x1), (.ref x2)] 3 = mkF m 0 #[.val (.ref x0), .val (.int x1), .val (.ref x2)] [] := by first | (simp [entryFrame, mkF, argsToLocals, Value.category]; done) | rfl
set_option maxRecDepth 65536 in
set_option maxHeartbeats 40000000 in
theorem rm12_4 (l : Launch) (Z : State) (a0 : Array Value) (hw : ∀ d ∈ tables_1, d.before a0 Z = true) (ws : List Jvm.Cond) (ao0 sa ao2 : Addr) (ks ki : ClassId) (sn : Int32) (sv : List Value) (x0 x1 x2 x3 : Int64) (h0 : Heap) (n0 : Nat) (Z0 : n0 ≤ h0.size) (F_ao0_width : Fld Z h0 ao0 "com/example/moving_tokens/movingtokens/PartialChoices" "width" "I" (.int 4)) (F_ao0_states : Fld Z h0 ao0 "com/example/moving_tokens/movingtokens/PartialChoices" "states" "[J" (.ref sa)) (V_sa : Arv Z h0 sa ks .long sn ([.long x0, .long x1, .long x2, .long x3] ++ sv) (.long (0 : Int64))) (V_ao2 : Arv Z h0 ao2 ki .long (4 : Int32) [.long (0 : Int64), .long (0 : Int64), .long (0 : Int64), .long (0 : Int64)] (.long (0 : Int64))) (hN : (15 : Int32) < sn) (ne_ao0_ao2 : ao0 ≠ ao2) (ne_sa_ao2 : sa ≠ ao2) (g_ao2 : n0 ≤ ao2) :
    MetFree l (⟨"com/example/moving_tokens/movingtokens/PartialChoices", "copyState", "(I[J)V"⟩ : MethodName) (head1 (Jvm.Cond.code (⟨"com/example/moving_tokens/movingtokens/PartialChoices", "copyState", "(I[J)V"⟩ : MethodName) prog_38_method_8_code 3 none :: ws) ({ frames := 1, cells := 0, slots := 0, locals := 80 } : Room)) (fun a U => a = #[(.ref ao0), (.int 0), (.ref ao2)] ∧ Z.Warmed39 U.vm ∧ U.heap = h0) (fun _ _ _ _ _ => True) (fun _ U o U' => ∃ v L, o = .returned v ∧ (Q_rm12_4 Z ao0 sa ao2 ks ki sn sv x0 x1 x2 x3 h0 n0) v U'.heap L ∧ FrameEnd U o U' L ({ frames := 1, cells := 0, slots := 0, locals := 80 } : Room).cells ({ frames := 1, cells := 0, slots := 0, locals := 80 } : Room).slots) := by
  refine MetFree.of_bodySF (plainFor_of_name pn_rm12_4) hisR ?_
  intro p e s m args below meth c s₁ Bd hml0 hP hK
  obtain ⟨rfl, hZ, hh⟩ := hP
  have hx := Bd.exec
  have hby := Bd.bytes
  have hlk := BodyLoose.notSynchronized Bd
  have hret := Bd.returns
  have hml : c.maxLocals = 3 := hml0
  have hown : s.vm.findClass "com/example/moving_tokens/movingtokens/PartialChoices" = some m.cls := findClass_of_methodNamed Bd.named
  have hnm := (name_of_methodNamed Bd.named Bd.method).1
  have X0 : Stand p l e ({ frames := 1, cells := 0, slots := 0, locals := 80 } : Room) s m #[(.ref ao0), (.int 0), (.ref ao2)] below meth c s₁ [] 0 0 := Stand.of_body Bd
  have e0 : s₁.heap = h0 := by rw [← hh, Bd.state]; rfl
  have Nf := Fr.nil n0
  have Zs := Z0
  have Kp : Keep h0 h0 [ao2] := Keep.refl _ _
  show own_End p e below s (Q_rm12_4 Z ao0 sa ao2 ks ki sn sv x0 x1 x2 x3 h0 n0) ({ frames := 1, cells := 0, slots := 0, locals := 80 } : Room).cells ({ frames := 1, cells := 0, slots := 0, locals := 80 } : Room).slots (s₁.setTop (entryFrame m #[(.ref ao0), (.int 0), (.ref ao2)] 3))
  refine own_go (x' := s₁.setTop (mkF m 0 #[.val (.ref ao0), .val (.int 0), .val (.ref ao2)] [])) (fun t k => castTop (ef_rm12_4 m ao0 (0 : Int32) ao2) k) ?_
  refine own_go (x' := s₁.setTop (mkF m 1 #[.val (.ref ao0), .val (.int 0), .val (.ref ao2)] [(.ref ao0)])) (fun _ k => XS.aloadN X0.here hx rfl (hb hby d12_0) rfl rfl k) ?_
  obtain ⟨T1, X1, e1, st1⟩ := getF X0 hx hZ hown (host := "") (Or.inl (own_w hw 10 rfl)) Via.refl e0 F_ao0_states (g := (mkF m 1 #[.val (.ref ao0), .val (.int 0), .val (.ref ao2)] [(.ref ao0)])) rfl rfl (hb hby d12_1)
  refine own_go (x' := T1.setTop (mkF m 4 #[.val (.ref ao0), .val (.int 0), .val (.ref ao2)] [(.ref sa)])) st1 ?_
  refine own_go (x' := T1.setTop (mkF m 6 #[.val (.ref ao0), .val (.int 0), .val (.ref ao2)] [(.ref ao0), (.int 0), (.ref sa)])) (fun _ k => XS.iloadN X1.here hx rfl (hb hby d12_4) rfl (XS.aloadN X1.here hx rfl (hb hby d12_5) rfl rfl k)) ?_
  obtain ⟨T2, X2, e2, st2⟩ := getF X1 hx hZ hown (host := "") (Or.inl (own_w hw 26 rfl)) Via.refl e1 F_ao0_width (g := (mkF m 6 #[.val (.ref ao0), .val (.int 0), .val (.ref ao2)] [(.ref ao0), (.int 0), (.ref sa)])) rfl rfl (hb hby d12_6)
  refine own_go (x' := T2.setTop (mkF m 9 #[.val (.ref ao0), .val (.int 0), .val (.ref ao2)] [(.int 4), (.int 0), (.ref sa)])) st2 ?_
  refine own_go (x' := T2.setTop (mkF m 13 #[.val (.ref ao0), .val (.int 0), .val (.ref ao2)] [(.ref ao0), (.int 0), (.ref ao2), (.int ((0 : Int32) * (4 : Int32))), (.ref sa)])) (fun _ k => XS.imul X2.here hx rfl (hb hby d12_9) rfl (XS.aloadN X2.here hx rfl (hb hby d12_10) rfl rfl (XS.iconst X2.here hx rfl (hb hby d12_11) (XS.aloadN X2.here hx rfl (hb hby d12_12) rfl rfl k)))) ?_
  obtain ⟨T3, X3, e3, st3⟩ := getF X2 hx hZ hown (host := "") (Or.inl (own_w hw 26 rfl)) Via.refl e2 F_ao0_width (g := (mkF m 13 #[.val (.ref ao0), .val (.int 0), .val (.ref ao2)] [(.ref ao0), (.int 0), (.ref ao2), (.int ((0 : Int32) * (4 : Int32))), (.ref sa)])) rfl rfl (hb hby d12_13)
  refine own_go (x' := T3.setTop (mkF m 16 #[.val (.ref ao0), .val (.int 0), .val (.ref ao2)] [(.int 4), (.int 0), (.ref ao2), (.int ((0 : Int32) * (4 : Int32))), (.ref sa)])) st3 ?_
  rw [show ((0 : Int32) * (4 : Int32)) = (0 : Int32) from by decide +kernel]
  obtain ⟨T4, h4, LL4, X4, e4, Nq4, K4, Vd4, st4⟩ := cpA X3 hx hZ hown (own_w hw 54 rfl) (own_w hw 57 rfl) (own_w hw 55 rfl) (own_w hw 56 rfl) e3 V_sa V_ao2 (us := [(.long x0), (.long x1), (.long x2), (.long x3)]) (Or.inl ⟨rfl, rfl⟩) (by decide) (by decide) (by decide) (Nat.le_trans (by decide) (own_N hN)) (by decide) rfl (by decide) Nf g_ao2 (g := (mkF m 16 #[.val (.ref ao0), .val (.int 0), .val (.ref ao2)] [(.int 4), (.int 0), (.ref ao2), (.int 0), (.ref sa)])) rfl (by rw [hml]; rfl) rfl (hb hby d12_16) (by decide) (W := 0) (by show 2 * 0 + _ ≤ _; exact Nat.le_of_eq rfl) (by decide)
  refine own_go (x' := T4.setTop (mkF m 19 #[.val (.ref ao0), .val (.int 0), .val (.ref ao2)] [])) st4 ?_
  replace Nf := Nq4
  replace F_ao0_states := F_ao0_states.keep K4 (ninS ne_ao0_ao2 nin0)
  replace F_ao0_width := F_ao0_width.keep K4 (ninS ne_ao0_ao2 nin0)
  replace V_sa := V_sa.keep K4 (ninS ne_sa_ao2 nin0)
  replace Zs := Nat.le_trans Zs K4.1
  replace Kp := Kp.trans K4 (allS (Or.inl (by simp)) all0)
  have V_ao2 : Arv Z h4 ao2 ki .long (4 : Int32) [.long x0, .long x1, .long x2, .long x3] (.long (0 : Int64)) := Vd4
  refine own_retV X4 hx hlk hret (hb hby d12_19) ?_ (by decide) (by decide)
  rw [e4]
  exact ⟨rfl, Nf, Kp, V_ao2⟩
theorem own_w4 (z : Int32) : (1 : Int32) + (z &&& (3 : Int32)) = 1 ∨ (1 : Int32) + (z &&& (3 : Int32)) = 2 ∨ (1 : Int32) + (z &&& (3 : Int32)) = 3 ∨ (1 : Int32) + (z &&& (3 : Int32)) = 4 := by
  have h := c_mask z 3 2 (by decide) (by decide)
  obtain ⟨u, hu⟩ : ∃ u, u = z &&& (3 : Int32) := ⟨_, rfl⟩
  rw [← hu] at h ⊢
  have c : u.toInt = 0 ∨ u.toInt = 1 ∨ u.toInt = 2 ∨ u.toInt = 3 := by omega
  rcases c with c | c | c | c
  · exact Or.inl (by rw [show u = 0 from Int32.toInt_inj.mp c]; decide)
  · exact Or.inr (Or.inl (by rw [show u = 1 from Int32.toInt_inj.mp c]; decide))
  · exact Or.inr (Or.inr (Or.inl (by rw [show u = 2 from Int32.toInt_inj.mp c]; decide)))
  · exact Or.inr (Or.inr (Or.inr (by rw [show u = 3 from Int32.toInt_inj.mp c]; decide)))
theorem pd_5 : parseMethodDescriptor "(I)V" = some ⟨[.int], none⟩ := by decide +kernel
theorem pd_6 : parseMethodDescriptor "()I" = some ⟨[], some .int⟩ := by decide +kernel
theorem pd_7 : parseMethodDescriptor "(I[J)V" = some ⟨[.int, (.array .long)], none⟩ := by decide +kernel
set_option maxRecDepth 65536 in
set_option maxHeartbeats 40000000 in
theorem seg1 {p : Program} {l : Launch} {e : Env} {s : State} {m : MethodId} {args : Array Value} {below : List Frame} {meth : Method} {c : Code} {Z : State} {a0 : Array Value} (hx : p.tables.exec = Jvm.exec) (hlk : meth.locks = false) (hret : meth.sig.returnType = some .boolean) (hZ : Z.Warmed39 s.vm) (hw : ∀ d ∈ tables_1, d.before a0 Z = true) (hby : c.code = code) (hml : c.maxLocals = 15) (hown : s.vm.findClass "com/example/moving_tokens/movingtokens/PartialChoicesClearPinLaw" = some m.cls) (hnm : meth.name = "law") (p0 : Int32) (q1 q2 q3 q4 : Int64) (wo wn : Int32) (h0 : Heap) (n0 : Nat) (s₁ : State) (LL : List Loc) (ao0 aa ab ai : Addr) (kaa kab kai : ClassId) (sa ca ha pt : Addr) (ks kc kh kp : ClassId) (sn : Int32) (sv : List Value) (hc hm hs : List (Int32 × Value)) (ro : Int32)
    (X0 : Stand p l e room_1 s m args below meth c s₁ LL 9 162) (e0 : s₁.heap = h0) (Nf : Fr n0 LL) (Zs : n0 ≤ h0.size) (hwn : wn = 1 ∨ wn = 2 ∨ wn = 3 ∨ wn = 4) (E_ao0 : Exa Z h0 ao0 "com/example/moving_tokens/movingtokens/PartialChoices") (F_ao0_width : Fld Z h0 ao0 "com/example/moving_tokens/movingtokens/PartialChoices" "width" "I" (.int wo)) (F_ao0_states : Fld Z h0 ao0 "com/example/moving_tokens/movingtokens/PartialChoices" "states" "[J" (.ref sa)) (F_ao0_counts : Fld Z h0 ao0 "com/example/moving_tokens/movingtokens/PartialChoices" "counts" "[J" (.ref ca)) (F_ao0_homes : Fld Z h0 ao0 "com/example/moving_tokens/movingtokens/PartialChoices" "homes" "[I" (.ref ha)) (F_ao0_size : Fld Z h0 ao0 "com/example/moving_tokens/movingtokens/PartialChoices" "size" "I" (.int 1)) (F_ao0_slots : Fld Z h0 ao0 "com/example/moving_tokens/movingtokens/PartialChoices" "slots" "[I" (.ref pt)) (V_sa : Arv Z h0 sa ks .long sn sv (.long (0 : Int64))) (V_ca : Arh Z h0 ca kc .long (16 : Int32) hc [] (.long (0 : Int64))) (V_ha : Arh Z h0 ha kh .int (16 : Int32) (((0 : Int32), .int ro) :: hm) [] (.int (0 : Int32))) (V_pt : Arh Z h0 pt kp .int (32 : Int32) ((ro, .int (1 : Int32)) :: hs) [] (.int (0 : Int32))) (hL : sv.length = 8) (hN : (15 : Int32) < sn) (ne_ao0_sa : ao0 ≠ sa) (ne_ao0_ca : ao0 ≠ ca) (ne_ao0_ha : ao0 ≠ ha) (ne_ao0_pt : ao0 ≠ pt) (ne_sa_ca : sa ≠ ca) (ne_sa_ha : sa ≠ ha) (ne_sa_pt : sa ≠ pt) (ne_ca_ha : ca ≠ ha) (ne_ca_pt : ca ≠ pt) (ne_ha_pt : ha ≠ pt) (g_ao0 : n0 ≤ ao0) (g_sa : n0 ≤ sa) (g_ca : n0 ≤ ca) (g_ha : n0 ≤ ha) (g_pt : n0 ≤ pt) (hro : ¬ ro < 0 ∧ ro < 32) (hzr : own_Zr hs) (V_aa : Arv Z h0 aa kaa .long (4 : Int32) [.long q1, .long q2, .long q3, .long q4] (.long (0 : Int64))) (V_ab : Arv Z h0 ab kab .long (4 : Int32) [.long q4, .long q3, .long q2, .long q1] (.long (0 : Int64))) (V_ai : Arv Z h0 ai kai .long (4 : Int32) [.long (0 : Int64), .long (0 : Int64), .long (0 : Int64), .long (0 : Int64)] (.long (0 : Int64))) (ne_ao0_aa : ao0 ≠ aa) (ne_ao0_ab : ao0 ≠ ab) (ne_ao0_ai : ao0 ≠ ai) (ne_sa_aa : sa ≠ aa) (ne_sa_ab : sa ≠ ab) (ne_sa_ai : sa ≠ ai) (ne_ca_aa : ca ≠ aa) (ne_ca_ab : ca ≠ ab) (ne_ca_ai : ca ≠ ai) (ne_ha_aa : ha ≠ aa) (ne_ha_ab : ha ≠ ab) (ne_ha_ai : ha ≠ ai) (ne_pt_aa : pt ≠ aa) (ne_pt_ab : pt ≠ ab) (ne_pt_ai : pt ≠ ai) (ne_aa_ab : aa ≠ ab) (ne_aa_ai : aa ≠ ai) (ne_ab_ai : ab ≠ ai) (g_aa : n0 ≤ aa) (g_ab : n0 ≤ ab) (g_ai : n0 ≤ ai) :
    own_End p e below s (fun v h L => v = some (.int 1) ∧ Fr n0 L) room_1.cells room_1.slots (s₁.setTop (mkF m 99 #[.val (.int p0), .val (.long q1), .second, .val (.long q2), .second, .val (.long q3), .second, .val (.long q4), .second, .val (.int wo), .val (.int wn), .val (.ref aa), .val (.ref ab), .val (.ref ai), .val (.ref ao0)] [])) := by
  refine own_go (x' := s₁.setTop (mkF m 103 #[.val (.int p0), .val (.long q1), .second, .val (.long q2), .second, .val (.long q3), .second, .val (.long q4), .second, .val (.int wo), .val (.int wn), .val (.ref aa), .val (.ref ab), .val (.ref ai), .val (.ref ao0)] [(.int wn), (.ref ao0)])) (fun _ k => XS.aload X0.here hx rfl (hb hby at_99) rfl rfl (XS.iload X0.here hx rfl (hb hby at_101) rfl k)) ?_
  obtain ⟨cq1, kq1, q1a, q1b, q1c⟩ := isOf hZ e0 E_ao0
  obtain ⟨_, _, ⟨T1, L1, k1, n1⟩, -, X1, ⟨Lc1, hQ1, l1, y1, z1⟩, st1⟩ := X0.virtualBack hx (y := (⟨"com/example/moving_tokens/movingtokens/PartialChoices", "clear", "(I)V"⟩ : MethodName)) (z := (⟨"com/example/moving_tokens/movingtokens/PartialChoices", "clear", "(I)V"⟩ : MethodName)) hown (mvT hZ (own_w hw 19 rfl)) (mvT hZ (own_w hw 20 rfl)) (notFace_of_selects (args := #[]) (mvT hZ (own_w hw 22 rfl))) (mvT hZ (own_w hw 22 rfl)) (mvT hZ (own_w hw 21 rfl)) (by decide) (backOf (W := 0) (rm3_1 l Z a0 hw [] ao0 wo wn sa ca ha pt ks kc kh kp sn sv hc hm hs ro h0 n0 Zs hwn E_ao0 F_ao0_width F_ao0_states F_ao0_counts F_ao0_homes F_ao0_size F_ao0_slots V_sa V_ca V_ha V_pt hL hN ne_ao0_sa ne_ao0_ca ne_ao0_ha ne_ao0_pt ne_sa_ca ne_sa_ha ne_sa_pt ne_ca_ha ne_ca_pt ne_ha_pt g_ao0 g_sa g_ca g_ha g_pt hro hzr) hZ (own_w hw 23 rfl) (own_w hw 3 rfl) (by decide) (by decide)) q1a q1c (g := (mkF m 103 #[.val (.int p0), .val (.long q1), .second, .val (.long q2), .second, .val (.long q3), .second, .val (.long q4), .second, .val (.int wo), .val (.int wn), .val (.ref aa), .val (.ref ab), .val (.ref ai), .val (.ref ao0)] [(.int wn), (.ref ao0)])) rfl (by rw [hml]; rfl) (Steps.refl _) (argsL := [(.int wn)]) (rest := []) (lenOf pd_5 rfl) rfl (by show 2 * 0 + _ ≤ _; exact Nat.le_of_eq rfl) (hb hby at_103) (fun _ _ => ⟨rfl, e0, (by decide : 9 + 1 ≤ _), (by decide : 162 + 64 ≤ _)⟩)
  dsimp only [Pt.U, Pt.locs, Pt.cells, Pt.slots] at X1 l1 y1 z1 st1 hQ1
  subst l1 y1 z1
  obtain ⟨sa1, ks1, sn1, sv1, hm1, hs1, hv1, Nq1, K1, hL1, hN1, g_sa1, fs1, zr1, Eo1, Fo1_width, Fo1_states, Fo1_counts, Fo1_homes, Fo1_size, Fo1_slots, Vs1, Vc1, Vh1, Vp1⟩ := hQ1
  subst hv1
  replace Nf := Fr.app Nf Nq1
  have ne_ao0_sa1 : ao0 ≠ sa1 := fs1 _ E_ao0.lt ne_ao0_sa
  have ne_ca_sa1 : ca ≠ sa1 := fs1 _ V_ca.lt (Ne.symm ne_sa_ca)
  have ne_ha_sa1 : ha ≠ sa1 := fs1 _ V_ha.lt (Ne.symm ne_sa_ha)
  have ne_pt_sa1 : pt ≠ sa1 := fs1 _ V_pt.lt (Ne.symm ne_sa_pt)
  have ne_aa_sa1 : aa ≠ sa1 := fs1 _ V_aa.lt (Ne.symm ne_sa_aa)
  have ne_ab_sa1 : ab ≠ sa1 := fs1 _ V_ab.lt (Ne.symm ne_sa_ab)
  have ne_ai_sa1 : ai ≠ sa1 := fs1 _ V_ai.lt (Ne.symm ne_sa_ai)
  replace V_aa := V_aa.keep K1 (ninS (Ne.symm ne_ao0_aa) (ninS (Ne.symm ne_sa_aa) (ninS (Ne.symm ne_ca_aa) (ninS (Ne.symm ne_ha_aa) (ninS (Ne.symm ne_pt_aa) nin0)))))
  replace V_ab := V_ab.keep K1 (ninS (Ne.symm ne_ao0_ab) (ninS (Ne.symm ne_sa_ab) (ninS (Ne.symm ne_ca_ab) (ninS (Ne.symm ne_ha_ab) (ninS (Ne.symm ne_pt_ab) nin0)))))
  replace V_ai := V_ai.keep K1 (ninS (Ne.symm ne_ao0_ai) (ninS (Ne.symm ne_sa_ai) (ninS (Ne.symm ne_ca_ai) (ninS (Ne.symm ne_ha_ai) (ninS (Ne.symm ne_pt_ai) nin0)))))
  replace Zs := Nat.le_trans Zs K1.1
  have E_ao0 := Eo1
  have F_ao0_width := Fo1_width
  have F_ao0_states := Fo1_states
  have F_ao0_counts := Fo1_counts
  have F_ao0_homes := Fo1_homes
  have F_ao0_size := Fo1_size
  have F_ao0_slots := Fo1_slots
  have V_sa1 := Vs1
  have V_ca := Vc1
  have V_ha := Vh1
  have V_pt := Vp1
  refine own_go (x' := T1.setTop (mkF m 106 #[.val (.int p0), .val (.long q1), .second, .val (.long q2), .second, .val (.long q3), .second, .val (.long q4), .second, .val (.int wo), .val (.int wn), .val (.ref aa), .val (.ref ab), .val (.ref ai), .val (.ref ao0)] [])) (fun _ k => st1.trans k) ?_
  rcases hwn with rfl | rfl | rfl | rfl
  · refine own_go (x' := T1.setTop (mkF m 108 #[.val (.int p0), .val (.long q1), .second, .val (.long q2), .second, .val (.long q3), .second, .val (.long q4), .second, .val (.int wo), .val (.int 1), .val (.ref aa), .val (.ref ab), .val (.ref ai), .val (.ref ao0)] [(.ref ao0)])) (fun _ k => XS.aload X1.here hx rfl (hb hby at_106) rfl rfl k) ?_
    obtain ⟨cq2, kq2, q2a, q2b, q2c⟩ := isOf hZ rfl E_ao0
    obtain ⟨_, _, ⟨T2, L2, k2, n2⟩, -, X2, ⟨Lc2, hQ2, l2, y2, z2⟩, st2⟩ := X1.virtualBack hx (y := (⟨"com/example/moving_tokens/movingtokens/PartialChoices", "size", "()I"⟩ : MethodName)) (z := (⟨"com/example/moving_tokens/movingtokens/PartialChoices", "size", "()I"⟩ : MethodName)) hown (mvT hZ (own_w hw 58 rfl)) (mvT hZ (own_w hw 59 rfl)) (notFace_of_selects (args := #[]) (mvT hZ (own_w hw 61 rfl))) (mvT hZ (own_w hw 61 rfl)) (mvT hZ (own_w hw 60 rfl)) (by decide) (backOf (W := 0) (rm10 l Z a0 hw [] ao0 T1.heap n0 Zs F_ao0_size) hZ (own_w hw 62 rfl) (own_w hw 3 rfl) (by decide) (by decide)) q2a q2c (g := (mkF m 108 #[.val (.int p0), .val (.long q1), .second, .val (.long q2), .second, .val (.long q3), .second, .val (.long q4), .second, .val (.int wo), .val (.int 1), .val (.ref aa), .val (.ref ab), .val (.ref ai), .val (.ref ao0)] [(.ref ao0)])) rfl (by rw [hml]; rfl) (Steps.refl _) (argsL := []) (rest := []) (lenOf pd_6 rfl) rfl (by show 2 * 0 + _ ≤ _; exact Nat.le_of_eq rfl) (hb hby at_108) (fun _ _ => ⟨rfl, rfl, (by decide : 10 + 0 ≤ _), (by decide : 226 + 0 ≤ _)⟩)
    dsimp only [Pt.U, Pt.locs, Pt.cells, Pt.slots] at X2 l2 y2 z2 st2 hQ2
    subst l2 y2 z2
    obtain ⟨hv2, Nq2, eq2⟩ := hQ2
    subst hv2
    replace Nf := Fr.app Nf Nq2
    refine own_go (x' := T2.setTop (mkF m 111 #[.val (.int p0), .val (.long q1), .second, .val (.long q2), .second, .val (.long q3), .second, .val (.long q4), .second, .val (.int wo), .val (.int 1), .val (.ref aa), .val (.ref ab), .val (.ref ai), .val (.ref ao0)] [(.int 0)])) (fun _ k => st2.trans k) ?_
    refine own_go (x' := T2.setTop (mkF m 120 #[.val (.int p0), .val (.long q1), .second, .val (.long q2), .second, .val (.long q3), .second, .val (.long q4), .second, .val (.int wo), .val (.int 1), .val (.ref aa), .val (.ref ab), .val (.ref ai), .val (.ref ao0)] [(.ref aa), (.ref ao0)])) (fun _ k => XS.ifYes X2.here hx rfl (pc0 := 111) (pc' := 116) rfl (hb hby at_111) rfl ((if0 _ _).trans (teq rfl).1) (by decide) (by decide) (XS.aload X2.here hx rfl (hb hby at_116) rfl rfl (XS.aload X2.here hx rfl (hb hby at_118) rfl rfl k))) ?_
    obtain ⟨cq3, kq3, q3a, q3b, q3c⟩ := isOf hZ eq2 E_ao0
    obtain ⟨_, _, ⟨T3, L3, k3, n3⟩, -, X3, ⟨Lc3, hQ3, l3, y3, z3⟩, st3⟩ := X2.virtualBack hx (y := (⟨"com/example/moving_tokens/movingtokens/PartialChoices", "find", "([J)I"⟩ : MethodName)) (z := (⟨"com/example/moving_tokens/movingtokens/PartialChoices", "find", "([J)I"⟩ : MethodName)) hown (mvT hZ (own_w hw 63 rfl)) (mvT hZ (own_w hw 64 rfl)) (notFace_of_selects (args := #[]) (mvT hZ (own_w hw 66 rfl))) (mvT hZ (own_w hw 66 rfl)) (mvT hZ (own_w hw 65 rfl)) (by decide) (backOf (W := 0) (rm11 l Z a0 hw [] ao0 aa (1 : Int32) kaa q1 q2 q3 q4 sa1 ca ha pt ks1 kc kh kp sn1 sv1 hc hm1 hs1 T1.heap n0 Zs (by decide) E_ao0 F_ao0_width F_ao0_states F_ao0_counts F_ao0_homes F_ao0_size F_ao0_slots V_sa1 V_ca V_ha V_pt hL1 hN1 ne_ao0_sa1 ne_ao0_ca ne_ao0_ha ne_ao0_pt (Ne.symm ne_ca_sa1) (Ne.symm ne_ha_sa1) (Ne.symm ne_pt_sa1) ne_ca_ha ne_ca_pt ne_ha_pt g_ao0 g_sa1 g_ca g_ha g_pt zr1 V_aa) hZ (own_w hw 67 rfl) (own_w hw 3 rfl) (by decide) (by decide)) q3a q3c (g := (mkF m 120 #[.val (.int p0), .val (.long q1), .second, .val (.long q2), .second, .val (.long q3), .second, .val (.long q4), .second, .val (.int wo), .val (.int 1), .val (.ref aa), .val (.ref ab), .val (.ref ai), .val (.ref ao0)] [(.ref aa), (.ref ao0)])) rfl (by rw [hml]; rfl) (Steps.refl _) (argsL := [(.ref aa)]) (rest := []) (lenOf pd_3 rfl) rfl (by show 2 * 0 + _ ≤ _; exact Nat.le_of_eq rfl) (hb hby at_120) (fun _ _ => ⟨rfl, eq2, (by decide : 10 + 0 ≤ _), (by decide : 226 + 0 ≤ _)⟩)
    dsimp only [Pt.U, Pt.locs, Pt.cells, Pt.slots] at X3 l3 y3 z3 st3 hQ3
    subst l3 y3 z3
    obtain ⟨hv3, Nq3, eq3⟩ := hQ3
    subst hv3
    replace Nf := Fr.app Nf Nq3
    refine own_go (x' := T3.setTop (mkF m 123 #[.val (.int p0), .val (.long q1), .second, .val (.long q2), .second, .val (.long q3), .second, .val (.long q4), .second, .val (.int wo), .val (.int 1), .val (.ref aa), .val (.ref ab), .val (.ref ai), .val (.ref ao0)] [(.int (-1))])) (fun _ k => st3.trans k) ?_
    refine own_go (x' := T3.setTop (mkF m 133 #[.val (.int p0), .val (.long q1), .second, .val (.long q2), .second, .val (.long q3), .second, .val (.long q4), .second, .val (.int wo), .val (.int 1), .val (.ref aa), .val (.ref ab), .val (.ref ai), .val (.ref ao0)] [(.ref ab), (.ref ao0)])) (fun _ k => XS.iconst X3.here hx rfl (hb hby at_123) (XS.icmpYes X3.here hx rfl (pc0 := 124) (pc' := 129) rfl (hb hby at_124) rfl (teq rfl).1 (by decide) (by decide) (XS.aload X3.here hx rfl (hb hby at_129) rfl rfl (XS.aload X3.here hx rfl (hb hby at_131) rfl rfl k)))) ?_
    obtain ⟨cq4, kq4, q4a, q4b, q4c⟩ := isOf hZ eq3 E_ao0
    obtain ⟨_, _, ⟨T4, L4, k4, n4⟩, -, X4, ⟨Lc4, hQ4, l4, y4, z4⟩, st4⟩ := X3.virtualBack hx (y := (⟨"com/example/moving_tokens/movingtokens/PartialChoices", "entry", "([J)I"⟩ : MethodName)) (z := (⟨"com/example/moving_tokens/movingtokens/PartialChoices", "entry", "([J)I"⟩ : MethodName)) hown (mvT hZ (own_w hw 29 rfl)) (mvT hZ (own_w hw 30 rfl)) (notFace_of_selects (args := #[]) (mvT hZ (own_w hw 32 rfl))) (mvT hZ (own_w hw 32 rfl)) (mvT hZ (own_w hw 31 rfl)) (by decide) (backOf (W := 0) (rm4_0 l Z a0 hw [] ao0 ab (1 : Int32) kab q4 q3 q2 q1 sa1 ca ha pt ks1 kc kh kp sn1 sv1 hc hm1 hs1  T1.heap n0 Zs (by decide) E_ao0 F_ao0_width F_ao0_states F_ao0_counts F_ao0_homes F_ao0_size F_ao0_slots V_sa1 V_ca V_ha V_pt hL1 hN1 ne_ao0_sa1 ne_ao0_ca ne_ao0_ha ne_ao0_pt (Ne.symm ne_ca_sa1) (Ne.symm ne_ha_sa1) (Ne.symm ne_pt_sa1) ne_ca_ha ne_ca_pt ne_ha_pt g_ao0 g_sa1 g_ca g_ha g_pt  zr1 V_ab ne_ao0_ab (Ne.symm ne_ab_sa1) ne_ca_ab ne_ha_ab ne_pt_ab) hZ (own_w hw 33 rfl) (own_w hw 3 rfl) (by decide) (by decide)) q4a q4c (g := (mkF m 133 #[.val (.int p0), .val (.long q1), .second, .val (.long q2), .second, .val (.long q3), .second, .val (.long q4), .second, .val (.int wo), .val (.int 1), .val (.ref aa), .val (.ref ab), .val (.ref ai), .val (.ref ao0)] [(.ref ab), (.ref ao0)])) rfl (by rw [hml]; rfl) (Steps.refl _) (argsL := [(.ref ab)]) (rest := []) (lenOf pd_3 rfl) rfl (by show 2 * 0 + _ ≤ _; exact Nat.le_of_eq rfl) (hb hby at_133) (fun _ _ => ⟨rfl, eq3, (by decide : 10 + 0 ≤ _), (by decide : 226 + 0 ≤ _)⟩)
    dsimp only [Pt.U, Pt.locs, Pt.cells, Pt.slots] at X4 l4 y4 z4 st4 hQ4
    subst l4 y4 z4
    obtain ⟨r4, hr4, hv4, Nq4, K4, Eo4, Fo4_width, Fo4_states, Fo4_counts, Fo4_homes, Fo4_size, Fo4_slots, Vs4, Vc4, Vh4, Vp4⟩ := hQ4
    subst hv4
    replace Nf := Fr.app Nf Nq4
    replace V_aa := V_aa.keep K4 (ninS (Ne.symm ne_ao0_aa) (ninS ne_aa_sa1 (ninS (Ne.symm ne_ca_aa) (ninS (Ne.symm ne_ha_aa) (ninS (Ne.symm ne_pt_aa) nin0)))))
    replace V_ab := V_ab.keep K4 (ninS (Ne.symm ne_ao0_ab) (ninS ne_ab_sa1 (ninS (Ne.symm ne_ca_ab) (ninS (Ne.symm ne_ha_ab) (ninS (Ne.symm ne_pt_ab) nin0)))))
    replace V_ai := V_ai.keep K4 (ninS (Ne.symm ne_ao0_ai) (ninS ne_ai_sa1 (ninS (Ne.symm ne_ca_ai) (ninS (Ne.symm ne_ha_ai) (ninS (Ne.symm ne_pt_ai) nin0)))))
    replace Zs := Nat.le_trans Zs K4.1
    replace E_ao0 := Eo4
    replace F_ao0_width := Fo4_width
    replace F_ao0_states := Fo4_states
    replace F_ao0_counts := Fo4_counts
    replace F_ao0_homes := Fo4_homes
    replace F_ao0_size := Fo4_size
    replace F_ao0_slots := Fo4_slots
    replace V_sa1 := Vs4
    replace V_ca := Vc4
    replace V_ha := Vh4
    replace V_pt := Vp4
    rw [own_us1] at V_sa1
    refine own_go (x' := T4.setTop (mkF m 136 #[.val (.int p0), .val (.long q1), .second, .val (.long q2), .second, .val (.long q3), .second, .val (.long q4), .second, .val (.int wo), .val (.int 1), .val (.ref aa), .val (.ref ab), .val (.ref ai), .val (.ref ao0)] [(.int 0)])) (fun _ k => st4.trans k) ?_
    refine own_go (x' := T4.setTop (mkF m 146 #[.val (.int p0), .val (.long q1), .second, .val (.long q2), .second, .val (.long q3), .second, .val (.long q4), .second, .val (.int wo), .val (.int 1), .val (.ref aa), .val (.ref ab), .val (.ref ai), .val (.ref ao0)] [(.ref ai), (.int 0), (.ref ao0)])) (fun _ k => XS.ifYes X4.here hx rfl (pc0 := 136) (pc' := 141) rfl (hb hby at_136) rfl ((if0 _ _).trans (teq rfl).1) (by decide) (by decide) (XS.aload X4.here hx rfl (hb hby at_141) rfl rfl (XS.iconst X4.here hx rfl (hb hby at_143) (XS.aload X4.here hx rfl (hb hby at_144) rfl rfl k)))) ?_
    obtain ⟨cq5, kq5, q5a, q5b, q5c⟩ := isOf hZ rfl E_ao0
    obtain ⟨_, _, ⟨T5, L5, k5, n5⟩, -, X5, ⟨Lc5, hQ5, l5, y5, z5⟩, st5⟩ := X4.virtualBack hx (y := (⟨"com/example/moving_tokens/movingtokens/PartialChoices", "copyState", "(I[J)V"⟩ : MethodName)) (z := (⟨"com/example/moving_tokens/movingtokens/PartialChoices", "copyState", "(I[J)V"⟩ : MethodName)) hown (mvT hZ (own_w hw 68 rfl)) (mvT hZ (own_w hw 69 rfl)) (notFace_of_selects (args := #[]) (mvT hZ (own_w hw 71 rfl))) (mvT hZ (own_w hw 71 rfl)) (mvT hZ (own_w hw 70 rfl)) (by decide) (backOf (W := 0) (rm12_1 l Z a0 hw [] ao0 sa1 ai ks1 kai sn1 _ q4 q3 q2 q1 T4.heap n0 Zs F_ao0_width F_ao0_states V_sa1 V_ai hN1 ne_ao0_ai (Ne.symm ne_ai_sa1) g_ai) hZ (own_w hw 72 rfl) (own_w hw 3 rfl) (by decide) (by decide)) q5a q5c (g := (mkF m 146 #[.val (.int p0), .val (.long q1), .second, .val (.long q2), .second, .val (.long q3), .second, .val (.long q4), .second, .val (.int wo), .val (.int 1), .val (.ref aa), .val (.ref ab), .val (.ref ai), .val (.ref ao0)] [(.ref ai), (.int 0), (.ref ao0)])) rfl (by rw [hml]; rfl) (Steps.refl _) (argsL := [(.int 0), (.ref ai)]) (rest := []) (lenOf pd_7 rfl) rfl (by show 2 * 0 + _ ≤ _; exact Nat.le_of_eq rfl) (hb hby at_146) (fun _ _ => ⟨rfl, rfl, (by decide : 10 + 0 ≤ _), (by decide : 226 + 0 ≤ _)⟩)
    dsimp only [Pt.U, Pt.locs, Pt.cells, Pt.slots] at X5 l5 y5 z5 st5 hQ5
    subst l5 y5 z5
    obtain ⟨hv5, Nq5, K5, Vi5⟩ := hQ5
    subst hv5
    replace Nf := Fr.app Nf Nq5
    replace V_aa := V_aa.keep K5 (ninS ne_aa_ai nin0)
    replace V_ab := V_ab.keep K5 (ninS ne_ab_ai nin0)
    replace E_ao0 := E_ao0.keep K5
    replace F_ao0_width := F_ao0_width.keep K5 (ninS ne_ao0_ai nin0)
    replace F_ao0_states := F_ao0_states.keep K5 (ninS ne_ao0_ai nin0)
    replace F_ao0_counts := F_ao0_counts.keep K5 (ninS ne_ao0_ai nin0)
    replace F_ao0_homes := F_ao0_homes.keep K5 (ninS ne_ao0_ai nin0)
    replace F_ao0_size := F_ao0_size.keep K5 (ninS ne_ao0_ai nin0)
    replace F_ao0_slots := F_ao0_slots.keep K5 (ninS ne_ao0_ai nin0)
    replace V_sa1 := V_sa1.keep K5 (ninS (Ne.symm ne_ai_sa1) nin0)
    replace V_ca := V_ca.keep K5 (ninS ne_ca_ai nin0)
    replace V_ha := V_ha.keep K5 (ninS ne_ha_ai nin0)
    replace V_pt := V_pt.keep K5 (ninS ne_pt_ai nin0)
    replace Zs := Nat.le_trans Zs K5.1
    replace V_ai := Vi5
    refine own_go (x' := T5.setTop (mkF m 149 #[.val (.int p0), .val (.long q1), .second, .val (.long q2), .second, .val (.long q3), .second, .val (.long q4), .second, .val (.int wo), .val (.int 1), .val (.ref aa), .val (.ref ab), .val (.ref ai), .val (.ref ao0)] [])) (fun _ k => st5.trans k) ?_
    refine own_go (x' := T5.setTop (mkF m 152 #[.val (.int p0), .val (.long q1), .second, .val (.long q2), .second, .val (.long q3), .second, .val (.long q4), .second, .val (.int wo), .val (.int 1), .val (.ref aa), .val (.ref ab), .val (.ref ai), .val (.ref ao0)] [(.int 0), (.ref ai)])) (fun _ k => XS.aload X5.here hx rfl (hb hby at_149) rfl rfl (XS.iconst X5.here hx rfl (hb hby at_151) k)) ?_
    obtain ⟨cl6, Ar6, q6, Sz6, Nn6, Hh6, Gg6⟩ := id V_ai
    have hin6 : ¬ ((0 : Int32) < 0 ∨ cl6.slots.size ≤ ((0 : Int32)).toNatClampNeg) := inb_of Sz6 ⟨by decide, by decide⟩
    refine own_go (x' := T5.setTop (mkF m 153 #[.val (.int p0), .val (.long q1), .second, .val (.long q2), .second, .val (.long q3), .second, .val (.long q4), .second, .val (.int wo), .val (.int 1), .val (.ref aa), .val (.ref ab), .val (.ref ai), .val (.ref ao0)] [(.long q4)])) (X5.laload hx (j := (0 : Int32)) (v := (.long q4)) (Eq.trans (congrArg (fun h_ => h_[_]?) rfl) Ar6.1) (State.isArrayOf_alike hZ.alike Ar6.2.1) Ar6.2.2 hin6 (Hh6.at hin6 rfl) (g := (mkF m 152 #[.val (.int p0), .val (.long q1), .second, .val (.long q2), .second, .val (.long q3), .second, .val (.long q4), .second, .val (.int wo), .val (.int 1), .val (.ref aa), .val (.ref ab), .val (.ref ai), .val (.ref ao0)] [(.int 0), (.ref ai)])) rfl rfl (hb hby at_152)) ?_
    refine own_go (x' := T5.setTop (mkF m 156 #[.val (.int p0), .val (.long q1), .second, .val (.long q2), .second, .val (.long q3), .second, .val (.long q4), .second, .val (.int wo), .val (.int 1), .val (.ref aa), .val (.ref ab), .val (.ref ai), .val (.ref ao0)] [(.int 0), (.ref ab), (.long q4)])) (fun _ k => XS.aload X5.here hx rfl (hb hby at_153) rfl rfl (XS.iconst X5.here hx rfl (hb hby at_155) k)) ?_
    obtain ⟨cl7, Ar7, q7, Sz7, Nn7, Hh7, Gg7⟩ := id V_ab
    have hin7 : ¬ ((0 : Int32) < 0 ∨ cl7.slots.size ≤ ((0 : Int32)).toNatClampNeg) := inb_of Sz7 ⟨by decide, by decide⟩
    refine own_go (x' := T5.setTop (mkF m 157 #[.val (.int p0), .val (.long q1), .second, .val (.long q2), .second, .val (.long q3), .second, .val (.long q4), .second, .val (.int wo), .val (.int 1), .val (.ref aa), .val (.ref ab), .val (.ref ai), .val (.ref ao0)] [(.long q4), (.long q4)])) (X5.laload hx (j := (0 : Int32)) (v := (.long q4)) (Eq.trans (congrArg (fun h_ => h_[_]?) rfl) Ar7.1) (State.isArrayOf_alike hZ.alike Ar7.2.1) Ar7.2.2 hin7 (Hh7.at hin7 rfl) (g := (mkF m 156 #[.val (.int p0), .val (.long q1), .second, .val (.long q2), .second, .val (.long q3), .second, .val (.long q4), .second, .val (.int wo), .val (.int 1), .val (.ref aa), .val (.ref ab), .val (.ref ai), .val (.ref ao0)] [(.int 0), (.ref ab), (.long q4)])) rfl rfl (hb hby at_156)) ?_
    refine own_go (x' := T5.setTop (mkF m 164 #[.val (.int p0), .val (.long q1), .second, .val (.long q2), .second, .val (.long q3), .second, .val (.long q4), .second, .val (.int wo), .val (.int 1), .val (.ref aa), .val (.ref ab), .val (.ref ai), .val (.ref ao0)] [(.int 1), (.ref ai)])) (fun _ k => XS.lcmp X5.here hx rfl (hb hby at_157) rfl (XS.ifNo X5.here hx rfl (hb hby at_158) rfl ((if0 _ _).trans (teq ((lw_eq q4 q4).mpr rfl)).2) (XS.aload X5.here hx rfl (hb hby at_161) rfl rfl (XS.iconst X5.here hx rfl (hb hby at_163) k)))) ?_
    obtain ⟨cl8, Ar8, q8, Sz8, Nn8, Hh8, Gg8⟩ := id V_ai
    have hin8 : ¬ ((1 : Int32) < 0 ∨ cl8.slots.size ≤ ((1 : Int32)).toNatClampNeg) := inb_of Sz8 ⟨by decide, by decide⟩
    refine own_go (x' := T5.setTop (mkF m 165 #[.val (.int p0), .val (.long q1), .second, .val (.long q2), .second, .val (.long q3), .second, .val (.long q4), .second, .val (.int wo), .val (.int 1), .val (.ref aa), .val (.ref ab), .val (.ref ai), .val (.ref ao0)] [(.long 0)])) (X5.laload hx (j := (1 : Int32)) (v := (.long 0)) (Eq.trans (congrArg (fun h_ => h_[_]?) rfl) Ar8.1) (State.isArrayOf_alike hZ.alike Ar8.2.1) Ar8.2.2 hin8 (Hh8.at hin8 rfl) (g := (mkF m 164 #[.val (.int p0), .val (.long q1), .second, .val (.long q2), .second, .val (.long q3), .second, .val (.long q4), .second, .val (.int wo), .val (.int 1), .val (.ref aa), .val (.ref ab), .val (.ref ai), .val (.ref ao0)] [(.int 1), (.ref ai)])) rfl rfl (hb hby at_164)) ?_
    refine own_go (x' := T5.setTop (mkF m 183 #[.val (.int p0), .val (.long q1), .second, .val (.long q2), .second, .val (.long q3), .second, .val (.long q4), .second, .val (.int wo), .val (.int 1), .val (.ref aa), .val (.ref ab), .val (.ref ai), .val (.ref ao0)] [])) (fun _ k => XS.iload X5.here hx rfl (hb hby at_165) rfl (XS.iconst X5.here hx rfl (hb hby at_167) (XS.icmpYes X5.here hx rfl (pc0 := 168) (pc' := 178) rfl (hb hby at_168) rfl (flt (Int32.lt_irrefl)).2.2.2 (by decide) (by decide) (XS.lconst X5.here hx rfl (hb hby at_178) (XS.lcmp X5.here hx rfl (hb hby at_179) rfl (XS.ifNo X5.here hx rfl (hb hby at_180) rfl ((if0 _ _).trans (teq ((lw_eq (0 : Int64) (0 : Int64)).mpr rfl)).2) k)))))) ?_
    refine own_go (x' := T5.setTop (mkF m 186 #[.val (.int p0), .val (.long q1), .second, .val (.long q2), .second, .val (.long q3), .second, .val (.long q4), .second, .val (.int wo), .val (.int 1), .val (.ref aa), .val (.ref ab), .val (.ref ai), .val (.ref ao0)] [(.int 2), (.ref ai)])) (fun _ k => XS.aload X5.here hx rfl (hb hby at_183) rfl rfl (XS.iconst X5.here hx rfl (hb hby at_185) k)) ?_
    obtain ⟨cl9, Ar9, q9, Sz9, Nn9, Hh9, Gg9⟩ := id V_ai
    have hin9 : ¬ ((2 : Int32) < 0 ∨ cl9.slots.size ≤ ((2 : Int32)).toNatClampNeg) := inb_of Sz9 ⟨by decide, by decide⟩
    refine own_go (x' := T5.setTop (mkF m 187 #[.val (.int p0), .val (.long q1), .second, .val (.long q2), .second, .val (.long q3), .second, .val (.long q4), .second, .val (.int wo), .val (.int 1), .val (.ref aa), .val (.ref ab), .val (.ref ai), .val (.ref ao0)] [(.long 0)])) (X5.laload hx (j := (2 : Int32)) (v := (.long 0)) (Eq.trans (congrArg (fun h_ => h_[_]?) rfl) Ar9.1) (State.isArrayOf_alike hZ.alike Ar9.2.1) Ar9.2.2 hin9 (Hh9.at hin9 rfl) (g := (mkF m 186 #[.val (.int p0), .val (.long q1), .second, .val (.long q2), .second, .val (.long q3), .second, .val (.long q4), .second, .val (.int wo), .val (.int 1), .val (.ref aa), .val (.ref ab), .val (.ref ai), .val (.ref ao0)] [(.int 2), (.ref ai)])) rfl rfl (hb hby at_186)) ?_
    refine own_go (x' := T5.setTop (mkF m 205 #[.val (.int p0), .val (.long q1), .second, .val (.long q2), .second, .val (.long q3), .second, .val (.long q4), .second, .val (.int wo), .val (.int 1), .val (.ref aa), .val (.ref ab), .val (.ref ai), .val (.ref ao0)] [])) (fun _ k => XS.iload X5.here hx rfl (hb hby at_187) rfl (XS.iconst X5.here hx rfl (hb hby at_189) (XS.icmpYes X5.here hx rfl (pc0 := 190) (pc' := 200) rfl (hb hby at_190) rfl (flt (by decide +kernel : ¬ ((2 : Int32) < (1 : Int32)))).2.2.2 (by decide) (by decide) (XS.lconst X5.here hx rfl (hb hby at_200) (XS.lcmp X5.here hx rfl (hb hby at_201) rfl (XS.ifNo X5.here hx rfl (hb hby at_202) rfl ((if0 _ _).trans (teq ((lw_eq (0 : Int64) (0 : Int64)).mpr rfl)).2) k)))))) ?_
    refine own_go (x' := T5.setTop (mkF m 208 #[.val (.int p0), .val (.long q1), .second, .val (.long q2), .second, .val (.long q3), .second, .val (.long q4), .second, .val (.int wo), .val (.int 1), .val (.ref aa), .val (.ref ab), .val (.ref ai), .val (.ref ao0)] [(.int 3), (.ref ai)])) (fun _ k => XS.aload X5.here hx rfl (hb hby at_205) rfl rfl (XS.iconst X5.here hx rfl (hb hby at_207) k)) ?_
    obtain ⟨cl10, Ar10, q10, Sz10, Nn10, Hh10, Gg10⟩ := id V_ai
    have hin10 : ¬ ((3 : Int32) < 0 ∨ cl10.slots.size ≤ ((3 : Int32)).toNatClampNeg) := inb_of Sz10 ⟨by decide, by decide⟩
    refine own_go (x' := T5.setTop (mkF m 209 #[.val (.int p0), .val (.long q1), .second, .val (.long q2), .second, .val (.long q3), .second, .val (.long q4), .second, .val (.int wo), .val (.int 1), .val (.ref aa), .val (.ref ab), .val (.ref ai), .val (.ref ao0)] [(.long 0)])) (X5.laload hx (j := (3 : Int32)) (v := (.long 0)) (Eq.trans (congrArg (fun h_ => h_[_]?) rfl) Ar10.1) (State.isArrayOf_alike hZ.alike Ar10.2.1) Ar10.2.2 hin10 (Hh10.at hin10 rfl) (g := (mkF m 208 #[.val (.int p0), .val (.long q1), .second, .val (.long q2), .second, .val (.long q3), .second, .val (.long q4), .second, .val (.int wo), .val (.int 1), .val (.ref aa), .val (.ref ab), .val (.ref ai), .val (.ref ao0)] [(.int 3), (.ref ai)])) rfl rfl (hb hby at_208)) ?_
    refine own_go (x' := T5.setTop (mkF m 227 #[.val (.int p0), .val (.long q1), .second, .val (.long q2), .second, .val (.long q3), .second, .val (.long q4), .second, .val (.int wo), .val (.int 1), .val (.ref aa), .val (.ref ab), .val (.ref ai), .val (.ref ao0)] [])) (fun _ k => XS.iload X5.here hx rfl (hb hby at_209) rfl (XS.iconst X5.here hx rfl (hb hby at_211) (XS.icmpYes X5.here hx rfl (pc0 := 212) (pc' := 222) rfl (hb hby at_212) rfl (flt (by decide +kernel : ¬ ((3 : Int32) < (1 : Int32)))).2.2.2 (by decide) (by decide) (XS.lconst X5.here hx rfl (hb hby at_222) (XS.lcmp X5.here hx rfl (hb hby at_223) rfl (XS.ifNo X5.here hx rfl (hb hby at_224) rfl ((if0 _ _).trans (teq ((lw_eq (0 : Int64) (0 : Int64)).mpr rfl)).2) k)))))) ?_
    refine own_go (x' := T5.setTop (mkF m 232 #[.val (.int p0), .val (.long q1), .second, .val (.long q2), .second, .val (.long q3), .second, .val (.long q4), .second, .val (.int wo), .val (.int 1), .val (.ref aa), .val (.ref ab), .val (.ref ai), .val (.ref ao0)] [(.int 1)])) (fun _ k => XS.iconst X5.here hx rfl (hb hby at_227) (XS.goto X5.here hx rfl (pc0 := 228) (pc' := 232) rfl (hb hby at_228) (by decide) (by decide) k)) ?_
    refine own_retN X5 hx hlk (t := .boolean) hret (by simp) (hb hby at_232) (w := (1 : Int32)) rfl ?_ (by decide) (by decide)
    exact ⟨rfl, Nf⟩
  · refine own_go (x' := T1.setTop (mkF m 108 #[.val (.int p0), .val (.long q1), .second, .val (.long q2), .second, .val (.long q3), .second, .val (.long q4), .second, .val (.int wo), .val (.int 2), .val (.ref aa), .val (.ref ab), .val (.ref ai), .val (.ref ao0)] [(.ref ao0)])) (fun _ k => XS.aload X1.here hx rfl (hb hby at_106) rfl rfl k) ?_
    obtain ⟨cq11, kq11, q11a, q11b, q11c⟩ := isOf hZ rfl E_ao0
    obtain ⟨_, _, ⟨T11, L11, k11, n11⟩, -, X11, ⟨Lc11, hQ11, l11, y11, z11⟩, st11⟩ := X1.virtualBack hx (y := (⟨"com/example/moving_tokens/movingtokens/PartialChoices", "size", "()I"⟩ : MethodName)) (z := (⟨"com/example/moving_tokens/movingtokens/PartialChoices", "size", "()I"⟩ : MethodName)) hown (mvT hZ (own_w hw 58 rfl)) (mvT hZ (own_w hw 59 rfl)) (notFace_of_selects (args := #[]) (mvT hZ (own_w hw 61 rfl))) (mvT hZ (own_w hw 61 rfl)) (mvT hZ (own_w hw 60 rfl)) (by decide) (backOf (W := 0) (rm10 l Z a0 hw [] ao0 T1.heap n0 Zs F_ao0_size) hZ (own_w hw 62 rfl) (own_w hw 3 rfl) (by decide) (by decide)) q11a q11c (g := (mkF m 108 #[.val (.int p0), .val (.long q1), .second, .val (.long q2), .second, .val (.long q3), .second, .val (.long q4), .second, .val (.int wo), .val (.int 2), .val (.ref aa), .val (.ref ab), .val (.ref ai), .val (.ref ao0)] [(.ref ao0)])) rfl (by rw [hml]; rfl) (Steps.refl _) (argsL := []) (rest := []) (lenOf pd_6 rfl) rfl (by show 2 * 0 + _ ≤ _; exact Nat.le_of_eq rfl) (hb hby at_108) (fun _ _ => ⟨rfl, rfl, (by decide : 10 + 0 ≤ _), (by decide : 226 + 0 ≤ _)⟩)
    dsimp only [Pt.U, Pt.locs, Pt.cells, Pt.slots] at X11 l11 y11 z11 st11 hQ11
    subst l11 y11 z11
    obtain ⟨hv11, Nq11, eq11⟩ := hQ11
    subst hv11
    replace Nf := Fr.app Nf Nq11
    refine own_go (x' := T11.setTop (mkF m 111 #[.val (.int p0), .val (.long q1), .second, .val (.long q2), .second, .val (.long q3), .second, .val (.long q4), .second, .val (.int wo), .val (.int 2), .val (.ref aa), .val (.ref ab), .val (.ref ai), .val (.ref ao0)] [(.int 0)])) (fun _ k => st11.trans k) ?_
    refine own_go (x' := T11.setTop (mkF m 120 #[.val (.int p0), .val (.long q1), .second, .val (.long q2), .second, .val (.long q3), .second, .val (.long q4), .second, .val (.int wo), .val (.int 2), .val (.ref aa), .val (.ref ab), .val (.ref ai), .val (.ref ao0)] [(.ref aa), (.ref ao0)])) (fun _ k => XS.ifYes X11.here hx rfl (pc0 := 111) (pc' := 116) rfl (hb hby at_111) rfl ((if0 _ _).trans (teq rfl).1) (by decide) (by decide) (XS.aload X11.here hx rfl (hb hby at_116) rfl rfl (XS.aload X11.here hx rfl (hb hby at_118) rfl rfl k))) ?_
    obtain ⟨cq12, kq12, q12a, q12b, q12c⟩ := isOf hZ eq11 E_ao0
    obtain ⟨_, _, ⟨T12, L12, k12, n12⟩, -, X12, ⟨Lc12, hQ12, l12, y12, z12⟩, st12⟩ := X11.virtualBack hx (y := (⟨"com/example/moving_tokens/movingtokens/PartialChoices", "find", "([J)I"⟩ : MethodName)) (z := (⟨"com/example/moving_tokens/movingtokens/PartialChoices", "find", "([J)I"⟩ : MethodName)) hown (mvT hZ (own_w hw 63 rfl)) (mvT hZ (own_w hw 64 rfl)) (notFace_of_selects (args := #[]) (mvT hZ (own_w hw 66 rfl))) (mvT hZ (own_w hw 66 rfl)) (mvT hZ (own_w hw 65 rfl)) (by decide) (backOf (W := 0) (rm11 l Z a0 hw [] ao0 aa (2 : Int32) kaa q1 q2 q3 q4 sa1 ca ha pt ks1 kc kh kp sn1 sv1 hc hm1 hs1 T1.heap n0 Zs (by decide) E_ao0 F_ao0_width F_ao0_states F_ao0_counts F_ao0_homes F_ao0_size F_ao0_slots V_sa1 V_ca V_ha V_pt hL1 hN1 ne_ao0_sa1 ne_ao0_ca ne_ao0_ha ne_ao0_pt (Ne.symm ne_ca_sa1) (Ne.symm ne_ha_sa1) (Ne.symm ne_pt_sa1) ne_ca_ha ne_ca_pt ne_ha_pt g_ao0 g_sa1 g_ca g_ha g_pt zr1 V_aa) hZ (own_w hw 67 rfl) (own_w hw 3 rfl) (by decide) (by decide)) q12a q12c (g := (mkF m 120 #[.val (.int p0), .val (.long q1), .second, .val (.long q2), .second, .val (.long q3), .second, .val (.long q4), .second, .val (.int wo), .val (.int 2), .val (.ref aa), .val (.ref ab), .val (.ref ai), .val (.ref ao0)] [(.ref aa), (.ref ao0)])) rfl (by rw [hml]; rfl) (Steps.refl _) (argsL := [(.ref aa)]) (rest := []) (lenOf pd_3 rfl) rfl (by show 2 * 0 + _ ≤ _; exact Nat.le_of_eq rfl) (hb hby at_120) (fun _ _ => ⟨rfl, eq11, (by decide : 10 + 0 ≤ _), (by decide : 226 + 0 ≤ _)⟩)
    dsimp only [Pt.U, Pt.locs, Pt.cells, Pt.slots] at X12 l12 y12 z12 st12 hQ12
    subst l12 y12 z12
    obtain ⟨hv12, Nq12, eq12⟩ := hQ12
    subst hv12
    replace Nf := Fr.app Nf Nq12
    refine own_go (x' := T12.setTop (mkF m 123 #[.val (.int p0), .val (.long q1), .second, .val (.long q2), .second, .val (.long q3), .second, .val (.long q4), .second, .val (.int wo), .val (.int 2), .val (.ref aa), .val (.ref ab), .val (.ref ai), .val (.ref ao0)] [(.int (-1))])) (fun _ k => st12.trans k) ?_
    refine own_go (x' := T12.setTop (mkF m 133 #[.val (.int p0), .val (.long q1), .second, .val (.long q2), .second, .val (.long q3), .second, .val (.long q4), .second, .val (.int wo), .val (.int 2), .val (.ref aa), .val (.ref ab), .val (.ref ai), .val (.ref ao0)] [(.ref ab), (.ref ao0)])) (fun _ k => XS.iconst X12.here hx rfl (hb hby at_123) (XS.icmpYes X12.here hx rfl (pc0 := 124) (pc' := 129) rfl (hb hby at_124) rfl (teq rfl).1 (by decide) (by decide) (XS.aload X12.here hx rfl (hb hby at_129) rfl rfl (XS.aload X12.here hx rfl (hb hby at_131) rfl rfl k)))) ?_
    obtain ⟨cq13, kq13, q13a, q13b, q13c⟩ := isOf hZ eq12 E_ao0
    obtain ⟨_, _, ⟨T13, L13, k13, n13⟩, -, X13, ⟨Lc13, hQ13, l13, y13, z13⟩, st13⟩ := X12.virtualBack hx (y := (⟨"com/example/moving_tokens/movingtokens/PartialChoices", "entry", "([J)I"⟩ : MethodName)) (z := (⟨"com/example/moving_tokens/movingtokens/PartialChoices", "entry", "([J)I"⟩ : MethodName)) hown (mvT hZ (own_w hw 29 rfl)) (mvT hZ (own_w hw 30 rfl)) (notFace_of_selects (args := #[]) (mvT hZ (own_w hw 32 rfl))) (mvT hZ (own_w hw 32 rfl)) (mvT hZ (own_w hw 31 rfl)) (by decide) (backOf (W := 0) (rm4_0 l Z a0 hw [] ao0 ab (2 : Int32) kab q4 q3 q2 q1 sa1 ca ha pt ks1 kc kh kp sn1 sv1 hc hm1 hs1  T1.heap n0 Zs (by decide) E_ao0 F_ao0_width F_ao0_states F_ao0_counts F_ao0_homes F_ao0_size F_ao0_slots V_sa1 V_ca V_ha V_pt hL1 hN1 ne_ao0_sa1 ne_ao0_ca ne_ao0_ha ne_ao0_pt (Ne.symm ne_ca_sa1) (Ne.symm ne_ha_sa1) (Ne.symm ne_pt_sa1) ne_ca_ha ne_ca_pt ne_ha_pt g_ao0 g_sa1 g_ca g_ha g_pt  zr1 V_ab ne_ao0_ab (Ne.symm ne_ab_sa1) ne_ca_ab ne_ha_ab ne_pt_ab) hZ (own_w hw 33 rfl) (own_w hw 3 rfl) (by decide) (by decide)) q13a q13c (g := (mkF m 133 #[.val (.int p0), .val (.long q1), .second, .val (.long q2), .second, .val (.long q3), .second, .val (.long q4), .second, .val (.int wo), .val (.int 2), .val (.ref aa), .val (.ref ab), .val (.ref ai), .val (.ref ao0)] [(.ref ab), (.ref ao0)])) rfl (by rw [hml]; rfl) (Steps.refl _) (argsL := [(.ref ab)]) (rest := []) (lenOf pd_3 rfl) rfl (by show 2 * 0 + _ ≤ _; exact Nat.le_of_eq rfl) (hb hby at_133) (fun _ _ => ⟨rfl, eq12, (by decide : 10 + 0 ≤ _), (by decide : 226 + 0 ≤ _)⟩)
    dsimp only [Pt.U, Pt.locs, Pt.cells, Pt.slots] at X13 l13 y13 z13 st13 hQ13
    subst l13 y13 z13
    obtain ⟨r13, hr13, hv13, Nq13, K13, Eo13, Fo13_width, Fo13_states, Fo13_counts, Fo13_homes, Fo13_size, Fo13_slots, Vs13, Vc13, Vh13, Vp13⟩ := hQ13
    subst hv13
    replace Nf := Fr.app Nf Nq13
    replace V_aa := V_aa.keep K13 (ninS (Ne.symm ne_ao0_aa) (ninS ne_aa_sa1 (ninS (Ne.symm ne_ca_aa) (ninS (Ne.symm ne_ha_aa) (ninS (Ne.symm ne_pt_aa) nin0)))))
    replace V_ab := V_ab.keep K13 (ninS (Ne.symm ne_ao0_ab) (ninS ne_ab_sa1 (ninS (Ne.symm ne_ca_ab) (ninS (Ne.symm ne_ha_ab) (ninS (Ne.symm ne_pt_ab) nin0)))))
    replace V_ai := V_ai.keep K13 (ninS (Ne.symm ne_ao0_ai) (ninS ne_ai_sa1 (ninS (Ne.symm ne_ca_ai) (ninS (Ne.symm ne_ha_ai) (ninS (Ne.symm ne_pt_ai) nin0)))))
    replace Zs := Nat.le_trans Zs K13.1
    replace E_ao0 := Eo13
    replace F_ao0_width := Fo13_width
    replace F_ao0_states := Fo13_states
    replace F_ao0_counts := Fo13_counts
    replace F_ao0_homes := Fo13_homes
    replace F_ao0_size := Fo13_size
    replace F_ao0_slots := Fo13_slots
    replace V_sa1 := Vs13
    replace V_ca := Vc13
    replace V_ha := Vh13
    replace V_pt := Vp13
    rw [own_us2] at V_sa1
    refine own_go (x' := T13.setTop (mkF m 136 #[.val (.int p0), .val (.long q1), .second, .val (.long q2), .second, .val (.long q3), .second, .val (.long q4), .second, .val (.int wo), .val (.int 2), .val (.ref aa), .val (.ref ab), .val (.ref ai), .val (.ref ao0)] [(.int 0)])) (fun _ k => st13.trans k) ?_
    refine own_go (x' := T13.setTop (mkF m 146 #[.val (.int p0), .val (.long q1), .second, .val (.long q2), .second, .val (.long q3), .second, .val (.long q4), .second, .val (.int wo), .val (.int 2), .val (.ref aa), .val (.ref ab), .val (.ref ai), .val (.ref ao0)] [(.ref ai), (.int 0), (.ref ao0)])) (fun _ k => XS.ifYes X13.here hx rfl (pc0 := 136) (pc' := 141) rfl (hb hby at_136) rfl ((if0 _ _).trans (teq rfl).1) (by decide) (by decide) (XS.aload X13.here hx rfl (hb hby at_141) rfl rfl (XS.iconst X13.here hx rfl (hb hby at_143) (XS.aload X13.here hx rfl (hb hby at_144) rfl rfl k)))) ?_
    obtain ⟨cq14, kq14, q14a, q14b, q14c⟩ := isOf hZ rfl E_ao0
    obtain ⟨_, _, ⟨T14, L14, k14, n14⟩, -, X14, ⟨Lc14, hQ14, l14, y14, z14⟩, st14⟩ := X13.virtualBack hx (y := (⟨"com/example/moving_tokens/movingtokens/PartialChoices", "copyState", "(I[J)V"⟩ : MethodName)) (z := (⟨"com/example/moving_tokens/movingtokens/PartialChoices", "copyState", "(I[J)V"⟩ : MethodName)) hown (mvT hZ (own_w hw 68 rfl)) (mvT hZ (own_w hw 69 rfl)) (notFace_of_selects (args := #[]) (mvT hZ (own_w hw 71 rfl))) (mvT hZ (own_w hw 71 rfl)) (mvT hZ (own_w hw 70 rfl)) (by decide) (backOf (W := 0) (rm12_2 l Z a0 hw [] ao0 sa1 ai ks1 kai sn1 _ q4 q3 q2 q1 T13.heap n0 Zs F_ao0_width F_ao0_states V_sa1 V_ai hN1 ne_ao0_ai (Ne.symm ne_ai_sa1) g_ai) hZ (own_w hw 72 rfl) (own_w hw 3 rfl) (by decide) (by decide)) q14a q14c (g := (mkF m 146 #[.val (.int p0), .val (.long q1), .second, .val (.long q2), .second, .val (.long q3), .second, .val (.long q4), .second, .val (.int wo), .val (.int 2), .val (.ref aa), .val (.ref ab), .val (.ref ai), .val (.ref ao0)] [(.ref ai), (.int 0), (.ref ao0)])) rfl (by rw [hml]; rfl) (Steps.refl _) (argsL := [(.int 0), (.ref ai)]) (rest := []) (lenOf pd_7 rfl) rfl (by show 2 * 0 + _ ≤ _; exact Nat.le_of_eq rfl) (hb hby at_146) (fun _ _ => ⟨rfl, rfl, (by decide : 10 + 0 ≤ _), (by decide : 226 + 0 ≤ _)⟩)
    dsimp only [Pt.U, Pt.locs, Pt.cells, Pt.slots] at X14 l14 y14 z14 st14 hQ14
    subst l14 y14 z14
    obtain ⟨hv14, Nq14, K14, Vi14⟩ := hQ14
    subst hv14
    replace Nf := Fr.app Nf Nq14
    replace V_aa := V_aa.keep K14 (ninS ne_aa_ai nin0)
    replace V_ab := V_ab.keep K14 (ninS ne_ab_ai nin0)
    replace E_ao0 := E_ao0.keep K14
    replace F_ao0_width := F_ao0_width.keep K14 (ninS ne_ao0_ai nin0)
    replace F_ao0_states := F_ao0_states.keep K14 (ninS ne_ao0_ai nin0)
    replace F_ao0_counts := F_ao0_counts.keep K14 (ninS ne_ao0_ai nin0)
    replace F_ao0_homes := F_ao0_homes.keep K14 (ninS ne_ao0_ai nin0)
    replace F_ao0_size := F_ao0_size.keep K14 (ninS ne_ao0_ai nin0)
    replace F_ao0_slots := F_ao0_slots.keep K14 (ninS ne_ao0_ai nin0)
    replace V_sa1 := V_sa1.keep K14 (ninS (Ne.symm ne_ai_sa1) nin0)
    replace V_ca := V_ca.keep K14 (ninS ne_ca_ai nin0)
    replace V_ha := V_ha.keep K14 (ninS ne_ha_ai nin0)
    replace V_pt := V_pt.keep K14 (ninS ne_pt_ai nin0)
    replace Zs := Nat.le_trans Zs K14.1
    replace V_ai := Vi14
    refine own_go (x' := T14.setTop (mkF m 149 #[.val (.int p0), .val (.long q1), .second, .val (.long q2), .second, .val (.long q3), .second, .val (.long q4), .second, .val (.int wo), .val (.int 2), .val (.ref aa), .val (.ref ab), .val (.ref ai), .val (.ref ao0)] [])) (fun _ k => st14.trans k) ?_
    refine own_go (x' := T14.setTop (mkF m 152 #[.val (.int p0), .val (.long q1), .second, .val (.long q2), .second, .val (.long q3), .second, .val (.long q4), .second, .val (.int wo), .val (.int 2), .val (.ref aa), .val (.ref ab), .val (.ref ai), .val (.ref ao0)] [(.int 0), (.ref ai)])) (fun _ k => XS.aload X14.here hx rfl (hb hby at_149) rfl rfl (XS.iconst X14.here hx rfl (hb hby at_151) k)) ?_
    obtain ⟨cl15, Ar15, q15, Sz15, Nn15, Hh15, Gg15⟩ := id V_ai
    have hin15 : ¬ ((0 : Int32) < 0 ∨ cl15.slots.size ≤ ((0 : Int32)).toNatClampNeg) := inb_of Sz15 ⟨by decide, by decide⟩
    refine own_go (x' := T14.setTop (mkF m 153 #[.val (.int p0), .val (.long q1), .second, .val (.long q2), .second, .val (.long q3), .second, .val (.long q4), .second, .val (.int wo), .val (.int 2), .val (.ref aa), .val (.ref ab), .val (.ref ai), .val (.ref ao0)] [(.long q4)])) (X14.laload hx (j := (0 : Int32)) (v := (.long q4)) (Eq.trans (congrArg (fun h_ => h_[_]?) rfl) Ar15.1) (State.isArrayOf_alike hZ.alike Ar15.2.1) Ar15.2.2 hin15 (Hh15.at hin15 rfl) (g := (mkF m 152 #[.val (.int p0), .val (.long q1), .second, .val (.long q2), .second, .val (.long q3), .second, .val (.long q4), .second, .val (.int wo), .val (.int 2), .val (.ref aa), .val (.ref ab), .val (.ref ai), .val (.ref ao0)] [(.int 0), (.ref ai)])) rfl rfl (hb hby at_152)) ?_
    refine own_go (x' := T14.setTop (mkF m 156 #[.val (.int p0), .val (.long q1), .second, .val (.long q2), .second, .val (.long q3), .second, .val (.long q4), .second, .val (.int wo), .val (.int 2), .val (.ref aa), .val (.ref ab), .val (.ref ai), .val (.ref ao0)] [(.int 0), (.ref ab), (.long q4)])) (fun _ k => XS.aload X14.here hx rfl (hb hby at_153) rfl rfl (XS.iconst X14.here hx rfl (hb hby at_155) k)) ?_
    obtain ⟨cl16, Ar16, q16, Sz16, Nn16, Hh16, Gg16⟩ := id V_ab
    have hin16 : ¬ ((0 : Int32) < 0 ∨ cl16.slots.size ≤ ((0 : Int32)).toNatClampNeg) := inb_of Sz16 ⟨by decide, by decide⟩
    refine own_go (x' := T14.setTop (mkF m 157 #[.val (.int p0), .val (.long q1), .second, .val (.long q2), .second, .val (.long q3), .second, .val (.long q4), .second, .val (.int wo), .val (.int 2), .val (.ref aa), .val (.ref ab), .val (.ref ai), .val (.ref ao0)] [(.long q4), (.long q4)])) (X14.laload hx (j := (0 : Int32)) (v := (.long q4)) (Eq.trans (congrArg (fun h_ => h_[_]?) rfl) Ar16.1) (State.isArrayOf_alike hZ.alike Ar16.2.1) Ar16.2.2 hin16 (Hh16.at hin16 rfl) (g := (mkF m 156 #[.val (.int p0), .val (.long q1), .second, .val (.long q2), .second, .val (.long q3), .second, .val (.long q4), .second, .val (.int wo), .val (.int 2), .val (.ref aa), .val (.ref ab), .val (.ref ai), .val (.ref ao0)] [(.int 0), (.ref ab), (.long q4)])) rfl rfl (hb hby at_156)) ?_
    refine own_go (x' := T14.setTop (mkF m 164 #[.val (.int p0), .val (.long q1), .second, .val (.long q2), .second, .val (.long q3), .second, .val (.long q4), .second, .val (.int wo), .val (.int 2), .val (.ref aa), .val (.ref ab), .val (.ref ai), .val (.ref ao0)] [(.int 1), (.ref ai)])) (fun _ k => XS.lcmp X14.here hx rfl (hb hby at_157) rfl (XS.ifNo X14.here hx rfl (hb hby at_158) rfl ((if0 _ _).trans (teq ((lw_eq q4 q4).mpr rfl)).2) (XS.aload X14.here hx rfl (hb hby at_161) rfl rfl (XS.iconst X14.here hx rfl (hb hby at_163) k)))) ?_
    obtain ⟨cl17, Ar17, q17, Sz17, Nn17, Hh17, Gg17⟩ := id V_ai
    have hin17 : ¬ ((1 : Int32) < 0 ∨ cl17.slots.size ≤ ((1 : Int32)).toNatClampNeg) := inb_of Sz17 ⟨by decide, by decide⟩
    refine own_go (x' := T14.setTop (mkF m 165 #[.val (.int p0), .val (.long q1), .second, .val (.long q2), .second, .val (.long q3), .second, .val (.long q4), .second, .val (.int wo), .val (.int 2), .val (.ref aa), .val (.ref ab), .val (.ref ai), .val (.ref ao0)] [(.long q3)])) (X14.laload hx (j := (1 : Int32)) (v := (.long q3)) (Eq.trans (congrArg (fun h_ => h_[_]?) rfl) Ar17.1) (State.isArrayOf_alike hZ.alike Ar17.2.1) Ar17.2.2 hin17 (Hh17.at hin17 rfl) (g := (mkF m 164 #[.val (.int p0), .val (.long q1), .second, .val (.long q2), .second, .val (.long q3), .second, .val (.long q4), .second, .val (.int wo), .val (.int 2), .val (.ref aa), .val (.ref ab), .val (.ref ai), .val (.ref ao0)] [(.int 1), (.ref ai)])) rfl rfl (hb hby at_164)) ?_
    refine own_go (x' := T14.setTop (mkF m 174 #[.val (.int p0), .val (.long q1), .second, .val (.long q2), .second, .val (.long q3), .second, .val (.long q4), .second, .val (.int wo), .val (.int 2), .val (.ref aa), .val (.ref ab), .val (.ref ai), .val (.ref ao0)] [(.int 1), (.ref ab), (.long q3)])) (fun _ k => XS.iload X14.here hx rfl (hb hby at_165) rfl (XS.iconst X14.here hx rfl (hb hby at_167) (XS.icmpNo X14.here hx rfl (hb hby at_168) rfl (tlt (by decide +kernel : ((1 : Int32) < (2 : Int32)))).2.2.2 (XS.aload X14.here hx rfl (hb hby at_171) rfl rfl (XS.iconst X14.here hx rfl (hb hby at_173) k))))) ?_
    obtain ⟨cl18, Ar18, q18, Sz18, Nn18, Hh18, Gg18⟩ := id V_ab
    have hin18 : ¬ ((1 : Int32) < 0 ∨ cl18.slots.size ≤ ((1 : Int32)).toNatClampNeg) := inb_of Sz18 ⟨by decide, by decide⟩
    refine own_go (x' := T14.setTop (mkF m 175 #[.val (.int p0), .val (.long q1), .second, .val (.long q2), .second, .val (.long q3), .second, .val (.long q4), .second, .val (.int wo), .val (.int 2), .val (.ref aa), .val (.ref ab), .val (.ref ai), .val (.ref ao0)] [(.long q3), (.long q3)])) (X14.laload hx (j := (1 : Int32)) (v := (.long q3)) (Eq.trans (congrArg (fun h_ => h_[_]?) rfl) Ar18.1) (State.isArrayOf_alike hZ.alike Ar18.2.1) Ar18.2.2 hin18 (Hh18.at hin18 rfl) (g := (mkF m 174 #[.val (.int p0), .val (.long q1), .second, .val (.long q2), .second, .val (.long q3), .second, .val (.long q4), .second, .val (.int wo), .val (.int 2), .val (.ref aa), .val (.ref ab), .val (.ref ai), .val (.ref ao0)] [(.int 1), (.ref ab), (.long q3)])) rfl rfl (hb hby at_174)) ?_
    refine own_go (x' := T14.setTop (mkF m 186 #[.val (.int p0), .val (.long q1), .second, .val (.long q2), .second, .val (.long q3), .second, .val (.long q4), .second, .val (.int wo), .val (.int 2), .val (.ref aa), .val (.ref ab), .val (.ref ai), .val (.ref ao0)] [(.int 2), (.ref ai)])) (fun _ k => XS.goto X14.here hx rfl (pc0 := 175) (pc' := 179) rfl (hb hby at_175) (by decide) (by decide) (XS.lcmp X14.here hx rfl (hb hby at_179) rfl (XS.ifNo X14.here hx rfl (hb hby at_180) rfl ((if0 _ _).trans (teq ((lw_eq q3 q3).mpr rfl)).2) (XS.aload X14.here hx rfl (hb hby at_183) rfl rfl (XS.iconst X14.here hx rfl (hb hby at_185) k))))) ?_
    obtain ⟨cl19, Ar19, q19, Sz19, Nn19, Hh19, Gg19⟩ := id V_ai
    have hin19 : ¬ ((2 : Int32) < 0 ∨ cl19.slots.size ≤ ((2 : Int32)).toNatClampNeg) := inb_of Sz19 ⟨by decide, by decide⟩
    refine own_go (x' := T14.setTop (mkF m 187 #[.val (.int p0), .val (.long q1), .second, .val (.long q2), .second, .val (.long q3), .second, .val (.long q4), .second, .val (.int wo), .val (.int 2), .val (.ref aa), .val (.ref ab), .val (.ref ai), .val (.ref ao0)] [(.long 0)])) (X14.laload hx (j := (2 : Int32)) (v := (.long 0)) (Eq.trans (congrArg (fun h_ => h_[_]?) rfl) Ar19.1) (State.isArrayOf_alike hZ.alike Ar19.2.1) Ar19.2.2 hin19 (Hh19.at hin19 rfl) (g := (mkF m 186 #[.val (.int p0), .val (.long q1), .second, .val (.long q2), .second, .val (.long q3), .second, .val (.long q4), .second, .val (.int wo), .val (.int 2), .val (.ref aa), .val (.ref ab), .val (.ref ai), .val (.ref ao0)] [(.int 2), (.ref ai)])) rfl rfl (hb hby at_186)) ?_
    refine own_go (x' := T14.setTop (mkF m 205 #[.val (.int p0), .val (.long q1), .second, .val (.long q2), .second, .val (.long q3), .second, .val (.long q4), .second, .val (.int wo), .val (.int 2), .val (.ref aa), .val (.ref ab), .val (.ref ai), .val (.ref ao0)] [])) (fun _ k => XS.iload X14.here hx rfl (hb hby at_187) rfl (XS.iconst X14.here hx rfl (hb hby at_189) (XS.icmpYes X14.here hx rfl (pc0 := 190) (pc' := 200) rfl (hb hby at_190) rfl (flt (Int32.lt_irrefl)).2.2.2 (by decide) (by decide) (XS.lconst X14.here hx rfl (hb hby at_200) (XS.lcmp X14.here hx rfl (hb hby at_201) rfl (XS.ifNo X14.here hx rfl (hb hby at_202) rfl ((if0 _ _).trans (teq ((lw_eq (0 : Int64) (0 : Int64)).mpr rfl)).2) k)))))) ?_
    refine own_go (x' := T14.setTop (mkF m 208 #[.val (.int p0), .val (.long q1), .second, .val (.long q2), .second, .val (.long q3), .second, .val (.long q4), .second, .val (.int wo), .val (.int 2), .val (.ref aa), .val (.ref ab), .val (.ref ai), .val (.ref ao0)] [(.int 3), (.ref ai)])) (fun _ k => XS.aload X14.here hx rfl (hb hby at_205) rfl rfl (XS.iconst X14.here hx rfl (hb hby at_207) k)) ?_
    obtain ⟨cl20, Ar20, q20, Sz20, Nn20, Hh20, Gg20⟩ := id V_ai
    have hin20 : ¬ ((3 : Int32) < 0 ∨ cl20.slots.size ≤ ((3 : Int32)).toNatClampNeg) := inb_of Sz20 ⟨by decide, by decide⟩
    refine own_go (x' := T14.setTop (mkF m 209 #[.val (.int p0), .val (.long q1), .second, .val (.long q2), .second, .val (.long q3), .second, .val (.long q4), .second, .val (.int wo), .val (.int 2), .val (.ref aa), .val (.ref ab), .val (.ref ai), .val (.ref ao0)] [(.long 0)])) (X14.laload hx (j := (3 : Int32)) (v := (.long 0)) (Eq.trans (congrArg (fun h_ => h_[_]?) rfl) Ar20.1) (State.isArrayOf_alike hZ.alike Ar20.2.1) Ar20.2.2 hin20 (Hh20.at hin20 rfl) (g := (mkF m 208 #[.val (.int p0), .val (.long q1), .second, .val (.long q2), .second, .val (.long q3), .second, .val (.long q4), .second, .val (.int wo), .val (.int 2), .val (.ref aa), .val (.ref ab), .val (.ref ai), .val (.ref ao0)] [(.int 3), (.ref ai)])) rfl rfl (hb hby at_208)) ?_
    refine own_go (x' := T14.setTop (mkF m 227 #[.val (.int p0), .val (.long q1), .second, .val (.long q2), .second, .val (.long q3), .second, .val (.long q4), .second, .val (.int wo), .val (.int 2), .val (.ref aa), .val (.ref ab), .val (.ref ai), .val (.ref ao0)] [])) (fun _ k => XS.iload X14.here hx rfl (hb hby at_209) rfl (XS.iconst X14.here hx rfl (hb hby at_211) (XS.icmpYes X14.here hx rfl (pc0 := 212) (pc' := 222) rfl (hb hby at_212) rfl (flt (by decide +kernel : ¬ ((3 : Int32) < (2 : Int32)))).2.2.2 (by decide) (by decide) (XS.lconst X14.here hx rfl (hb hby at_222) (XS.lcmp X14.here hx rfl (hb hby at_223) rfl (XS.ifNo X14.here hx rfl (hb hby at_224) rfl ((if0 _ _).trans (teq ((lw_eq (0 : Int64) (0 : Int64)).mpr rfl)).2) k)))))) ?_
    refine own_go (x' := T14.setTop (mkF m 232 #[.val (.int p0), .val (.long q1), .second, .val (.long q2), .second, .val (.long q3), .second, .val (.long q4), .second, .val (.int wo), .val (.int 2), .val (.ref aa), .val (.ref ab), .val (.ref ai), .val (.ref ao0)] [(.int 1)])) (fun _ k => XS.iconst X14.here hx rfl (hb hby at_227) (XS.goto X14.here hx rfl (pc0 := 228) (pc' := 232) rfl (hb hby at_228) (by decide) (by decide) k)) ?_
    refine own_retN X14 hx hlk (t := .boolean) hret (by simp) (hb hby at_232) (w := (1 : Int32)) rfl ?_ (by decide) (by decide)
    exact ⟨rfl, Nf⟩
  · refine own_go (x' := T1.setTop (mkF m 108 #[.val (.int p0), .val (.long q1), .second, .val (.long q2), .second, .val (.long q3), .second, .val (.long q4), .second, .val (.int wo), .val (.int 3), .val (.ref aa), .val (.ref ab), .val (.ref ai), .val (.ref ao0)] [(.ref ao0)])) (fun _ k => XS.aload X1.here hx rfl (hb hby at_106) rfl rfl k) ?_
    obtain ⟨cq21, kq21, q21a, q21b, q21c⟩ := isOf hZ rfl E_ao0
    obtain ⟨_, _, ⟨T21, L21, k21, n21⟩, -, X21, ⟨Lc21, hQ21, l21, y21, z21⟩, st21⟩ := X1.virtualBack hx (y := (⟨"com/example/moving_tokens/movingtokens/PartialChoices", "size", "()I"⟩ : MethodName)) (z := (⟨"com/example/moving_tokens/movingtokens/PartialChoices", "size", "()I"⟩ : MethodName)) hown (mvT hZ (own_w hw 58 rfl)) (mvT hZ (own_w hw 59 rfl)) (notFace_of_selects (args := #[]) (mvT hZ (own_w hw 61 rfl))) (mvT hZ (own_w hw 61 rfl)) (mvT hZ (own_w hw 60 rfl)) (by decide) (backOf (W := 0) (rm10 l Z a0 hw [] ao0 T1.heap n0 Zs F_ao0_size) hZ (own_w hw 62 rfl) (own_w hw 3 rfl) (by decide) (by decide)) q21a q21c (g := (mkF m 108 #[.val (.int p0), .val (.long q1), .second, .val (.long q2), .second, .val (.long q3), .second, .val (.long q4), .second, .val (.int wo), .val (.int 3), .val (.ref aa), .val (.ref ab), .val (.ref ai), .val (.ref ao0)] [(.ref ao0)])) rfl (by rw [hml]; rfl) (Steps.refl _) (argsL := []) (rest := []) (lenOf pd_6 rfl) rfl (by show 2 * 0 + _ ≤ _; exact Nat.le_of_eq rfl) (hb hby at_108) (fun _ _ => ⟨rfl, rfl, (by decide : 10 + 0 ≤ _), (by decide : 226 + 0 ≤ _)⟩)
    dsimp only [Pt.U, Pt.locs, Pt.cells, Pt.slots] at X21 l21 y21 z21 st21 hQ21
    subst l21 y21 z21
    obtain ⟨hv21, Nq21, eq21⟩ := hQ21
    subst hv21
    replace Nf := Fr.app Nf Nq21
    refine own_go (x' := T21.setTop (mkF m 111 #[.val (.int p0), .val (.long q1), .second, .val (.long q2), .second, .val (.long q3), .second, .val (.long q4), .second, .val (.int wo), .val (.int 3), .val (.ref aa), .val (.ref ab), .val (.ref ai), .val (.ref ao0)] [(.int 0)])) (fun _ k => st21.trans k) ?_
    refine own_go (x' := T21.setTop (mkF m 120 #[.val (.int p0), .val (.long q1), .second, .val (.long q2), .second, .val (.long q3), .second, .val (.long q4), .second, .val (.int wo), .val (.int 3), .val (.ref aa), .val (.ref ab), .val (.ref ai), .val (.ref ao0)] [(.ref aa), (.ref ao0)])) (fun _ k => XS.ifYes X21.here hx rfl (pc0 := 111) (pc' := 116) rfl (hb hby at_111) rfl ((if0 _ _).trans (teq rfl).1) (by decide) (by decide) (XS.aload X21.here hx rfl (hb hby at_116) rfl rfl (XS.aload X21.here hx rfl (hb hby at_118) rfl rfl k))) ?_
    obtain ⟨cq22, kq22, q22a, q22b, q22c⟩ := isOf hZ eq21 E_ao0
    obtain ⟨_, _, ⟨T22, L22, k22, n22⟩, -, X22, ⟨Lc22, hQ22, l22, y22, z22⟩, st22⟩ := X21.virtualBack hx (y := (⟨"com/example/moving_tokens/movingtokens/PartialChoices", "find", "([J)I"⟩ : MethodName)) (z := (⟨"com/example/moving_tokens/movingtokens/PartialChoices", "find", "([J)I"⟩ : MethodName)) hown (mvT hZ (own_w hw 63 rfl)) (mvT hZ (own_w hw 64 rfl)) (notFace_of_selects (args := #[]) (mvT hZ (own_w hw 66 rfl))) (mvT hZ (own_w hw 66 rfl)) (mvT hZ (own_w hw 65 rfl)) (by decide) (backOf (W := 0) (rm11 l Z a0 hw [] ao0 aa (3 : Int32) kaa q1 q2 q3 q4 sa1 ca ha pt ks1 kc kh kp sn1 sv1 hc hm1 hs1 T1.heap n0 Zs (by decide) E_ao0 F_ao0_width F_ao0_states F_ao0_counts F_ao0_homes F_ao0_size F_ao0_slots V_sa1 V_ca V_ha V_pt hL1 hN1 ne_ao0_sa1 ne_ao0_ca ne_ao0_ha ne_ao0_pt (Ne.symm ne_ca_sa1) (Ne.symm ne_ha_sa1) (Ne.symm ne_pt_sa1) ne_ca_ha ne_ca_pt ne_ha_pt g_ao0 g_sa1 g_ca g_ha g_pt zr1 V_aa) hZ (own_w hw 67 rfl) (own_w hw 3 rfl) (by decide) (by decide)) q22a q22c (g := (mkF m 120 #[.val (.int p0), .val (.long q1), .second, .val (.long q2), .second, .val (.long q3), .second, .val (.long q4), .second, .val (.int wo), .val (.int 3), .val (.ref aa), .val (.ref ab), .val (.ref ai), .val (.ref ao0)] [(.ref aa), (.ref ao0)])) rfl (by rw [hml]; rfl) (Steps.refl _) (argsL := [(.ref aa)]) (rest := []) (lenOf pd_3 rfl) rfl (by show 2 * 0 + _ ≤ _; exact Nat.le_of_eq rfl) (hb hby at_120) (fun _ _ => ⟨rfl, eq21, (by decide : 10 + 0 ≤ _), (by decide : 226 + 0 ≤ _)⟩)
    dsimp only [Pt.U, Pt.locs, Pt.cells, Pt.slots] at X22 l22 y22 z22 st22 hQ22
    subst l22 y22 z22
    obtain ⟨hv22, Nq22, eq22⟩ := hQ22
    subst hv22
    replace Nf := Fr.app Nf Nq22
    refine own_go (x' := T22.setTop (mkF m 123 #[.val (.int p0), .val (.long q1), .second, .val (.long q2), .second, .val (.long q3), .second, .val (.long q4), .second, .val (.int wo), .val (.int 3), .val (.ref aa), .val (.ref ab), .val (.ref ai), .val (.ref ao0)] [(.int (-1))])) (fun _ k => st22.trans k) ?_
    refine own_go (x' := T22.setTop (mkF m 133 #[.val (.int p0), .val (.long q1), .second, .val (.long q2), .second, .val (.long q3), .second, .val (.long q4), .second, .val (.int wo), .val (.int 3), .val (.ref aa), .val (.ref ab), .val (.ref ai), .val (.ref ao0)] [(.ref ab), (.ref ao0)])) (fun _ k => XS.iconst X22.here hx rfl (hb hby at_123) (XS.icmpYes X22.here hx rfl (pc0 := 124) (pc' := 129) rfl (hb hby at_124) rfl (teq rfl).1 (by decide) (by decide) (XS.aload X22.here hx rfl (hb hby at_129) rfl rfl (XS.aload X22.here hx rfl (hb hby at_131) rfl rfl k)))) ?_
    obtain ⟨cq23, kq23, q23a, q23b, q23c⟩ := isOf hZ eq22 E_ao0
    obtain ⟨_, _, ⟨T23, L23, k23, n23⟩, -, X23, ⟨Lc23, hQ23, l23, y23, z23⟩, st23⟩ := X22.virtualBack hx (y := (⟨"com/example/moving_tokens/movingtokens/PartialChoices", "entry", "([J)I"⟩ : MethodName)) (z := (⟨"com/example/moving_tokens/movingtokens/PartialChoices", "entry", "([J)I"⟩ : MethodName)) hown (mvT hZ (own_w hw 29 rfl)) (mvT hZ (own_w hw 30 rfl)) (notFace_of_selects (args := #[]) (mvT hZ (own_w hw 32 rfl))) (mvT hZ (own_w hw 32 rfl)) (mvT hZ (own_w hw 31 rfl)) (by decide) (backOf (W := 0) (rm4_0 l Z a0 hw [] ao0 ab (3 : Int32) kab q4 q3 q2 q1 sa1 ca ha pt ks1 kc kh kp sn1 sv1 hc hm1 hs1  T1.heap n0 Zs (by decide) E_ao0 F_ao0_width F_ao0_states F_ao0_counts F_ao0_homes F_ao0_size F_ao0_slots V_sa1 V_ca V_ha V_pt hL1 hN1 ne_ao0_sa1 ne_ao0_ca ne_ao0_ha ne_ao0_pt (Ne.symm ne_ca_sa1) (Ne.symm ne_ha_sa1) (Ne.symm ne_pt_sa1) ne_ca_ha ne_ca_pt ne_ha_pt g_ao0 g_sa1 g_ca g_ha g_pt  zr1 V_ab ne_ao0_ab (Ne.symm ne_ab_sa1) ne_ca_ab ne_ha_ab ne_pt_ab) hZ (own_w hw 33 rfl) (own_w hw 3 rfl) (by decide) (by decide)) q23a q23c (g := (mkF m 133 #[.val (.int p0), .val (.long q1), .second, .val (.long q2), .second, .val (.long q3), .second, .val (.long q4), .second, .val (.int wo), .val (.int 3), .val (.ref aa), .val (.ref ab), .val (.ref ai), .val (.ref ao0)] [(.ref ab), (.ref ao0)])) rfl (by rw [hml]; rfl) (Steps.refl _) (argsL := [(.ref ab)]) (rest := []) (lenOf pd_3 rfl) rfl (by show 2 * 0 + _ ≤ _; exact Nat.le_of_eq rfl) (hb hby at_133) (fun _ _ => ⟨rfl, eq22, (by decide : 10 + 0 ≤ _), (by decide : 226 + 0 ≤ _)⟩)
    dsimp only [Pt.U, Pt.locs, Pt.cells, Pt.slots] at X23 l23 y23 z23 st23 hQ23
    subst l23 y23 z23
    obtain ⟨r23, hr23, hv23, Nq23, K23, Eo23, Fo23_width, Fo23_states, Fo23_counts, Fo23_homes, Fo23_size, Fo23_slots, Vs23, Vc23, Vh23, Vp23⟩ := hQ23
    subst hv23
    replace Nf := Fr.app Nf Nq23
    replace V_aa := V_aa.keep K23 (ninS (Ne.symm ne_ao0_aa) (ninS ne_aa_sa1 (ninS (Ne.symm ne_ca_aa) (ninS (Ne.symm ne_ha_aa) (ninS (Ne.symm ne_pt_aa) nin0)))))
    replace V_ab := V_ab.keep K23 (ninS (Ne.symm ne_ao0_ab) (ninS ne_ab_sa1 (ninS (Ne.symm ne_ca_ab) (ninS (Ne.symm ne_ha_ab) (ninS (Ne.symm ne_pt_ab) nin0)))))
    replace V_ai := V_ai.keep K23 (ninS (Ne.symm ne_ao0_ai) (ninS ne_ai_sa1 (ninS (Ne.symm ne_ca_ai) (ninS (Ne.symm ne_ha_ai) (ninS (Ne.symm ne_pt_ai) nin0)))))
    replace Zs := Nat.le_trans Zs K23.1
    replace E_ao0 := Eo23
    replace F_ao0_width := Fo23_width
    replace F_ao0_states := Fo23_states
    replace F_ao0_counts := Fo23_counts
    replace F_ao0_homes := Fo23_homes
    replace F_ao0_size := Fo23_size
    replace F_ao0_slots := Fo23_slots
    replace V_sa1 := Vs23
    replace V_ca := Vc23
    replace V_ha := Vh23
    replace V_pt := Vp23
    rw [own_us3] at V_sa1
    refine own_go (x' := T23.setTop (mkF m 136 #[.val (.int p0), .val (.long q1), .second, .val (.long q2), .second, .val (.long q3), .second, .val (.long q4), .second, .val (.int wo), .val (.int 3), .val (.ref aa), .val (.ref ab), .val (.ref ai), .val (.ref ao0)] [(.int 0)])) (fun _ k => st23.trans k) ?_
    refine own_go (x' := T23.setTop (mkF m 146 #[.val (.int p0), .val (.long q1), .second, .val (.long q2), .second, .val (.long q3), .second, .val (.long q4), .second, .val (.int wo), .val (.int 3), .val (.ref aa), .val (.ref ab), .val (.ref ai), .val (.ref ao0)] [(.ref ai), (.int 0), (.ref ao0)])) (fun _ k => XS.ifYes X23.here hx rfl (pc0 := 136) (pc' := 141) rfl (hb hby at_136) rfl ((if0 _ _).trans (teq rfl).1) (by decide) (by decide) (XS.aload X23.here hx rfl (hb hby at_141) rfl rfl (XS.iconst X23.here hx rfl (hb hby at_143) (XS.aload X23.here hx rfl (hb hby at_144) rfl rfl k)))) ?_
    obtain ⟨cq24, kq24, q24a, q24b, q24c⟩ := isOf hZ rfl E_ao0
    obtain ⟨_, _, ⟨T24, L24, k24, n24⟩, -, X24, ⟨Lc24, hQ24, l24, y24, z24⟩, st24⟩ := X23.virtualBack hx (y := (⟨"com/example/moving_tokens/movingtokens/PartialChoices", "copyState", "(I[J)V"⟩ : MethodName)) (z := (⟨"com/example/moving_tokens/movingtokens/PartialChoices", "copyState", "(I[J)V"⟩ : MethodName)) hown (mvT hZ (own_w hw 68 rfl)) (mvT hZ (own_w hw 69 rfl)) (notFace_of_selects (args := #[]) (mvT hZ (own_w hw 71 rfl))) (mvT hZ (own_w hw 71 rfl)) (mvT hZ (own_w hw 70 rfl)) (by decide) (backOf (W := 0) (rm12_3 l Z a0 hw [] ao0 sa1 ai ks1 kai sn1 _ q4 q3 q2 q1 T23.heap n0 Zs F_ao0_width F_ao0_states V_sa1 V_ai hN1 ne_ao0_ai (Ne.symm ne_ai_sa1) g_ai) hZ (own_w hw 72 rfl) (own_w hw 3 rfl) (by decide) (by decide)) q24a q24c (g := (mkF m 146 #[.val (.int p0), .val (.long q1), .second, .val (.long q2), .second, .val (.long q3), .second, .val (.long q4), .second, .val (.int wo), .val (.int 3), .val (.ref aa), .val (.ref ab), .val (.ref ai), .val (.ref ao0)] [(.ref ai), (.int 0), (.ref ao0)])) rfl (by rw [hml]; rfl) (Steps.refl _) (argsL := [(.int 0), (.ref ai)]) (rest := []) (lenOf pd_7 rfl) rfl (by show 2 * 0 + _ ≤ _; exact Nat.le_of_eq rfl) (hb hby at_146) (fun _ _ => ⟨rfl, rfl, (by decide : 10 + 0 ≤ _), (by decide : 226 + 0 ≤ _)⟩)
    dsimp only [Pt.U, Pt.locs, Pt.cells, Pt.slots] at X24 l24 y24 z24 st24 hQ24
    subst l24 y24 z24
    obtain ⟨hv24, Nq24, K24, Vi24⟩ := hQ24
    subst hv24
    replace Nf := Fr.app Nf Nq24
    replace V_aa := V_aa.keep K24 (ninS ne_aa_ai nin0)
    replace V_ab := V_ab.keep K24 (ninS ne_ab_ai nin0)
    replace E_ao0 := E_ao0.keep K24
    replace F_ao0_width := F_ao0_width.keep K24 (ninS ne_ao0_ai nin0)
    replace F_ao0_states := F_ao0_states.keep K24 (ninS ne_ao0_ai nin0)
    replace F_ao0_counts := F_ao0_counts.keep K24 (ninS ne_ao0_ai nin0)
    replace F_ao0_homes := F_ao0_homes.keep K24 (ninS ne_ao0_ai nin0)
    replace F_ao0_size := F_ao0_size.keep K24 (ninS ne_ao0_ai nin0)
    replace F_ao0_slots := F_ao0_slots.keep K24 (ninS ne_ao0_ai nin0)
    replace V_sa1 := V_sa1.keep K24 (ninS (Ne.symm ne_ai_sa1) nin0)
    replace V_ca := V_ca.keep K24 (ninS ne_ca_ai nin0)
    replace V_ha := V_ha.keep K24 (ninS ne_ha_ai nin0)
    replace V_pt := V_pt.keep K24 (ninS ne_pt_ai nin0)
    replace Zs := Nat.le_trans Zs K24.1
    replace V_ai := Vi24
    refine own_go (x' := T24.setTop (mkF m 149 #[.val (.int p0), .val (.long q1), .second, .val (.long q2), .second, .val (.long q3), .second, .val (.long q4), .second, .val (.int wo), .val (.int 3), .val (.ref aa), .val (.ref ab), .val (.ref ai), .val (.ref ao0)] [])) (fun _ k => st24.trans k) ?_
    refine own_go (x' := T24.setTop (mkF m 152 #[.val (.int p0), .val (.long q1), .second, .val (.long q2), .second, .val (.long q3), .second, .val (.long q4), .second, .val (.int wo), .val (.int 3), .val (.ref aa), .val (.ref ab), .val (.ref ai), .val (.ref ao0)] [(.int 0), (.ref ai)])) (fun _ k => XS.aload X24.here hx rfl (hb hby at_149) rfl rfl (XS.iconst X24.here hx rfl (hb hby at_151) k)) ?_
    obtain ⟨cl25, Ar25, q25, Sz25, Nn25, Hh25, Gg25⟩ := id V_ai
    have hin25 : ¬ ((0 : Int32) < 0 ∨ cl25.slots.size ≤ ((0 : Int32)).toNatClampNeg) := inb_of Sz25 ⟨by decide, by decide⟩
    refine own_go (x' := T24.setTop (mkF m 153 #[.val (.int p0), .val (.long q1), .second, .val (.long q2), .second, .val (.long q3), .second, .val (.long q4), .second, .val (.int wo), .val (.int 3), .val (.ref aa), .val (.ref ab), .val (.ref ai), .val (.ref ao0)] [(.long q4)])) (X24.laload hx (j := (0 : Int32)) (v := (.long q4)) (Eq.trans (congrArg (fun h_ => h_[_]?) rfl) Ar25.1) (State.isArrayOf_alike hZ.alike Ar25.2.1) Ar25.2.2 hin25 (Hh25.at hin25 rfl) (g := (mkF m 152 #[.val (.int p0), .val (.long q1), .second, .val (.long q2), .second, .val (.long q3), .second, .val (.long q4), .second, .val (.int wo), .val (.int 3), .val (.ref aa), .val (.ref ab), .val (.ref ai), .val (.ref ao0)] [(.int 0), (.ref ai)])) rfl rfl (hb hby at_152)) ?_
    refine own_go (x' := T24.setTop (mkF m 156 #[.val (.int p0), .val (.long q1), .second, .val (.long q2), .second, .val (.long q3), .second, .val (.long q4), .second, .val (.int wo), .val (.int 3), .val (.ref aa), .val (.ref ab), .val (.ref ai), .val (.ref ao0)] [(.int 0), (.ref ab), (.long q4)])) (fun _ k => XS.aload X24.here hx rfl (hb hby at_153) rfl rfl (XS.iconst X24.here hx rfl (hb hby at_155) k)) ?_
    obtain ⟨cl26, Ar26, q26, Sz26, Nn26, Hh26, Gg26⟩ := id V_ab
    have hin26 : ¬ ((0 : Int32) < 0 ∨ cl26.slots.size ≤ ((0 : Int32)).toNatClampNeg) := inb_of Sz26 ⟨by decide, by decide⟩
    refine own_go (x' := T24.setTop (mkF m 157 #[.val (.int p0), .val (.long q1), .second, .val (.long q2), .second, .val (.long q3), .second, .val (.long q4), .second, .val (.int wo), .val (.int 3), .val (.ref aa), .val (.ref ab), .val (.ref ai), .val (.ref ao0)] [(.long q4), (.long q4)])) (X24.laload hx (j := (0 : Int32)) (v := (.long q4)) (Eq.trans (congrArg (fun h_ => h_[_]?) rfl) Ar26.1) (State.isArrayOf_alike hZ.alike Ar26.2.1) Ar26.2.2 hin26 (Hh26.at hin26 rfl) (g := (mkF m 156 #[.val (.int p0), .val (.long q1), .second, .val (.long q2), .second, .val (.long q3), .second, .val (.long q4), .second, .val (.int wo), .val (.int 3), .val (.ref aa), .val (.ref ab), .val (.ref ai), .val (.ref ao0)] [(.int 0), (.ref ab), (.long q4)])) rfl rfl (hb hby at_156)) ?_
    refine own_go (x' := T24.setTop (mkF m 164 #[.val (.int p0), .val (.long q1), .second, .val (.long q2), .second, .val (.long q3), .second, .val (.long q4), .second, .val (.int wo), .val (.int 3), .val (.ref aa), .val (.ref ab), .val (.ref ai), .val (.ref ao0)] [(.int 1), (.ref ai)])) (fun _ k => XS.lcmp X24.here hx rfl (hb hby at_157) rfl (XS.ifNo X24.here hx rfl (hb hby at_158) rfl ((if0 _ _).trans (teq ((lw_eq q4 q4).mpr rfl)).2) (XS.aload X24.here hx rfl (hb hby at_161) rfl rfl (XS.iconst X24.here hx rfl (hb hby at_163) k)))) ?_
    obtain ⟨cl27, Ar27, q27, Sz27, Nn27, Hh27, Gg27⟩ := id V_ai
    have hin27 : ¬ ((1 : Int32) < 0 ∨ cl27.slots.size ≤ ((1 : Int32)).toNatClampNeg) := inb_of Sz27 ⟨by decide, by decide⟩
    refine own_go (x' := T24.setTop (mkF m 165 #[.val (.int p0), .val (.long q1), .second, .val (.long q2), .second, .val (.long q3), .second, .val (.long q4), .second, .val (.int wo), .val (.int 3), .val (.ref aa), .val (.ref ab), .val (.ref ai), .val (.ref ao0)] [(.long q3)])) (X24.laload hx (j := (1 : Int32)) (v := (.long q3)) (Eq.trans (congrArg (fun h_ => h_[_]?) rfl) Ar27.1) (State.isArrayOf_alike hZ.alike Ar27.2.1) Ar27.2.2 hin27 (Hh27.at hin27 rfl) (g := (mkF m 164 #[.val (.int p0), .val (.long q1), .second, .val (.long q2), .second, .val (.long q3), .second, .val (.long q4), .second, .val (.int wo), .val (.int 3), .val (.ref aa), .val (.ref ab), .val (.ref ai), .val (.ref ao0)] [(.int 1), (.ref ai)])) rfl rfl (hb hby at_164)) ?_
    refine own_go (x' := T24.setTop (mkF m 174 #[.val (.int p0), .val (.long q1), .second, .val (.long q2), .second, .val (.long q3), .second, .val (.long q4), .second, .val (.int wo), .val (.int 3), .val (.ref aa), .val (.ref ab), .val (.ref ai), .val (.ref ao0)] [(.int 1), (.ref ab), (.long q3)])) (fun _ k => XS.iload X24.here hx rfl (hb hby at_165) rfl (XS.iconst X24.here hx rfl (hb hby at_167) (XS.icmpNo X24.here hx rfl (hb hby at_168) rfl (tlt (by decide +kernel : ((1 : Int32) < (3 : Int32)))).2.2.2 (XS.aload X24.here hx rfl (hb hby at_171) rfl rfl (XS.iconst X24.here hx rfl (hb hby at_173) k))))) ?_
    obtain ⟨cl28, Ar28, q28, Sz28, Nn28, Hh28, Gg28⟩ := id V_ab
    have hin28 : ¬ ((1 : Int32) < 0 ∨ cl28.slots.size ≤ ((1 : Int32)).toNatClampNeg) := inb_of Sz28 ⟨by decide, by decide⟩
    refine own_go (x' := T24.setTop (mkF m 175 #[.val (.int p0), .val (.long q1), .second, .val (.long q2), .second, .val (.long q3), .second, .val (.long q4), .second, .val (.int wo), .val (.int 3), .val (.ref aa), .val (.ref ab), .val (.ref ai), .val (.ref ao0)] [(.long q3), (.long q3)])) (X24.laload hx (j := (1 : Int32)) (v := (.long q3)) (Eq.trans (congrArg (fun h_ => h_[_]?) rfl) Ar28.1) (State.isArrayOf_alike hZ.alike Ar28.2.1) Ar28.2.2 hin28 (Hh28.at hin28 rfl) (g := (mkF m 174 #[.val (.int p0), .val (.long q1), .second, .val (.long q2), .second, .val (.long q3), .second, .val (.long q4), .second, .val (.int wo), .val (.int 3), .val (.ref aa), .val (.ref ab), .val (.ref ai), .val (.ref ao0)] [(.int 1), (.ref ab), (.long q3)])) rfl rfl (hb hby at_174)) ?_
    refine own_go (x' := T24.setTop (mkF m 186 #[.val (.int p0), .val (.long q1), .second, .val (.long q2), .second, .val (.long q3), .second, .val (.long q4), .second, .val (.int wo), .val (.int 3), .val (.ref aa), .val (.ref ab), .val (.ref ai), .val (.ref ao0)] [(.int 2), (.ref ai)])) (fun _ k => XS.goto X24.here hx rfl (pc0 := 175) (pc' := 179) rfl (hb hby at_175) (by decide) (by decide) (XS.lcmp X24.here hx rfl (hb hby at_179) rfl (XS.ifNo X24.here hx rfl (hb hby at_180) rfl ((if0 _ _).trans (teq ((lw_eq q3 q3).mpr rfl)).2) (XS.aload X24.here hx rfl (hb hby at_183) rfl rfl (XS.iconst X24.here hx rfl (hb hby at_185) k))))) ?_
    obtain ⟨cl29, Ar29, q29, Sz29, Nn29, Hh29, Gg29⟩ := id V_ai
    have hin29 : ¬ ((2 : Int32) < 0 ∨ cl29.slots.size ≤ ((2 : Int32)).toNatClampNeg) := inb_of Sz29 ⟨by decide, by decide⟩
    refine own_go (x' := T24.setTop (mkF m 187 #[.val (.int p0), .val (.long q1), .second, .val (.long q2), .second, .val (.long q3), .second, .val (.long q4), .second, .val (.int wo), .val (.int 3), .val (.ref aa), .val (.ref ab), .val (.ref ai), .val (.ref ao0)] [(.long q2)])) (X24.laload hx (j := (2 : Int32)) (v := (.long q2)) (Eq.trans (congrArg (fun h_ => h_[_]?) rfl) Ar29.1) (State.isArrayOf_alike hZ.alike Ar29.2.1) Ar29.2.2 hin29 (Hh29.at hin29 rfl) (g := (mkF m 186 #[.val (.int p0), .val (.long q1), .second, .val (.long q2), .second, .val (.long q3), .second, .val (.long q4), .second, .val (.int wo), .val (.int 3), .val (.ref aa), .val (.ref ab), .val (.ref ai), .val (.ref ao0)] [(.int 2), (.ref ai)])) rfl rfl (hb hby at_186)) ?_
    refine own_go (x' := T24.setTop (mkF m 196 #[.val (.int p0), .val (.long q1), .second, .val (.long q2), .second, .val (.long q3), .second, .val (.long q4), .second, .val (.int wo), .val (.int 3), .val (.ref aa), .val (.ref ab), .val (.ref ai), .val (.ref ao0)] [(.int 2), (.ref ab), (.long q2)])) (fun _ k => XS.iload X24.here hx rfl (hb hby at_187) rfl (XS.iconst X24.here hx rfl (hb hby at_189) (XS.icmpNo X24.here hx rfl (hb hby at_190) rfl (tlt (by decide +kernel : ((2 : Int32) < (3 : Int32)))).2.2.2 (XS.aload X24.here hx rfl (hb hby at_193) rfl rfl (XS.iconst X24.here hx rfl (hb hby at_195) k))))) ?_
    obtain ⟨cl30, Ar30, q30, Sz30, Nn30, Hh30, Gg30⟩ := id V_ab
    have hin30 : ¬ ((2 : Int32) < 0 ∨ cl30.slots.size ≤ ((2 : Int32)).toNatClampNeg) := inb_of Sz30 ⟨by decide, by decide⟩
    refine own_go (x' := T24.setTop (mkF m 197 #[.val (.int p0), .val (.long q1), .second, .val (.long q2), .second, .val (.long q3), .second, .val (.long q4), .second, .val (.int wo), .val (.int 3), .val (.ref aa), .val (.ref ab), .val (.ref ai), .val (.ref ao0)] [(.long q2), (.long q2)])) (X24.laload hx (j := (2 : Int32)) (v := (.long q2)) (Eq.trans (congrArg (fun h_ => h_[_]?) rfl) Ar30.1) (State.isArrayOf_alike hZ.alike Ar30.2.1) Ar30.2.2 hin30 (Hh30.at hin30 rfl) (g := (mkF m 196 #[.val (.int p0), .val (.long q1), .second, .val (.long q2), .second, .val (.long q3), .second, .val (.long q4), .second, .val (.int wo), .val (.int 3), .val (.ref aa), .val (.ref ab), .val (.ref ai), .val (.ref ao0)] [(.int 2), (.ref ab), (.long q2)])) rfl rfl (hb hby at_196)) ?_
    refine own_go (x' := T24.setTop (mkF m 208 #[.val (.int p0), .val (.long q1), .second, .val (.long q2), .second, .val (.long q3), .second, .val (.long q4), .second, .val (.int wo), .val (.int 3), .val (.ref aa), .val (.ref ab), .val (.ref ai), .val (.ref ao0)] [(.int 3), (.ref ai)])) (fun _ k => XS.goto X24.here hx rfl (pc0 := 197) (pc' := 201) rfl (hb hby at_197) (by decide) (by decide) (XS.lcmp X24.here hx rfl (hb hby at_201) rfl (XS.ifNo X24.here hx rfl (hb hby at_202) rfl ((if0 _ _).trans (teq ((lw_eq q2 q2).mpr rfl)).2) (XS.aload X24.here hx rfl (hb hby at_205) rfl rfl (XS.iconst X24.here hx rfl (hb hby at_207) k))))) ?_
    obtain ⟨cl31, Ar31, q31, Sz31, Nn31, Hh31, Gg31⟩ := id V_ai
    have hin31 : ¬ ((3 : Int32) < 0 ∨ cl31.slots.size ≤ ((3 : Int32)).toNatClampNeg) := inb_of Sz31 ⟨by decide, by decide⟩
    refine own_go (x' := T24.setTop (mkF m 209 #[.val (.int p0), .val (.long q1), .second, .val (.long q2), .second, .val (.long q3), .second, .val (.long q4), .second, .val (.int wo), .val (.int 3), .val (.ref aa), .val (.ref ab), .val (.ref ai), .val (.ref ao0)] [(.long 0)])) (X24.laload hx (j := (3 : Int32)) (v := (.long 0)) (Eq.trans (congrArg (fun h_ => h_[_]?) rfl) Ar31.1) (State.isArrayOf_alike hZ.alike Ar31.2.1) Ar31.2.2 hin31 (Hh31.at hin31 rfl) (g := (mkF m 208 #[.val (.int p0), .val (.long q1), .second, .val (.long q2), .second, .val (.long q3), .second, .val (.long q4), .second, .val (.int wo), .val (.int 3), .val (.ref aa), .val (.ref ab), .val (.ref ai), .val (.ref ao0)] [(.int 3), (.ref ai)])) rfl rfl (hb hby at_208)) ?_
    refine own_go (x' := T24.setTop (mkF m 227 #[.val (.int p0), .val (.long q1), .second, .val (.long q2), .second, .val (.long q3), .second, .val (.long q4), .second, .val (.int wo), .val (.int 3), .val (.ref aa), .val (.ref ab), .val (.ref ai), .val (.ref ao0)] [])) (fun _ k => XS.iload X24.here hx rfl (hb hby at_209) rfl (XS.iconst X24.here hx rfl (hb hby at_211) (XS.icmpYes X24.here hx rfl (pc0 := 212) (pc' := 222) rfl (hb hby at_212) rfl (flt (Int32.lt_irrefl)).2.2.2 (by decide) (by decide) (XS.lconst X24.here hx rfl (hb hby at_222) (XS.lcmp X24.here hx rfl (hb hby at_223) rfl (XS.ifNo X24.here hx rfl (hb hby at_224) rfl ((if0 _ _).trans (teq ((lw_eq (0 : Int64) (0 : Int64)).mpr rfl)).2) k)))))) ?_
    refine own_go (x' := T24.setTop (mkF m 232 #[.val (.int p0), .val (.long q1), .second, .val (.long q2), .second, .val (.long q3), .second, .val (.long q4), .second, .val (.int wo), .val (.int 3), .val (.ref aa), .val (.ref ab), .val (.ref ai), .val (.ref ao0)] [(.int 1)])) (fun _ k => XS.iconst X24.here hx rfl (hb hby at_227) (XS.goto X24.here hx rfl (pc0 := 228) (pc' := 232) rfl (hb hby at_228) (by decide) (by decide) k)) ?_
    refine own_retN X24 hx hlk (t := .boolean) hret (by simp) (hb hby at_232) (w := (1 : Int32)) rfl ?_ (by decide) (by decide)
    exact ⟨rfl, Nf⟩
  · refine own_go (x' := T1.setTop (mkF m 108 #[.val (.int p0), .val (.long q1), .second, .val (.long q2), .second, .val (.long q3), .second, .val (.long q4), .second, .val (.int wo), .val (.int 4), .val (.ref aa), .val (.ref ab), .val (.ref ai), .val (.ref ao0)] [(.ref ao0)])) (fun _ k => XS.aload X1.here hx rfl (hb hby at_106) rfl rfl k) ?_
    obtain ⟨cq32, kq32, q32a, q32b, q32c⟩ := isOf hZ rfl E_ao0
    obtain ⟨_, _, ⟨T32, L32, k32, n32⟩, -, X32, ⟨Lc32, hQ32, l32, y32, z32⟩, st32⟩ := X1.virtualBack hx (y := (⟨"com/example/moving_tokens/movingtokens/PartialChoices", "size", "()I"⟩ : MethodName)) (z := (⟨"com/example/moving_tokens/movingtokens/PartialChoices", "size", "()I"⟩ : MethodName)) hown (mvT hZ (own_w hw 58 rfl)) (mvT hZ (own_w hw 59 rfl)) (notFace_of_selects (args := #[]) (mvT hZ (own_w hw 61 rfl))) (mvT hZ (own_w hw 61 rfl)) (mvT hZ (own_w hw 60 rfl)) (by decide) (backOf (W := 0) (rm10 l Z a0 hw [] ao0 T1.heap n0 Zs F_ao0_size) hZ (own_w hw 62 rfl) (own_w hw 3 rfl) (by decide) (by decide)) q32a q32c (g := (mkF m 108 #[.val (.int p0), .val (.long q1), .second, .val (.long q2), .second, .val (.long q3), .second, .val (.long q4), .second, .val (.int wo), .val (.int 4), .val (.ref aa), .val (.ref ab), .val (.ref ai), .val (.ref ao0)] [(.ref ao0)])) rfl (by rw [hml]; rfl) (Steps.refl _) (argsL := []) (rest := []) (lenOf pd_6 rfl) rfl (by show 2 * 0 + _ ≤ _; exact Nat.le_of_eq rfl) (hb hby at_108) (fun _ _ => ⟨rfl, rfl, (by decide : 10 + 0 ≤ _), (by decide : 226 + 0 ≤ _)⟩)
    dsimp only [Pt.U, Pt.locs, Pt.cells, Pt.slots] at X32 l32 y32 z32 st32 hQ32
    subst l32 y32 z32
    obtain ⟨hv32, Nq32, eq32⟩ := hQ32
    subst hv32
    replace Nf := Fr.app Nf Nq32
    refine own_go (x' := T32.setTop (mkF m 111 #[.val (.int p0), .val (.long q1), .second, .val (.long q2), .second, .val (.long q3), .second, .val (.long q4), .second, .val (.int wo), .val (.int 4), .val (.ref aa), .val (.ref ab), .val (.ref ai), .val (.ref ao0)] [(.int 0)])) (fun _ k => st32.trans k) ?_
    refine own_go (x' := T32.setTop (mkF m 120 #[.val (.int p0), .val (.long q1), .second, .val (.long q2), .second, .val (.long q3), .second, .val (.long q4), .second, .val (.int wo), .val (.int 4), .val (.ref aa), .val (.ref ab), .val (.ref ai), .val (.ref ao0)] [(.ref aa), (.ref ao0)])) (fun _ k => XS.ifYes X32.here hx rfl (pc0 := 111) (pc' := 116) rfl (hb hby at_111) rfl ((if0 _ _).trans (teq rfl).1) (by decide) (by decide) (XS.aload X32.here hx rfl (hb hby at_116) rfl rfl (XS.aload X32.here hx rfl (hb hby at_118) rfl rfl k))) ?_
    obtain ⟨cq33, kq33, q33a, q33b, q33c⟩ := isOf hZ eq32 E_ao0
    obtain ⟨_, _, ⟨T33, L33, k33, n33⟩, -, X33, ⟨Lc33, hQ33, l33, y33, z33⟩, st33⟩ := X32.virtualBack hx (y := (⟨"com/example/moving_tokens/movingtokens/PartialChoices", "find", "([J)I"⟩ : MethodName)) (z := (⟨"com/example/moving_tokens/movingtokens/PartialChoices", "find", "([J)I"⟩ : MethodName)) hown (mvT hZ (own_w hw 63 rfl)) (mvT hZ (own_w hw 64 rfl)) (notFace_of_selects (args := #[]) (mvT hZ (own_w hw 66 rfl))) (mvT hZ (own_w hw 66 rfl)) (mvT hZ (own_w hw 65 rfl)) (by decide) (backOf (W := 0) (rm11 l Z a0 hw [] ao0 aa (4 : Int32) kaa q1 q2 q3 q4 sa1 ca ha pt ks1 kc kh kp sn1 sv1 hc hm1 hs1 T1.heap n0 Zs (by decide) E_ao0 F_ao0_width F_ao0_states F_ao0_counts F_ao0_homes F_ao0_size F_ao0_slots V_sa1 V_ca V_ha V_pt hL1 hN1 ne_ao0_sa1 ne_ao0_ca ne_ao0_ha ne_ao0_pt (Ne.symm ne_ca_sa1) (Ne.symm ne_ha_sa1) (Ne.symm ne_pt_sa1) ne_ca_ha ne_ca_pt ne_ha_pt g_ao0 g_sa1 g_ca g_ha g_pt zr1 V_aa) hZ (own_w hw 67 rfl) (own_w hw 3 rfl) (by decide) (by decide)) q33a q33c (g := (mkF m 120 #[.val (.int p0), .val (.long q1), .second, .val (.long q2), .second, .val (.long q3), .second, .val (.long q4), .second, .val (.int wo), .val (.int 4), .val (.ref aa), .val (.ref ab), .val (.ref ai), .val (.ref ao0)] [(.ref aa), (.ref ao0)])) rfl (by rw [hml]; rfl) (Steps.refl _) (argsL := [(.ref aa)]) (rest := []) (lenOf pd_3 rfl) rfl (by show 2 * 0 + _ ≤ _; exact Nat.le_of_eq rfl) (hb hby at_120) (fun _ _ => ⟨rfl, eq32, (by decide : 10 + 0 ≤ _), (by decide : 226 + 0 ≤ _)⟩)
    dsimp only [Pt.U, Pt.locs, Pt.cells, Pt.slots] at X33 l33 y33 z33 st33 hQ33
    subst l33 y33 z33
    obtain ⟨hv33, Nq33, eq33⟩ := hQ33
    subst hv33
    replace Nf := Fr.app Nf Nq33
    refine own_go (x' := T33.setTop (mkF m 123 #[.val (.int p0), .val (.long q1), .second, .val (.long q2), .second, .val (.long q3), .second, .val (.long q4), .second, .val (.int wo), .val (.int 4), .val (.ref aa), .val (.ref ab), .val (.ref ai), .val (.ref ao0)] [(.int (-1))])) (fun _ k => st33.trans k) ?_
    refine own_go (x' := T33.setTop (mkF m 133 #[.val (.int p0), .val (.long q1), .second, .val (.long q2), .second, .val (.long q3), .second, .val (.long q4), .second, .val (.int wo), .val (.int 4), .val (.ref aa), .val (.ref ab), .val (.ref ai), .val (.ref ao0)] [(.ref ab), (.ref ao0)])) (fun _ k => XS.iconst X33.here hx rfl (hb hby at_123) (XS.icmpYes X33.here hx rfl (pc0 := 124) (pc' := 129) rfl (hb hby at_124) rfl (teq rfl).1 (by decide) (by decide) (XS.aload X33.here hx rfl (hb hby at_129) rfl rfl (XS.aload X33.here hx rfl (hb hby at_131) rfl rfl k)))) ?_
    obtain ⟨cq34, kq34, q34a, q34b, q34c⟩ := isOf hZ eq33 E_ao0
    obtain ⟨_, _, ⟨T34, L34, k34, n34⟩, -, X34, ⟨Lc34, hQ34, l34, y34, z34⟩, st34⟩ := X33.virtualBack hx (y := (⟨"com/example/moving_tokens/movingtokens/PartialChoices", "entry", "([J)I"⟩ : MethodName)) (z := (⟨"com/example/moving_tokens/movingtokens/PartialChoices", "entry", "([J)I"⟩ : MethodName)) hown (mvT hZ (own_w hw 29 rfl)) (mvT hZ (own_w hw 30 rfl)) (notFace_of_selects (args := #[]) (mvT hZ (own_w hw 32 rfl))) (mvT hZ (own_w hw 32 rfl)) (mvT hZ (own_w hw 31 rfl)) (by decide) (backOf (W := 0) (rm4_0 l Z a0 hw [] ao0 ab (4 : Int32) kab q4 q3 q2 q1 sa1 ca ha pt ks1 kc kh kp sn1 sv1 hc hm1 hs1  T1.heap n0 Zs (by decide) E_ao0 F_ao0_width F_ao0_states F_ao0_counts F_ao0_homes F_ao0_size F_ao0_slots V_sa1 V_ca V_ha V_pt hL1 hN1 ne_ao0_sa1 ne_ao0_ca ne_ao0_ha ne_ao0_pt (Ne.symm ne_ca_sa1) (Ne.symm ne_ha_sa1) (Ne.symm ne_pt_sa1) ne_ca_ha ne_ca_pt ne_ha_pt g_ao0 g_sa1 g_ca g_ha g_pt  zr1 V_ab ne_ao0_ab (Ne.symm ne_ab_sa1) ne_ca_ab ne_ha_ab ne_pt_ab) hZ (own_w hw 33 rfl) (own_w hw 3 rfl) (by decide) (by decide)) q34a q34c (g := (mkF m 133 #[.val (.int p0), .val (.long q1), .second, .val (.long q2), .second, .val (.long q3), .second, .val (.long q4), .second, .val (.int wo), .val (.int 4), .val (.ref aa), .val (.ref ab), .val (.ref ai), .val (.ref ao0)] [(.ref ab), (.ref ao0)])) rfl (by rw [hml]; rfl) (Steps.refl _) (argsL := [(.ref ab)]) (rest := []) (lenOf pd_3 rfl) rfl (by show 2 * 0 + _ ≤ _; exact Nat.le_of_eq rfl) (hb hby at_133) (fun _ _ => ⟨rfl, eq33, (by decide : 10 + 0 ≤ _), (by decide : 226 + 0 ≤ _)⟩)
    dsimp only [Pt.U, Pt.locs, Pt.cells, Pt.slots] at X34 l34 y34 z34 st34 hQ34
    subst l34 y34 z34
    obtain ⟨r34, hr34, hv34, Nq34, K34, Eo34, Fo34_width, Fo34_states, Fo34_counts, Fo34_homes, Fo34_size, Fo34_slots, Vs34, Vc34, Vh34, Vp34⟩ := hQ34
    subst hv34
    replace Nf := Fr.app Nf Nq34
    replace V_aa := V_aa.keep K34 (ninS (Ne.symm ne_ao0_aa) (ninS ne_aa_sa1 (ninS (Ne.symm ne_ca_aa) (ninS (Ne.symm ne_ha_aa) (ninS (Ne.symm ne_pt_aa) nin0)))))
    replace V_ab := V_ab.keep K34 (ninS (Ne.symm ne_ao0_ab) (ninS ne_ab_sa1 (ninS (Ne.symm ne_ca_ab) (ninS (Ne.symm ne_ha_ab) (ninS (Ne.symm ne_pt_ab) nin0)))))
    replace V_ai := V_ai.keep K34 (ninS (Ne.symm ne_ao0_ai) (ninS ne_ai_sa1 (ninS (Ne.symm ne_ca_ai) (ninS (Ne.symm ne_ha_ai) (ninS (Ne.symm ne_pt_ai) nin0)))))
    replace Zs := Nat.le_trans Zs K34.1
    replace E_ao0 := Eo34
    replace F_ao0_width := Fo34_width
    replace F_ao0_states := Fo34_states
    replace F_ao0_counts := Fo34_counts
    replace F_ao0_homes := Fo34_homes
    replace F_ao0_size := Fo34_size
    replace F_ao0_slots := Fo34_slots
    replace V_sa1 := Vs34
    replace V_ca := Vc34
    replace V_ha := Vh34
    replace V_pt := Vp34
    rw [own_us4] at V_sa1
    refine own_go (x' := T34.setTop (mkF m 136 #[.val (.int p0), .val (.long q1), .second, .val (.long q2), .second, .val (.long q3), .second, .val (.long q4), .second, .val (.int wo), .val (.int 4), .val (.ref aa), .val (.ref ab), .val (.ref ai), .val (.ref ao0)] [(.int 0)])) (fun _ k => st34.trans k) ?_
    refine own_go (x' := T34.setTop (mkF m 146 #[.val (.int p0), .val (.long q1), .second, .val (.long q2), .second, .val (.long q3), .second, .val (.long q4), .second, .val (.int wo), .val (.int 4), .val (.ref aa), .val (.ref ab), .val (.ref ai), .val (.ref ao0)] [(.ref ai), (.int 0), (.ref ao0)])) (fun _ k => XS.ifYes X34.here hx rfl (pc0 := 136) (pc' := 141) rfl (hb hby at_136) rfl ((if0 _ _).trans (teq rfl).1) (by decide) (by decide) (XS.aload X34.here hx rfl (hb hby at_141) rfl rfl (XS.iconst X34.here hx rfl (hb hby at_143) (XS.aload X34.here hx rfl (hb hby at_144) rfl rfl k)))) ?_
    obtain ⟨cq35, kq35, q35a, q35b, q35c⟩ := isOf hZ rfl E_ao0
    obtain ⟨_, _, ⟨T35, L35, k35, n35⟩, -, X35, ⟨Lc35, hQ35, l35, y35, z35⟩, st35⟩ := X34.virtualBack hx (y := (⟨"com/example/moving_tokens/movingtokens/PartialChoices", "copyState", "(I[J)V"⟩ : MethodName)) (z := (⟨"com/example/moving_tokens/movingtokens/PartialChoices", "copyState", "(I[J)V"⟩ : MethodName)) hown (mvT hZ (own_w hw 68 rfl)) (mvT hZ (own_w hw 69 rfl)) (notFace_of_selects (args := #[]) (mvT hZ (own_w hw 71 rfl))) (mvT hZ (own_w hw 71 rfl)) (mvT hZ (own_w hw 70 rfl)) (by decide) (backOf (W := 0) (rm12_4 l Z a0 hw [] ao0 sa1 ai ks1 kai sn1 _ q4 q3 q2 q1 T34.heap n0 Zs F_ao0_width F_ao0_states V_sa1 V_ai hN1 ne_ao0_ai (Ne.symm ne_ai_sa1) g_ai) hZ (own_w hw 72 rfl) (own_w hw 3 rfl) (by decide) (by decide)) q35a q35c (g := (mkF m 146 #[.val (.int p0), .val (.long q1), .second, .val (.long q2), .second, .val (.long q3), .second, .val (.long q4), .second, .val (.int wo), .val (.int 4), .val (.ref aa), .val (.ref ab), .val (.ref ai), .val (.ref ao0)] [(.ref ai), (.int 0), (.ref ao0)])) rfl (by rw [hml]; rfl) (Steps.refl _) (argsL := [(.int 0), (.ref ai)]) (rest := []) (lenOf pd_7 rfl) rfl (by show 2 * 0 + _ ≤ _; exact Nat.le_of_eq rfl) (hb hby at_146) (fun _ _ => ⟨rfl, rfl, (by decide : 10 + 0 ≤ _), (by decide : 226 + 0 ≤ _)⟩)
    dsimp only [Pt.U, Pt.locs, Pt.cells, Pt.slots] at X35 l35 y35 z35 st35 hQ35
    subst l35 y35 z35
    obtain ⟨hv35, Nq35, K35, Vi35⟩ := hQ35
    subst hv35
    replace Nf := Fr.app Nf Nq35
    replace V_aa := V_aa.keep K35 (ninS ne_aa_ai nin0)
    replace V_ab := V_ab.keep K35 (ninS ne_ab_ai nin0)
    replace E_ao0 := E_ao0.keep K35
    replace F_ao0_width := F_ao0_width.keep K35 (ninS ne_ao0_ai nin0)
    replace F_ao0_states := F_ao0_states.keep K35 (ninS ne_ao0_ai nin0)
    replace F_ao0_counts := F_ao0_counts.keep K35 (ninS ne_ao0_ai nin0)
    replace F_ao0_homes := F_ao0_homes.keep K35 (ninS ne_ao0_ai nin0)
    replace F_ao0_size := F_ao0_size.keep K35 (ninS ne_ao0_ai nin0)
    replace F_ao0_slots := F_ao0_slots.keep K35 (ninS ne_ao0_ai nin0)
    replace V_sa1 := V_sa1.keep K35 (ninS (Ne.symm ne_ai_sa1) nin0)
    replace V_ca := V_ca.keep K35 (ninS ne_ca_ai nin0)
    replace V_ha := V_ha.keep K35 (ninS ne_ha_ai nin0)
    replace V_pt := V_pt.keep K35 (ninS ne_pt_ai nin0)
    replace Zs := Nat.le_trans Zs K35.1
    replace V_ai := Vi35
    refine own_go (x' := T35.setTop (mkF m 149 #[.val (.int p0), .val (.long q1), .second, .val (.long q2), .second, .val (.long q3), .second, .val (.long q4), .second, .val (.int wo), .val (.int 4), .val (.ref aa), .val (.ref ab), .val (.ref ai), .val (.ref ao0)] [])) (fun _ k => st35.trans k) ?_
    refine own_go (x' := T35.setTop (mkF m 152 #[.val (.int p0), .val (.long q1), .second, .val (.long q2), .second, .val (.long q3), .second, .val (.long q4), .second, .val (.int wo), .val (.int 4), .val (.ref aa), .val (.ref ab), .val (.ref ai), .val (.ref ao0)] [(.int 0), (.ref ai)])) (fun _ k => XS.aload X35.here hx rfl (hb hby at_149) rfl rfl (XS.iconst X35.here hx rfl (hb hby at_151) k)) ?_
    obtain ⟨cl36, Ar36, q36, Sz36, Nn36, Hh36, Gg36⟩ := id V_ai
    have hin36 : ¬ ((0 : Int32) < 0 ∨ cl36.slots.size ≤ ((0 : Int32)).toNatClampNeg) := inb_of Sz36 ⟨by decide, by decide⟩
    refine own_go (x' := T35.setTop (mkF m 153 #[.val (.int p0), .val (.long q1), .second, .val (.long q2), .second, .val (.long q3), .second, .val (.long q4), .second, .val (.int wo), .val (.int 4), .val (.ref aa), .val (.ref ab), .val (.ref ai), .val (.ref ao0)] [(.long q4)])) (X35.laload hx (j := (0 : Int32)) (v := (.long q4)) (Eq.trans (congrArg (fun h_ => h_[_]?) rfl) Ar36.1) (State.isArrayOf_alike hZ.alike Ar36.2.1) Ar36.2.2 hin36 (Hh36.at hin36 rfl) (g := (mkF m 152 #[.val (.int p0), .val (.long q1), .second, .val (.long q2), .second, .val (.long q3), .second, .val (.long q4), .second, .val (.int wo), .val (.int 4), .val (.ref aa), .val (.ref ab), .val (.ref ai), .val (.ref ao0)] [(.int 0), (.ref ai)])) rfl rfl (hb hby at_152)) ?_
    refine own_go (x' := T35.setTop (mkF m 156 #[.val (.int p0), .val (.long q1), .second, .val (.long q2), .second, .val (.long q3), .second, .val (.long q4), .second, .val (.int wo), .val (.int 4), .val (.ref aa), .val (.ref ab), .val (.ref ai), .val (.ref ao0)] [(.int 0), (.ref ab), (.long q4)])) (fun _ k => XS.aload X35.here hx rfl (hb hby at_153) rfl rfl (XS.iconst X35.here hx rfl (hb hby at_155) k)) ?_
    obtain ⟨cl37, Ar37, q37, Sz37, Nn37, Hh37, Gg37⟩ := id V_ab
    have hin37 : ¬ ((0 : Int32) < 0 ∨ cl37.slots.size ≤ ((0 : Int32)).toNatClampNeg) := inb_of Sz37 ⟨by decide, by decide⟩
    refine own_go (x' := T35.setTop (mkF m 157 #[.val (.int p0), .val (.long q1), .second, .val (.long q2), .second, .val (.long q3), .second, .val (.long q4), .second, .val (.int wo), .val (.int 4), .val (.ref aa), .val (.ref ab), .val (.ref ai), .val (.ref ao0)] [(.long q4), (.long q4)])) (X35.laload hx (j := (0 : Int32)) (v := (.long q4)) (Eq.trans (congrArg (fun h_ => h_[_]?) rfl) Ar37.1) (State.isArrayOf_alike hZ.alike Ar37.2.1) Ar37.2.2 hin37 (Hh37.at hin37 rfl) (g := (mkF m 156 #[.val (.int p0), .val (.long q1), .second, .val (.long q2), .second, .val (.long q3), .second, .val (.long q4), .second, .val (.int wo), .val (.int 4), .val (.ref aa), .val (.ref ab), .val (.ref ai), .val (.ref ao0)] [(.int 0), (.ref ab), (.long q4)])) rfl rfl (hb hby at_156)) ?_
    refine own_go (x' := T35.setTop (mkF m 164 #[.val (.int p0), .val (.long q1), .second, .val (.long q2), .second, .val (.long q3), .second, .val (.long q4), .second, .val (.int wo), .val (.int 4), .val (.ref aa), .val (.ref ab), .val (.ref ai), .val (.ref ao0)] [(.int 1), (.ref ai)])) (fun _ k => XS.lcmp X35.here hx rfl (hb hby at_157) rfl (XS.ifNo X35.here hx rfl (hb hby at_158) rfl ((if0 _ _).trans (teq ((lw_eq q4 q4).mpr rfl)).2) (XS.aload X35.here hx rfl (hb hby at_161) rfl rfl (XS.iconst X35.here hx rfl (hb hby at_163) k)))) ?_
    obtain ⟨cl38, Ar38, q38, Sz38, Nn38, Hh38, Gg38⟩ := id V_ai
    have hin38 : ¬ ((1 : Int32) < 0 ∨ cl38.slots.size ≤ ((1 : Int32)).toNatClampNeg) := inb_of Sz38 ⟨by decide, by decide⟩
    refine own_go (x' := T35.setTop (mkF m 165 #[.val (.int p0), .val (.long q1), .second, .val (.long q2), .second, .val (.long q3), .second, .val (.long q4), .second, .val (.int wo), .val (.int 4), .val (.ref aa), .val (.ref ab), .val (.ref ai), .val (.ref ao0)] [(.long q3)])) (X35.laload hx (j := (1 : Int32)) (v := (.long q3)) (Eq.trans (congrArg (fun h_ => h_[_]?) rfl) Ar38.1) (State.isArrayOf_alike hZ.alike Ar38.2.1) Ar38.2.2 hin38 (Hh38.at hin38 rfl) (g := (mkF m 164 #[.val (.int p0), .val (.long q1), .second, .val (.long q2), .second, .val (.long q3), .second, .val (.long q4), .second, .val (.int wo), .val (.int 4), .val (.ref aa), .val (.ref ab), .val (.ref ai), .val (.ref ao0)] [(.int 1), (.ref ai)])) rfl rfl (hb hby at_164)) ?_
    refine own_go (x' := T35.setTop (mkF m 174 #[.val (.int p0), .val (.long q1), .second, .val (.long q2), .second, .val (.long q3), .second, .val (.long q4), .second, .val (.int wo), .val (.int 4), .val (.ref aa), .val (.ref ab), .val (.ref ai), .val (.ref ao0)] [(.int 1), (.ref ab), (.long q3)])) (fun _ k => XS.iload X35.here hx rfl (hb hby at_165) rfl (XS.iconst X35.here hx rfl (hb hby at_167) (XS.icmpNo X35.here hx rfl (hb hby at_168) rfl (tlt (by decide +kernel : ((1 : Int32) < (4 : Int32)))).2.2.2 (XS.aload X35.here hx rfl (hb hby at_171) rfl rfl (XS.iconst X35.here hx rfl (hb hby at_173) k))))) ?_
    obtain ⟨cl39, Ar39, q39, Sz39, Nn39, Hh39, Gg39⟩ := id V_ab
    have hin39 : ¬ ((1 : Int32) < 0 ∨ cl39.slots.size ≤ ((1 : Int32)).toNatClampNeg) := inb_of Sz39 ⟨by decide, by decide⟩
    refine own_go (x' := T35.setTop (mkF m 175 #[.val (.int p0), .val (.long q1), .second, .val (.long q2), .second, .val (.long q3), .second, .val (.long q4), .second, .val (.int wo), .val (.int 4), .val (.ref aa), .val (.ref ab), .val (.ref ai), .val (.ref ao0)] [(.long q3), (.long q3)])) (X35.laload hx (j := (1 : Int32)) (v := (.long q3)) (Eq.trans (congrArg (fun h_ => h_[_]?) rfl) Ar39.1) (State.isArrayOf_alike hZ.alike Ar39.2.1) Ar39.2.2 hin39 (Hh39.at hin39 rfl) (g := (mkF m 174 #[.val (.int p0), .val (.long q1), .second, .val (.long q2), .second, .val (.long q3), .second, .val (.long q4), .second, .val (.int wo), .val (.int 4), .val (.ref aa), .val (.ref ab), .val (.ref ai), .val (.ref ao0)] [(.int 1), (.ref ab), (.long q3)])) rfl rfl (hb hby at_174)) ?_
    refine own_go (x' := T35.setTop (mkF m 186 #[.val (.int p0), .val (.long q1), .second, .val (.long q2), .second, .val (.long q3), .second, .val (.long q4), .second, .val (.int wo), .val (.int 4), .val (.ref aa), .val (.ref ab), .val (.ref ai), .val (.ref ao0)] [(.int 2), (.ref ai)])) (fun _ k => XS.goto X35.here hx rfl (pc0 := 175) (pc' := 179) rfl (hb hby at_175) (by decide) (by decide) (XS.lcmp X35.here hx rfl (hb hby at_179) rfl (XS.ifNo X35.here hx rfl (hb hby at_180) rfl ((if0 _ _).trans (teq ((lw_eq q3 q3).mpr rfl)).2) (XS.aload X35.here hx rfl (hb hby at_183) rfl rfl (XS.iconst X35.here hx rfl (hb hby at_185) k))))) ?_
    obtain ⟨cl40, Ar40, q40, Sz40, Nn40, Hh40, Gg40⟩ := id V_ai
    have hin40 : ¬ ((2 : Int32) < 0 ∨ cl40.slots.size ≤ ((2 : Int32)).toNatClampNeg) := inb_of Sz40 ⟨by decide, by decide⟩
    refine own_go (x' := T35.setTop (mkF m 187 #[.val (.int p0), .val (.long q1), .second, .val (.long q2), .second, .val (.long q3), .second, .val (.long q4), .second, .val (.int wo), .val (.int 4), .val (.ref aa), .val (.ref ab), .val (.ref ai), .val (.ref ao0)] [(.long q2)])) (X35.laload hx (j := (2 : Int32)) (v := (.long q2)) (Eq.trans (congrArg (fun h_ => h_[_]?) rfl) Ar40.1) (State.isArrayOf_alike hZ.alike Ar40.2.1) Ar40.2.2 hin40 (Hh40.at hin40 rfl) (g := (mkF m 186 #[.val (.int p0), .val (.long q1), .second, .val (.long q2), .second, .val (.long q3), .second, .val (.long q4), .second, .val (.int wo), .val (.int 4), .val (.ref aa), .val (.ref ab), .val (.ref ai), .val (.ref ao0)] [(.int 2), (.ref ai)])) rfl rfl (hb hby at_186)) ?_
    refine own_go (x' := T35.setTop (mkF m 196 #[.val (.int p0), .val (.long q1), .second, .val (.long q2), .second, .val (.long q3), .second, .val (.long q4), .second, .val (.int wo), .val (.int 4), .val (.ref aa), .val (.ref ab), .val (.ref ai), .val (.ref ao0)] [(.int 2), (.ref ab), (.long q2)])) (fun _ k => XS.iload X35.here hx rfl (hb hby at_187) rfl (XS.iconst X35.here hx rfl (hb hby at_189) (XS.icmpNo X35.here hx rfl (hb hby at_190) rfl (tlt (by decide +kernel : ((2 : Int32) < (4 : Int32)))).2.2.2 (XS.aload X35.here hx rfl (hb hby at_193) rfl rfl (XS.iconst X35.here hx rfl (hb hby at_195) k))))) ?_
    obtain ⟨cl41, Ar41, q41, Sz41, Nn41, Hh41, Gg41⟩ := id V_ab
    have hin41 : ¬ ((2 : Int32) < 0 ∨ cl41.slots.size ≤ ((2 : Int32)).toNatClampNeg) := inb_of Sz41 ⟨by decide, by decide⟩
    refine own_go (x' := T35.setTop (mkF m 197 #[.val (.int p0), .val (.long q1), .second, .val (.long q2), .second, .val (.long q3), .second, .val (.long q4), .second, .val (.int wo), .val (.int 4), .val (.ref aa), .val (.ref ab), .val (.ref ai), .val (.ref ao0)] [(.long q2), (.long q2)])) (X35.laload hx (j := (2 : Int32)) (v := (.long q2)) (Eq.trans (congrArg (fun h_ => h_[_]?) rfl) Ar41.1) (State.isArrayOf_alike hZ.alike Ar41.2.1) Ar41.2.2 hin41 (Hh41.at hin41 rfl) (g := (mkF m 196 #[.val (.int p0), .val (.long q1), .second, .val (.long q2), .second, .val (.long q3), .second, .val (.long q4), .second, .val (.int wo), .val (.int 4), .val (.ref aa), .val (.ref ab), .val (.ref ai), .val (.ref ao0)] [(.int 2), (.ref ab), (.long q2)])) rfl rfl (hb hby at_196)) ?_
    refine own_go (x' := T35.setTop (mkF m 208 #[.val (.int p0), .val (.long q1), .second, .val (.long q2), .second, .val (.long q3), .second, .val (.long q4), .second, .val (.int wo), .val (.int 4), .val (.ref aa), .val (.ref ab), .val (.ref ai), .val (.ref ao0)] [(.int 3), (.ref ai)])) (fun _ k => XS.goto X35.here hx rfl (pc0 := 197) (pc' := 201) rfl (hb hby at_197) (by decide) (by decide) (XS.lcmp X35.here hx rfl (hb hby at_201) rfl (XS.ifNo X35.here hx rfl (hb hby at_202) rfl ((if0 _ _).trans (teq ((lw_eq q2 q2).mpr rfl)).2) (XS.aload X35.here hx rfl (hb hby at_205) rfl rfl (XS.iconst X35.here hx rfl (hb hby at_207) k))))) ?_
    obtain ⟨cl42, Ar42, q42, Sz42, Nn42, Hh42, Gg42⟩ := id V_ai
    have hin42 : ¬ ((3 : Int32) < 0 ∨ cl42.slots.size ≤ ((3 : Int32)).toNatClampNeg) := inb_of Sz42 ⟨by decide, by decide⟩
    refine own_go (x' := T35.setTop (mkF m 209 #[.val (.int p0), .val (.long q1), .second, .val (.long q2), .second, .val (.long q3), .second, .val (.long q4), .second, .val (.int wo), .val (.int 4), .val (.ref aa), .val (.ref ab), .val (.ref ai), .val (.ref ao0)] [(.long q1)])) (X35.laload hx (j := (3 : Int32)) (v := (.long q1)) (Eq.trans (congrArg (fun h_ => h_[_]?) rfl) Ar42.1) (State.isArrayOf_alike hZ.alike Ar42.2.1) Ar42.2.2 hin42 (Hh42.at hin42 rfl) (g := (mkF m 208 #[.val (.int p0), .val (.long q1), .second, .val (.long q2), .second, .val (.long q3), .second, .val (.long q4), .second, .val (.int wo), .val (.int 4), .val (.ref aa), .val (.ref ab), .val (.ref ai), .val (.ref ao0)] [(.int 3), (.ref ai)])) rfl rfl (hb hby at_208)) ?_
    refine own_go (x' := T35.setTop (mkF m 218 #[.val (.int p0), .val (.long q1), .second, .val (.long q2), .second, .val (.long q3), .second, .val (.long q4), .second, .val (.int wo), .val (.int 4), .val (.ref aa), .val (.ref ab), .val (.ref ai), .val (.ref ao0)] [(.int 3), (.ref ab), (.long q1)])) (fun _ k => XS.iload X35.here hx rfl (hb hby at_209) rfl (XS.iconst X35.here hx rfl (hb hby at_211) (XS.icmpNo X35.here hx rfl (hb hby at_212) rfl (tlt (by decide +kernel : ((3 : Int32) < (4 : Int32)))).2.2.2 (XS.aload X35.here hx rfl (hb hby at_215) rfl rfl (XS.iconst X35.here hx rfl (hb hby at_217) k))))) ?_
    obtain ⟨cl43, Ar43, q43, Sz43, Nn43, Hh43, Gg43⟩ := id V_ab
    have hin43 : ¬ ((3 : Int32) < 0 ∨ cl43.slots.size ≤ ((3 : Int32)).toNatClampNeg) := inb_of Sz43 ⟨by decide, by decide⟩
    refine own_go (x' := T35.setTop (mkF m 219 #[.val (.int p0), .val (.long q1), .second, .val (.long q2), .second, .val (.long q3), .second, .val (.long q4), .second, .val (.int wo), .val (.int 4), .val (.ref aa), .val (.ref ab), .val (.ref ai), .val (.ref ao0)] [(.long q1), (.long q1)])) (X35.laload hx (j := (3 : Int32)) (v := (.long q1)) (Eq.trans (congrArg (fun h_ => h_[_]?) rfl) Ar43.1) (State.isArrayOf_alike hZ.alike Ar43.2.1) Ar43.2.2 hin43 (Hh43.at hin43 rfl) (g := (mkF m 218 #[.val (.int p0), .val (.long q1), .second, .val (.long q2), .second, .val (.long q3), .second, .val (.long q4), .second, .val (.int wo), .val (.int 4), .val (.ref aa), .val (.ref ab), .val (.ref ai), .val (.ref ao0)] [(.int 3), (.ref ab), (.long q1)])) rfl rfl (hb hby at_218)) ?_
    refine own_go (x' := T35.setTop (mkF m 232 #[.val (.int p0), .val (.long q1), .second, .val (.long q2), .second, .val (.long q3), .second, .val (.long q4), .second, .val (.int wo), .val (.int 4), .val (.ref aa), .val (.ref ab), .val (.ref ai), .val (.ref ao0)] [(.int 1)])) (fun _ k => XS.goto X35.here hx rfl (pc0 := 219) (pc' := 223) rfl (hb hby at_219) (by decide) (by decide) (XS.lcmp X35.here hx rfl (hb hby at_223) rfl (XS.ifNo X35.here hx rfl (hb hby at_224) rfl ((if0 _ _).trans (teq ((lw_eq q1 q1).mpr rfl)).2) (XS.iconst X35.here hx rfl (hb hby at_227) (XS.goto X35.here hx rfl (pc0 := 228) (pc' := 232) rfl (hb hby at_228) (by decide) (by decide) k))))) ?_
    refine own_retN X35 hx hlk (t := .boolean) hret (by simp) (hb hby at_232) (w := (1 : Int32)) rfl ?_ (by decide) (by decide)
    exact ⟨rfl, Nf⟩
set_option maxRecDepth 65536 in
set_option maxHeartbeats 40000000 in
theorem seg2 {p : Program} {l : Launch} {e : Env} {s : State} {m : MethodId} {args : Array Value} {below : List Frame} {meth : Method} {c : Code} {Z : State} {a0 : Array Value} (hx : p.tables.exec = Jvm.exec) (hlk : meth.locks = false) (hret : meth.sig.returnType = some .boolean) (hZ : Z.Warmed39 s.vm) (hw : ∀ d ∈ tables_1, d.before a0 Z = true) (hby : c.code = code) (hml : c.maxLocals = 15) (hown : s.vm.findClass "com/example/moving_tokens/movingtokens/PartialChoicesClearPinLaw" = some m.cls) (hnm : meth.name = "law") (p0 : Int32) (q1 q2 q3 q4 : Int64) (wo wn : Int32) (h0 : Heap) (n0 : Nat) (s₁ : State) (LL : List Loc) (ao0 aa ab ai : Addr) (kaa kab kai : ClassId) (sa ca ha pt : Addr) (ks kc kh kp : ClassId) (sn : Int32) (sv : List Value) (hc hm hs : List (Int32 × Value)) (r ro : Int32)
    (X0 : Stand p l e room_1 s m args below meth c s₁ LL 9 162) (e0 : s₁.heap = h0) (Nf : Fr n0 LL) (Zs : n0 ≤ h0.size) (hwn : wn = 1 ∨ wn = 2 ∨ wn = 3 ∨ wn = 4) (E_ao0 : Exa Z h0 ao0 "com/example/moving_tokens/movingtokens/PartialChoices") (F_ao0_width : Fld Z h0 ao0 "com/example/moving_tokens/movingtokens/PartialChoices" "width" "I" (.int wo)) (F_ao0_states : Fld Z h0 ao0 "com/example/moving_tokens/movingtokens/PartialChoices" "states" "[J" (.ref sa)) (F_ao0_counts : Fld Z h0 ao0 "com/example/moving_tokens/movingtokens/PartialChoices" "counts" "[J" (.ref ca)) (F_ao0_homes : Fld Z h0 ao0 "com/example/moving_tokens/movingtokens/PartialChoices" "homes" "[I" (.ref ha)) (F_ao0_size : Fld Z h0 ao0 "com/example/moving_tokens/movingtokens/PartialChoices" "size" "I" (.int 2)) (F_ao0_slots : Fld Z h0 ao0 "com/example/moving_tokens/movingtokens/PartialChoices" "slots" "[I" (.ref pt)) (V_sa : Arv Z h0 sa ks .long sn sv (.long (0 : Int64))) (V_ca : Arh Z h0 ca kc .long (16 : Int32) hc [] (.long (0 : Int64))) (V_ha : Arh Z h0 ha kh .int (16 : Int32) (((1 : Int32), .int r) :: ((0 : Int32), .int ro) :: hm) [] (.int (0 : Int32))) (V_pt : Arh Z h0 pt kp .int (32 : Int32) ((r, .int (2 : Int32)) :: (ro, .int (1 : Int32)) :: hs) [] (.int (0 : Int32))) (hL : sv.length = 8) (hN : (15 : Int32) < sn) (ne_ao0_sa : ao0 ≠ sa) (ne_ao0_ca : ao0 ≠ ca) (ne_ao0_ha : ao0 ≠ ha) (ne_ao0_pt : ao0 ≠ pt) (ne_sa_ca : sa ≠ ca) (ne_sa_ha : sa ≠ ha) (ne_sa_pt : sa ≠ pt) (ne_ca_ha : ca ≠ ha) (ne_ca_pt : ca ≠ pt) (ne_ha_pt : ha ≠ pt) (g_ao0 : n0 ≤ ao0) (g_sa : n0 ≤ sa) (g_ca : n0 ≤ ca) (g_ha : n0 ≤ ha) (g_pt : n0 ≤ pt) (hr : ¬ r < 0 ∧ r < 32) (hro : ¬ ro < 0 ∧ ro < 32) (hzr : own_Zr hs) (V_aa : Arv Z h0 aa kaa .long (4 : Int32) [.long q1, .long q2, .long q3, .long q4] (.long (0 : Int64))) (V_ab : Arv Z h0 ab kab .long (4 : Int32) [.long q4, .long q3, .long q2, .long q1] (.long (0 : Int64))) (V_ai : Arv Z h0 ai kai .long (4 : Int32) [.long (0 : Int64), .long (0 : Int64), .long (0 : Int64), .long (0 : Int64)] (.long (0 : Int64))) (ne_ao0_aa : ao0 ≠ aa) (ne_ao0_ab : ao0 ≠ ab) (ne_ao0_ai : ao0 ≠ ai) (ne_sa_aa : sa ≠ aa) (ne_sa_ab : sa ≠ ab) (ne_sa_ai : sa ≠ ai) (ne_ca_aa : ca ≠ aa) (ne_ca_ab : ca ≠ ab) (ne_ca_ai : ca ≠ ai) (ne_ha_aa : ha ≠ aa) (ne_ha_ab : ha ≠ ab) (ne_ha_ai : ha ≠ ai) (ne_pt_aa : pt ≠ aa) (ne_pt_ab : pt ≠ ab) (ne_pt_ai : pt ≠ ai) (ne_aa_ab : aa ≠ ab) (ne_aa_ai : aa ≠ ai) (ne_ab_ai : ab ≠ ai) (g_aa : n0 ≤ aa) (g_ab : n0 ≤ ab) (g_ai : n0 ≤ ai) :
    own_End p e below s (fun v h L => v = some (.int 1) ∧ Fr n0 L) room_1.cells room_1.slots (s₁.setTop (mkF m 99 #[.val (.int p0), .val (.long q1), .second, .val (.long q2), .second, .val (.long q3), .second, .val (.long q4), .second, .val (.int wo), .val (.int wn), .val (.ref aa), .val (.ref ab), .val (.ref ai), .val (.ref ao0)] [])) := by
  refine own_go (x' := s₁.setTop (mkF m 103 #[.val (.int p0), .val (.long q1), .second, .val (.long q2), .second, .val (.long q3), .second, .val (.long q4), .second, .val (.int wo), .val (.int wn), .val (.ref aa), .val (.ref ab), .val (.ref ai), .val (.ref ao0)] [(.int wn), (.ref ao0)])) (fun _ k => XS.aload X0.here hx rfl (hb hby at_99) rfl rfl (XS.iload X0.here hx rfl (hb hby at_101) rfl k)) ?_
  obtain ⟨cq1, kq1, q1a, q1b, q1c⟩ := isOf hZ e0 E_ao0
  obtain ⟨_, _, ⟨T1, L1, k1, n1⟩, -, X1, ⟨Lc1, hQ1, l1, y1, z1⟩, st1⟩ := X0.virtualBack hx (y := (⟨"com/example/moving_tokens/movingtokens/PartialChoices", "clear", "(I)V"⟩ : MethodName)) (z := (⟨"com/example/moving_tokens/movingtokens/PartialChoices", "clear", "(I)V"⟩ : MethodName)) hown (mvT hZ (own_w hw 19 rfl)) (mvT hZ (own_w hw 20 rfl)) (notFace_of_selects (args := #[]) (mvT hZ (own_w hw 22 rfl))) (mvT hZ (own_w hw 22 rfl)) (mvT hZ (own_w hw 21 rfl)) (by decide) (backOf (W := 0) (rm3_2 l Z a0 hw [] ao0 wo wn sa ca ha pt ks kc kh kp sn sv hc hm hs r ro h0 n0 Zs hwn E_ao0 F_ao0_width F_ao0_states F_ao0_counts F_ao0_homes F_ao0_size F_ao0_slots V_sa V_ca V_ha V_pt hL hN ne_ao0_sa ne_ao0_ca ne_ao0_ha ne_ao0_pt ne_sa_ca ne_sa_ha ne_sa_pt ne_ca_ha ne_ca_pt ne_ha_pt g_ao0 g_sa g_ca g_ha g_pt hr hro hzr) hZ (own_w hw 23 rfl) (own_w hw 3 rfl) (by decide) (by decide)) q1a q1c (g := (mkF m 103 #[.val (.int p0), .val (.long q1), .second, .val (.long q2), .second, .val (.long q3), .second, .val (.long q4), .second, .val (.int wo), .val (.int wn), .val (.ref aa), .val (.ref ab), .val (.ref ai), .val (.ref ao0)] [(.int wn), (.ref ao0)])) rfl (by rw [hml]; rfl) (Steps.refl _) (argsL := [(.int wn)]) (rest := []) (lenOf pd_5 rfl) rfl (by show 2 * 0 + _ ≤ _; exact Nat.le_of_eq rfl) (hb hby at_103) (fun _ _ => ⟨rfl, e0, (by decide : 9 + 1 ≤ _), (by decide : 162 + 64 ≤ _)⟩)
  dsimp only [Pt.U, Pt.locs, Pt.cells, Pt.slots] at X1 l1 y1 z1 st1 hQ1
  subst l1 y1 z1
  obtain ⟨sa1, ks1, sn1, sv1, hm1, hs1, hv1, Nq1, K1, hL1, hN1, g_sa1, fs1, zr1, Eo1, Fo1_width, Fo1_states, Fo1_counts, Fo1_homes, Fo1_size, Fo1_slots, Vs1, Vc1, Vh1, Vp1⟩ := hQ1
  subst hv1
  replace Nf := Fr.app Nf Nq1
  have ne_ao0_sa1 : ao0 ≠ sa1 := fs1 _ E_ao0.lt ne_ao0_sa
  have ne_ca_sa1 : ca ≠ sa1 := fs1 _ V_ca.lt (Ne.symm ne_sa_ca)
  have ne_ha_sa1 : ha ≠ sa1 := fs1 _ V_ha.lt (Ne.symm ne_sa_ha)
  have ne_pt_sa1 : pt ≠ sa1 := fs1 _ V_pt.lt (Ne.symm ne_sa_pt)
  have ne_aa_sa1 : aa ≠ sa1 := fs1 _ V_aa.lt (Ne.symm ne_sa_aa)
  have ne_ab_sa1 : ab ≠ sa1 := fs1 _ V_ab.lt (Ne.symm ne_sa_ab)
  have ne_ai_sa1 : ai ≠ sa1 := fs1 _ V_ai.lt (Ne.symm ne_sa_ai)
  replace V_aa := V_aa.keep K1 (ninS (Ne.symm ne_ao0_aa) (ninS (Ne.symm ne_sa_aa) (ninS (Ne.symm ne_ca_aa) (ninS (Ne.symm ne_ha_aa) (ninS (Ne.symm ne_pt_aa) nin0)))))
  replace V_ab := V_ab.keep K1 (ninS (Ne.symm ne_ao0_ab) (ninS (Ne.symm ne_sa_ab) (ninS (Ne.symm ne_ca_ab) (ninS (Ne.symm ne_ha_ab) (ninS (Ne.symm ne_pt_ab) nin0)))))
  replace V_ai := V_ai.keep K1 (ninS (Ne.symm ne_ao0_ai) (ninS (Ne.symm ne_sa_ai) (ninS (Ne.symm ne_ca_ai) (ninS (Ne.symm ne_ha_ai) (ninS (Ne.symm ne_pt_ai) nin0)))))
  replace Zs := Nat.le_trans Zs K1.1
  have E_ao0 := Eo1
  have F_ao0_width := Fo1_width
  have F_ao0_states := Fo1_states
  have F_ao0_counts := Fo1_counts
  have F_ao0_homes := Fo1_homes
  have F_ao0_size := Fo1_size
  have F_ao0_slots := Fo1_slots
  have V_sa1 := Vs1
  have V_ca := Vc1
  have V_ha := Vh1
  have V_pt := Vp1
  refine own_go (x' := T1.setTop (mkF m 106 #[.val (.int p0), .val (.long q1), .second, .val (.long q2), .second, .val (.long q3), .second, .val (.long q4), .second, .val (.int wo), .val (.int wn), .val (.ref aa), .val (.ref ab), .val (.ref ai), .val (.ref ao0)] [])) (fun _ k => st1.trans k) ?_
  rcases hwn with rfl | rfl | rfl | rfl
  · refine own_go (x' := T1.setTop (mkF m 108 #[.val (.int p0), .val (.long q1), .second, .val (.long q2), .second, .val (.long q3), .second, .val (.long q4), .second, .val (.int wo), .val (.int 1), .val (.ref aa), .val (.ref ab), .val (.ref ai), .val (.ref ao0)] [(.ref ao0)])) (fun _ k => XS.aload X1.here hx rfl (hb hby at_106) rfl rfl k) ?_
    obtain ⟨cq2, kq2, q2a, q2b, q2c⟩ := isOf hZ rfl E_ao0
    obtain ⟨_, _, ⟨T2, L2, k2, n2⟩, -, X2, ⟨Lc2, hQ2, l2, y2, z2⟩, st2⟩ := X1.virtualBack hx (y := (⟨"com/example/moving_tokens/movingtokens/PartialChoices", "size", "()I"⟩ : MethodName)) (z := (⟨"com/example/moving_tokens/movingtokens/PartialChoices", "size", "()I"⟩ : MethodName)) hown (mvT hZ (own_w hw 58 rfl)) (mvT hZ (own_w hw 59 rfl)) (notFace_of_selects (args := #[]) (mvT hZ (own_w hw 61 rfl))) (mvT hZ (own_w hw 61 rfl)) (mvT hZ (own_w hw 60 rfl)) (by decide) (backOf (W := 0) (rm10 l Z a0 hw [] ao0 T1.heap n0 Zs F_ao0_size) hZ (own_w hw 62 rfl) (own_w hw 3 rfl) (by decide) (by decide)) q2a q2c (g := (mkF m 108 #[.val (.int p0), .val (.long q1), .second, .val (.long q2), .second, .val (.long q3), .second, .val (.long q4), .second, .val (.int wo), .val (.int 1), .val (.ref aa), .val (.ref ab), .val (.ref ai), .val (.ref ao0)] [(.ref ao0)])) rfl (by rw [hml]; rfl) (Steps.refl _) (argsL := []) (rest := []) (lenOf pd_6 rfl) rfl (by show 2 * 0 + _ ≤ _; exact Nat.le_of_eq rfl) (hb hby at_108) (fun _ _ => ⟨rfl, rfl, (by decide : 10 + 0 ≤ _), (by decide : 226 + 0 ≤ _)⟩)
    dsimp only [Pt.U, Pt.locs, Pt.cells, Pt.slots] at X2 l2 y2 z2 st2 hQ2
    subst l2 y2 z2
    obtain ⟨hv2, Nq2, eq2⟩ := hQ2
    subst hv2
    replace Nf := Fr.app Nf Nq2
    refine own_go (x' := T2.setTop (mkF m 111 #[.val (.int p0), .val (.long q1), .second, .val (.long q2), .second, .val (.long q3), .second, .val (.long q4), .second, .val (.int wo), .val (.int 1), .val (.ref aa), .val (.ref ab), .val (.ref ai), .val (.ref ao0)] [(.int 0)])) (fun _ k => st2.trans k) ?_
    refine own_go (x' := T2.setTop (mkF m 120 #[.val (.int p0), .val (.long q1), .second, .val (.long q2), .second, .val (.long q3), .second, .val (.long q4), .second, .val (.int wo), .val (.int 1), .val (.ref aa), .val (.ref ab), .val (.ref ai), .val (.ref ao0)] [(.ref aa), (.ref ao0)])) (fun _ k => XS.ifYes X2.here hx rfl (pc0 := 111) (pc' := 116) rfl (hb hby at_111) rfl ((if0 _ _).trans (teq rfl).1) (by decide) (by decide) (XS.aload X2.here hx rfl (hb hby at_116) rfl rfl (XS.aload X2.here hx rfl (hb hby at_118) rfl rfl k))) ?_
    obtain ⟨cq3, kq3, q3a, q3b, q3c⟩ := isOf hZ eq2 E_ao0
    obtain ⟨_, _, ⟨T3, L3, k3, n3⟩, -, X3, ⟨Lc3, hQ3, l3, y3, z3⟩, st3⟩ := X2.virtualBack hx (y := (⟨"com/example/moving_tokens/movingtokens/PartialChoices", "find", "([J)I"⟩ : MethodName)) (z := (⟨"com/example/moving_tokens/movingtokens/PartialChoices", "find", "([J)I"⟩ : MethodName)) hown (mvT hZ (own_w hw 63 rfl)) (mvT hZ (own_w hw 64 rfl)) (notFace_of_selects (args := #[]) (mvT hZ (own_w hw 66 rfl))) (mvT hZ (own_w hw 66 rfl)) (mvT hZ (own_w hw 65 rfl)) (by decide) (backOf (W := 0) (rm11 l Z a0 hw [] ao0 aa (1 : Int32) kaa q1 q2 q3 q4 sa1 ca ha pt ks1 kc kh kp sn1 sv1 hc hm1 hs1 T1.heap n0 Zs (by decide) E_ao0 F_ao0_width F_ao0_states F_ao0_counts F_ao0_homes F_ao0_size F_ao0_slots V_sa1 V_ca V_ha V_pt hL1 hN1 ne_ao0_sa1 ne_ao0_ca ne_ao0_ha ne_ao0_pt (Ne.symm ne_ca_sa1) (Ne.symm ne_ha_sa1) (Ne.symm ne_pt_sa1) ne_ca_ha ne_ca_pt ne_ha_pt g_ao0 g_sa1 g_ca g_ha g_pt zr1 V_aa) hZ (own_w hw 67 rfl) (own_w hw 3 rfl) (by decide) (by decide)) q3a q3c (g := (mkF m 120 #[.val (.int p0), .val (.long q1), .second, .val (.long q2), .second, .val (.long q3), .second, .val (.long q4), .second, .val (.int wo), .val (.int 1), .val (.ref aa), .val (.ref ab), .val (.ref ai), .val (.ref ao0)] [(.ref aa), (.ref ao0)])) rfl (by rw [hml]; rfl) (Steps.refl _) (argsL := [(.ref aa)]) (rest := []) (lenOf pd_3 rfl) rfl (by show 2 * 0 + _ ≤ _; exact Nat.le_of_eq rfl) (hb hby at_120) (fun _ _ => ⟨rfl, eq2, (by decide : 10 + 0 ≤ _), (by decide : 226 + 0 ≤ _)⟩)
    dsimp only [Pt.U, Pt.locs, Pt.cells, Pt.slots] at X3 l3 y3 z3 st3 hQ3
    subst l3 y3 z3
    obtain ⟨hv3, Nq3, eq3⟩ := hQ3
    subst hv3
    replace Nf := Fr.app Nf Nq3
    refine own_go (x' := T3.setTop (mkF m 123 #[.val (.int p0), .val (.long q1), .second, .val (.long q2), .second, .val (.long q3), .second, .val (.long q4), .second, .val (.int wo), .val (.int 1), .val (.ref aa), .val (.ref ab), .val (.ref ai), .val (.ref ao0)] [(.int (-1))])) (fun _ k => st3.trans k) ?_
    refine own_go (x' := T3.setTop (mkF m 133 #[.val (.int p0), .val (.long q1), .second, .val (.long q2), .second, .val (.long q3), .second, .val (.long q4), .second, .val (.int wo), .val (.int 1), .val (.ref aa), .val (.ref ab), .val (.ref ai), .val (.ref ao0)] [(.ref ab), (.ref ao0)])) (fun _ k => XS.iconst X3.here hx rfl (hb hby at_123) (XS.icmpYes X3.here hx rfl (pc0 := 124) (pc' := 129) rfl (hb hby at_124) rfl (teq rfl).1 (by decide) (by decide) (XS.aload X3.here hx rfl (hb hby at_129) rfl rfl (XS.aload X3.here hx rfl (hb hby at_131) rfl rfl k)))) ?_
    obtain ⟨cq4, kq4, q4a, q4b, q4c⟩ := isOf hZ eq3 E_ao0
    obtain ⟨_, _, ⟨T4, L4, k4, n4⟩, -, X4, ⟨Lc4, hQ4, l4, y4, z4⟩, st4⟩ := X3.virtualBack hx (y := (⟨"com/example/moving_tokens/movingtokens/PartialChoices", "entry", "([J)I"⟩ : MethodName)) (z := (⟨"com/example/moving_tokens/movingtokens/PartialChoices", "entry", "([J)I"⟩ : MethodName)) hown (mvT hZ (own_w hw 29 rfl)) (mvT hZ (own_w hw 30 rfl)) (notFace_of_selects (args := #[]) (mvT hZ (own_w hw 32 rfl))) (mvT hZ (own_w hw 32 rfl)) (mvT hZ (own_w hw 31 rfl)) (by decide) (backOf (W := 0) (rm4_0 l Z a0 hw [] ao0 ab (1 : Int32) kab q4 q3 q2 q1 sa1 ca ha pt ks1 kc kh kp sn1 sv1 hc hm1 hs1  T1.heap n0 Zs (by decide) E_ao0 F_ao0_width F_ao0_states F_ao0_counts F_ao0_homes F_ao0_size F_ao0_slots V_sa1 V_ca V_ha V_pt hL1 hN1 ne_ao0_sa1 ne_ao0_ca ne_ao0_ha ne_ao0_pt (Ne.symm ne_ca_sa1) (Ne.symm ne_ha_sa1) (Ne.symm ne_pt_sa1) ne_ca_ha ne_ca_pt ne_ha_pt g_ao0 g_sa1 g_ca g_ha g_pt  zr1 V_ab ne_ao0_ab (Ne.symm ne_ab_sa1) ne_ca_ab ne_ha_ab ne_pt_ab) hZ (own_w hw 33 rfl) (own_w hw 3 rfl) (by decide) (by decide)) q4a q4c (g := (mkF m 133 #[.val (.int p0), .val (.long q1), .second, .val (.long q2), .second, .val (.long q3), .second, .val (.long q4), .second, .val (.int wo), .val (.int 1), .val (.ref aa), .val (.ref ab), .val (.ref ai), .val (.ref ao0)] [(.ref ab), (.ref ao0)])) rfl (by rw [hml]; rfl) (Steps.refl _) (argsL := [(.ref ab)]) (rest := []) (lenOf pd_3 rfl) rfl (by show 2 * 0 + _ ≤ _; exact Nat.le_of_eq rfl) (hb hby at_133) (fun _ _ => ⟨rfl, eq3, (by decide : 10 + 0 ≤ _), (by decide : 226 + 0 ≤ _)⟩)
    dsimp only [Pt.U, Pt.locs, Pt.cells, Pt.slots] at X4 l4 y4 z4 st4 hQ4
    subst l4 y4 z4
    obtain ⟨r4, hr4, hv4, Nq4, K4, Eo4, Fo4_width, Fo4_states, Fo4_counts, Fo4_homes, Fo4_size, Fo4_slots, Vs4, Vc4, Vh4, Vp4⟩ := hQ4
    subst hv4
    replace Nf := Fr.app Nf Nq4
    replace V_aa := V_aa.keep K4 (ninS (Ne.symm ne_ao0_aa) (ninS ne_aa_sa1 (ninS (Ne.symm ne_ca_aa) (ninS (Ne.symm ne_ha_aa) (ninS (Ne.symm ne_pt_aa) nin0)))))
    replace V_ab := V_ab.keep K4 (ninS (Ne.symm ne_ao0_ab) (ninS ne_ab_sa1 (ninS (Ne.symm ne_ca_ab) (ninS (Ne.symm ne_ha_ab) (ninS (Ne.symm ne_pt_ab) nin0)))))
    replace V_ai := V_ai.keep K4 (ninS (Ne.symm ne_ao0_ai) (ninS ne_ai_sa1 (ninS (Ne.symm ne_ca_ai) (ninS (Ne.symm ne_ha_ai) (ninS (Ne.symm ne_pt_ai) nin0)))))
    replace Zs := Nat.le_trans Zs K4.1
    replace E_ao0 := Eo4
    replace F_ao0_width := Fo4_width
    replace F_ao0_states := Fo4_states
    replace F_ao0_counts := Fo4_counts
    replace F_ao0_homes := Fo4_homes
    replace F_ao0_size := Fo4_size
    replace F_ao0_slots := Fo4_slots
    replace V_sa1 := Vs4
    replace V_ca := Vc4
    replace V_ha := Vh4
    replace V_pt := Vp4
    rw [own_us1] at V_sa1
    refine own_go (x' := T4.setTop (mkF m 136 #[.val (.int p0), .val (.long q1), .second, .val (.long q2), .second, .val (.long q3), .second, .val (.long q4), .second, .val (.int wo), .val (.int 1), .val (.ref aa), .val (.ref ab), .val (.ref ai), .val (.ref ao0)] [(.int 0)])) (fun _ k => st4.trans k) ?_
    refine own_go (x' := T4.setTop (mkF m 146 #[.val (.int p0), .val (.long q1), .second, .val (.long q2), .second, .val (.long q3), .second, .val (.long q4), .second, .val (.int wo), .val (.int 1), .val (.ref aa), .val (.ref ab), .val (.ref ai), .val (.ref ao0)] [(.ref ai), (.int 0), (.ref ao0)])) (fun _ k => XS.ifYes X4.here hx rfl (pc0 := 136) (pc' := 141) rfl (hb hby at_136) rfl ((if0 _ _).trans (teq rfl).1) (by decide) (by decide) (XS.aload X4.here hx rfl (hb hby at_141) rfl rfl (XS.iconst X4.here hx rfl (hb hby at_143) (XS.aload X4.here hx rfl (hb hby at_144) rfl rfl k)))) ?_
    obtain ⟨cq5, kq5, q5a, q5b, q5c⟩ := isOf hZ rfl E_ao0
    obtain ⟨_, _, ⟨T5, L5, k5, n5⟩, -, X5, ⟨Lc5, hQ5, l5, y5, z5⟩, st5⟩ := X4.virtualBack hx (y := (⟨"com/example/moving_tokens/movingtokens/PartialChoices", "copyState", "(I[J)V"⟩ : MethodName)) (z := (⟨"com/example/moving_tokens/movingtokens/PartialChoices", "copyState", "(I[J)V"⟩ : MethodName)) hown (mvT hZ (own_w hw 68 rfl)) (mvT hZ (own_w hw 69 rfl)) (notFace_of_selects (args := #[]) (mvT hZ (own_w hw 71 rfl))) (mvT hZ (own_w hw 71 rfl)) (mvT hZ (own_w hw 70 rfl)) (by decide) (backOf (W := 0) (rm12_1 l Z a0 hw [] ao0 sa1 ai ks1 kai sn1 _ q4 q3 q2 q1 T4.heap n0 Zs F_ao0_width F_ao0_states V_sa1 V_ai hN1 ne_ao0_ai (Ne.symm ne_ai_sa1) g_ai) hZ (own_w hw 72 rfl) (own_w hw 3 rfl) (by decide) (by decide)) q5a q5c (g := (mkF m 146 #[.val (.int p0), .val (.long q1), .second, .val (.long q2), .second, .val (.long q3), .second, .val (.long q4), .second, .val (.int wo), .val (.int 1), .val (.ref aa), .val (.ref ab), .val (.ref ai), .val (.ref ao0)] [(.ref ai), (.int 0), (.ref ao0)])) rfl (by rw [hml]; rfl) (Steps.refl _) (argsL := [(.int 0), (.ref ai)]) (rest := []) (lenOf pd_7 rfl) rfl (by show 2 * 0 + _ ≤ _; exact Nat.le_of_eq rfl) (hb hby at_146) (fun _ _ => ⟨rfl, rfl, (by decide : 10 + 0 ≤ _), (by decide : 226 + 0 ≤ _)⟩)
    dsimp only [Pt.U, Pt.locs, Pt.cells, Pt.slots] at X5 l5 y5 z5 st5 hQ5
    subst l5 y5 z5
    obtain ⟨hv5, Nq5, K5, Vi5⟩ := hQ5
    subst hv5
    replace Nf := Fr.app Nf Nq5
    replace V_aa := V_aa.keep K5 (ninS ne_aa_ai nin0)
    replace V_ab := V_ab.keep K5 (ninS ne_ab_ai nin0)
    replace E_ao0 := E_ao0.keep K5
    replace F_ao0_width := F_ao0_width.keep K5 (ninS ne_ao0_ai nin0)
    replace F_ao0_states := F_ao0_states.keep K5 (ninS ne_ao0_ai nin0)
    replace F_ao0_counts := F_ao0_counts.keep K5 (ninS ne_ao0_ai nin0)
    replace F_ao0_homes := F_ao0_homes.keep K5 (ninS ne_ao0_ai nin0)
    replace F_ao0_size := F_ao0_size.keep K5 (ninS ne_ao0_ai nin0)
    replace F_ao0_slots := F_ao0_slots.keep K5 (ninS ne_ao0_ai nin0)
    replace V_sa1 := V_sa1.keep K5 (ninS (Ne.symm ne_ai_sa1) nin0)
    replace V_ca := V_ca.keep K5 (ninS ne_ca_ai nin0)
    replace V_ha := V_ha.keep K5 (ninS ne_ha_ai nin0)
    replace V_pt := V_pt.keep K5 (ninS ne_pt_ai nin0)
    replace Zs := Nat.le_trans Zs K5.1
    replace V_ai := Vi5
    refine own_go (x' := T5.setTop (mkF m 149 #[.val (.int p0), .val (.long q1), .second, .val (.long q2), .second, .val (.long q3), .second, .val (.long q4), .second, .val (.int wo), .val (.int 1), .val (.ref aa), .val (.ref ab), .val (.ref ai), .val (.ref ao0)] [])) (fun _ k => st5.trans k) ?_
    refine own_go (x' := T5.setTop (mkF m 152 #[.val (.int p0), .val (.long q1), .second, .val (.long q2), .second, .val (.long q3), .second, .val (.long q4), .second, .val (.int wo), .val (.int 1), .val (.ref aa), .val (.ref ab), .val (.ref ai), .val (.ref ao0)] [(.int 0), (.ref ai)])) (fun _ k => XS.aload X5.here hx rfl (hb hby at_149) rfl rfl (XS.iconst X5.here hx rfl (hb hby at_151) k)) ?_
    obtain ⟨cl6, Ar6, q6, Sz6, Nn6, Hh6, Gg6⟩ := id V_ai
    have hin6 : ¬ ((0 : Int32) < 0 ∨ cl6.slots.size ≤ ((0 : Int32)).toNatClampNeg) := inb_of Sz6 ⟨by decide, by decide⟩
    refine own_go (x' := T5.setTop (mkF m 153 #[.val (.int p0), .val (.long q1), .second, .val (.long q2), .second, .val (.long q3), .second, .val (.long q4), .second, .val (.int wo), .val (.int 1), .val (.ref aa), .val (.ref ab), .val (.ref ai), .val (.ref ao0)] [(.long q4)])) (X5.laload hx (j := (0 : Int32)) (v := (.long q4)) (Eq.trans (congrArg (fun h_ => h_[_]?) rfl) Ar6.1) (State.isArrayOf_alike hZ.alike Ar6.2.1) Ar6.2.2 hin6 (Hh6.at hin6 rfl) (g := (mkF m 152 #[.val (.int p0), .val (.long q1), .second, .val (.long q2), .second, .val (.long q3), .second, .val (.long q4), .second, .val (.int wo), .val (.int 1), .val (.ref aa), .val (.ref ab), .val (.ref ai), .val (.ref ao0)] [(.int 0), (.ref ai)])) rfl rfl (hb hby at_152)) ?_
    refine own_go (x' := T5.setTop (mkF m 156 #[.val (.int p0), .val (.long q1), .second, .val (.long q2), .second, .val (.long q3), .second, .val (.long q4), .second, .val (.int wo), .val (.int 1), .val (.ref aa), .val (.ref ab), .val (.ref ai), .val (.ref ao0)] [(.int 0), (.ref ab), (.long q4)])) (fun _ k => XS.aload X5.here hx rfl (hb hby at_153) rfl rfl (XS.iconst X5.here hx rfl (hb hby at_155) k)) ?_
    obtain ⟨cl7, Ar7, q7, Sz7, Nn7, Hh7, Gg7⟩ := id V_ab
    have hin7 : ¬ ((0 : Int32) < 0 ∨ cl7.slots.size ≤ ((0 : Int32)).toNatClampNeg) := inb_of Sz7 ⟨by decide, by decide⟩
    refine own_go (x' := T5.setTop (mkF m 157 #[.val (.int p0), .val (.long q1), .second, .val (.long q2), .second, .val (.long q3), .second, .val (.long q4), .second, .val (.int wo), .val (.int 1), .val (.ref aa), .val (.ref ab), .val (.ref ai), .val (.ref ao0)] [(.long q4), (.long q4)])) (X5.laload hx (j := (0 : Int32)) (v := (.long q4)) (Eq.trans (congrArg (fun h_ => h_[_]?) rfl) Ar7.1) (State.isArrayOf_alike hZ.alike Ar7.2.1) Ar7.2.2 hin7 (Hh7.at hin7 rfl) (g := (mkF m 156 #[.val (.int p0), .val (.long q1), .second, .val (.long q2), .second, .val (.long q3), .second, .val (.long q4), .second, .val (.int wo), .val (.int 1), .val (.ref aa), .val (.ref ab), .val (.ref ai), .val (.ref ao0)] [(.int 0), (.ref ab), (.long q4)])) rfl rfl (hb hby at_156)) ?_
    refine own_go (x' := T5.setTop (mkF m 164 #[.val (.int p0), .val (.long q1), .second, .val (.long q2), .second, .val (.long q3), .second, .val (.long q4), .second, .val (.int wo), .val (.int 1), .val (.ref aa), .val (.ref ab), .val (.ref ai), .val (.ref ao0)] [(.int 1), (.ref ai)])) (fun _ k => XS.lcmp X5.here hx rfl (hb hby at_157) rfl (XS.ifNo X5.here hx rfl (hb hby at_158) rfl ((if0 _ _).trans (teq ((lw_eq q4 q4).mpr rfl)).2) (XS.aload X5.here hx rfl (hb hby at_161) rfl rfl (XS.iconst X5.here hx rfl (hb hby at_163) k)))) ?_
    obtain ⟨cl8, Ar8, q8, Sz8, Nn8, Hh8, Gg8⟩ := id V_ai
    have hin8 : ¬ ((1 : Int32) < 0 ∨ cl8.slots.size ≤ ((1 : Int32)).toNatClampNeg) := inb_of Sz8 ⟨by decide, by decide⟩
    refine own_go (x' := T5.setTop (mkF m 165 #[.val (.int p0), .val (.long q1), .second, .val (.long q2), .second, .val (.long q3), .second, .val (.long q4), .second, .val (.int wo), .val (.int 1), .val (.ref aa), .val (.ref ab), .val (.ref ai), .val (.ref ao0)] [(.long 0)])) (X5.laload hx (j := (1 : Int32)) (v := (.long 0)) (Eq.trans (congrArg (fun h_ => h_[_]?) rfl) Ar8.1) (State.isArrayOf_alike hZ.alike Ar8.2.1) Ar8.2.2 hin8 (Hh8.at hin8 rfl) (g := (mkF m 164 #[.val (.int p0), .val (.long q1), .second, .val (.long q2), .second, .val (.long q3), .second, .val (.long q4), .second, .val (.int wo), .val (.int 1), .val (.ref aa), .val (.ref ab), .val (.ref ai), .val (.ref ao0)] [(.int 1), (.ref ai)])) rfl rfl (hb hby at_164)) ?_
    refine own_go (x' := T5.setTop (mkF m 183 #[.val (.int p0), .val (.long q1), .second, .val (.long q2), .second, .val (.long q3), .second, .val (.long q4), .second, .val (.int wo), .val (.int 1), .val (.ref aa), .val (.ref ab), .val (.ref ai), .val (.ref ao0)] [])) (fun _ k => XS.iload X5.here hx rfl (hb hby at_165) rfl (XS.iconst X5.here hx rfl (hb hby at_167) (XS.icmpYes X5.here hx rfl (pc0 := 168) (pc' := 178) rfl (hb hby at_168) rfl (flt (Int32.lt_irrefl)).2.2.2 (by decide) (by decide) (XS.lconst X5.here hx rfl (hb hby at_178) (XS.lcmp X5.here hx rfl (hb hby at_179) rfl (XS.ifNo X5.here hx rfl (hb hby at_180) rfl ((if0 _ _).trans (teq ((lw_eq (0 : Int64) (0 : Int64)).mpr rfl)).2) k)))))) ?_
    refine own_go (x' := T5.setTop (mkF m 186 #[.val (.int p0), .val (.long q1), .second, .val (.long q2), .second, .val (.long q3), .second, .val (.long q4), .second, .val (.int wo), .val (.int 1), .val (.ref aa), .val (.ref ab), .val (.ref ai), .val (.ref ao0)] [(.int 2), (.ref ai)])) (fun _ k => XS.aload X5.here hx rfl (hb hby at_183) rfl rfl (XS.iconst X5.here hx rfl (hb hby at_185) k)) ?_
    obtain ⟨cl9, Ar9, q9, Sz9, Nn9, Hh9, Gg9⟩ := id V_ai
    have hin9 : ¬ ((2 : Int32) < 0 ∨ cl9.slots.size ≤ ((2 : Int32)).toNatClampNeg) := inb_of Sz9 ⟨by decide, by decide⟩
    refine own_go (x' := T5.setTop (mkF m 187 #[.val (.int p0), .val (.long q1), .second, .val (.long q2), .second, .val (.long q3), .second, .val (.long q4), .second, .val (.int wo), .val (.int 1), .val (.ref aa), .val (.ref ab), .val (.ref ai), .val (.ref ao0)] [(.long 0)])) (X5.laload hx (j := (2 : Int32)) (v := (.long 0)) (Eq.trans (congrArg (fun h_ => h_[_]?) rfl) Ar9.1) (State.isArrayOf_alike hZ.alike Ar9.2.1) Ar9.2.2 hin9 (Hh9.at hin9 rfl) (g := (mkF m 186 #[.val (.int p0), .val (.long q1), .second, .val (.long q2), .second, .val (.long q3), .second, .val (.long q4), .second, .val (.int wo), .val (.int 1), .val (.ref aa), .val (.ref ab), .val (.ref ai), .val (.ref ao0)] [(.int 2), (.ref ai)])) rfl rfl (hb hby at_186)) ?_
    refine own_go (x' := T5.setTop (mkF m 205 #[.val (.int p0), .val (.long q1), .second, .val (.long q2), .second, .val (.long q3), .second, .val (.long q4), .second, .val (.int wo), .val (.int 1), .val (.ref aa), .val (.ref ab), .val (.ref ai), .val (.ref ao0)] [])) (fun _ k => XS.iload X5.here hx rfl (hb hby at_187) rfl (XS.iconst X5.here hx rfl (hb hby at_189) (XS.icmpYes X5.here hx rfl (pc0 := 190) (pc' := 200) rfl (hb hby at_190) rfl (flt (by decide +kernel : ¬ ((2 : Int32) < (1 : Int32)))).2.2.2 (by decide) (by decide) (XS.lconst X5.here hx rfl (hb hby at_200) (XS.lcmp X5.here hx rfl (hb hby at_201) rfl (XS.ifNo X5.here hx rfl (hb hby at_202) rfl ((if0 _ _).trans (teq ((lw_eq (0 : Int64) (0 : Int64)).mpr rfl)).2) k)))))) ?_
    refine own_go (x' := T5.setTop (mkF m 208 #[.val (.int p0), .val (.long q1), .second, .val (.long q2), .second, .val (.long q3), .second, .val (.long q4), .second, .val (.int wo), .val (.int 1), .val (.ref aa), .val (.ref ab), .val (.ref ai), .val (.ref ao0)] [(.int 3), (.ref ai)])) (fun _ k => XS.aload X5.here hx rfl (hb hby at_205) rfl rfl (XS.iconst X5.here hx rfl (hb hby at_207) k)) ?_
    obtain ⟨cl10, Ar10, q10, Sz10, Nn10, Hh10, Gg10⟩ := id V_ai
    have hin10 : ¬ ((3 : Int32) < 0 ∨ cl10.slots.size ≤ ((3 : Int32)).toNatClampNeg) := inb_of Sz10 ⟨by decide, by decide⟩
    refine own_go (x' := T5.setTop (mkF m 209 #[.val (.int p0), .val (.long q1), .second, .val (.long q2), .second, .val (.long q3), .second, .val (.long q4), .second, .val (.int wo), .val (.int 1), .val (.ref aa), .val (.ref ab), .val (.ref ai), .val (.ref ao0)] [(.long 0)])) (X5.laload hx (j := (3 : Int32)) (v := (.long 0)) (Eq.trans (congrArg (fun h_ => h_[_]?) rfl) Ar10.1) (State.isArrayOf_alike hZ.alike Ar10.2.1) Ar10.2.2 hin10 (Hh10.at hin10 rfl) (g := (mkF m 208 #[.val (.int p0), .val (.long q1), .second, .val (.long q2), .second, .val (.long q3), .second, .val (.long q4), .second, .val (.int wo), .val (.int 1), .val (.ref aa), .val (.ref ab), .val (.ref ai), .val (.ref ao0)] [(.int 3), (.ref ai)])) rfl rfl (hb hby at_208)) ?_
    refine own_go (x' := T5.setTop (mkF m 227 #[.val (.int p0), .val (.long q1), .second, .val (.long q2), .second, .val (.long q3), .second, .val (.long q4), .second, .val (.int wo), .val (.int 1), .val (.ref aa), .val (.ref ab), .val (.ref ai), .val (.ref ao0)] [])) (fun _ k => XS.iload X5.here hx rfl (hb hby at_209) rfl (XS.iconst X5.here hx rfl (hb hby at_211) (XS.icmpYes X5.here hx rfl (pc0 := 212) (pc' := 222) rfl (hb hby at_212) rfl (flt (by decide +kernel : ¬ ((3 : Int32) < (1 : Int32)))).2.2.2 (by decide) (by decide) (XS.lconst X5.here hx rfl (hb hby at_222) (XS.lcmp X5.here hx rfl (hb hby at_223) rfl (XS.ifNo X5.here hx rfl (hb hby at_224) rfl ((if0 _ _).trans (teq ((lw_eq (0 : Int64) (0 : Int64)).mpr rfl)).2) k)))))) ?_
    refine own_go (x' := T5.setTop (mkF m 232 #[.val (.int p0), .val (.long q1), .second, .val (.long q2), .second, .val (.long q3), .second, .val (.long q4), .second, .val (.int wo), .val (.int 1), .val (.ref aa), .val (.ref ab), .val (.ref ai), .val (.ref ao0)] [(.int 1)])) (fun _ k => XS.iconst X5.here hx rfl (hb hby at_227) (XS.goto X5.here hx rfl (pc0 := 228) (pc' := 232) rfl (hb hby at_228) (by decide) (by decide) k)) ?_
    refine own_retN X5 hx hlk (t := .boolean) hret (by simp) (hb hby at_232) (w := (1 : Int32)) rfl ?_ (by decide) (by decide)
    exact ⟨rfl, Nf⟩
  · refine own_go (x' := T1.setTop (mkF m 108 #[.val (.int p0), .val (.long q1), .second, .val (.long q2), .second, .val (.long q3), .second, .val (.long q4), .second, .val (.int wo), .val (.int 2), .val (.ref aa), .val (.ref ab), .val (.ref ai), .val (.ref ao0)] [(.ref ao0)])) (fun _ k => XS.aload X1.here hx rfl (hb hby at_106) rfl rfl k) ?_
    obtain ⟨cq11, kq11, q11a, q11b, q11c⟩ := isOf hZ rfl E_ao0
    obtain ⟨_, _, ⟨T11, L11, k11, n11⟩, -, X11, ⟨Lc11, hQ11, l11, y11, z11⟩, st11⟩ := X1.virtualBack hx (y := (⟨"com/example/moving_tokens/movingtokens/PartialChoices", "size", "()I"⟩ : MethodName)) (z := (⟨"com/example/moving_tokens/movingtokens/PartialChoices", "size", "()I"⟩ : MethodName)) hown (mvT hZ (own_w hw 58 rfl)) (mvT hZ (own_w hw 59 rfl)) (notFace_of_selects (args := #[]) (mvT hZ (own_w hw 61 rfl))) (mvT hZ (own_w hw 61 rfl)) (mvT hZ (own_w hw 60 rfl)) (by decide) (backOf (W := 0) (rm10 l Z a0 hw [] ao0 T1.heap n0 Zs F_ao0_size) hZ (own_w hw 62 rfl) (own_w hw 3 rfl) (by decide) (by decide)) q11a q11c (g := (mkF m 108 #[.val (.int p0), .val (.long q1), .second, .val (.long q2), .second, .val (.long q3), .second, .val (.long q4), .second, .val (.int wo), .val (.int 2), .val (.ref aa), .val (.ref ab), .val (.ref ai), .val (.ref ao0)] [(.ref ao0)])) rfl (by rw [hml]; rfl) (Steps.refl _) (argsL := []) (rest := []) (lenOf pd_6 rfl) rfl (by show 2 * 0 + _ ≤ _; exact Nat.le_of_eq rfl) (hb hby at_108) (fun _ _ => ⟨rfl, rfl, (by decide : 10 + 0 ≤ _), (by decide : 226 + 0 ≤ _)⟩)
    dsimp only [Pt.U, Pt.locs, Pt.cells, Pt.slots] at X11 l11 y11 z11 st11 hQ11
    subst l11 y11 z11
    obtain ⟨hv11, Nq11, eq11⟩ := hQ11
    subst hv11
    replace Nf := Fr.app Nf Nq11
    refine own_go (x' := T11.setTop (mkF m 111 #[.val (.int p0), .val (.long q1), .second, .val (.long q2), .second, .val (.long q3), .second, .val (.long q4), .second, .val (.int wo), .val (.int 2), .val (.ref aa), .val (.ref ab), .val (.ref ai), .val (.ref ao0)] [(.int 0)])) (fun _ k => st11.trans k) ?_
    refine own_go (x' := T11.setTop (mkF m 120 #[.val (.int p0), .val (.long q1), .second, .val (.long q2), .second, .val (.long q3), .second, .val (.long q4), .second, .val (.int wo), .val (.int 2), .val (.ref aa), .val (.ref ab), .val (.ref ai), .val (.ref ao0)] [(.ref aa), (.ref ao0)])) (fun _ k => XS.ifYes X11.here hx rfl (pc0 := 111) (pc' := 116) rfl (hb hby at_111) rfl ((if0 _ _).trans (teq rfl).1) (by decide) (by decide) (XS.aload X11.here hx rfl (hb hby at_116) rfl rfl (XS.aload X11.here hx rfl (hb hby at_118) rfl rfl k))) ?_
    obtain ⟨cq12, kq12, q12a, q12b, q12c⟩ := isOf hZ eq11 E_ao0
    obtain ⟨_, _, ⟨T12, L12, k12, n12⟩, -, X12, ⟨Lc12, hQ12, l12, y12, z12⟩, st12⟩ := X11.virtualBack hx (y := (⟨"com/example/moving_tokens/movingtokens/PartialChoices", "find", "([J)I"⟩ : MethodName)) (z := (⟨"com/example/moving_tokens/movingtokens/PartialChoices", "find", "([J)I"⟩ : MethodName)) hown (mvT hZ (own_w hw 63 rfl)) (mvT hZ (own_w hw 64 rfl)) (notFace_of_selects (args := #[]) (mvT hZ (own_w hw 66 rfl))) (mvT hZ (own_w hw 66 rfl)) (mvT hZ (own_w hw 65 rfl)) (by decide) (backOf (W := 0) (rm11 l Z a0 hw [] ao0 aa (2 : Int32) kaa q1 q2 q3 q4 sa1 ca ha pt ks1 kc kh kp sn1 sv1 hc hm1 hs1 T1.heap n0 Zs (by decide) E_ao0 F_ao0_width F_ao0_states F_ao0_counts F_ao0_homes F_ao0_size F_ao0_slots V_sa1 V_ca V_ha V_pt hL1 hN1 ne_ao0_sa1 ne_ao0_ca ne_ao0_ha ne_ao0_pt (Ne.symm ne_ca_sa1) (Ne.symm ne_ha_sa1) (Ne.symm ne_pt_sa1) ne_ca_ha ne_ca_pt ne_ha_pt g_ao0 g_sa1 g_ca g_ha g_pt zr1 V_aa) hZ (own_w hw 67 rfl) (own_w hw 3 rfl) (by decide) (by decide)) q12a q12c (g := (mkF m 120 #[.val (.int p0), .val (.long q1), .second, .val (.long q2), .second, .val (.long q3), .second, .val (.long q4), .second, .val (.int wo), .val (.int 2), .val (.ref aa), .val (.ref ab), .val (.ref ai), .val (.ref ao0)] [(.ref aa), (.ref ao0)])) rfl (by rw [hml]; rfl) (Steps.refl _) (argsL := [(.ref aa)]) (rest := []) (lenOf pd_3 rfl) rfl (by show 2 * 0 + _ ≤ _; exact Nat.le_of_eq rfl) (hb hby at_120) (fun _ _ => ⟨rfl, eq11, (by decide : 10 + 0 ≤ _), (by decide : 226 + 0 ≤ _)⟩)
    dsimp only [Pt.U, Pt.locs, Pt.cells, Pt.slots] at X12 l12 y12 z12 st12 hQ12
    subst l12 y12 z12
    obtain ⟨hv12, Nq12, eq12⟩ := hQ12
    subst hv12
    replace Nf := Fr.app Nf Nq12
    refine own_go (x' := T12.setTop (mkF m 123 #[.val (.int p0), .val (.long q1), .second, .val (.long q2), .second, .val (.long q3), .second, .val (.long q4), .second, .val (.int wo), .val (.int 2), .val (.ref aa), .val (.ref ab), .val (.ref ai), .val (.ref ao0)] [(.int (-1))])) (fun _ k => st12.trans k) ?_
    refine own_go (x' := T12.setTop (mkF m 133 #[.val (.int p0), .val (.long q1), .second, .val (.long q2), .second, .val (.long q3), .second, .val (.long q4), .second, .val (.int wo), .val (.int 2), .val (.ref aa), .val (.ref ab), .val (.ref ai), .val (.ref ao0)] [(.ref ab), (.ref ao0)])) (fun _ k => XS.iconst X12.here hx rfl (hb hby at_123) (XS.icmpYes X12.here hx rfl (pc0 := 124) (pc' := 129) rfl (hb hby at_124) rfl (teq rfl).1 (by decide) (by decide) (XS.aload X12.here hx rfl (hb hby at_129) rfl rfl (XS.aload X12.here hx rfl (hb hby at_131) rfl rfl k)))) ?_
    obtain ⟨cq13, kq13, q13a, q13b, q13c⟩ := isOf hZ eq12 E_ao0
    obtain ⟨_, _, ⟨T13, L13, k13, n13⟩, -, X13, ⟨Lc13, hQ13, l13, y13, z13⟩, st13⟩ := X12.virtualBack hx (y := (⟨"com/example/moving_tokens/movingtokens/PartialChoices", "entry", "([J)I"⟩ : MethodName)) (z := (⟨"com/example/moving_tokens/movingtokens/PartialChoices", "entry", "([J)I"⟩ : MethodName)) hown (mvT hZ (own_w hw 29 rfl)) (mvT hZ (own_w hw 30 rfl)) (notFace_of_selects (args := #[]) (mvT hZ (own_w hw 32 rfl))) (mvT hZ (own_w hw 32 rfl)) (mvT hZ (own_w hw 31 rfl)) (by decide) (backOf (W := 0) (rm4_0 l Z a0 hw [] ao0 ab (2 : Int32) kab q4 q3 q2 q1 sa1 ca ha pt ks1 kc kh kp sn1 sv1 hc hm1 hs1  T1.heap n0 Zs (by decide) E_ao0 F_ao0_width F_ao0_states F_ao0_counts F_ao0_homes F_ao0_size F_ao0_slots V_sa1 V_ca V_ha V_pt hL1 hN1 ne_ao0_sa1 ne_ao0_ca ne_ao0_ha ne_ao0_pt (Ne.symm ne_ca_sa1) (Ne.symm ne_ha_sa1) (Ne.symm ne_pt_sa1) ne_ca_ha ne_ca_pt ne_ha_pt g_ao0 g_sa1 g_ca g_ha g_pt  zr1 V_ab ne_ao0_ab (Ne.symm ne_ab_sa1) ne_ca_ab ne_ha_ab ne_pt_ab) hZ (own_w hw 33 rfl) (own_w hw 3 rfl) (by decide) (by decide)) q13a q13c (g := (mkF m 133 #[.val (.int p0), .val (.long q1), .second, .val (.long q2), .second, .val (.long q3), .second, .val (.long q4), .second, .val (.int wo), .val (.int 2), .val (.ref aa), .val (.ref ab), .val (.ref ai), .val (.ref ao0)] [(.ref ab), (.ref ao0)])) rfl (by rw [hml]; rfl) (Steps.refl _) (argsL := [(.ref ab)]) (rest := []) (lenOf pd_3 rfl) rfl (by show 2 * 0 + _ ≤ _; exact Nat.le_of_eq rfl) (hb hby at_133) (fun _ _ => ⟨rfl, eq12, (by decide : 10 + 0 ≤ _), (by decide : 226 + 0 ≤ _)⟩)
    dsimp only [Pt.U, Pt.locs, Pt.cells, Pt.slots] at X13 l13 y13 z13 st13 hQ13
    subst l13 y13 z13
    obtain ⟨r13, hr13, hv13, Nq13, K13, Eo13, Fo13_width, Fo13_states, Fo13_counts, Fo13_homes, Fo13_size, Fo13_slots, Vs13, Vc13, Vh13, Vp13⟩ := hQ13
    subst hv13
    replace Nf := Fr.app Nf Nq13
    replace V_aa := V_aa.keep K13 (ninS (Ne.symm ne_ao0_aa) (ninS ne_aa_sa1 (ninS (Ne.symm ne_ca_aa) (ninS (Ne.symm ne_ha_aa) (ninS (Ne.symm ne_pt_aa) nin0)))))
    replace V_ab := V_ab.keep K13 (ninS (Ne.symm ne_ao0_ab) (ninS ne_ab_sa1 (ninS (Ne.symm ne_ca_ab) (ninS (Ne.symm ne_ha_ab) (ninS (Ne.symm ne_pt_ab) nin0)))))
    replace V_ai := V_ai.keep K13 (ninS (Ne.symm ne_ao0_ai) (ninS ne_ai_sa1 (ninS (Ne.symm ne_ca_ai) (ninS (Ne.symm ne_ha_ai) (ninS (Ne.symm ne_pt_ai) nin0)))))
    replace Zs := Nat.le_trans Zs K13.1
    replace E_ao0 := Eo13
    replace F_ao0_width := Fo13_width
    replace F_ao0_states := Fo13_states
    replace F_ao0_counts := Fo13_counts
    replace F_ao0_homes := Fo13_homes
    replace F_ao0_size := Fo13_size
    replace F_ao0_slots := Fo13_slots
    replace V_sa1 := Vs13
    replace V_ca := Vc13
    replace V_ha := Vh13
    replace V_pt := Vp13
    rw [own_us2] at V_sa1
    refine own_go (x' := T13.setTop (mkF m 136 #[.val (.int p0), .val (.long q1), .second, .val (.long q2), .second, .val (.long q3), .second, .val (.long q4), .second, .val (.int wo), .val (.int 2), .val (.ref aa), .val (.ref ab), .val (.ref ai), .val (.ref ao0)] [(.int 0)])) (fun _ k => st13.trans k) ?_
    refine own_go (x' := T13.setTop (mkF m 146 #[.val (.int p0), .val (.long q1), .second, .val (.long q2), .second, .val (.long q3), .second, .val (.long q4), .second, .val (.int wo), .val (.int 2), .val (.ref aa), .val (.ref ab), .val (.ref ai), .val (.ref ao0)] [(.ref ai), (.int 0), (.ref ao0)])) (fun _ k => XS.ifYes X13.here hx rfl (pc0 := 136) (pc' := 141) rfl (hb hby at_136) rfl ((if0 _ _).trans (teq rfl).1) (by decide) (by decide) (XS.aload X13.here hx rfl (hb hby at_141) rfl rfl (XS.iconst X13.here hx rfl (hb hby at_143) (XS.aload X13.here hx rfl (hb hby at_144) rfl rfl k)))) ?_
    obtain ⟨cq14, kq14, q14a, q14b, q14c⟩ := isOf hZ rfl E_ao0
    obtain ⟨_, _, ⟨T14, L14, k14, n14⟩, -, X14, ⟨Lc14, hQ14, l14, y14, z14⟩, st14⟩ := X13.virtualBack hx (y := (⟨"com/example/moving_tokens/movingtokens/PartialChoices", "copyState", "(I[J)V"⟩ : MethodName)) (z := (⟨"com/example/moving_tokens/movingtokens/PartialChoices", "copyState", "(I[J)V"⟩ : MethodName)) hown (mvT hZ (own_w hw 68 rfl)) (mvT hZ (own_w hw 69 rfl)) (notFace_of_selects (args := #[]) (mvT hZ (own_w hw 71 rfl))) (mvT hZ (own_w hw 71 rfl)) (mvT hZ (own_w hw 70 rfl)) (by decide) (backOf (W := 0) (rm12_2 l Z a0 hw [] ao0 sa1 ai ks1 kai sn1 _ q4 q3 q2 q1 T13.heap n0 Zs F_ao0_width F_ao0_states V_sa1 V_ai hN1 ne_ao0_ai (Ne.symm ne_ai_sa1) g_ai) hZ (own_w hw 72 rfl) (own_w hw 3 rfl) (by decide) (by decide)) q14a q14c (g := (mkF m 146 #[.val (.int p0), .val (.long q1), .second, .val (.long q2), .second, .val (.long q3), .second, .val (.long q4), .second, .val (.int wo), .val (.int 2), .val (.ref aa), .val (.ref ab), .val (.ref ai), .val (.ref ao0)] [(.ref ai), (.int 0), (.ref ao0)])) rfl (by rw [hml]; rfl) (Steps.refl _) (argsL := [(.int 0), (.ref ai)]) (rest := []) (lenOf pd_7 rfl) rfl (by show 2 * 0 + _ ≤ _; exact Nat.le_of_eq rfl) (hb hby at_146) (fun _ _ => ⟨rfl, rfl, (by decide : 10 + 0 ≤ _), (by decide : 226 + 0 ≤ _)⟩)
    dsimp only [Pt.U, Pt.locs, Pt.cells, Pt.slots] at X14 l14 y14 z14 st14 hQ14
    subst l14 y14 z14
    obtain ⟨hv14, Nq14, K14, Vi14⟩ := hQ14
    subst hv14
    replace Nf := Fr.app Nf Nq14
    replace V_aa := V_aa.keep K14 (ninS ne_aa_ai nin0)
    replace V_ab := V_ab.keep K14 (ninS ne_ab_ai nin0)
    replace E_ao0 := E_ao0.keep K14
    replace F_ao0_width := F_ao0_width.keep K14 (ninS ne_ao0_ai nin0)
    replace F_ao0_states := F_ao0_states.keep K14 (ninS ne_ao0_ai nin0)
    replace F_ao0_counts := F_ao0_counts.keep K14 (ninS ne_ao0_ai nin0)
    replace F_ao0_homes := F_ao0_homes.keep K14 (ninS ne_ao0_ai nin0)
    replace F_ao0_size := F_ao0_size.keep K14 (ninS ne_ao0_ai nin0)
    replace F_ao0_slots := F_ao0_slots.keep K14 (ninS ne_ao0_ai nin0)
    replace V_sa1 := V_sa1.keep K14 (ninS (Ne.symm ne_ai_sa1) nin0)
    replace V_ca := V_ca.keep K14 (ninS ne_ca_ai nin0)
    replace V_ha := V_ha.keep K14 (ninS ne_ha_ai nin0)
    replace V_pt := V_pt.keep K14 (ninS ne_pt_ai nin0)
    replace Zs := Nat.le_trans Zs K14.1
    replace V_ai := Vi14
    refine own_go (x' := T14.setTop (mkF m 149 #[.val (.int p0), .val (.long q1), .second, .val (.long q2), .second, .val (.long q3), .second, .val (.long q4), .second, .val (.int wo), .val (.int 2), .val (.ref aa), .val (.ref ab), .val (.ref ai), .val (.ref ao0)] [])) (fun _ k => st14.trans k) ?_
    refine own_go (x' := T14.setTop (mkF m 152 #[.val (.int p0), .val (.long q1), .second, .val (.long q2), .second, .val (.long q3), .second, .val (.long q4), .second, .val (.int wo), .val (.int 2), .val (.ref aa), .val (.ref ab), .val (.ref ai), .val (.ref ao0)] [(.int 0), (.ref ai)])) (fun _ k => XS.aload X14.here hx rfl (hb hby at_149) rfl rfl (XS.iconst X14.here hx rfl (hb hby at_151) k)) ?_
    obtain ⟨cl15, Ar15, q15, Sz15, Nn15, Hh15, Gg15⟩ := id V_ai
    have hin15 : ¬ ((0 : Int32) < 0 ∨ cl15.slots.size ≤ ((0 : Int32)).toNatClampNeg) := inb_of Sz15 ⟨by decide, by decide⟩
    refine own_go (x' := T14.setTop (mkF m 153 #[.val (.int p0), .val (.long q1), .second, .val (.long q2), .second, .val (.long q3), .second, .val (.long q4), .second, .val (.int wo), .val (.int 2), .val (.ref aa), .val (.ref ab), .val (.ref ai), .val (.ref ao0)] [(.long q4)])) (X14.laload hx (j := (0 : Int32)) (v := (.long q4)) (Eq.trans (congrArg (fun h_ => h_[_]?) rfl) Ar15.1) (State.isArrayOf_alike hZ.alike Ar15.2.1) Ar15.2.2 hin15 (Hh15.at hin15 rfl) (g := (mkF m 152 #[.val (.int p0), .val (.long q1), .second, .val (.long q2), .second, .val (.long q3), .second, .val (.long q4), .second, .val (.int wo), .val (.int 2), .val (.ref aa), .val (.ref ab), .val (.ref ai), .val (.ref ao0)] [(.int 0), (.ref ai)])) rfl rfl (hb hby at_152)) ?_
    refine own_go (x' := T14.setTop (mkF m 156 #[.val (.int p0), .val (.long q1), .second, .val (.long q2), .second, .val (.long q3), .second, .val (.long q4), .second, .val (.int wo), .val (.int 2), .val (.ref aa), .val (.ref ab), .val (.ref ai), .val (.ref ao0)] [(.int 0), (.ref ab), (.long q4)])) (fun _ k => XS.aload X14.here hx rfl (hb hby at_153) rfl rfl (XS.iconst X14.here hx rfl (hb hby at_155) k)) ?_
    obtain ⟨cl16, Ar16, q16, Sz16, Nn16, Hh16, Gg16⟩ := id V_ab
    have hin16 : ¬ ((0 : Int32) < 0 ∨ cl16.slots.size ≤ ((0 : Int32)).toNatClampNeg) := inb_of Sz16 ⟨by decide, by decide⟩
    refine own_go (x' := T14.setTop (mkF m 157 #[.val (.int p0), .val (.long q1), .second, .val (.long q2), .second, .val (.long q3), .second, .val (.long q4), .second, .val (.int wo), .val (.int 2), .val (.ref aa), .val (.ref ab), .val (.ref ai), .val (.ref ao0)] [(.long q4), (.long q4)])) (X14.laload hx (j := (0 : Int32)) (v := (.long q4)) (Eq.trans (congrArg (fun h_ => h_[_]?) rfl) Ar16.1) (State.isArrayOf_alike hZ.alike Ar16.2.1) Ar16.2.2 hin16 (Hh16.at hin16 rfl) (g := (mkF m 156 #[.val (.int p0), .val (.long q1), .second, .val (.long q2), .second, .val (.long q3), .second, .val (.long q4), .second, .val (.int wo), .val (.int 2), .val (.ref aa), .val (.ref ab), .val (.ref ai), .val (.ref ao0)] [(.int 0), (.ref ab), (.long q4)])) rfl rfl (hb hby at_156)) ?_
    refine own_go (x' := T14.setTop (mkF m 164 #[.val (.int p0), .val (.long q1), .second, .val (.long q2), .second, .val (.long q3), .second, .val (.long q4), .second, .val (.int wo), .val (.int 2), .val (.ref aa), .val (.ref ab), .val (.ref ai), .val (.ref ao0)] [(.int 1), (.ref ai)])) (fun _ k => XS.lcmp X14.here hx rfl (hb hby at_157) rfl (XS.ifNo X14.here hx rfl (hb hby at_158) rfl ((if0 _ _).trans (teq ((lw_eq q4 q4).mpr rfl)).2) (XS.aload X14.here hx rfl (hb hby at_161) rfl rfl (XS.iconst X14.here hx rfl (hb hby at_163) k)))) ?_
    obtain ⟨cl17, Ar17, q17, Sz17, Nn17, Hh17, Gg17⟩ := id V_ai
    have hin17 : ¬ ((1 : Int32) < 0 ∨ cl17.slots.size ≤ ((1 : Int32)).toNatClampNeg) := inb_of Sz17 ⟨by decide, by decide⟩
    refine own_go (x' := T14.setTop (mkF m 165 #[.val (.int p0), .val (.long q1), .second, .val (.long q2), .second, .val (.long q3), .second, .val (.long q4), .second, .val (.int wo), .val (.int 2), .val (.ref aa), .val (.ref ab), .val (.ref ai), .val (.ref ao0)] [(.long q3)])) (X14.laload hx (j := (1 : Int32)) (v := (.long q3)) (Eq.trans (congrArg (fun h_ => h_[_]?) rfl) Ar17.1) (State.isArrayOf_alike hZ.alike Ar17.2.1) Ar17.2.2 hin17 (Hh17.at hin17 rfl) (g := (mkF m 164 #[.val (.int p0), .val (.long q1), .second, .val (.long q2), .second, .val (.long q3), .second, .val (.long q4), .second, .val (.int wo), .val (.int 2), .val (.ref aa), .val (.ref ab), .val (.ref ai), .val (.ref ao0)] [(.int 1), (.ref ai)])) rfl rfl (hb hby at_164)) ?_
    refine own_go (x' := T14.setTop (mkF m 174 #[.val (.int p0), .val (.long q1), .second, .val (.long q2), .second, .val (.long q3), .second, .val (.long q4), .second, .val (.int wo), .val (.int 2), .val (.ref aa), .val (.ref ab), .val (.ref ai), .val (.ref ao0)] [(.int 1), (.ref ab), (.long q3)])) (fun _ k => XS.iload X14.here hx rfl (hb hby at_165) rfl (XS.iconst X14.here hx rfl (hb hby at_167) (XS.icmpNo X14.here hx rfl (hb hby at_168) rfl (tlt (by decide +kernel : ((1 : Int32) < (2 : Int32)))).2.2.2 (XS.aload X14.here hx rfl (hb hby at_171) rfl rfl (XS.iconst X14.here hx rfl (hb hby at_173) k))))) ?_
    obtain ⟨cl18, Ar18, q18, Sz18, Nn18, Hh18, Gg18⟩ := id V_ab
    have hin18 : ¬ ((1 : Int32) < 0 ∨ cl18.slots.size ≤ ((1 : Int32)).toNatClampNeg) := inb_of Sz18 ⟨by decide, by decide⟩
    refine own_go (x' := T14.setTop (mkF m 175 #[.val (.int p0), .val (.long q1), .second, .val (.long q2), .second, .val (.long q3), .second, .val (.long q4), .second, .val (.int wo), .val (.int 2), .val (.ref aa), .val (.ref ab), .val (.ref ai), .val (.ref ao0)] [(.long q3), (.long q3)])) (X14.laload hx (j := (1 : Int32)) (v := (.long q3)) (Eq.trans (congrArg (fun h_ => h_[_]?) rfl) Ar18.1) (State.isArrayOf_alike hZ.alike Ar18.2.1) Ar18.2.2 hin18 (Hh18.at hin18 rfl) (g := (mkF m 174 #[.val (.int p0), .val (.long q1), .second, .val (.long q2), .second, .val (.long q3), .second, .val (.long q4), .second, .val (.int wo), .val (.int 2), .val (.ref aa), .val (.ref ab), .val (.ref ai), .val (.ref ao0)] [(.int 1), (.ref ab), (.long q3)])) rfl rfl (hb hby at_174)) ?_
    refine own_go (x' := T14.setTop (mkF m 186 #[.val (.int p0), .val (.long q1), .second, .val (.long q2), .second, .val (.long q3), .second, .val (.long q4), .second, .val (.int wo), .val (.int 2), .val (.ref aa), .val (.ref ab), .val (.ref ai), .val (.ref ao0)] [(.int 2), (.ref ai)])) (fun _ k => XS.goto X14.here hx rfl (pc0 := 175) (pc' := 179) rfl (hb hby at_175) (by decide) (by decide) (XS.lcmp X14.here hx rfl (hb hby at_179) rfl (XS.ifNo X14.here hx rfl (hb hby at_180) rfl ((if0 _ _).trans (teq ((lw_eq q3 q3).mpr rfl)).2) (XS.aload X14.here hx rfl (hb hby at_183) rfl rfl (XS.iconst X14.here hx rfl (hb hby at_185) k))))) ?_
    obtain ⟨cl19, Ar19, q19, Sz19, Nn19, Hh19, Gg19⟩ := id V_ai
    have hin19 : ¬ ((2 : Int32) < 0 ∨ cl19.slots.size ≤ ((2 : Int32)).toNatClampNeg) := inb_of Sz19 ⟨by decide, by decide⟩
    refine own_go (x' := T14.setTop (mkF m 187 #[.val (.int p0), .val (.long q1), .second, .val (.long q2), .second, .val (.long q3), .second, .val (.long q4), .second, .val (.int wo), .val (.int 2), .val (.ref aa), .val (.ref ab), .val (.ref ai), .val (.ref ao0)] [(.long 0)])) (X14.laload hx (j := (2 : Int32)) (v := (.long 0)) (Eq.trans (congrArg (fun h_ => h_[_]?) rfl) Ar19.1) (State.isArrayOf_alike hZ.alike Ar19.2.1) Ar19.2.2 hin19 (Hh19.at hin19 rfl) (g := (mkF m 186 #[.val (.int p0), .val (.long q1), .second, .val (.long q2), .second, .val (.long q3), .second, .val (.long q4), .second, .val (.int wo), .val (.int 2), .val (.ref aa), .val (.ref ab), .val (.ref ai), .val (.ref ao0)] [(.int 2), (.ref ai)])) rfl rfl (hb hby at_186)) ?_
    refine own_go (x' := T14.setTop (mkF m 205 #[.val (.int p0), .val (.long q1), .second, .val (.long q2), .second, .val (.long q3), .second, .val (.long q4), .second, .val (.int wo), .val (.int 2), .val (.ref aa), .val (.ref ab), .val (.ref ai), .val (.ref ao0)] [])) (fun _ k => XS.iload X14.here hx rfl (hb hby at_187) rfl (XS.iconst X14.here hx rfl (hb hby at_189) (XS.icmpYes X14.here hx rfl (pc0 := 190) (pc' := 200) rfl (hb hby at_190) rfl (flt (Int32.lt_irrefl)).2.2.2 (by decide) (by decide) (XS.lconst X14.here hx rfl (hb hby at_200) (XS.lcmp X14.here hx rfl (hb hby at_201) rfl (XS.ifNo X14.here hx rfl (hb hby at_202) rfl ((if0 _ _).trans (teq ((lw_eq (0 : Int64) (0 : Int64)).mpr rfl)).2) k)))))) ?_
    refine own_go (x' := T14.setTop (mkF m 208 #[.val (.int p0), .val (.long q1), .second, .val (.long q2), .second, .val (.long q3), .second, .val (.long q4), .second, .val (.int wo), .val (.int 2), .val (.ref aa), .val (.ref ab), .val (.ref ai), .val (.ref ao0)] [(.int 3), (.ref ai)])) (fun _ k => XS.aload X14.here hx rfl (hb hby at_205) rfl rfl (XS.iconst X14.here hx rfl (hb hby at_207) k)) ?_
    obtain ⟨cl20, Ar20, q20, Sz20, Nn20, Hh20, Gg20⟩ := id V_ai
    have hin20 : ¬ ((3 : Int32) < 0 ∨ cl20.slots.size ≤ ((3 : Int32)).toNatClampNeg) := inb_of Sz20 ⟨by decide, by decide⟩
    refine own_go (x' := T14.setTop (mkF m 209 #[.val (.int p0), .val (.long q1), .second, .val (.long q2), .second, .val (.long q3), .second, .val (.long q4), .second, .val (.int wo), .val (.int 2), .val (.ref aa), .val (.ref ab), .val (.ref ai), .val (.ref ao0)] [(.long 0)])) (X14.laload hx (j := (3 : Int32)) (v := (.long 0)) (Eq.trans (congrArg (fun h_ => h_[_]?) rfl) Ar20.1) (State.isArrayOf_alike hZ.alike Ar20.2.1) Ar20.2.2 hin20 (Hh20.at hin20 rfl) (g := (mkF m 208 #[.val (.int p0), .val (.long q1), .second, .val (.long q2), .second, .val (.long q3), .second, .val (.long q4), .second, .val (.int wo), .val (.int 2), .val (.ref aa), .val (.ref ab), .val (.ref ai), .val (.ref ao0)] [(.int 3), (.ref ai)])) rfl rfl (hb hby at_208)) ?_
    refine own_go (x' := T14.setTop (mkF m 227 #[.val (.int p0), .val (.long q1), .second, .val (.long q2), .second, .val (.long q3), .second, .val (.long q4), .second, .val (.int wo), .val (.int 2), .val (.ref aa), .val (.ref ab), .val (.ref ai), .val (.ref ao0)] [])) (fun _ k => XS.iload X14.here hx rfl (hb hby at_209) rfl (XS.iconst X14.here hx rfl (hb hby at_211) (XS.icmpYes X14.here hx rfl (pc0 := 212) (pc' := 222) rfl (hb hby at_212) rfl (flt (by decide +kernel : ¬ ((3 : Int32) < (2 : Int32)))).2.2.2 (by decide) (by decide) (XS.lconst X14.here hx rfl (hb hby at_222) (XS.lcmp X14.here hx rfl (hb hby at_223) rfl (XS.ifNo X14.here hx rfl (hb hby at_224) rfl ((if0 _ _).trans (teq ((lw_eq (0 : Int64) (0 : Int64)).mpr rfl)).2) k)))))) ?_
    refine own_go (x' := T14.setTop (mkF m 232 #[.val (.int p0), .val (.long q1), .second, .val (.long q2), .second, .val (.long q3), .second, .val (.long q4), .second, .val (.int wo), .val (.int 2), .val (.ref aa), .val (.ref ab), .val (.ref ai), .val (.ref ao0)] [(.int 1)])) (fun _ k => XS.iconst X14.here hx rfl (hb hby at_227) (XS.goto X14.here hx rfl (pc0 := 228) (pc' := 232) rfl (hb hby at_228) (by decide) (by decide) k)) ?_
    refine own_retN X14 hx hlk (t := .boolean) hret (by simp) (hb hby at_232) (w := (1 : Int32)) rfl ?_ (by decide) (by decide)
    exact ⟨rfl, Nf⟩
  · refine own_go (x' := T1.setTop (mkF m 108 #[.val (.int p0), .val (.long q1), .second, .val (.long q2), .second, .val (.long q3), .second, .val (.long q4), .second, .val (.int wo), .val (.int 3), .val (.ref aa), .val (.ref ab), .val (.ref ai), .val (.ref ao0)] [(.ref ao0)])) (fun _ k => XS.aload X1.here hx rfl (hb hby at_106) rfl rfl k) ?_
    obtain ⟨cq21, kq21, q21a, q21b, q21c⟩ := isOf hZ rfl E_ao0
    obtain ⟨_, _, ⟨T21, L21, k21, n21⟩, -, X21, ⟨Lc21, hQ21, l21, y21, z21⟩, st21⟩ := X1.virtualBack hx (y := (⟨"com/example/moving_tokens/movingtokens/PartialChoices", "size", "()I"⟩ : MethodName)) (z := (⟨"com/example/moving_tokens/movingtokens/PartialChoices", "size", "()I"⟩ : MethodName)) hown (mvT hZ (own_w hw 58 rfl)) (mvT hZ (own_w hw 59 rfl)) (notFace_of_selects (args := #[]) (mvT hZ (own_w hw 61 rfl))) (mvT hZ (own_w hw 61 rfl)) (mvT hZ (own_w hw 60 rfl)) (by decide) (backOf (W := 0) (rm10 l Z a0 hw [] ao0 T1.heap n0 Zs F_ao0_size) hZ (own_w hw 62 rfl) (own_w hw 3 rfl) (by decide) (by decide)) q21a q21c (g := (mkF m 108 #[.val (.int p0), .val (.long q1), .second, .val (.long q2), .second, .val (.long q3), .second, .val (.long q4), .second, .val (.int wo), .val (.int 3), .val (.ref aa), .val (.ref ab), .val (.ref ai), .val (.ref ao0)] [(.ref ao0)])) rfl (by rw [hml]; rfl) (Steps.refl _) (argsL := []) (rest := []) (lenOf pd_6 rfl) rfl (by show 2 * 0 + _ ≤ _; exact Nat.le_of_eq rfl) (hb hby at_108) (fun _ _ => ⟨rfl, rfl, (by decide : 10 + 0 ≤ _), (by decide : 226 + 0 ≤ _)⟩)
    dsimp only [Pt.U, Pt.locs, Pt.cells, Pt.slots] at X21 l21 y21 z21 st21 hQ21
    subst l21 y21 z21
    obtain ⟨hv21, Nq21, eq21⟩ := hQ21
    subst hv21
    replace Nf := Fr.app Nf Nq21
    refine own_go (x' := T21.setTop (mkF m 111 #[.val (.int p0), .val (.long q1), .second, .val (.long q2), .second, .val (.long q3), .second, .val (.long q4), .second, .val (.int wo), .val (.int 3), .val (.ref aa), .val (.ref ab), .val (.ref ai), .val (.ref ao0)] [(.int 0)])) (fun _ k => st21.trans k) ?_
    refine own_go (x' := T21.setTop (mkF m 120 #[.val (.int p0), .val (.long q1), .second, .val (.long q2), .second, .val (.long q3), .second, .val (.long q4), .second, .val (.int wo), .val (.int 3), .val (.ref aa), .val (.ref ab), .val (.ref ai), .val (.ref ao0)] [(.ref aa), (.ref ao0)])) (fun _ k => XS.ifYes X21.here hx rfl (pc0 := 111) (pc' := 116) rfl (hb hby at_111) rfl ((if0 _ _).trans (teq rfl).1) (by decide) (by decide) (XS.aload X21.here hx rfl (hb hby at_116) rfl rfl (XS.aload X21.here hx rfl (hb hby at_118) rfl rfl k))) ?_
    obtain ⟨cq22, kq22, q22a, q22b, q22c⟩ := isOf hZ eq21 E_ao0
    obtain ⟨_, _, ⟨T22, L22, k22, n22⟩, -, X22, ⟨Lc22, hQ22, l22, y22, z22⟩, st22⟩ := X21.virtualBack hx (y := (⟨"com/example/moving_tokens/movingtokens/PartialChoices", "find", "([J)I"⟩ : MethodName)) (z := (⟨"com/example/moving_tokens/movingtokens/PartialChoices", "find", "([J)I"⟩ : MethodName)) hown (mvT hZ (own_w hw 63 rfl)) (mvT hZ (own_w hw 64 rfl)) (notFace_of_selects (args := #[]) (mvT hZ (own_w hw 66 rfl))) (mvT hZ (own_w hw 66 rfl)) (mvT hZ (own_w hw 65 rfl)) (by decide) (backOf (W := 0) (rm11 l Z a0 hw [] ao0 aa (3 : Int32) kaa q1 q2 q3 q4 sa1 ca ha pt ks1 kc kh kp sn1 sv1 hc hm1 hs1 T1.heap n0 Zs (by decide) E_ao0 F_ao0_width F_ao0_states F_ao0_counts F_ao0_homes F_ao0_size F_ao0_slots V_sa1 V_ca V_ha V_pt hL1 hN1 ne_ao0_sa1 ne_ao0_ca ne_ao0_ha ne_ao0_pt (Ne.symm ne_ca_sa1) (Ne.symm ne_ha_sa1) (Ne.symm ne_pt_sa1) ne_ca_ha ne_ca_pt ne_ha_pt g_ao0 g_sa1 g_ca g_ha g_pt zr1 V_aa) hZ (own_w hw 67 rfl) (own_w hw 3 rfl) (by decide) (by decide)) q22a q22c (g := (mkF m 120 #[.val (.int p0), .val (.long q1), .second, .val (.long q2), .second, .val (.long q3), .second, .val (.long q4), .second, .val (.int wo), .val (.int 3), .val (.ref aa), .val (.ref ab), .val (.ref ai), .val (.ref ao0)] [(.ref aa), (.ref ao0)])) rfl (by rw [hml]; rfl) (Steps.refl _) (argsL := [(.ref aa)]) (rest := []) (lenOf pd_3 rfl) rfl (by show 2 * 0 + _ ≤ _; exact Nat.le_of_eq rfl) (hb hby at_120) (fun _ _ => ⟨rfl, eq21, (by decide : 10 + 0 ≤ _), (by decide : 226 + 0 ≤ _)⟩)
    dsimp only [Pt.U, Pt.locs, Pt.cells, Pt.slots] at X22 l22 y22 z22 st22 hQ22
    subst l22 y22 z22
    obtain ⟨hv22, Nq22, eq22⟩ := hQ22
    subst hv22
    replace Nf := Fr.app Nf Nq22
    refine own_go (x' := T22.setTop (mkF m 123 #[.val (.int p0), .val (.long q1), .second, .val (.long q2), .second, .val (.long q3), .second, .val (.long q4), .second, .val (.int wo), .val (.int 3), .val (.ref aa), .val (.ref ab), .val (.ref ai), .val (.ref ao0)] [(.int (-1))])) (fun _ k => st22.trans k) ?_
    refine own_go (x' := T22.setTop (mkF m 133 #[.val (.int p0), .val (.long q1), .second, .val (.long q2), .second, .val (.long q3), .second, .val (.long q4), .second, .val (.int wo), .val (.int 3), .val (.ref aa), .val (.ref ab), .val (.ref ai), .val (.ref ao0)] [(.ref ab), (.ref ao0)])) (fun _ k => XS.iconst X22.here hx rfl (hb hby at_123) (XS.icmpYes X22.here hx rfl (pc0 := 124) (pc' := 129) rfl (hb hby at_124) rfl (teq rfl).1 (by decide) (by decide) (XS.aload X22.here hx rfl (hb hby at_129) rfl rfl (XS.aload X22.here hx rfl (hb hby at_131) rfl rfl k)))) ?_
    obtain ⟨cq23, kq23, q23a, q23b, q23c⟩ := isOf hZ eq22 E_ao0
    obtain ⟨_, _, ⟨T23, L23, k23, n23⟩, -, X23, ⟨Lc23, hQ23, l23, y23, z23⟩, st23⟩ := X22.virtualBack hx (y := (⟨"com/example/moving_tokens/movingtokens/PartialChoices", "entry", "([J)I"⟩ : MethodName)) (z := (⟨"com/example/moving_tokens/movingtokens/PartialChoices", "entry", "([J)I"⟩ : MethodName)) hown (mvT hZ (own_w hw 29 rfl)) (mvT hZ (own_w hw 30 rfl)) (notFace_of_selects (args := #[]) (mvT hZ (own_w hw 32 rfl))) (mvT hZ (own_w hw 32 rfl)) (mvT hZ (own_w hw 31 rfl)) (by decide) (backOf (W := 0) (rm4_0 l Z a0 hw [] ao0 ab (3 : Int32) kab q4 q3 q2 q1 sa1 ca ha pt ks1 kc kh kp sn1 sv1 hc hm1 hs1  T1.heap n0 Zs (by decide) E_ao0 F_ao0_width F_ao0_states F_ao0_counts F_ao0_homes F_ao0_size F_ao0_slots V_sa1 V_ca V_ha V_pt hL1 hN1 ne_ao0_sa1 ne_ao0_ca ne_ao0_ha ne_ao0_pt (Ne.symm ne_ca_sa1) (Ne.symm ne_ha_sa1) (Ne.symm ne_pt_sa1) ne_ca_ha ne_ca_pt ne_ha_pt g_ao0 g_sa1 g_ca g_ha g_pt  zr1 V_ab ne_ao0_ab (Ne.symm ne_ab_sa1) ne_ca_ab ne_ha_ab ne_pt_ab) hZ (own_w hw 33 rfl) (own_w hw 3 rfl) (by decide) (by decide)) q23a q23c (g := (mkF m 133 #[.val (.int p0), .val (.long q1), .second, .val (.long q2), .second, .val (.long q3), .second, .val (.long q4), .second, .val (.int wo), .val (.int 3), .val (.ref aa), .val (.ref ab), .val (.ref ai), .val (.ref ao0)] [(.ref ab), (.ref ao0)])) rfl (by rw [hml]; rfl) (Steps.refl _) (argsL := [(.ref ab)]) (rest := []) (lenOf pd_3 rfl) rfl (by show 2 * 0 + _ ≤ _; exact Nat.le_of_eq rfl) (hb hby at_133) (fun _ _ => ⟨rfl, eq22, (by decide : 10 + 0 ≤ _), (by decide : 226 + 0 ≤ _)⟩)
    dsimp only [Pt.U, Pt.locs, Pt.cells, Pt.slots] at X23 l23 y23 z23 st23 hQ23
    subst l23 y23 z23
    obtain ⟨r23, hr23, hv23, Nq23, K23, Eo23, Fo23_width, Fo23_states, Fo23_counts, Fo23_homes, Fo23_size, Fo23_slots, Vs23, Vc23, Vh23, Vp23⟩ := hQ23
    subst hv23
    replace Nf := Fr.app Nf Nq23
    replace V_aa := V_aa.keep K23 (ninS (Ne.symm ne_ao0_aa) (ninS ne_aa_sa1 (ninS (Ne.symm ne_ca_aa) (ninS (Ne.symm ne_ha_aa) (ninS (Ne.symm ne_pt_aa) nin0)))))
    replace V_ab := V_ab.keep K23 (ninS (Ne.symm ne_ao0_ab) (ninS ne_ab_sa1 (ninS (Ne.symm ne_ca_ab) (ninS (Ne.symm ne_ha_ab) (ninS (Ne.symm ne_pt_ab) nin0)))))
    replace V_ai := V_ai.keep K23 (ninS (Ne.symm ne_ao0_ai) (ninS ne_ai_sa1 (ninS (Ne.symm ne_ca_ai) (ninS (Ne.symm ne_ha_ai) (ninS (Ne.symm ne_pt_ai) nin0)))))
    replace Zs := Nat.le_trans Zs K23.1
    replace E_ao0 := Eo23
    replace F_ao0_width := Fo23_width
    replace F_ao0_states := Fo23_states
    replace F_ao0_counts := Fo23_counts
    replace F_ao0_homes := Fo23_homes
    replace F_ao0_size := Fo23_size
    replace F_ao0_slots := Fo23_slots
    replace V_sa1 := Vs23
    replace V_ca := Vc23
    replace V_ha := Vh23
    replace V_pt := Vp23
    rw [own_us3] at V_sa1
    refine own_go (x' := T23.setTop (mkF m 136 #[.val (.int p0), .val (.long q1), .second, .val (.long q2), .second, .val (.long q3), .second, .val (.long q4), .second, .val (.int wo), .val (.int 3), .val (.ref aa), .val (.ref ab), .val (.ref ai), .val (.ref ao0)] [(.int 0)])) (fun _ k => st23.trans k) ?_
    refine own_go (x' := T23.setTop (mkF m 146 #[.val (.int p0), .val (.long q1), .second, .val (.long q2), .second, .val (.long q3), .second, .val (.long q4), .second, .val (.int wo), .val (.int 3), .val (.ref aa), .val (.ref ab), .val (.ref ai), .val (.ref ao0)] [(.ref ai), (.int 0), (.ref ao0)])) (fun _ k => XS.ifYes X23.here hx rfl (pc0 := 136) (pc' := 141) rfl (hb hby at_136) rfl ((if0 _ _).trans (teq rfl).1) (by decide) (by decide) (XS.aload X23.here hx rfl (hb hby at_141) rfl rfl (XS.iconst X23.here hx rfl (hb hby at_143) (XS.aload X23.here hx rfl (hb hby at_144) rfl rfl k)))) ?_
    obtain ⟨cq24, kq24, q24a, q24b, q24c⟩ := isOf hZ rfl E_ao0
    obtain ⟨_, _, ⟨T24, L24, k24, n24⟩, -, X24, ⟨Lc24, hQ24, l24, y24, z24⟩, st24⟩ := X23.virtualBack hx (y := (⟨"com/example/moving_tokens/movingtokens/PartialChoices", "copyState", "(I[J)V"⟩ : MethodName)) (z := (⟨"com/example/moving_tokens/movingtokens/PartialChoices", "copyState", "(I[J)V"⟩ : MethodName)) hown (mvT hZ (own_w hw 68 rfl)) (mvT hZ (own_w hw 69 rfl)) (notFace_of_selects (args := #[]) (mvT hZ (own_w hw 71 rfl))) (mvT hZ (own_w hw 71 rfl)) (mvT hZ (own_w hw 70 rfl)) (by decide) (backOf (W := 0) (rm12_3 l Z a0 hw [] ao0 sa1 ai ks1 kai sn1 _ q4 q3 q2 q1 T23.heap n0 Zs F_ao0_width F_ao0_states V_sa1 V_ai hN1 ne_ao0_ai (Ne.symm ne_ai_sa1) g_ai) hZ (own_w hw 72 rfl) (own_w hw 3 rfl) (by decide) (by decide)) q24a q24c (g := (mkF m 146 #[.val (.int p0), .val (.long q1), .second, .val (.long q2), .second, .val (.long q3), .second, .val (.long q4), .second, .val (.int wo), .val (.int 3), .val (.ref aa), .val (.ref ab), .val (.ref ai), .val (.ref ao0)] [(.ref ai), (.int 0), (.ref ao0)])) rfl (by rw [hml]; rfl) (Steps.refl _) (argsL := [(.int 0), (.ref ai)]) (rest := []) (lenOf pd_7 rfl) rfl (by show 2 * 0 + _ ≤ _; exact Nat.le_of_eq rfl) (hb hby at_146) (fun _ _ => ⟨rfl, rfl, (by decide : 10 + 0 ≤ _), (by decide : 226 + 0 ≤ _)⟩)
    dsimp only [Pt.U, Pt.locs, Pt.cells, Pt.slots] at X24 l24 y24 z24 st24 hQ24
    subst l24 y24 z24
    obtain ⟨hv24, Nq24, K24, Vi24⟩ := hQ24
    subst hv24
    replace Nf := Fr.app Nf Nq24
    replace V_aa := V_aa.keep K24 (ninS ne_aa_ai nin0)
    replace V_ab := V_ab.keep K24 (ninS ne_ab_ai nin0)
    replace E_ao0 := E_ao0.keep K24
    replace F_ao0_width := F_ao0_width.keep K24 (ninS ne_ao0_ai nin0)
    replace F_ao0_states := F_ao0_states.keep K24 (ninS ne_ao0_ai nin0)
    replace F_ao0_counts := F_ao0_counts.keep K24 (ninS ne_ao0_ai nin0)
    replace F_ao0_homes := F_ao0_homes.keep K24 (ninS ne_ao0_ai nin0)
    replace F_ao0_size := F_ao0_size.keep K24 (ninS ne_ao0_ai nin0)
    replace F_ao0_slots := F_ao0_slots.keep K24 (ninS ne_ao0_ai nin0)
    replace V_sa1 := V_sa1.keep K24 (ninS (Ne.symm ne_ai_sa1) nin0)
    replace V_ca := V_ca.keep K24 (ninS ne_ca_ai nin0)
    replace V_ha := V_ha.keep K24 (ninS ne_ha_ai nin0)
    replace V_pt := V_pt.keep K24 (ninS ne_pt_ai nin0)
    replace Zs := Nat.le_trans Zs K24.1
    replace V_ai := Vi24
    refine own_go (x' := T24.setTop (mkF m 149 #[.val (.int p0), .val (.long q1), .second, .val (.long q2), .second, .val (.long q3), .second, .val (.long q4), .second, .val (.int wo), .val (.int 3), .val (.ref aa), .val (.ref ab), .val (.ref ai), .val (.ref ao0)] [])) (fun _ k => st24.trans k) ?_
    refine own_go (x' := T24.setTop (mkF m 152 #[.val (.int p0), .val (.long q1), .second, .val (.long q2), .second, .val (.long q3), .second, .val (.long q4), .second, .val (.int wo), .val (.int 3), .val (.ref aa), .val (.ref ab), .val (.ref ai), .val (.ref ao0)] [(.int 0), (.ref ai)])) (fun _ k => XS.aload X24.here hx rfl (hb hby at_149) rfl rfl (XS.iconst X24.here hx rfl (hb hby at_151) k)) ?_
    obtain ⟨cl25, Ar25, q25, Sz25, Nn25, Hh25, Gg25⟩ := id V_ai
    have hin25 : ¬ ((0 : Int32) < 0 ∨ cl25.slots.size ≤ ((0 : Int32)).toNatClampNeg) := inb_of Sz25 ⟨by decide, by decide⟩
    refine own_go (x' := T24.setTop (mkF m 153 #[.val (.int p0), .val (.long q1), .second, .val (.long q2), .second, .val (.long q3), .second, .val (.long q4), .second, .val (.int wo), .val (.int 3), .val (.ref aa), .val (.ref ab), .val (.ref ai), .val (.ref ao0)] [(.long q4)])) (X24.laload hx (j := (0 : Int32)) (v := (.long q4)) (Eq.trans (congrArg (fun h_ => h_[_]?) rfl) Ar25.1) (State.isArrayOf_alike hZ.alike Ar25.2.1) Ar25.2.2 hin25 (Hh25.at hin25 rfl) (g := (mkF m 152 #[.val (.int p0), .val (.long q1), .second, .val (.long q2), .second, .val (.long q3), .second, .val (.long q4), .second, .val (.int wo), .val (.int 3), .val (.ref aa), .val (.ref ab), .val (.ref ai), .val (.ref ao0)] [(.int 0), (.ref ai)])) rfl rfl (hb hby at_152)) ?_
    refine own_go (x' := T24.setTop (mkF m 156 #[.val (.int p0), .val (.long q1), .second, .val (.long q2), .second, .val (.long q3), .second, .val (.long q4), .second, .val (.int wo), .val (.int 3), .val (.ref aa), .val (.ref ab), .val (.ref ai), .val (.ref ao0)] [(.int 0), (.ref ab), (.long q4)])) (fun _ k => XS.aload X24.here hx rfl (hb hby at_153) rfl rfl (XS.iconst X24.here hx rfl (hb hby at_155) k)) ?_
    obtain ⟨cl26, Ar26, q26, Sz26, Nn26, Hh26, Gg26⟩ := id V_ab
    have hin26 : ¬ ((0 : Int32) < 0 ∨ cl26.slots.size ≤ ((0 : Int32)).toNatClampNeg) := inb_of Sz26 ⟨by decide, by decide⟩
    refine own_go (x' := T24.setTop (mkF m 157 #[.val (.int p0), .val (.long q1), .second, .val (.long q2), .second, .val (.long q3), .second, .val (.long q4), .second, .val (.int wo), .val (.int 3), .val (.ref aa), .val (.ref ab), .val (.ref ai), .val (.ref ao0)] [(.long q4), (.long q4)])) (X24.laload hx (j := (0 : Int32)) (v := (.long q4)) (Eq.trans (congrArg (fun h_ => h_[_]?) rfl) Ar26.1) (State.isArrayOf_alike hZ.alike Ar26.2.1) Ar26.2.2 hin26 (Hh26.at hin26 rfl) (g := (mkF m 156 #[.val (.int p0), .val (.long q1), .second, .val (.long q2), .second, .val (.long q3), .second, .val (.long q4), .second, .val (.int wo), .val (.int 3), .val (.ref aa), .val (.ref ab), .val (.ref ai), .val (.ref ao0)] [(.int 0), (.ref ab), (.long q4)])) rfl rfl (hb hby at_156)) ?_
    refine own_go (x' := T24.setTop (mkF m 164 #[.val (.int p0), .val (.long q1), .second, .val (.long q2), .second, .val (.long q3), .second, .val (.long q4), .second, .val (.int wo), .val (.int 3), .val (.ref aa), .val (.ref ab), .val (.ref ai), .val (.ref ao0)] [(.int 1), (.ref ai)])) (fun _ k => XS.lcmp X24.here hx rfl (hb hby at_157) rfl (XS.ifNo X24.here hx rfl (hb hby at_158) rfl ((if0 _ _).trans (teq ((lw_eq q4 q4).mpr rfl)).2) (XS.aload X24.here hx rfl (hb hby at_161) rfl rfl (XS.iconst X24.here hx rfl (hb hby at_163) k)))) ?_
    obtain ⟨cl27, Ar27, q27, Sz27, Nn27, Hh27, Gg27⟩ := id V_ai
    have hin27 : ¬ ((1 : Int32) < 0 ∨ cl27.slots.size ≤ ((1 : Int32)).toNatClampNeg) := inb_of Sz27 ⟨by decide, by decide⟩
    refine own_go (x' := T24.setTop (mkF m 165 #[.val (.int p0), .val (.long q1), .second, .val (.long q2), .second, .val (.long q3), .second, .val (.long q4), .second, .val (.int wo), .val (.int 3), .val (.ref aa), .val (.ref ab), .val (.ref ai), .val (.ref ao0)] [(.long q3)])) (X24.laload hx (j := (1 : Int32)) (v := (.long q3)) (Eq.trans (congrArg (fun h_ => h_[_]?) rfl) Ar27.1) (State.isArrayOf_alike hZ.alike Ar27.2.1) Ar27.2.2 hin27 (Hh27.at hin27 rfl) (g := (mkF m 164 #[.val (.int p0), .val (.long q1), .second, .val (.long q2), .second, .val (.long q3), .second, .val (.long q4), .second, .val (.int wo), .val (.int 3), .val (.ref aa), .val (.ref ab), .val (.ref ai), .val (.ref ao0)] [(.int 1), (.ref ai)])) rfl rfl (hb hby at_164)) ?_
    refine own_go (x' := T24.setTop (mkF m 174 #[.val (.int p0), .val (.long q1), .second, .val (.long q2), .second, .val (.long q3), .second, .val (.long q4), .second, .val (.int wo), .val (.int 3), .val (.ref aa), .val (.ref ab), .val (.ref ai), .val (.ref ao0)] [(.int 1), (.ref ab), (.long q3)])) (fun _ k => XS.iload X24.here hx rfl (hb hby at_165) rfl (XS.iconst X24.here hx rfl (hb hby at_167) (XS.icmpNo X24.here hx rfl (hb hby at_168) rfl (tlt (by decide +kernel : ((1 : Int32) < (3 : Int32)))).2.2.2 (XS.aload X24.here hx rfl (hb hby at_171) rfl rfl (XS.iconst X24.here hx rfl (hb hby at_173) k))))) ?_
    obtain ⟨cl28, Ar28, q28, Sz28, Nn28, Hh28, Gg28⟩ := id V_ab
    have hin28 : ¬ ((1 : Int32) < 0 ∨ cl28.slots.size ≤ ((1 : Int32)).toNatClampNeg) := inb_of Sz28 ⟨by decide, by decide⟩
    refine own_go (x' := T24.setTop (mkF m 175 #[.val (.int p0), .val (.long q1), .second, .val (.long q2), .second, .val (.long q3), .second, .val (.long q4), .second, .val (.int wo), .val (.int 3), .val (.ref aa), .val (.ref ab), .val (.ref ai), .val (.ref ao0)] [(.long q3), (.long q3)])) (X24.laload hx (j := (1 : Int32)) (v := (.long q3)) (Eq.trans (congrArg (fun h_ => h_[_]?) rfl) Ar28.1) (State.isArrayOf_alike hZ.alike Ar28.2.1) Ar28.2.2 hin28 (Hh28.at hin28 rfl) (g := (mkF m 174 #[.val (.int p0), .val (.long q1), .second, .val (.long q2), .second, .val (.long q3), .second, .val (.long q4), .second, .val (.int wo), .val (.int 3), .val (.ref aa), .val (.ref ab), .val (.ref ai), .val (.ref ao0)] [(.int 1), (.ref ab), (.long q3)])) rfl rfl (hb hby at_174)) ?_
    refine own_go (x' := T24.setTop (mkF m 186 #[.val (.int p0), .val (.long q1), .second, .val (.long q2), .second, .val (.long q3), .second, .val (.long q4), .second, .val (.int wo), .val (.int 3), .val (.ref aa), .val (.ref ab), .val (.ref ai), .val (.ref ao0)] [(.int 2), (.ref ai)])) (fun _ k => XS.goto X24.here hx rfl (pc0 := 175) (pc' := 179) rfl (hb hby at_175) (by decide) (by decide) (XS.lcmp X24.here hx rfl (hb hby at_179) rfl (XS.ifNo X24.here hx rfl (hb hby at_180) rfl ((if0 _ _).trans (teq ((lw_eq q3 q3).mpr rfl)).2) (XS.aload X24.here hx rfl (hb hby at_183) rfl rfl (XS.iconst X24.here hx rfl (hb hby at_185) k))))) ?_
    obtain ⟨cl29, Ar29, q29, Sz29, Nn29, Hh29, Gg29⟩ := id V_ai
    have hin29 : ¬ ((2 : Int32) < 0 ∨ cl29.slots.size ≤ ((2 : Int32)).toNatClampNeg) := inb_of Sz29 ⟨by decide, by decide⟩
    refine own_go (x' := T24.setTop (mkF m 187 #[.val (.int p0), .val (.long q1), .second, .val (.long q2), .second, .val (.long q3), .second, .val (.long q4), .second, .val (.int wo), .val (.int 3), .val (.ref aa), .val (.ref ab), .val (.ref ai), .val (.ref ao0)] [(.long q2)])) (X24.laload hx (j := (2 : Int32)) (v := (.long q2)) (Eq.trans (congrArg (fun h_ => h_[_]?) rfl) Ar29.1) (State.isArrayOf_alike hZ.alike Ar29.2.1) Ar29.2.2 hin29 (Hh29.at hin29 rfl) (g := (mkF m 186 #[.val (.int p0), .val (.long q1), .second, .val (.long q2), .second, .val (.long q3), .second, .val (.long q4), .second, .val (.int wo), .val (.int 3), .val (.ref aa), .val (.ref ab), .val (.ref ai), .val (.ref ao0)] [(.int 2), (.ref ai)])) rfl rfl (hb hby at_186)) ?_
    refine own_go (x' := T24.setTop (mkF m 196 #[.val (.int p0), .val (.long q1), .second, .val (.long q2), .second, .val (.long q3), .second, .val (.long q4), .second, .val (.int wo), .val (.int 3), .val (.ref aa), .val (.ref ab), .val (.ref ai), .val (.ref ao0)] [(.int 2), (.ref ab), (.long q2)])) (fun _ k => XS.iload X24.here hx rfl (hb hby at_187) rfl (XS.iconst X24.here hx rfl (hb hby at_189) (XS.icmpNo X24.here hx rfl (hb hby at_190) rfl (tlt (by decide +kernel : ((2 : Int32) < (3 : Int32)))).2.2.2 (XS.aload X24.here hx rfl (hb hby at_193) rfl rfl (XS.iconst X24.here hx rfl (hb hby at_195) k))))) ?_
    obtain ⟨cl30, Ar30, q30, Sz30, Nn30, Hh30, Gg30⟩ := id V_ab
    have hin30 : ¬ ((2 : Int32) < 0 ∨ cl30.slots.size ≤ ((2 : Int32)).toNatClampNeg) := inb_of Sz30 ⟨by decide, by decide⟩
    refine own_go (x' := T24.setTop (mkF m 197 #[.val (.int p0), .val (.long q1), .second, .val (.long q2), .second, .val (.long q3), .second, .val (.long q4), .second, .val (.int wo), .val (.int 3), .val (.ref aa), .val (.ref ab), .val (.ref ai), .val (.ref ao0)] [(.long q2), (.long q2)])) (X24.laload hx (j := (2 : Int32)) (v := (.long q2)) (Eq.trans (congrArg (fun h_ => h_[_]?) rfl) Ar30.1) (State.isArrayOf_alike hZ.alike Ar30.2.1) Ar30.2.2 hin30 (Hh30.at hin30 rfl) (g := (mkF m 196 #[.val (.int p0), .val (.long q1), .second, .val (.long q2), .second, .val (.long q3), .second, .val (.long q4), .second, .val (.int wo), .val (.int 3), .val (.ref aa), .val (.ref ab), .val (.ref ai), .val (.ref ao0)] [(.int 2), (.ref ab), (.long q2)])) rfl rfl (hb hby at_196)) ?_
    refine own_go (x' := T24.setTop (mkF m 208 #[.val (.int p0), .val (.long q1), .second, .val (.long q2), .second, .val (.long q3), .second, .val (.long q4), .second, .val (.int wo), .val (.int 3), .val (.ref aa), .val (.ref ab), .val (.ref ai), .val (.ref ao0)] [(.int 3), (.ref ai)])) (fun _ k => XS.goto X24.here hx rfl (pc0 := 197) (pc' := 201) rfl (hb hby at_197) (by decide) (by decide) (XS.lcmp X24.here hx rfl (hb hby at_201) rfl (XS.ifNo X24.here hx rfl (hb hby at_202) rfl ((if0 _ _).trans (teq ((lw_eq q2 q2).mpr rfl)).2) (XS.aload X24.here hx rfl (hb hby at_205) rfl rfl (XS.iconst X24.here hx rfl (hb hby at_207) k))))) ?_
    obtain ⟨cl31, Ar31, q31, Sz31, Nn31, Hh31, Gg31⟩ := id V_ai
    have hin31 : ¬ ((3 : Int32) < 0 ∨ cl31.slots.size ≤ ((3 : Int32)).toNatClampNeg) := inb_of Sz31 ⟨by decide, by decide⟩
    refine own_go (x' := T24.setTop (mkF m 209 #[.val (.int p0), .val (.long q1), .second, .val (.long q2), .second, .val (.long q3), .second, .val (.long q4), .second, .val (.int wo), .val (.int 3), .val (.ref aa), .val (.ref ab), .val (.ref ai), .val (.ref ao0)] [(.long 0)])) (X24.laload hx (j := (3 : Int32)) (v := (.long 0)) (Eq.trans (congrArg (fun h_ => h_[_]?) rfl) Ar31.1) (State.isArrayOf_alike hZ.alike Ar31.2.1) Ar31.2.2 hin31 (Hh31.at hin31 rfl) (g := (mkF m 208 #[.val (.int p0), .val (.long q1), .second, .val (.long q2), .second, .val (.long q3), .second, .val (.long q4), .second, .val (.int wo), .val (.int 3), .val (.ref aa), .val (.ref ab), .val (.ref ai), .val (.ref ao0)] [(.int 3), (.ref ai)])) rfl rfl (hb hby at_208)) ?_
    refine own_go (x' := T24.setTop (mkF m 227 #[.val (.int p0), .val (.long q1), .second, .val (.long q2), .second, .val (.long q3), .second, .val (.long q4), .second, .val (.int wo), .val (.int 3), .val (.ref aa), .val (.ref ab), .val (.ref ai), .val (.ref ao0)] [])) (fun _ k => XS.iload X24.here hx rfl (hb hby at_209) rfl (XS.iconst X24.here hx rfl (hb hby at_211) (XS.icmpYes X24.here hx rfl (pc0 := 212) (pc' := 222) rfl (hb hby at_212) rfl (flt (Int32.lt_irrefl)).2.2.2 (by decide) (by decide) (XS.lconst X24.here hx rfl (hb hby at_222) (XS.lcmp X24.here hx rfl (hb hby at_223) rfl (XS.ifNo X24.here hx rfl (hb hby at_224) rfl ((if0 _ _).trans (teq ((lw_eq (0 : Int64) (0 : Int64)).mpr rfl)).2) k)))))) ?_
    refine own_go (x' := T24.setTop (mkF m 232 #[.val (.int p0), .val (.long q1), .second, .val (.long q2), .second, .val (.long q3), .second, .val (.long q4), .second, .val (.int wo), .val (.int 3), .val (.ref aa), .val (.ref ab), .val (.ref ai), .val (.ref ao0)] [(.int 1)])) (fun _ k => XS.iconst X24.here hx rfl (hb hby at_227) (XS.goto X24.here hx rfl (pc0 := 228) (pc' := 232) rfl (hb hby at_228) (by decide) (by decide) k)) ?_
    refine own_retN X24 hx hlk (t := .boolean) hret (by simp) (hb hby at_232) (w := (1 : Int32)) rfl ?_ (by decide) (by decide)
    exact ⟨rfl, Nf⟩
  · refine own_go (x' := T1.setTop (mkF m 108 #[.val (.int p0), .val (.long q1), .second, .val (.long q2), .second, .val (.long q3), .second, .val (.long q4), .second, .val (.int wo), .val (.int 4), .val (.ref aa), .val (.ref ab), .val (.ref ai), .val (.ref ao0)] [(.ref ao0)])) (fun _ k => XS.aload X1.here hx rfl (hb hby at_106) rfl rfl k) ?_
    obtain ⟨cq32, kq32, q32a, q32b, q32c⟩ := isOf hZ rfl E_ao0
    obtain ⟨_, _, ⟨T32, L32, k32, n32⟩, -, X32, ⟨Lc32, hQ32, l32, y32, z32⟩, st32⟩ := X1.virtualBack hx (y := (⟨"com/example/moving_tokens/movingtokens/PartialChoices", "size", "()I"⟩ : MethodName)) (z := (⟨"com/example/moving_tokens/movingtokens/PartialChoices", "size", "()I"⟩ : MethodName)) hown (mvT hZ (own_w hw 58 rfl)) (mvT hZ (own_w hw 59 rfl)) (notFace_of_selects (args := #[]) (mvT hZ (own_w hw 61 rfl))) (mvT hZ (own_w hw 61 rfl)) (mvT hZ (own_w hw 60 rfl)) (by decide) (backOf (W := 0) (rm10 l Z a0 hw [] ao0 T1.heap n0 Zs F_ao0_size) hZ (own_w hw 62 rfl) (own_w hw 3 rfl) (by decide) (by decide)) q32a q32c (g := (mkF m 108 #[.val (.int p0), .val (.long q1), .second, .val (.long q2), .second, .val (.long q3), .second, .val (.long q4), .second, .val (.int wo), .val (.int 4), .val (.ref aa), .val (.ref ab), .val (.ref ai), .val (.ref ao0)] [(.ref ao0)])) rfl (by rw [hml]; rfl) (Steps.refl _) (argsL := []) (rest := []) (lenOf pd_6 rfl) rfl (by show 2 * 0 + _ ≤ _; exact Nat.le_of_eq rfl) (hb hby at_108) (fun _ _ => ⟨rfl, rfl, (by decide : 10 + 0 ≤ _), (by decide : 226 + 0 ≤ _)⟩)
    dsimp only [Pt.U, Pt.locs, Pt.cells, Pt.slots] at X32 l32 y32 z32 st32 hQ32
    subst l32 y32 z32
    obtain ⟨hv32, Nq32, eq32⟩ := hQ32
    subst hv32
    replace Nf := Fr.app Nf Nq32
    refine own_go (x' := T32.setTop (mkF m 111 #[.val (.int p0), .val (.long q1), .second, .val (.long q2), .second, .val (.long q3), .second, .val (.long q4), .second, .val (.int wo), .val (.int 4), .val (.ref aa), .val (.ref ab), .val (.ref ai), .val (.ref ao0)] [(.int 0)])) (fun _ k => st32.trans k) ?_
    refine own_go (x' := T32.setTop (mkF m 120 #[.val (.int p0), .val (.long q1), .second, .val (.long q2), .second, .val (.long q3), .second, .val (.long q4), .second, .val (.int wo), .val (.int 4), .val (.ref aa), .val (.ref ab), .val (.ref ai), .val (.ref ao0)] [(.ref aa), (.ref ao0)])) (fun _ k => XS.ifYes X32.here hx rfl (pc0 := 111) (pc' := 116) rfl (hb hby at_111) rfl ((if0 _ _).trans (teq rfl).1) (by decide) (by decide) (XS.aload X32.here hx rfl (hb hby at_116) rfl rfl (XS.aload X32.here hx rfl (hb hby at_118) rfl rfl k))) ?_
    obtain ⟨cq33, kq33, q33a, q33b, q33c⟩ := isOf hZ eq32 E_ao0
    obtain ⟨_, _, ⟨T33, L33, k33, n33⟩, -, X33, ⟨Lc33, hQ33, l33, y33, z33⟩, st33⟩ := X32.virtualBack hx (y := (⟨"com/example/moving_tokens/movingtokens/PartialChoices", "find", "([J)I"⟩ : MethodName)) (z := (⟨"com/example/moving_tokens/movingtokens/PartialChoices", "find", "([J)I"⟩ : MethodName)) hown (mvT hZ (own_w hw 63 rfl)) (mvT hZ (own_w hw 64 rfl)) (notFace_of_selects (args := #[]) (mvT hZ (own_w hw 66 rfl))) (mvT hZ (own_w hw 66 rfl)) (mvT hZ (own_w hw 65 rfl)) (by decide) (backOf (W := 0) (rm11 l Z a0 hw [] ao0 aa (4 : Int32) kaa q1 q2 q3 q4 sa1 ca ha pt ks1 kc kh kp sn1 sv1 hc hm1 hs1 T1.heap n0 Zs (by decide) E_ao0 F_ao0_width F_ao0_states F_ao0_counts F_ao0_homes F_ao0_size F_ao0_slots V_sa1 V_ca V_ha V_pt hL1 hN1 ne_ao0_sa1 ne_ao0_ca ne_ao0_ha ne_ao0_pt (Ne.symm ne_ca_sa1) (Ne.symm ne_ha_sa1) (Ne.symm ne_pt_sa1) ne_ca_ha ne_ca_pt ne_ha_pt g_ao0 g_sa1 g_ca g_ha g_pt zr1 V_aa) hZ (own_w hw 67 rfl) (own_w hw 3 rfl) (by decide) (by decide)) q33a q33c (g := (mkF m 120 #[.val (.int p0), .val (.long q1), .second, .val (.long q2), .second, .val (.long q3), .second, .val (.long q4), .second, .val (.int wo), .val (.int 4), .val (.ref aa), .val (.ref ab), .val (.ref ai), .val (.ref ao0)] [(.ref aa), (.ref ao0)])) rfl (by rw [hml]; rfl) (Steps.refl _) (argsL := [(.ref aa)]) (rest := []) (lenOf pd_3 rfl) rfl (by show 2 * 0 + _ ≤ _; exact Nat.le_of_eq rfl) (hb hby at_120) (fun _ _ => ⟨rfl, eq32, (by decide : 10 + 0 ≤ _), (by decide : 226 + 0 ≤ _)⟩)
    dsimp only [Pt.U, Pt.locs, Pt.cells, Pt.slots] at X33 l33 y33 z33 st33 hQ33
    subst l33 y33 z33
    obtain ⟨hv33, Nq33, eq33⟩ := hQ33
    subst hv33
    replace Nf := Fr.app Nf Nq33
    refine own_go (x' := T33.setTop (mkF m 123 #[.val (.int p0), .val (.long q1), .second, .val (.long q2), .second, .val (.long q3), .second, .val (.long q4), .second, .val (.int wo), .val (.int 4), .val (.ref aa), .val (.ref ab), .val (.ref ai), .val (.ref ao0)] [(.int (-1))])) (fun _ k => st33.trans k) ?_
    refine own_go (x' := T33.setTop (mkF m 133 #[.val (.int p0), .val (.long q1), .second, .val (.long q2), .second, .val (.long q3), .second, .val (.long q4), .second, .val (.int wo), .val (.int 4), .val (.ref aa), .val (.ref ab), .val (.ref ai), .val (.ref ao0)] [(.ref ab), (.ref ao0)])) (fun _ k => XS.iconst X33.here hx rfl (hb hby at_123) (XS.icmpYes X33.here hx rfl (pc0 := 124) (pc' := 129) rfl (hb hby at_124) rfl (teq rfl).1 (by decide) (by decide) (XS.aload X33.here hx rfl (hb hby at_129) rfl rfl (XS.aload X33.here hx rfl (hb hby at_131) rfl rfl k)))) ?_
    obtain ⟨cq34, kq34, q34a, q34b, q34c⟩ := isOf hZ eq33 E_ao0
    obtain ⟨_, _, ⟨T34, L34, k34, n34⟩, -, X34, ⟨Lc34, hQ34, l34, y34, z34⟩, st34⟩ := X33.virtualBack hx (y := (⟨"com/example/moving_tokens/movingtokens/PartialChoices", "entry", "([J)I"⟩ : MethodName)) (z := (⟨"com/example/moving_tokens/movingtokens/PartialChoices", "entry", "([J)I"⟩ : MethodName)) hown (mvT hZ (own_w hw 29 rfl)) (mvT hZ (own_w hw 30 rfl)) (notFace_of_selects (args := #[]) (mvT hZ (own_w hw 32 rfl))) (mvT hZ (own_w hw 32 rfl)) (mvT hZ (own_w hw 31 rfl)) (by decide) (backOf (W := 0) (rm4_0 l Z a0 hw [] ao0 ab (4 : Int32) kab q4 q3 q2 q1 sa1 ca ha pt ks1 kc kh kp sn1 sv1 hc hm1 hs1  T1.heap n0 Zs (by decide) E_ao0 F_ao0_width F_ao0_states F_ao0_counts F_ao0_homes F_ao0_size F_ao0_slots V_sa1 V_ca V_ha V_pt hL1 hN1 ne_ao0_sa1 ne_ao0_ca ne_ao0_ha ne_ao0_pt (Ne.symm ne_ca_sa1) (Ne.symm ne_ha_sa1) (Ne.symm ne_pt_sa1) ne_ca_ha ne_ca_pt ne_ha_pt g_ao0 g_sa1 g_ca g_ha g_pt  zr1 V_ab ne_ao0_ab (Ne.symm ne_ab_sa1) ne_ca_ab ne_ha_ab ne_pt_ab) hZ (own_w hw 33 rfl) (own_w hw 3 rfl) (by decide) (by decide)) q34a q34c (g := (mkF m 133 #[.val (.int p0), .val (.long q1), .second, .val (.long q2), .second, .val (.long q3), .second, .val (.long q4), .second, .val (.int wo), .val (.int 4), .val (.ref aa), .val (.ref ab), .val (.ref ai), .val (.ref ao0)] [(.ref ab), (.ref ao0)])) rfl (by rw [hml]; rfl) (Steps.refl _) (argsL := [(.ref ab)]) (rest := []) (lenOf pd_3 rfl) rfl (by show 2 * 0 + _ ≤ _; exact Nat.le_of_eq rfl) (hb hby at_133) (fun _ _ => ⟨rfl, eq33, (by decide : 10 + 0 ≤ _), (by decide : 226 + 0 ≤ _)⟩)
    dsimp only [Pt.U, Pt.locs, Pt.cells, Pt.slots] at X34 l34 y34 z34 st34 hQ34
    subst l34 y34 z34
    obtain ⟨r34, hr34, hv34, Nq34, K34, Eo34, Fo34_width, Fo34_states, Fo34_counts, Fo34_homes, Fo34_size, Fo34_slots, Vs34, Vc34, Vh34, Vp34⟩ := hQ34
    subst hv34
    replace Nf := Fr.app Nf Nq34
    replace V_aa := V_aa.keep K34 (ninS (Ne.symm ne_ao0_aa) (ninS ne_aa_sa1 (ninS (Ne.symm ne_ca_aa) (ninS (Ne.symm ne_ha_aa) (ninS (Ne.symm ne_pt_aa) nin0)))))
    replace V_ab := V_ab.keep K34 (ninS (Ne.symm ne_ao0_ab) (ninS ne_ab_sa1 (ninS (Ne.symm ne_ca_ab) (ninS (Ne.symm ne_ha_ab) (ninS (Ne.symm ne_pt_ab) nin0)))))
    replace V_ai := V_ai.keep K34 (ninS (Ne.symm ne_ao0_ai) (ninS ne_ai_sa1 (ninS (Ne.symm ne_ca_ai) (ninS (Ne.symm ne_ha_ai) (ninS (Ne.symm ne_pt_ai) nin0)))))
    replace Zs := Nat.le_trans Zs K34.1
    replace E_ao0 := Eo34
    replace F_ao0_width := Fo34_width
    replace F_ao0_states := Fo34_states
    replace F_ao0_counts := Fo34_counts
    replace F_ao0_homes := Fo34_homes
    replace F_ao0_size := Fo34_size
    replace F_ao0_slots := Fo34_slots
    replace V_sa1 := Vs34
    replace V_ca := Vc34
    replace V_ha := Vh34
    replace V_pt := Vp34
    rw [own_us4] at V_sa1
    refine own_go (x' := T34.setTop (mkF m 136 #[.val (.int p0), .val (.long q1), .second, .val (.long q2), .second, .val (.long q3), .second, .val (.long q4), .second, .val (.int wo), .val (.int 4), .val (.ref aa), .val (.ref ab), .val (.ref ai), .val (.ref ao0)] [(.int 0)])) (fun _ k => st34.trans k) ?_
    refine own_go (x' := T34.setTop (mkF m 146 #[.val (.int p0), .val (.long q1), .second, .val (.long q2), .second, .val (.long q3), .second, .val (.long q4), .second, .val (.int wo), .val (.int 4), .val (.ref aa), .val (.ref ab), .val (.ref ai), .val (.ref ao0)] [(.ref ai), (.int 0), (.ref ao0)])) (fun _ k => XS.ifYes X34.here hx rfl (pc0 := 136) (pc' := 141) rfl (hb hby at_136) rfl ((if0 _ _).trans (teq rfl).1) (by decide) (by decide) (XS.aload X34.here hx rfl (hb hby at_141) rfl rfl (XS.iconst X34.here hx rfl (hb hby at_143) (XS.aload X34.here hx rfl (hb hby at_144) rfl rfl k)))) ?_
    obtain ⟨cq35, kq35, q35a, q35b, q35c⟩ := isOf hZ rfl E_ao0
    obtain ⟨_, _, ⟨T35, L35, k35, n35⟩, -, X35, ⟨Lc35, hQ35, l35, y35, z35⟩, st35⟩ := X34.virtualBack hx (y := (⟨"com/example/moving_tokens/movingtokens/PartialChoices", "copyState", "(I[J)V"⟩ : MethodName)) (z := (⟨"com/example/moving_tokens/movingtokens/PartialChoices", "copyState", "(I[J)V"⟩ : MethodName)) hown (mvT hZ (own_w hw 68 rfl)) (mvT hZ (own_w hw 69 rfl)) (notFace_of_selects (args := #[]) (mvT hZ (own_w hw 71 rfl))) (mvT hZ (own_w hw 71 rfl)) (mvT hZ (own_w hw 70 rfl)) (by decide) (backOf (W := 0) (rm12_4 l Z a0 hw [] ao0 sa1 ai ks1 kai sn1 _ q4 q3 q2 q1 T34.heap n0 Zs F_ao0_width F_ao0_states V_sa1 V_ai hN1 ne_ao0_ai (Ne.symm ne_ai_sa1) g_ai) hZ (own_w hw 72 rfl) (own_w hw 3 rfl) (by decide) (by decide)) q35a q35c (g := (mkF m 146 #[.val (.int p0), .val (.long q1), .second, .val (.long q2), .second, .val (.long q3), .second, .val (.long q4), .second, .val (.int wo), .val (.int 4), .val (.ref aa), .val (.ref ab), .val (.ref ai), .val (.ref ao0)] [(.ref ai), (.int 0), (.ref ao0)])) rfl (by rw [hml]; rfl) (Steps.refl _) (argsL := [(.int 0), (.ref ai)]) (rest := []) (lenOf pd_7 rfl) rfl (by show 2 * 0 + _ ≤ _; exact Nat.le_of_eq rfl) (hb hby at_146) (fun _ _ => ⟨rfl, rfl, (by decide : 10 + 0 ≤ _), (by decide : 226 + 0 ≤ _)⟩)
    dsimp only [Pt.U, Pt.locs, Pt.cells, Pt.slots] at X35 l35 y35 z35 st35 hQ35
    subst l35 y35 z35
    obtain ⟨hv35, Nq35, K35, Vi35⟩ := hQ35
    subst hv35
    replace Nf := Fr.app Nf Nq35
    replace V_aa := V_aa.keep K35 (ninS ne_aa_ai nin0)
    replace V_ab := V_ab.keep K35 (ninS ne_ab_ai nin0)
    replace E_ao0 := E_ao0.keep K35
    replace F_ao0_width := F_ao0_width.keep K35 (ninS ne_ao0_ai nin0)
    replace F_ao0_states := F_ao0_states.keep K35 (ninS ne_ao0_ai nin0)
    replace F_ao0_counts := F_ao0_counts.keep K35 (ninS ne_ao0_ai nin0)
    replace F_ao0_homes := F_ao0_homes.keep K35 (ninS ne_ao0_ai nin0)
    replace F_ao0_size := F_ao0_size.keep K35 (ninS ne_ao0_ai nin0)
    replace F_ao0_slots := F_ao0_slots.keep K35 (ninS ne_ao0_ai nin0)
    replace V_sa1 := V_sa1.keep K35 (ninS (Ne.symm ne_ai_sa1) nin0)
    replace V_ca := V_ca.keep K35 (ninS ne_ca_ai nin0)
    replace V_ha := V_ha.keep K35 (ninS ne_ha_ai nin0)
    replace V_pt := V_pt.keep K35 (ninS ne_pt_ai nin0)
    replace Zs := Nat.le_trans Zs K35.1
    replace V_ai := Vi35
    refine own_go (x' := T35.setTop (mkF m 149 #[.val (.int p0), .val (.long q1), .second, .val (.long q2), .second, .val (.long q3), .second, .val (.long q4), .second, .val (.int wo), .val (.int 4), .val (.ref aa), .val (.ref ab), .val (.ref ai), .val (.ref ao0)] [])) (fun _ k => st35.trans k) ?_
    refine own_go (x' := T35.setTop (mkF m 152 #[.val (.int p0), .val (.long q1), .second, .val (.long q2), .second, .val (.long q3), .second, .val (.long q4), .second, .val (.int wo), .val (.int 4), .val (.ref aa), .val (.ref ab), .val (.ref ai), .val (.ref ao0)] [(.int 0), (.ref ai)])) (fun _ k => XS.aload X35.here hx rfl (hb hby at_149) rfl rfl (XS.iconst X35.here hx rfl (hb hby at_151) k)) ?_
    obtain ⟨cl36, Ar36, q36, Sz36, Nn36, Hh36, Gg36⟩ := id V_ai
    have hin36 : ¬ ((0 : Int32) < 0 ∨ cl36.slots.size ≤ ((0 : Int32)).toNatClampNeg) := inb_of Sz36 ⟨by decide, by decide⟩
    refine own_go (x' := T35.setTop (mkF m 153 #[.val (.int p0), .val (.long q1), .second, .val (.long q2), .second, .val (.long q3), .second, .val (.long q4), .second, .val (.int wo), .val (.int 4), .val (.ref aa), .val (.ref ab), .val (.ref ai), .val (.ref ao0)] [(.long q4)])) (X35.laload hx (j := (0 : Int32)) (v := (.long q4)) (Eq.trans (congrArg (fun h_ => h_[_]?) rfl) Ar36.1) (State.isArrayOf_alike hZ.alike Ar36.2.1) Ar36.2.2 hin36 (Hh36.at hin36 rfl) (g := (mkF m 152 #[.val (.int p0), .val (.long q1), .second, .val (.long q2), .second, .val (.long q3), .second, .val (.long q4), .second, .val (.int wo), .val (.int 4), .val (.ref aa), .val (.ref ab), .val (.ref ai), .val (.ref ao0)] [(.int 0), (.ref ai)])) rfl rfl (hb hby at_152)) ?_
    refine own_go (x' := T35.setTop (mkF m 156 #[.val (.int p0), .val (.long q1), .second, .val (.long q2), .second, .val (.long q3), .second, .val (.long q4), .second, .val (.int wo), .val (.int 4), .val (.ref aa), .val (.ref ab), .val (.ref ai), .val (.ref ao0)] [(.int 0), (.ref ab), (.long q4)])) (fun _ k => XS.aload X35.here hx rfl (hb hby at_153) rfl rfl (XS.iconst X35.here hx rfl (hb hby at_155) k)) ?_
    obtain ⟨cl37, Ar37, q37, Sz37, Nn37, Hh37, Gg37⟩ := id V_ab
    have hin37 : ¬ ((0 : Int32) < 0 ∨ cl37.slots.size ≤ ((0 : Int32)).toNatClampNeg) := inb_of Sz37 ⟨by decide, by decide⟩
    refine own_go (x' := T35.setTop (mkF m 157 #[.val (.int p0), .val (.long q1), .second, .val (.long q2), .second, .val (.long q3), .second, .val (.long q4), .second, .val (.int wo), .val (.int 4), .val (.ref aa), .val (.ref ab), .val (.ref ai), .val (.ref ao0)] [(.long q4), (.long q4)])) (X35.laload hx (j := (0 : Int32)) (v := (.long q4)) (Eq.trans (congrArg (fun h_ => h_[_]?) rfl) Ar37.1) (State.isArrayOf_alike hZ.alike Ar37.2.1) Ar37.2.2 hin37 (Hh37.at hin37 rfl) (g := (mkF m 156 #[.val (.int p0), .val (.long q1), .second, .val (.long q2), .second, .val (.long q3), .second, .val (.long q4), .second, .val (.int wo), .val (.int 4), .val (.ref aa), .val (.ref ab), .val (.ref ai), .val (.ref ao0)] [(.int 0), (.ref ab), (.long q4)])) rfl rfl (hb hby at_156)) ?_
    refine own_go (x' := T35.setTop (mkF m 164 #[.val (.int p0), .val (.long q1), .second, .val (.long q2), .second, .val (.long q3), .second, .val (.long q4), .second, .val (.int wo), .val (.int 4), .val (.ref aa), .val (.ref ab), .val (.ref ai), .val (.ref ao0)] [(.int 1), (.ref ai)])) (fun _ k => XS.lcmp X35.here hx rfl (hb hby at_157) rfl (XS.ifNo X35.here hx rfl (hb hby at_158) rfl ((if0 _ _).trans (teq ((lw_eq q4 q4).mpr rfl)).2) (XS.aload X35.here hx rfl (hb hby at_161) rfl rfl (XS.iconst X35.here hx rfl (hb hby at_163) k)))) ?_
    obtain ⟨cl38, Ar38, q38, Sz38, Nn38, Hh38, Gg38⟩ := id V_ai
    have hin38 : ¬ ((1 : Int32) < 0 ∨ cl38.slots.size ≤ ((1 : Int32)).toNatClampNeg) := inb_of Sz38 ⟨by decide, by decide⟩
    refine own_go (x' := T35.setTop (mkF m 165 #[.val (.int p0), .val (.long q1), .second, .val (.long q2), .second, .val (.long q3), .second, .val (.long q4), .second, .val (.int wo), .val (.int 4), .val (.ref aa), .val (.ref ab), .val (.ref ai), .val (.ref ao0)] [(.long q3)])) (X35.laload hx (j := (1 : Int32)) (v := (.long q3)) (Eq.trans (congrArg (fun h_ => h_[_]?) rfl) Ar38.1) (State.isArrayOf_alike hZ.alike Ar38.2.1) Ar38.2.2 hin38 (Hh38.at hin38 rfl) (g := (mkF m 164 #[.val (.int p0), .val (.long q1), .second, .val (.long q2), .second, .val (.long q3), .second, .val (.long q4), .second, .val (.int wo), .val (.int 4), .val (.ref aa), .val (.ref ab), .val (.ref ai), .val (.ref ao0)] [(.int 1), (.ref ai)])) rfl rfl (hb hby at_164)) ?_
    refine own_go (x' := T35.setTop (mkF m 174 #[.val (.int p0), .val (.long q1), .second, .val (.long q2), .second, .val (.long q3), .second, .val (.long q4), .second, .val (.int wo), .val (.int 4), .val (.ref aa), .val (.ref ab), .val (.ref ai), .val (.ref ao0)] [(.int 1), (.ref ab), (.long q3)])) (fun _ k => XS.iload X35.here hx rfl (hb hby at_165) rfl (XS.iconst X35.here hx rfl (hb hby at_167) (XS.icmpNo X35.here hx rfl (hb hby at_168) rfl (tlt (by decide +kernel : ((1 : Int32) < (4 : Int32)))).2.2.2 (XS.aload X35.here hx rfl (hb hby at_171) rfl rfl (XS.iconst X35.here hx rfl (hb hby at_173) k))))) ?_
    obtain ⟨cl39, Ar39, q39, Sz39, Nn39, Hh39, Gg39⟩ := id V_ab
    have hin39 : ¬ ((1 : Int32) < 0 ∨ cl39.slots.size ≤ ((1 : Int32)).toNatClampNeg) := inb_of Sz39 ⟨by decide, by decide⟩
    refine own_go (x' := T35.setTop (mkF m 175 #[.val (.int p0), .val (.long q1), .second, .val (.long q2), .second, .val (.long q3), .second, .val (.long q4), .second, .val (.int wo), .val (.int 4), .val (.ref aa), .val (.ref ab), .val (.ref ai), .val (.ref ao0)] [(.long q3), (.long q3)])) (X35.laload hx (j := (1 : Int32)) (v := (.long q3)) (Eq.trans (congrArg (fun h_ => h_[_]?) rfl) Ar39.1) (State.isArrayOf_alike hZ.alike Ar39.2.1) Ar39.2.2 hin39 (Hh39.at hin39 rfl) (g := (mkF m 174 #[.val (.int p0), .val (.long q1), .second, .val (.long q2), .second, .val (.long q3), .second, .val (.long q4), .second, .val (.int wo), .val (.int 4), .val (.ref aa), .val (.ref ab), .val (.ref ai), .val (.ref ao0)] [(.int 1), (.ref ab), (.long q3)])) rfl rfl (hb hby at_174)) ?_
    refine own_go (x' := T35.setTop (mkF m 186 #[.val (.int p0), .val (.long q1), .second, .val (.long q2), .second, .val (.long q3), .second, .val (.long q4), .second, .val (.int wo), .val (.int 4), .val (.ref aa), .val (.ref ab), .val (.ref ai), .val (.ref ao0)] [(.int 2), (.ref ai)])) (fun _ k => XS.goto X35.here hx rfl (pc0 := 175) (pc' := 179) rfl (hb hby at_175) (by decide) (by decide) (XS.lcmp X35.here hx rfl (hb hby at_179) rfl (XS.ifNo X35.here hx rfl (hb hby at_180) rfl ((if0 _ _).trans (teq ((lw_eq q3 q3).mpr rfl)).2) (XS.aload X35.here hx rfl (hb hby at_183) rfl rfl (XS.iconst X35.here hx rfl (hb hby at_185) k))))) ?_
    obtain ⟨cl40, Ar40, q40, Sz40, Nn40, Hh40, Gg40⟩ := id V_ai
    have hin40 : ¬ ((2 : Int32) < 0 ∨ cl40.slots.size ≤ ((2 : Int32)).toNatClampNeg) := inb_of Sz40 ⟨by decide, by decide⟩
    refine own_go (x' := T35.setTop (mkF m 187 #[.val (.int p0), .val (.long q1), .second, .val (.long q2), .second, .val (.long q3), .second, .val (.long q4), .second, .val (.int wo), .val (.int 4), .val (.ref aa), .val (.ref ab), .val (.ref ai), .val (.ref ao0)] [(.long q2)])) (X35.laload hx (j := (2 : Int32)) (v := (.long q2)) (Eq.trans (congrArg (fun h_ => h_[_]?) rfl) Ar40.1) (State.isArrayOf_alike hZ.alike Ar40.2.1) Ar40.2.2 hin40 (Hh40.at hin40 rfl) (g := (mkF m 186 #[.val (.int p0), .val (.long q1), .second, .val (.long q2), .second, .val (.long q3), .second, .val (.long q4), .second, .val (.int wo), .val (.int 4), .val (.ref aa), .val (.ref ab), .val (.ref ai), .val (.ref ao0)] [(.int 2), (.ref ai)])) rfl rfl (hb hby at_186)) ?_
    refine own_go (x' := T35.setTop (mkF m 196 #[.val (.int p0), .val (.long q1), .second, .val (.long q2), .second, .val (.long q3), .second, .val (.long q4), .second, .val (.int wo), .val (.int 4), .val (.ref aa), .val (.ref ab), .val (.ref ai), .val (.ref ao0)] [(.int 2), (.ref ab), (.long q2)])) (fun _ k => XS.iload X35.here hx rfl (hb hby at_187) rfl (XS.iconst X35.here hx rfl (hb hby at_189) (XS.icmpNo X35.here hx rfl (hb hby at_190) rfl (tlt (by decide +kernel : ((2 : Int32) < (4 : Int32)))).2.2.2 (XS.aload X35.here hx rfl (hb hby at_193) rfl rfl (XS.iconst X35.here hx rfl (hb hby at_195) k))))) ?_
    obtain ⟨cl41, Ar41, q41, Sz41, Nn41, Hh41, Gg41⟩ := id V_ab
    have hin41 : ¬ ((2 : Int32) < 0 ∨ cl41.slots.size ≤ ((2 : Int32)).toNatClampNeg) := inb_of Sz41 ⟨by decide, by decide⟩
    refine own_go (x' := T35.setTop (mkF m 197 #[.val (.int p0), .val (.long q1), .second, .val (.long q2), .second, .val (.long q3), .second, .val (.long q4), .second, .val (.int wo), .val (.int 4), .val (.ref aa), .val (.ref ab), .val (.ref ai), .val (.ref ao0)] [(.long q2), (.long q2)])) (X35.laload hx (j := (2 : Int32)) (v := (.long q2)) (Eq.trans (congrArg (fun h_ => h_[_]?) rfl) Ar41.1) (State.isArrayOf_alike hZ.alike Ar41.2.1) Ar41.2.2 hin41 (Hh41.at hin41 rfl) (g := (mkF m 196 #[.val (.int p0), .val (.long q1), .second, .val (.long q2), .second, .val (.long q3), .second, .val (.long q4), .second, .val (.int wo), .val (.int 4), .val (.ref aa), .val (.ref ab), .val (.ref ai), .val (.ref ao0)] [(.int 2), (.ref ab), (.long q2)])) rfl rfl (hb hby at_196)) ?_
    refine own_go (x' := T35.setTop (mkF m 208 #[.val (.int p0), .val (.long q1), .second, .val (.long q2), .second, .val (.long q3), .second, .val (.long q4), .second, .val (.int wo), .val (.int 4), .val (.ref aa), .val (.ref ab), .val (.ref ai), .val (.ref ao0)] [(.int 3), (.ref ai)])) (fun _ k => XS.goto X35.here hx rfl (pc0 := 197) (pc' := 201) rfl (hb hby at_197) (by decide) (by decide) (XS.lcmp X35.here hx rfl (hb hby at_201) rfl (XS.ifNo X35.here hx rfl (hb hby at_202) rfl ((if0 _ _).trans (teq ((lw_eq q2 q2).mpr rfl)).2) (XS.aload X35.here hx rfl (hb hby at_205) rfl rfl (XS.iconst X35.here hx rfl (hb hby at_207) k))))) ?_
    obtain ⟨cl42, Ar42, q42, Sz42, Nn42, Hh42, Gg42⟩ := id V_ai
    have hin42 : ¬ ((3 : Int32) < 0 ∨ cl42.slots.size ≤ ((3 : Int32)).toNatClampNeg) := inb_of Sz42 ⟨by decide, by decide⟩
    refine own_go (x' := T35.setTop (mkF m 209 #[.val (.int p0), .val (.long q1), .second, .val (.long q2), .second, .val (.long q3), .second, .val (.long q4), .second, .val (.int wo), .val (.int 4), .val (.ref aa), .val (.ref ab), .val (.ref ai), .val (.ref ao0)] [(.long q1)])) (X35.laload hx (j := (3 : Int32)) (v := (.long q1)) (Eq.trans (congrArg (fun h_ => h_[_]?) rfl) Ar42.1) (State.isArrayOf_alike hZ.alike Ar42.2.1) Ar42.2.2 hin42 (Hh42.at hin42 rfl) (g := (mkF m 208 #[.val (.int p0), .val (.long q1), .second, .val (.long q2), .second, .val (.long q3), .second, .val (.long q4), .second, .val (.int wo), .val (.int 4), .val (.ref aa), .val (.ref ab), .val (.ref ai), .val (.ref ao0)] [(.int 3), (.ref ai)])) rfl rfl (hb hby at_208)) ?_
    refine own_go (x' := T35.setTop (mkF m 218 #[.val (.int p0), .val (.long q1), .second, .val (.long q2), .second, .val (.long q3), .second, .val (.long q4), .second, .val (.int wo), .val (.int 4), .val (.ref aa), .val (.ref ab), .val (.ref ai), .val (.ref ao0)] [(.int 3), (.ref ab), (.long q1)])) (fun _ k => XS.iload X35.here hx rfl (hb hby at_209) rfl (XS.iconst X35.here hx rfl (hb hby at_211) (XS.icmpNo X35.here hx rfl (hb hby at_212) rfl (tlt (by decide +kernel : ((3 : Int32) < (4 : Int32)))).2.2.2 (XS.aload X35.here hx rfl (hb hby at_215) rfl rfl (XS.iconst X35.here hx rfl (hb hby at_217) k))))) ?_
    obtain ⟨cl43, Ar43, q43, Sz43, Nn43, Hh43, Gg43⟩ := id V_ab
    have hin43 : ¬ ((3 : Int32) < 0 ∨ cl43.slots.size ≤ ((3 : Int32)).toNatClampNeg) := inb_of Sz43 ⟨by decide, by decide⟩
    refine own_go (x' := T35.setTop (mkF m 219 #[.val (.int p0), .val (.long q1), .second, .val (.long q2), .second, .val (.long q3), .second, .val (.long q4), .second, .val (.int wo), .val (.int 4), .val (.ref aa), .val (.ref ab), .val (.ref ai), .val (.ref ao0)] [(.long q1), (.long q1)])) (X35.laload hx (j := (3 : Int32)) (v := (.long q1)) (Eq.trans (congrArg (fun h_ => h_[_]?) rfl) Ar43.1) (State.isArrayOf_alike hZ.alike Ar43.2.1) Ar43.2.2 hin43 (Hh43.at hin43 rfl) (g := (mkF m 218 #[.val (.int p0), .val (.long q1), .second, .val (.long q2), .second, .val (.long q3), .second, .val (.long q4), .second, .val (.int wo), .val (.int 4), .val (.ref aa), .val (.ref ab), .val (.ref ai), .val (.ref ao0)] [(.int 3), (.ref ab), (.long q1)])) rfl rfl (hb hby at_218)) ?_
    refine own_go (x' := T35.setTop (mkF m 232 #[.val (.int p0), .val (.long q1), .second, .val (.long q2), .second, .val (.long q3), .second, .val (.long q4), .second, .val (.int wo), .val (.int 4), .val (.ref aa), .val (.ref ab), .val (.ref ai), .val (.ref ao0)] [(.int 1)])) (fun _ k => XS.goto X35.here hx rfl (pc0 := 219) (pc' := 223) rfl (hb hby at_219) (by decide) (by decide) (XS.lcmp X35.here hx rfl (hb hby at_223) rfl (XS.ifNo X35.here hx rfl (hb hby at_224) rfl ((if0 _ _).trans (teq ((lw_eq q1 q1).mpr rfl)).2) (XS.iconst X35.here hx rfl (hb hby at_227) (XS.goto X35.here hx rfl (pc0 := 228) (pc' := 232) rfl (hb hby at_228) (by decide) (by decide) k))))) ?_
    refine own_retN X35 hx hlk (t := .boolean) hret (by simp) (hb hby at_232) (w := (1 : Int32)) rfl ?_ (by decide) (by decide)
    exact ⟨rfl, Nf⟩
theorem pd_8 : parseMethodDescriptor "()V" = some ⟨[], none⟩ := by decide +kernel
def Q_rm0 (Z : State) (p0 : Int32) (ja : Int64) (jb : Int64) (jc : Int64) (jd : Int64) (h0 : Heap) (n0 : Nat) (v : Option Value) (h : Heap) (L : List Loc) : Prop := v = some (.int 1) ∧ Fr n0 L
theorem pn_rm0 : plainName "com/example/moving_tokens/movingtokens/PartialChoicesClearPinLaw" = true := by first | (simp [plainName, overriddenIn]; done) | decide +kernel
theorem ef_rm0 (m : MethodId) (x0 : Int32) (x1 : Int64) (x2 : Int64) (x3 : Int64) (x4 : Int64) : entryFrame m #[(.int x0), (.long x1), (.long x2), (.long x3), (.long x4)] maxLocals = mkF m 0 #[.val (.int x0), .val (.long x1), .second, .val (.long x2), .second, .val (.long x3), .second, .val (.long x4), .second, .unset, .unset, .unset, .unset, .unset, .unset] [] := by first | (simp [entryFrame, mkF, argsToLocals, Value.category, maxLocals]; done) | rfl
set_option maxRecDepth 65536 in
set_option maxHeartbeats 40000000 in
theorem rm0 (l : Launch) (Z : State) (a0 : Array Value) (hw : ∀ d ∈ tables_1, d.before a0 Z = true) (ws : List Jvm.Cond) (p0 : Int32) (ja : Int64) (jb : Int64) (jc : Int64) (jd : Int64) (h0 : Heap) (n0 : Nat) (Z0 : n0 ≤ h0.size) :
    MetFree l x (head1 (Jvm.Cond.code x code maxLocals ret :: ws) room_1) (fun a U => a = #[(.int p0), (.long ja), (.long jb), (.long jc), (.long jd)] ∧ Z.Warmed39 U.vm ∧ U.heap = h0) (fun _ _ _ _ _ => True) (fun _ U o U' => ∃ v L, o = .returned v ∧ (Q_rm0 Z p0 ja jb jc jd h0 n0) v U'.heap L ∧ FrameEnd U o U' L room_1.cells room_1.slots) := by
  refine MetFree.of_bodySF (plainFor_of_name pn_rm0) hisR ?_
  intro p e s m args below meth c s₁ Bd hml0 hP hK
  obtain ⟨rfl, hZ, hh⟩ := hP
  have hx := Bd.exec
  have hby := Bd.bytes
  have hlk := BodyLoose.notSynchronized Bd
  have hret := Bd.returns
  have hml : c.maxLocals = 15 := hml0
  have hown : s.vm.findClass "com/example/moving_tokens/movingtokens/PartialChoicesClearPinLaw" = some m.cls := findClass_of_methodNamed Bd.named
  have hnm := (name_of_methodNamed Bd.named Bd.method).1
  have X0 : Stand p l e room_1 s m #[(.int p0), (.long ja), (.long jb), (.long jc), (.long jd)] below meth c s₁ [] 0 0 := Stand.of_body Bd
  have e0 : s₁.heap = h0 := by rw [← hh, Bd.state]; rfl
  have Nf := Fr.nil n0
  have Zs := Z0
  have Kp : Keep h0 h0 [] := Keep.refl _ _
  show own_End p e below s (Q_rm0 Z p0 ja jb jc jd h0 n0) room_1.cells room_1.slots (s₁.setTop (entryFrame m #[(.int p0), (.long ja), (.long jb), (.long jc), (.long jd)] maxLocals))
  refine own_go (x' := s₁.setTop (mkF m 0 #[.val (.int p0), .val (.long ja), .second, .val (.long jb), .second, .val (.long jc), .second, .val (.long jd), .second, .unset, .unset, .unset, .unset, .unset, .unset] [])) (fun t k => castTop (ef_rm0 m p0 ja jb jc jd) k) ?_
  refine own_go (x' := s₁.setTop (mkF m 5 #[.val (.int p0), .val (.long ja), .second, .val (.long jb), .second, .val (.long jc), .second, .val (.long jd), .second, .unset, .unset, .unset, .unset, .unset, .unset] [(.int ((1 : Int32) + (p0 &&& (3 : Int32))))])) (fun _ k => XS.iconst X0.here hx rfl (hb hby at_0) (XS.iloadN X0.here hx rfl (hb hby at_1) rfl (XS.iconst X0.here hx rfl (hb hby at_2) (XS.iand X0.here hx rfl (hb hby at_3) rfl (XS.iadd X0.here hx rfl (hb hby at_4) rfl k))))) ?_
  have hw1 := own_w4 p0
  generalize ((1 : Int32) + (p0 &&& (3 : Int32))) = w1v at hw1 ⊢
  refine own_go (x' := s₁.setTop (mkF m 12 #[.val (.int p0), .val (.long ja), .second, .val (.long jb), .second, .val (.long jc), .second, .val (.long jd), .second, .val (.int w1v), .unset, .unset, .unset, .unset, .unset] [(.int 3), (.int ((p0.toUInt32 >>> ((2 : Int32) &&& 31).toUInt32).toInt32)), (.int 1)])) (fun _ k => XS.istore X0.here hx rfl (hb hby at_5) rfl (l' := #[.val (.int p0), .val (.long ja), .second, .val (.long jb), .second, .val (.long jc), .second, .val (.long jd), .second, .val (.int w1v), .unset, .unset, .unset, .unset, .unset]) rfl (XS.iconst X0.here hx rfl (hb hby at_7) (XS.iloadN X0.here hx rfl (hb hby at_8) rfl (XS.iconst X0.here hx rfl (hb hby at_9) (XS.iushr X0.here hx rfl (hb hby at_10) rfl (XS.iconst X0.here hx rfl (hb hby at_11) k)))))) ?_
  refine own_go (x' := s₁.setTop (mkF m 14 #[.val (.int p0), .val (.long ja), .second, .val (.long jb), .second, .val (.long jc), .second, .val (.long jd), .second, .val (.int w1v), .unset, .unset, .unset, .unset, .unset] [(.int ((1 : Int32) + (((p0.toUInt32 >>> ((2 : Int32) &&& 31).toUInt32).toInt32) &&& (3 : Int32))))])) (fun _ k => XS.iand X0.here hx rfl (hb hby at_12) rfl (XS.iadd X0.here hx rfl (hb hby at_13) rfl k)) ?_
  have hwn := own_w4 ((p0.toUInt32 >>> ((2 : Int32) &&& 31).toUInt32).toInt32)
  generalize ((1 : Int32) + (((p0.toUInt32 >>> ((2 : Int32) &&& 31).toUInt32).toInt32) &&& (3 : Int32))) = wn at hwn ⊢
  refine own_go (x' := s₁.setTop (mkF m 17 #[.val (.int p0), .val (.long ja), .second, .val (.long jb), .second, .val (.long jc), .second, .val (.long jd), .second, .val (.int w1v), .val (.int wn), .unset, .unset, .unset, .unset] [(.int 4)])) (fun _ k => XS.istore X0.here hx rfl (hb hby at_14) rfl (l' := #[.val (.int p0), .val (.long ja), .second, .val (.long jb), .second, .val (.long jc), .second, .val (.long jd), .second, .val (.int w1v), .val (.int wn), .unset, .unset, .unset, .unset]) rfl (XS.iconst X0.here hx rfl (hb hby at_16) k)) ?_
  obtain ⟨T1, h1, k1, X1, e1, E1, A1, st1⟩ := newP X0 hx hZ (own_w hw 0 rfl) e0 (g := (mkF m 17 #[.val (.int p0), .val (.long ja), .second, .val (.long jb), .second, .val (.long jc), .second, .val (.long jd), .second, .val (.int w1v), .val (.int wn), .unset, .unset, .unset, .unset] [(.int 4)])) rfl (hb hby at_17) rfl (by decide) (cap := 4) (by decide) (by decide) (by decide) (by decide)
  obtain ⟨b1, g1⟩ : ∃ z, z = h0.size := ⟨_, rfl⟩
  rw [← g1] at A1 st1
  have g_b1 : n0 ≤ b1 := Nat.le_trans Zs (Nat.le_of_eq g1.symm)
  replace Zs := Nat.le_trans Zs E1.1
  have V_b1 : Arv Z h1 b1 k1 .long (4 : Int32) [(.long 0), (.long 0), (.long 0), (.long 0)] (.long 0) := (Arv.new A1 (by decide)).pad (pad_rep [] (.long 0) 4)
  refine own_go (x' := T1.setTop (mkF m 19 #[.val (.int p0), .val (.long ja), .second, .val (.long jb), .second, .val (.long jc), .second, .val (.long jd), .second, .val (.int w1v), .val (.int wn), .unset, .unset, .unset, .unset] [(.ref b1)])) st1 ?_
  refine own_go (x' := T1.setTop (mkF m 22 #[.val (.int p0), .val (.long ja), .second, .val (.long jb), .second, .val (.long jc), .second, .val (.long jd), .second, .val (.int w1v), .val (.int wn), .unset, .unset, .unset, .unset] [(.long ja), (.int 0), (.ref b1), (.ref b1)])) (fun _ k => XS.dup X1.here hx rfl (hb hby at_19) rfl rfl (XS.iconst X1.here hx rfl (hb hby at_20) (XS.lloadN X1.here hx rfl (hb hby at_21) rfl k))) ?_
  obtain ⟨cl2, Ar2, q2, Sz2, Nn2, Hh2, Gg2⟩ := V_b1
  have hin2 : ¬ ((0 : Int32) < 0 ∨ cl2.slots.size ≤ ((0 : Int32)).toNatClampNeg) := inb_of Sz2 ⟨by decide, by decide⟩
  obtain ⟨T2, h2, X2, e2, W2, st2⟩ := stJ X1 hx hZ e1 Ar2 (j := (0 : Int32)) hin2 (g := (mkF m 22 #[.val (.int p0), .val (.long ja), .second, .val (.long jb), .second, .val (.long jc), .second, .val (.long jd), .second, .val (.int w1v), .val (.int wn), .unset, .unset, .unset, .unset] [(.long ja), (.int 0), (.ref b1), (.ref b1)])) rfl rfl (hb hby at_22)
  refine own_go (x' := T2.setTop (mkF m 23 #[.val (.int p0), .val (.long ja), .second, .val (.long jb), .second, .val (.long jc), .second, .val (.long jd), .second, .val (.int w1v), .val (.int wn), .unset, .unset, .unset, .unset] [(.ref b1)])) st2 ?_
  replace Zs := Nat.le_trans Zs (Keep.of_wr W2).1
  replace Nf := Fr.snoc X2 Nf g_b1
  have V_b1 : Arv Z h2 b1 k1 .long (4 : Int32) [(.long ja), (.long 0), (.long 0), (.long 0)] (.long 0) := Arv.set Ar2 q2 Sz2 Nn2 Hh2 Gg2 rfl W2 0 rfl (Nat.le_of_ble_eq_true rfl)
  refine own_go (x' := T2.setTop (mkF m 26 #[.val (.int p0), .val (.long ja), .second, .val (.long jb), .second, .val (.long jc), .second, .val (.long jd), .second, .val (.int w1v), .val (.int wn), .unset, .unset, .unset, .unset] [(.long jb), (.int 1), (.ref b1), (.ref b1)])) (fun _ k => XS.dup X2.here hx rfl (hb hby at_23) rfl rfl (XS.iconst X2.here hx rfl (hb hby at_24) (XS.lloadN X2.here hx rfl (hb hby at_25) rfl k))) ?_
  obtain ⟨cl3, Ar3, q3, Sz3, Nn3, Hh3, Gg3⟩ := V_b1
  have hin3 : ¬ ((1 : Int32) < 0 ∨ cl3.slots.size ≤ ((1 : Int32)).toNatClampNeg) := inb_of Sz3 ⟨by decide, by decide⟩
  obtain ⟨T3, h3, X3, e3, W3, st3⟩ := stJ X2 hx hZ e2 Ar3 (j := (1 : Int32)) hin3 (g := (mkF m 26 #[.val (.int p0), .val (.long ja), .second, .val (.long jb), .second, .val (.long jc), .second, .val (.long jd), .second, .val (.int w1v), .val (.int wn), .unset, .unset, .unset, .unset] [(.long jb), (.int 1), (.ref b1), (.ref b1)])) rfl rfl (hb hby at_26)
  refine own_go (x' := T3.setTop (mkF m 27 #[.val (.int p0), .val (.long ja), .second, .val (.long jb), .second, .val (.long jc), .second, .val (.long jd), .second, .val (.int w1v), .val (.int wn), .unset, .unset, .unset, .unset] [(.ref b1)])) st3 ?_
  replace Zs := Nat.le_trans Zs (Keep.of_wr W3).1
  replace Nf := Fr.snoc X3 Nf g_b1
  have V_b1 : Arv Z h3 b1 k1 .long (4 : Int32) [(.long ja), (.long jb), (.long 0), (.long 0)] (.long 0) := Arv.set Ar3 q3 Sz3 Nn3 Hh3 Gg3 rfl W3 1 rfl (Nat.le_of_ble_eq_true rfl)
  refine own_go (x' := T3.setTop (mkF m 31 #[.val (.int p0), .val (.long ja), .second, .val (.long jb), .second, .val (.long jc), .second, .val (.long jd), .second, .val (.int w1v), .val (.int wn), .unset, .unset, .unset, .unset] [(.long jc), (.int 2), (.ref b1), (.ref b1)])) (fun _ k => XS.dup X3.here hx rfl (hb hby at_27) rfl rfl (XS.iconst X3.here hx rfl (hb hby at_28) (XS.lload X3.here hx rfl (hb hby at_29) rfl k))) ?_
  obtain ⟨cl4, Ar4, q4, Sz4, Nn4, Hh4, Gg4⟩ := V_b1
  have hin4 : ¬ ((2 : Int32) < 0 ∨ cl4.slots.size ≤ ((2 : Int32)).toNatClampNeg) := inb_of Sz4 ⟨by decide, by decide⟩
  obtain ⟨T4, h4, X4, e4, W4, st4⟩ := stJ X3 hx hZ e3 Ar4 (j := (2 : Int32)) hin4 (g := (mkF m 31 #[.val (.int p0), .val (.long ja), .second, .val (.long jb), .second, .val (.long jc), .second, .val (.long jd), .second, .val (.int w1v), .val (.int wn), .unset, .unset, .unset, .unset] [(.long jc), (.int 2), (.ref b1), (.ref b1)])) rfl rfl (hb hby at_31)
  refine own_go (x' := T4.setTop (mkF m 32 #[.val (.int p0), .val (.long ja), .second, .val (.long jb), .second, .val (.long jc), .second, .val (.long jd), .second, .val (.int w1v), .val (.int wn), .unset, .unset, .unset, .unset] [(.ref b1)])) st4 ?_
  replace Zs := Nat.le_trans Zs (Keep.of_wr W4).1
  replace Nf := Fr.snoc X4 Nf g_b1
  have V_b1 : Arv Z h4 b1 k1 .long (4 : Int32) [(.long ja), (.long jb), (.long jc), (.long 0)] (.long 0) := Arv.set Ar4 q4 Sz4 Nn4 Hh4 Gg4 rfl W4 2 rfl (Nat.le_of_ble_eq_true rfl)
  refine own_go (x' := T4.setTop (mkF m 36 #[.val (.int p0), .val (.long ja), .second, .val (.long jb), .second, .val (.long jc), .second, .val (.long jd), .second, .val (.int w1v), .val (.int wn), .unset, .unset, .unset, .unset] [(.long jd), (.int 3), (.ref b1), (.ref b1)])) (fun _ k => XS.dup X4.here hx rfl (hb hby at_32) rfl rfl (XS.iconst X4.here hx rfl (hb hby at_33) (XS.lload X4.here hx rfl (hb hby at_34) rfl k))) ?_
  obtain ⟨cl5, Ar5, q5, Sz5, Nn5, Hh5, Gg5⟩ := V_b1
  have hin5 : ¬ ((3 : Int32) < 0 ∨ cl5.slots.size ≤ ((3 : Int32)).toNatClampNeg) := inb_of Sz5 ⟨by decide, by decide⟩
  obtain ⟨T5, h5, X5, e5, W5, st5⟩ := stJ X4 hx hZ e4 Ar5 (j := (3 : Int32)) hin5 (g := (mkF m 36 #[.val (.int p0), .val (.long ja), .second, .val (.long jb), .second, .val (.long jc), .second, .val (.long jd), .second, .val (.int w1v), .val (.int wn), .unset, .unset, .unset, .unset] [(.long jd), (.int 3), (.ref b1), (.ref b1)])) rfl rfl (hb hby at_36)
  refine own_go (x' := T5.setTop (mkF m 37 #[.val (.int p0), .val (.long ja), .second, .val (.long jb), .second, .val (.long jc), .second, .val (.long jd), .second, .val (.int w1v), .val (.int wn), .unset, .unset, .unset, .unset] [(.ref b1)])) st5 ?_
  replace Zs := Nat.le_trans Zs (Keep.of_wr W5).1
  replace Nf := Fr.snoc X5 Nf g_b1
  have V_b1 : Arv Z h5 b1 k1 .long (4 : Int32) [(.long ja), (.long jb), (.long jc), (.long jd)] (.long 0) := Arv.set Ar5 q5 Sz5 Nn5 Hh5 Gg5 rfl W5 3 rfl (Nat.le_of_ble_eq_true rfl)
  refine own_go (x' := T5.setTop (mkF m 40 #[.val (.int p0), .val (.long ja), .second, .val (.long jb), .second, .val (.long jc), .second, .val (.long jd), .second, .val (.int w1v), .val (.int wn), .val (.ref b1), .unset, .unset, .unset] [(.int 4)])) (fun _ k => XS.astore X5.here hx rfl (hb hby at_37) rfl rfl (l' := #[.val (.int p0), .val (.long ja), .second, .val (.long jb), .second, .val (.long jc), .second, .val (.long jd), .second, .val (.int w1v), .val (.int wn), .val (.ref b1), .unset, .unset, .unset]) rfl (XS.iconst X5.here hx rfl (hb hby at_39) k)) ?_
  obtain ⟨T6, h6, k6, X6, e6, E6, A6, st6⟩ := newP X5 hx hZ (own_w hw 0 rfl) e5 (g := (mkF m 40 #[.val (.int p0), .val (.long ja), .second, .val (.long jb), .second, .val (.long jc), .second, .val (.long jd), .second, .val (.int w1v), .val (.int wn), .val (.ref b1), .unset, .unset, .unset] [(.int 4)])) rfl (hb hby at_40) rfl (by decide) (cap := 4) (by decide) (by decide) (by decide) (by decide)
  obtain ⟨b6, g6⟩ : ∃ z, z = h5.size := ⟨_, rfl⟩
  rw [← g6] at A6 st6
  have ne_b1_b6 : b1 ≠ b6 := Nat.ne_of_lt (Nat.lt_of_lt_of_le V_b1.lt (Nat.le_of_eq g6.symm))
  have g_b6 : n0 ≤ b6 := Nat.le_trans Zs (Nat.le_of_eq g6.symm)
  replace V_b1 := V_b1.ext E6
  replace Zs := Nat.le_trans Zs E6.1
  have V_b6 : Arv Z h6 b6 k6 .long (4 : Int32) [(.long 0), (.long 0), (.long 0), (.long 0)] (.long 0) := (Arv.new A6 (by decide)).pad (pad_rep [] (.long 0) 4)
  refine own_go (x' := T6.setTop (mkF m 42 #[.val (.int p0), .val (.long ja), .second, .val (.long jb), .second, .val (.long jc), .second, .val (.long jd), .second, .val (.int w1v), .val (.int wn), .val (.ref b1), .unset, .unset, .unset] [(.ref b6)])) st6 ?_
  refine own_go (x' := T6.setTop (mkF m 46 #[.val (.int p0), .val (.long ja), .second, .val (.long jb), .second, .val (.long jc), .second, .val (.long jd), .second, .val (.int w1v), .val (.int wn), .val (.ref b1), .unset, .unset, .unset] [(.long jd), (.int 0), (.ref b6), (.ref b6)])) (fun _ k => XS.dup X6.here hx rfl (hb hby at_42) rfl rfl (XS.iconst X6.here hx rfl (hb hby at_43) (XS.lload X6.here hx rfl (hb hby at_44) rfl k))) ?_
  obtain ⟨cl7, Ar7, q7, Sz7, Nn7, Hh7, Gg7⟩ := V_b6
  have hin7 : ¬ ((0 : Int32) < 0 ∨ cl7.slots.size ≤ ((0 : Int32)).toNatClampNeg) := inb_of Sz7 ⟨by decide, by decide⟩
  obtain ⟨T7, h7, X7, e7, W7, st7⟩ := stJ X6 hx hZ e6 Ar7 (j := (0 : Int32)) hin7 (g := (mkF m 46 #[.val (.int p0), .val (.long ja), .second, .val (.long jb), .second, .val (.long jc), .second, .val (.long jd), .second, .val (.int w1v), .val (.int wn), .val (.ref b1), .unset, .unset, .unset] [(.long jd), (.int 0), (.ref b6), (.ref b6)])) rfl rfl (hb hby at_46)
  refine own_go (x' := T7.setTop (mkF m 47 #[.val (.int p0), .val (.long ja), .second, .val (.long jb), .second, .val (.long jc), .second, .val (.long jd), .second, .val (.int w1v), .val (.int wn), .val (.ref b1), .unset, .unset, .unset] [(.ref b6)])) st7 ?_
  replace V_b1 := V_b1.other W7 ne_b1_b6
  replace Zs := Nat.le_trans Zs (Keep.of_wr W7).1
  replace Nf := Fr.snoc X7 Nf g_b6
  have V_b6 : Arv Z h7 b6 k6 .long (4 : Int32) [(.long jd), (.long 0), (.long 0), (.long 0)] (.long 0) := Arv.set Ar7 q7 Sz7 Nn7 Hh7 Gg7 rfl W7 0 rfl (Nat.le_of_ble_eq_true rfl)
  refine own_go (x' := T7.setTop (mkF m 51 #[.val (.int p0), .val (.long ja), .second, .val (.long jb), .second, .val (.long jc), .second, .val (.long jd), .second, .val (.int w1v), .val (.int wn), .val (.ref b1), .unset, .unset, .unset] [(.long jc), (.int 1), (.ref b6), (.ref b6)])) (fun _ k => XS.dup X7.here hx rfl (hb hby at_47) rfl rfl (XS.iconst X7.here hx rfl (hb hby at_48) (XS.lload X7.here hx rfl (hb hby at_49) rfl k))) ?_
  obtain ⟨cl8, Ar8, q8, Sz8, Nn8, Hh8, Gg8⟩ := V_b6
  have hin8 : ¬ ((1 : Int32) < 0 ∨ cl8.slots.size ≤ ((1 : Int32)).toNatClampNeg) := inb_of Sz8 ⟨by decide, by decide⟩
  obtain ⟨T8, h8, X8, e8, W8, st8⟩ := stJ X7 hx hZ e7 Ar8 (j := (1 : Int32)) hin8 (g := (mkF m 51 #[.val (.int p0), .val (.long ja), .second, .val (.long jb), .second, .val (.long jc), .second, .val (.long jd), .second, .val (.int w1v), .val (.int wn), .val (.ref b1), .unset, .unset, .unset] [(.long jc), (.int 1), (.ref b6), (.ref b6)])) rfl rfl (hb hby at_51)
  refine own_go (x' := T8.setTop (mkF m 52 #[.val (.int p0), .val (.long ja), .second, .val (.long jb), .second, .val (.long jc), .second, .val (.long jd), .second, .val (.int w1v), .val (.int wn), .val (.ref b1), .unset, .unset, .unset] [(.ref b6)])) st8 ?_
  replace V_b1 := V_b1.other W8 ne_b1_b6
  replace Zs := Nat.le_trans Zs (Keep.of_wr W8).1
  replace Nf := Fr.snoc X8 Nf g_b6
  have V_b6 : Arv Z h8 b6 k6 .long (4 : Int32) [(.long jd), (.long jc), (.long 0), (.long 0)] (.long 0) := Arv.set Ar8 q8 Sz8 Nn8 Hh8 Gg8 rfl W8 1 rfl (Nat.le_of_ble_eq_true rfl)
  refine own_go (x' := T8.setTop (mkF m 55 #[.val (.int p0), .val (.long ja), .second, .val (.long jb), .second, .val (.long jc), .second, .val (.long jd), .second, .val (.int w1v), .val (.int wn), .val (.ref b1), .unset, .unset, .unset] [(.long jb), (.int 2), (.ref b6), (.ref b6)])) (fun _ k => XS.dup X8.here hx rfl (hb hby at_52) rfl rfl (XS.iconst X8.here hx rfl (hb hby at_53) (XS.lloadN X8.here hx rfl (hb hby at_54) rfl k))) ?_
  obtain ⟨cl9, Ar9, q9, Sz9, Nn9, Hh9, Gg9⟩ := V_b6
  have hin9 : ¬ ((2 : Int32) < 0 ∨ cl9.slots.size ≤ ((2 : Int32)).toNatClampNeg) := inb_of Sz9 ⟨by decide, by decide⟩
  obtain ⟨T9, h9, X9, e9, W9, st9⟩ := stJ X8 hx hZ e8 Ar9 (j := (2 : Int32)) hin9 (g := (mkF m 55 #[.val (.int p0), .val (.long ja), .second, .val (.long jb), .second, .val (.long jc), .second, .val (.long jd), .second, .val (.int w1v), .val (.int wn), .val (.ref b1), .unset, .unset, .unset] [(.long jb), (.int 2), (.ref b6), (.ref b6)])) rfl rfl (hb hby at_55)
  refine own_go (x' := T9.setTop (mkF m 56 #[.val (.int p0), .val (.long ja), .second, .val (.long jb), .second, .val (.long jc), .second, .val (.long jd), .second, .val (.int w1v), .val (.int wn), .val (.ref b1), .unset, .unset, .unset] [(.ref b6)])) st9 ?_
  replace V_b1 := V_b1.other W9 ne_b1_b6
  replace Zs := Nat.le_trans Zs (Keep.of_wr W9).1
  replace Nf := Fr.snoc X9 Nf g_b6
  have V_b6 : Arv Z h9 b6 k6 .long (4 : Int32) [(.long jd), (.long jc), (.long jb), (.long 0)] (.long 0) := Arv.set Ar9 q9 Sz9 Nn9 Hh9 Gg9 rfl W9 2 rfl (Nat.le_of_ble_eq_true rfl)
  refine own_go (x' := T9.setTop (mkF m 59 #[.val (.int p0), .val (.long ja), .second, .val (.long jb), .second, .val (.long jc), .second, .val (.long jd), .second, .val (.int w1v), .val (.int wn), .val (.ref b1), .unset, .unset, .unset] [(.long ja), (.int 3), (.ref b6), (.ref b6)])) (fun _ k => XS.dup X9.here hx rfl (hb hby at_56) rfl rfl (XS.iconst X9.here hx rfl (hb hby at_57) (XS.lloadN X9.here hx rfl (hb hby at_58) rfl k))) ?_
  obtain ⟨cl10, Ar10, q10, Sz10, Nn10, Hh10, Gg10⟩ := V_b6
  have hin10 : ¬ ((3 : Int32) < 0 ∨ cl10.slots.size ≤ ((3 : Int32)).toNatClampNeg) := inb_of Sz10 ⟨by decide, by decide⟩
  obtain ⟨T10, h10, X10, e10, W10, st10⟩ := stJ X9 hx hZ e9 Ar10 (j := (3 : Int32)) hin10 (g := (mkF m 59 #[.val (.int p0), .val (.long ja), .second, .val (.long jb), .second, .val (.long jc), .second, .val (.long jd), .second, .val (.int w1v), .val (.int wn), .val (.ref b1), .unset, .unset, .unset] [(.long ja), (.int 3), (.ref b6), (.ref b6)])) rfl rfl (hb hby at_59)
  refine own_go (x' := T10.setTop (mkF m 60 #[.val (.int p0), .val (.long ja), .second, .val (.long jb), .second, .val (.long jc), .second, .val (.long jd), .second, .val (.int w1v), .val (.int wn), .val (.ref b1), .unset, .unset, .unset] [(.ref b6)])) st10 ?_
  replace V_b1 := V_b1.other W10 ne_b1_b6
  replace Zs := Nat.le_trans Zs (Keep.of_wr W10).1
  replace Nf := Fr.snoc X10 Nf g_b6
  have V_b6 : Arv Z h10 b6 k6 .long (4 : Int32) [(.long jd), (.long jc), (.long jb), (.long ja)] (.long 0) := Arv.set Ar10 q10 Sz10 Nn10 Hh10 Gg10 rfl W10 3 rfl (Nat.le_of_ble_eq_true rfl)
  refine own_go (x' := T10.setTop (mkF m 63 #[.val (.int p0), .val (.long ja), .second, .val (.long jb), .second, .val (.long jc), .second, .val (.long jd), .second, .val (.int w1v), .val (.int wn), .val (.ref b1), .val (.ref b6), .unset, .unset] [(.int 4)])) (fun _ k => XS.astore X10.here hx rfl (hb hby at_60) rfl rfl (l' := #[.val (.int p0), .val (.long ja), .second, .val (.long jb), .second, .val (.long jc), .second, .val (.long jd), .second, .val (.int w1v), .val (.int wn), .val (.ref b1), .val (.ref b6), .unset, .unset]) rfl (XS.iconst X10.here hx rfl (hb hby at_62) k)) ?_
  obtain ⟨T11, h11, k11, X11, e11, E11, A11, st11⟩ := newP X10 hx hZ (own_w hw 0 rfl) e10 (g := (mkF m 63 #[.val (.int p0), .val (.long ja), .second, .val (.long jb), .second, .val (.long jc), .second, .val (.long jd), .second, .val (.int w1v), .val (.int wn), .val (.ref b1), .val (.ref b6), .unset, .unset] [(.int 4)])) rfl (hb hby at_63) rfl (by decide) (cap := 4) (by decide) (by decide) (by decide) (by decide)
  obtain ⟨b11, g11⟩ : ∃ z, z = h10.size := ⟨_, rfl⟩
  rw [← g11] at A11 st11
  have ne_b1_b11 : b1 ≠ b11 := Nat.ne_of_lt (Nat.lt_of_lt_of_le V_b1.lt (Nat.le_of_eq g11.symm))
  have ne_b6_b11 : b6 ≠ b11 := Nat.ne_of_lt (Nat.lt_of_lt_of_le V_b6.lt (Nat.le_of_eq g11.symm))
  have g_b11 : n0 ≤ b11 := Nat.le_trans Zs (Nat.le_of_eq g11.symm)
  replace V_b1 := V_b1.ext E11
  replace V_b6 := V_b6.ext E11
  replace Zs := Nat.le_trans Zs E11.1
  have V_b11 : Arv Z h11 b11 k11 .long (4 : Int32) [(.long 0), (.long 0), (.long 0), (.long 0)] (.long 0) := (Arv.new A11 (by decide)).pad (pad_rep [] (.long 0) 4)
  refine own_go (x' := T11.setTop (mkF m 65 #[.val (.int p0), .val (.long ja), .second, .val (.long jb), .second, .val (.long jc), .second, .val (.long jd), .second, .val (.int w1v), .val (.int wn), .val (.ref b1), .val (.ref b6), .unset, .unset] [(.ref b11)])) st11 ?_
  refine own_go (x' := T11.setTop (mkF m 67 #[.val (.int p0), .val (.long ja), .second, .val (.long jb), .second, .val (.long jc), .second, .val (.long jd), .second, .val (.int w1v), .val (.int wn), .val (.ref b1), .val (.ref b6), .val (.ref b11), .unset] [])) (fun _ k => XS.astore X11.here hx rfl (hb hby at_65) rfl rfl (l' := #[.val (.int p0), .val (.long ja), .second, .val (.long jb), .second, .val (.long jc), .second, .val (.long jd), .second, .val (.int w1v), .val (.int wn), .val (.ref b1), .val (.ref b6), .val (.ref b11), .unset]) rfl k) ?_
  obtain ⟨T12, h12, X12, e12, E12, A12, D12, -, st12⟩ := newO X11 hx hZ hown (own_w hw 1 rfl) (own_w hw 2 rfl) (own_w hw 3 rfl) e11 (g := (mkF m 67 #[.val (.int p0), .val (.long ja), .second, .val (.long jb), .second, .val (.long jc), .second, .val (.long jd), .second, .val (.int w1v), .val (.int wn), .val (.ref b1), .val (.ref b6), .val (.ref b11), .unset] [])) rfl (hb hby at_67) (by decide) (by decide)
  obtain ⟨b12, g12⟩ : ∃ z, z = h11.size := ⟨_, rfl⟩
  rw [← g12] at A12 D12 st12
  have ne_b1_b12 : b1 ≠ b12 := Nat.ne_of_lt (Nat.lt_of_lt_of_le V_b1.lt (Nat.le_of_eq g12.symm))
  have ne_b6_b12 : b6 ≠ b12 := Nat.ne_of_lt (Nat.lt_of_lt_of_le V_b6.lt (Nat.le_of_eq g12.symm))
  have ne_b11_b12 : b11 ≠ b12 := Nat.ne_of_lt (Nat.lt_of_lt_of_le V_b11.lt (Nat.le_of_eq g12.symm))
  have g_b12 : n0 ≤ b12 := Nat.le_trans Zs (Nat.le_of_eq g12.symm)
  replace V_b1 := V_b1.ext E12
  replace V_b6 := V_b6.ext E12
  replace V_b11 := V_b11.ext E12
  replace Zs := Nat.le_trans Zs E12.1
  have E_b12 := A12
  have F_b12_states : Fld Z h12 b12 "com/example/moving_tokens/movingtokens/PartialChoices" "states" "[J" .null := D12 (Or.inl (own_w hw 11 rfl)) (ty := (.array .long)) (by decide)
  have F_b12_counts : Fld Z h12 b12 "com/example/moving_tokens/movingtokens/PartialChoices" "counts" "[J" .null := D12 (Or.inl (own_w hw 13 rfl)) (ty := (.array .long)) (by decide)
  have F_b12_homes : Fld Z h12 b12 "com/example/moving_tokens/movingtokens/PartialChoices" "homes" "[I" .null := D12 (Or.inl (own_w hw 16 rfl)) (ty := (.array .int)) (by decide)
  have F_b12_slots : Fld Z h12 b12 "com/example/moving_tokens/movingtokens/PartialChoices" "slots" "[I" .null := D12 (Or.inl (own_w hw 18 rfl)) (ty := (.array .int)) (by decide)
  have F_b12_size : Fld Z h12 b12 "com/example/moving_tokens/movingtokens/PartialChoices" "size" "I" (.int 0) := D12 (Or.inl (own_w hw 25 rfl)) (ty := .int) (by decide)
  have F_b12_width : Fld Z h12 b12 "com/example/moving_tokens/movingtokens/PartialChoices" "width" "I" (.int 0) := D12 (Or.inl (own_w hw 27 rfl)) (ty := .int) (by decide)
  refine own_go (x' := T12.setTop (mkF m 70 #[.val (.int p0), .val (.long ja), .second, .val (.long jb), .second, .val (.long jc), .second, .val (.long jd), .second, .val (.int w1v), .val (.int wn), .val (.ref b1), .val (.ref b6), .val (.ref b11), .unset] [(.ref b12)])) st12 ?_
  refine own_go (x' := T12.setTop (mkF m 71 #[.val (.int p0), .val (.long ja), .second, .val (.long jb), .second, .val (.long jc), .second, .val (.long jd), .second, .val (.int w1v), .val (.int wn), .val (.ref b1), .val (.ref b6), .val (.ref b11), .unset] [(.ref b12), (.ref b12)])) (fun _ k => XS.dup X12.here hx rfl (hb hby at_70) rfl rfl k) ?_
  obtain ⟨LL13, X13, Nf⟩ : ∃ LL : List Loc, Stand p l e room_1 s m _ below meth c T12 LL 4 18 ∧ Fr n0 LL := ⟨_, X12, Nf⟩
  obtain ⟨_, _, ⟨T14, L14, k14, n14⟩, -, X14, ⟨Lc14, hQ14, l14, y14, z14⟩, st14⟩ := X13.specialBack hx (y := (⟨"com/example/moving_tokens/movingtokens/PartialChoices", "<init>", "()V"⟩ : MethodName)) rfl hown (mvT hZ (own_w hw 4 rfl)) (mvT hZ (own_w hw 5 rfl)) (mvT hZ (own_w hw 6 rfl)) (by decide) (backOf (W := 1) (rm1 l Z a0 hw [] b12 h12 n0 Zs E_b12 F_b12_width F_b12_states F_b12_counts F_b12_homes F_b12_size F_b12_slots g_b12) hZ (own_w hw 6 rfl) (own_w hw 3 rfl) (by decide) (by decide)) (g := (mkF m 71 #[.val (.int p0), .val (.long ja), .second, .val (.long jb), .second, .val (.long jc), .second, .val (.long jd), .second, .val (.int w1v), .val (.int wn), .val (.ref b1), .val (.ref b6), .val (.ref b11), .unset] [(.ref b12), (.ref b12)])) rfl (by rw [hml]; rfl) (Steps.refl _) (a := b12) (argsL := []) (rest := [(.ref b12)]) (lenOf pd_8 rfl) rfl (by show 2 * 0 + _ ≤ _; exact Nat.le_of_eq rfl) (hb hby at_71) (fun _ _ => ⟨rfl, e12, (by decide : 4 + 4 ≤ _), (by decide : 18 + 80 ≤ _)⟩)
  dsimp only [Pt.U, Pt.locs, Pt.cells, Pt.slots] at X14 l14 y14 z14 st14 hQ14
  subst l14 y14 z14
  obtain ⟨sa, ca, ha, pt, ks, kc, kh, kp, hv14, Nq14, K14, fs_sa, fs_ca, fs_ha, fs_pt, ne_sa_ca, ne_sa_ha, ne_sa_pt, ne_ca_ha, ne_ca_pt, ne_ha_pt, g_sa, g_ca, g_ha, g_pt, Eo14, Fo14_width, Fo14_states, Fo14_counts, Fo14_homes, Fo14_size, Fo14_slots, V_sa, V_ca, V_ha, V_pt⟩ := hQ14
  subst hv14
  replace Nf := Fr.app Nf Nq14
  have ne_b1_sa : b1 ≠ sa := Nat.ne_of_lt (Nat.lt_of_lt_of_le V_b1.lt fs_sa)
  have ne_b1_ca : b1 ≠ ca := Nat.ne_of_lt (Nat.lt_of_lt_of_le V_b1.lt fs_ca)
  have ne_b1_ha : b1 ≠ ha := Nat.ne_of_lt (Nat.lt_of_lt_of_le V_b1.lt fs_ha)
  have ne_b1_pt : b1 ≠ pt := Nat.ne_of_lt (Nat.lt_of_lt_of_le V_b1.lt fs_pt)
  have ne_b6_sa : b6 ≠ sa := Nat.ne_of_lt (Nat.lt_of_lt_of_le V_b6.lt fs_sa)
  have ne_b6_ca : b6 ≠ ca := Nat.ne_of_lt (Nat.lt_of_lt_of_le V_b6.lt fs_ca)
  have ne_b6_ha : b6 ≠ ha := Nat.ne_of_lt (Nat.lt_of_lt_of_le V_b6.lt fs_ha)
  have ne_b6_pt : b6 ≠ pt := Nat.ne_of_lt (Nat.lt_of_lt_of_le V_b6.lt fs_pt)
  have ne_b11_sa : b11 ≠ sa := Nat.ne_of_lt (Nat.lt_of_lt_of_le V_b11.lt fs_sa)
  have ne_b11_ca : b11 ≠ ca := Nat.ne_of_lt (Nat.lt_of_lt_of_le V_b11.lt fs_ca)
  have ne_b11_ha : b11 ≠ ha := Nat.ne_of_lt (Nat.lt_of_lt_of_le V_b11.lt fs_ha)
  have ne_b11_pt : b11 ≠ pt := Nat.ne_of_lt (Nat.lt_of_lt_of_le V_b11.lt fs_pt)
  have ne_b12_sa : b12 ≠ sa := Nat.ne_of_lt (Nat.lt_of_lt_of_le E_b12.lt fs_sa)
  have ne_b12_ca : b12 ≠ ca := Nat.ne_of_lt (Nat.lt_of_lt_of_le E_b12.lt fs_ca)
  have ne_b12_ha : b12 ≠ ha := Nat.ne_of_lt (Nat.lt_of_lt_of_le E_b12.lt fs_ha)
  have ne_b12_pt : b12 ≠ pt := Nat.ne_of_lt (Nat.lt_of_lt_of_le E_b12.lt fs_pt)
  replace V_b1 := V_b1.keep K14 (ninS ne_b1_b12 nin0)
  replace V_b6 := V_b6.keep K14 (ninS ne_b6_b12 nin0)
  replace V_b11 := V_b11.keep K14 (ninS ne_b11_b12 nin0)
  replace Zs := Nat.le_trans Zs K14.1
  replace E_b12 := Eo14
  replace F_b12_width := Fo14_width
  replace F_b12_states := Fo14_states
  replace F_b12_counts := Fo14_counts
  replace F_b12_homes := Fo14_homes
  replace F_b12_size := Fo14_size
  replace F_b12_slots := Fo14_slots
  refine own_go (x' := T14.setTop (mkF m 74 #[.val (.int p0), .val (.long ja), .second, .val (.long jb), .second, .val (.long jc), .second, .val (.long jd), .second, .val (.int w1v), .val (.int wn), .val (.ref b1), .val (.ref b6), .val (.ref b11), .unset] [(.ref b12)])) (fun _ k => st14.trans k) ?_
  refine own_go (x' := T14.setTop (mkF m 80 #[.val (.int p0), .val (.long ja), .second, .val (.long jb), .second, .val (.long jc), .second, .val (.long jd), .second, .val (.int w1v), .val (.int wn), .val (.ref b1), .val (.ref b6), .val (.ref b11), .val (.ref b12)] [(.int w1v), (.ref b12)])) (fun _ k => XS.astore X14.here hx rfl (hb hby at_74) rfl rfl (l' := #[.val (.int p0), .val (.long ja), .second, .val (.long jb), .second, .val (.long jc), .second, .val (.long jd), .second, .val (.int w1v), .val (.int wn), .val (.ref b1), .val (.ref b6), .val (.ref b11), .val (.ref b12)]) rfl (XS.aload X14.here hx rfl (hb hby at_76) rfl rfl (XS.iload X14.here hx rfl (hb hby at_78) rfl k))) ?_
  obtain ⟨cq15, kq15, q15a, q15b, q15c⟩ := isOf hZ rfl E_b12
  obtain ⟨_, _, ⟨T15, L15, k15, n15⟩, -, X15, ⟨Lc15, hQ15, l15, y15, z15⟩, st15⟩ := X14.virtualBack hx (y := (⟨"com/example/moving_tokens/movingtokens/PartialChoices", "clear", "(I)V"⟩ : MethodName)) (z := (⟨"com/example/moving_tokens/movingtokens/PartialChoices", "clear", "(I)V"⟩ : MethodName)) hown (mvT hZ (own_w hw 19 rfl)) (mvT hZ (own_w hw 20 rfl)) (notFace_of_selects (args := #[]) (mvT hZ (own_w hw 22 rfl))) (mvT hZ (own_w hw 22 rfl)) (mvT hZ (own_w hw 21 rfl)) (by decide) (backOf (W := 0) (rm3_0 l Z a0 hw [] b12 (0 : Int32) w1v sa ca ha pt ks kc kh kp (16 : Int32) _ [] [] []  T14.heap n0 Zs hw1 E_b12 F_b12_width F_b12_states F_b12_counts F_b12_homes F_b12_size F_b12_slots V_sa V_ca V_ha V_pt rfl (by decide) ne_b12_sa ne_b12_ca ne_b12_ha ne_b12_pt ne_sa_ca ne_sa_ha ne_sa_pt ne_ca_ha ne_ca_pt ne_ha_pt g_b12 g_sa g_ca g_ha g_pt  own_zr0) hZ (own_w hw 23 rfl) (own_w hw 3 rfl) (by decide) (by decide)) q15a q15c (g := (mkF m 80 #[.val (.int p0), .val (.long ja), .second, .val (.long jb), .second, .val (.long jc), .second, .val (.long jd), .second, .val (.int w1v), .val (.int wn), .val (.ref b1), .val (.ref b6), .val (.ref b11), .val (.ref b12)] [(.int w1v), (.ref b12)])) rfl (by rw [hml]; rfl) (Steps.refl _) (argsL := [(.int w1v)]) (rest := []) (lenOf pd_5 rfl) rfl (by show 2 * 0 + _ ≤ _; exact Nat.le_of_eq rfl) (hb hby at_80) (fun _ _ => ⟨rfl, rfl, (by decide : 8 + 1 ≤ _), (by decide : 98 + 64 ≤ _)⟩)
  dsimp only [Pt.U, Pt.locs, Pt.cells, Pt.slots] at X15 l15 y15 z15 st15 hQ15
  subst l15 y15 z15
  obtain ⟨sa15, ks15, sn15, sv15, hm15, hs15, hv15, Nq15, K15, hL15, hN15, g_sa15, fs15, zr15, Eo15, Fo15_width, Fo15_states, Fo15_counts, Fo15_homes, Fo15_size, Fo15_slots, Vs15, Vc15, Vh15, Vp15⟩ := hQ15
  subst hv15
  replace Nf := Fr.app Nf Nq15
  have ne_b1_sa15 : b1 ≠ sa15 := fs15 _ V_b1.lt ne_b1_sa
  have ne_b6_sa15 : b6 ≠ sa15 := fs15 _ V_b6.lt ne_b6_sa
  have ne_b11_sa15 : b11 ≠ sa15 := fs15 _ V_b11.lt ne_b11_sa
  have ne_b12_sa15 : b12 ≠ sa15 := fs15 _ E_b12.lt ne_b12_sa
  have ne_ca_sa15 : ca ≠ sa15 := fs15 _ V_ca.lt (Ne.symm ne_sa_ca)
  have ne_ha_sa15 : ha ≠ sa15 := fs15 _ V_ha.lt (Ne.symm ne_sa_ha)
  have ne_pt_sa15 : pt ≠ sa15 := fs15 _ V_pt.lt (Ne.symm ne_sa_pt)
  replace V_b1 := V_b1.keep K15 (ninS ne_b1_b12 (ninS ne_b1_sa (ninS ne_b1_ca (ninS ne_b1_ha (ninS ne_b1_pt nin0)))))
  replace V_b6 := V_b6.keep K15 (ninS ne_b6_b12 (ninS ne_b6_sa (ninS ne_b6_ca (ninS ne_b6_ha (ninS ne_b6_pt nin0)))))
  replace V_b11 := V_b11.keep K15 (ninS ne_b11_b12 (ninS ne_b11_sa (ninS ne_b11_ca (ninS ne_b11_ha (ninS ne_b11_pt nin0)))))
  replace Zs := Nat.le_trans Zs K15.1
  have E_b12 := Eo15
  have F_b12_width := Fo15_width
  have F_b12_states := Fo15_states
  have F_b12_counts := Fo15_counts
  have F_b12_homes := Fo15_homes
  have F_b12_size := Fo15_size
  have F_b12_slots := Fo15_slots
  have V_sa15 := Vs15
  have V_ca := Vc15
  have V_ha := Vh15
  have V_pt := Vp15
  refine own_go (x' := T15.setTop (mkF m 83 #[.val (.int p0), .val (.long ja), .second, .val (.long jb), .second, .val (.long jc), .second, .val (.long jd), .second, .val (.int w1v), .val (.int wn), .val (.ref b1), .val (.ref b6), .val (.ref b11), .val (.ref b12)] [])) (fun _ k => st15.trans k) ?_
  refine own_go (x' := T15.setTop (mkF m 87 #[.val (.int p0), .val (.long ja), .second, .val (.long jb), .second, .val (.long jc), .second, .val (.long jd), .second, .val (.int w1v), .val (.int wn), .val (.ref b1), .val (.ref b6), .val (.ref b11), .val (.ref b12)] [(.ref b1), (.ref b12)])) (fun _ k => XS.aload X15.here hx rfl (hb hby at_83) rfl rfl (XS.aload X15.here hx rfl (hb hby at_85) rfl rfl k)) ?_
  obtain ⟨cq16, kq16, q16a, q16b, q16c⟩ := isOf hZ rfl E_b12
  obtain ⟨_, _, ⟨T16, L16, k16, n16⟩, -, X16, ⟨Lc16, hQ16, l16, y16, z16⟩, st16⟩ := X15.virtualBack hx (y := (⟨"com/example/moving_tokens/movingtokens/PartialChoices", "entry", "([J)I"⟩ : MethodName)) (z := (⟨"com/example/moving_tokens/movingtokens/PartialChoices", "entry", "([J)I"⟩ : MethodName)) hown (mvT hZ (own_w hw 29 rfl)) (mvT hZ (own_w hw 30 rfl)) (notFace_of_selects (args := #[]) (mvT hZ (own_w hw 32 rfl))) (mvT hZ (own_w hw 32 rfl)) (mvT hZ (own_w hw 31 rfl)) (by decide) (backOf (W := 0) (rm4_0 l Z a0 hw [] b12 b1 w1v k1 ja jb jc jd sa15 ca ha pt ks15 kc kh kp sn15 sv15 [] hm15 hs15  T15.heap n0 Zs hw1 E_b12 F_b12_width F_b12_states F_b12_counts F_b12_homes F_b12_size F_b12_slots V_sa15 V_ca V_ha V_pt hL15 hN15 ne_b12_sa15 ne_b12_ca ne_b12_ha ne_b12_pt (Ne.symm ne_ca_sa15) (Ne.symm ne_ha_sa15) (Ne.symm ne_pt_sa15) ne_ca_ha ne_ca_pt ne_ha_pt g_b12 g_sa15 g_ca g_ha g_pt  zr15 V_b1 (Ne.symm ne_b1_b12) (Ne.symm ne_b1_sa15) (Ne.symm ne_b1_ca) (Ne.symm ne_b1_ha) (Ne.symm ne_b1_pt)) hZ (own_w hw 33 rfl) (own_w hw 3 rfl) (by decide) (by decide)) q16a q16c (g := (mkF m 87 #[.val (.int p0), .val (.long ja), .second, .val (.long jb), .second, .val (.long jc), .second, .val (.long jd), .second, .val (.int w1v), .val (.int wn), .val (.ref b1), .val (.ref b6), .val (.ref b11), .val (.ref b12)] [(.ref b1), (.ref b12)])) rfl (by rw [hml]; rfl) (Steps.refl _) (argsL := [(.ref b1)]) (rest := []) (lenOf pd_3 rfl) rfl (by show 2 * 0 + _ ≤ _; exact Nat.le_of_eq rfl) (hb hby at_87) (fun _ _ => ⟨rfl, rfl, (by decide : 9 + 0 ≤ _), (by decide : 162 + 0 ≤ _)⟩)
  dsimp only [Pt.U, Pt.locs, Pt.cells, Pt.slots] at X16 l16 y16 z16 st16 hQ16
  subst l16 y16 z16
  obtain ⟨r16, hr16, hv16, Nq16, K16, Eo16, Fo16_width, Fo16_states, Fo16_counts, Fo16_homes, Fo16_size, Fo16_slots, Vs16, Vc16, Vh16, Vp16⟩ := hQ16
  subst hv16
  replace Nf := Fr.app Nf Nq16
  replace V_b1 := V_b1.keep K16 (ninS ne_b1_b12 (ninS ne_b1_sa15 (ninS ne_b1_ca (ninS ne_b1_ha (ninS ne_b1_pt nin0)))))
  replace V_b6 := V_b6.keep K16 (ninS ne_b6_b12 (ninS ne_b6_sa15 (ninS ne_b6_ca (ninS ne_b6_ha (ninS ne_b6_pt nin0)))))
  replace V_b11 := V_b11.keep K16 (ninS ne_b11_b12 (ninS ne_b11_sa15 (ninS ne_b11_ca (ninS ne_b11_ha (ninS ne_b11_pt nin0)))))
  replace Zs := Nat.le_trans Zs K16.1
  replace E_b12 := Eo16
  replace F_b12_width := Fo16_width
  replace F_b12_states := Fo16_states
  replace F_b12_counts := Fo16_counts
  replace F_b12_homes := Fo16_homes
  replace F_b12_size := Fo16_size
  replace F_b12_slots := Fo16_slots
  replace V_sa15 := Vs16
  replace V_ca := Vc16
  replace V_ha := Vh16
  replace V_pt := Vp16
  refine own_go (x' := T16.setTop (mkF m 90 #[.val (.int p0), .val (.long ja), .second, .val (.long jb), .second, .val (.long jc), .second, .val (.long jd), .second, .val (.int w1v), .val (.int wn), .val (.ref b1), .val (.ref b6), .val (.ref b11), .val (.ref b12)] [(.int 0)])) (fun _ k => st16.trans k) ?_
  refine own_go (x' := T16.setTop (mkF m 95 #[.val (.int p0), .val (.long ja), .second, .val (.long jb), .second, .val (.long jc), .second, .val (.long jd), .second, .val (.int w1v), .val (.int wn), .val (.ref b1), .val (.ref b6), .val (.ref b11), .val (.ref b12)] [(.ref b6), (.ref b12)])) (fun _ k => XS.pop X16.here hx rfl (hb hby at_90) rfl rfl (XS.aload X16.here hx rfl (hb hby at_91) rfl rfl (XS.aload X16.here hx rfl (hb hby at_93) rfl rfl k))) ?_
  obtain ⟨cq17, kq17, q17a, q17b, q17c⟩ := isOf hZ rfl E_b12
  obtain ⟨_, _, ⟨T17, L17, k17, n17⟩, -, X17, ⟨Lc17, hQ17, l17, y17, z17⟩, st17⟩ := X16.virtualBack hx (y := (⟨"com/example/moving_tokens/movingtokens/PartialChoices", "entry", "([J)I"⟩ : MethodName)) (z := (⟨"com/example/moving_tokens/movingtokens/PartialChoices", "entry", "([J)I"⟩ : MethodName)) hown (mvT hZ (own_w hw 29 rfl)) (mvT hZ (own_w hw 30 rfl)) (notFace_of_selects (args := #[]) (mvT hZ (own_w hw 32 rfl))) (mvT hZ (own_w hw 32 rfl)) (mvT hZ (own_w hw 31 rfl)) (by decide) (backOf (W := 0) (rm4_1 l Z a0 hw [] b12 b6 w1v k6 jd jc jb ja sa15 ca ha pt ks15 kc kh kp sn15 _ _ hm15 hs15 r16 T16.heap n0 Zs hw1 E_b12 F_b12_width F_b12_states F_b12_counts F_b12_homes F_b12_size F_b12_slots V_sa15 V_ca V_ha V_pt (by have := own_usl hw1 0 0 0 0; rw [List.length_append, List.length_drop, hL15, (own_usl hw1 _ _ _ _).1]; omega) hN15 ne_b12_sa15 ne_b12_ca ne_b12_ha ne_b12_pt (Ne.symm ne_ca_sa15) (Ne.symm ne_ha_sa15) (Ne.symm ne_pt_sa15) ne_ca_ha ne_ca_pt ne_ha_pt g_b12 g_sa15 g_ca g_ha g_pt hr16 zr15 V_b6 (Ne.symm ne_b6_b12) (Ne.symm ne_b6_sa15) (Ne.symm ne_b6_ca) (Ne.symm ne_b6_ha) (Ne.symm ne_b6_pt)) hZ (own_w hw 33 rfl) (own_w hw 3 rfl) (by decide) (by decide)) q17a q17c (g := (mkF m 95 #[.val (.int p0), .val (.long ja), .second, .val (.long jb), .second, .val (.long jc), .second, .val (.long jd), .second, .val (.int w1v), .val (.int wn), .val (.ref b1), .val (.ref b6), .val (.ref b11), .val (.ref b12)] [(.ref b6), (.ref b12)])) rfl (by rw [hml]; rfl) (Steps.refl _) (argsL := [(.ref b6)]) (rest := []) (lenOf pd_3 rfl) rfl (by show 2 * 0 + _ ≤ _; exact Nat.le_of_eq rfl) (hb hby at_95) (fun _ _ => ⟨rfl, rfl, (by decide : 9 + 0 ≤ _), (by decide : 162 + 0 ≤ _)⟩)
  dsimp only [Pt.U, Pt.locs, Pt.cells, Pt.slots] at X17 l17 y17 z17 st17 hQ17
  subst l17 y17 z17
  obtain ⟨z17, hv17, Nq17, K17, tb17⟩ := hQ17
  subst hv17
  replace Nf := Fr.app Nf Nq17
  replace V_b1 := V_b1.keep K17 (ninS ne_b1_b12 (ninS ne_b1_sa15 (ninS ne_b1_ca (ninS ne_b1_ha (ninS ne_b1_pt nin0)))))
  replace V_b6 := V_b6.keep K17 (ninS ne_b6_b12 (ninS ne_b6_sa15 (ninS ne_b6_ca (ninS ne_b6_ha (ninS ne_b6_pt nin0)))))
  replace V_b11 := V_b11.keep K17 (ninS ne_b11_b12 (ninS ne_b11_sa15 (ninS ne_b11_ca (ninS ne_b11_ha (ninS ne_b11_pt nin0)))))
  replace Zs := Nat.le_trans Zs K17.1
  refine own_go (x' := T17.setTop (mkF m 98 #[.val (.int p0), .val (.long ja), .second, .val (.long jb), .second, .val (.long jc), .second, .val (.long jd), .second, .val (.int w1v), .val (.int wn), .val (.ref b1), .val (.ref b6), .val (.ref b11), .val (.ref b12)] [(.int z17)])) (fun _ k => st17.trans k) ?_
  refine own_go (x' := T17.setTop (mkF m 99 #[.val (.int p0), .val (.long ja), .second, .val (.long jb), .second, .val (.long jc), .second, .val (.long jd), .second, .val (.int w1v), .val (.int wn), .val (.ref b1), .val (.ref b6), .val (.ref b11), .val (.ref b12)] [])) (fun _ k => XS.pop X17.here hx rfl (hb hby at_98) rfl rfl k) ?_
  obtain ⟨LL18, X18, Nf⟩ : ∃ LL : List Loc, Stand p l e room_1 s m _ below meth c T17 LL 9 162 ∧ Fr n0 LL := ⟨_, X17, Nf⟩
  rcases tb17 with ⟨Eo17, Fo17_width, Fo17_states, Fo17_counts, Fo17_homes, Fo17_size, Fo17_slots, Vs17, Vc17, Vh17, Vp17⟩ | ⟨r2, sv2, hr2, hL2, Eo17, Fo17_width, Fo17_states, Fo17_counts, Fo17_homes, Fo17_size, Fo17_slots, Vs17, Vc17, Vh17, Vp17⟩
  · exact seg1 hx hlk hret hZ hw hby hml hown hnm p0 ja jb jc jd w1v wn _ n0 _ _ b12 b1 b6 b11 k1 k6 k11 sa15 ca ha pt ks15 kc kh kp sn15 _ _ hm15 hs15 r16 X18 rfl Nf Zs hwn Eo17 Fo17_width Fo17_states Fo17_counts Fo17_homes Fo17_size Fo17_slots Vs17 Vc17 Vh17 Vp17 (by have := own_usl hw1 0 0 0 0; rw [List.length_append, List.length_drop, hL15, (own_usl hw1 _ _ _ _).1]; omega) hN15 ne_b12_sa15 ne_b12_ca ne_b12_ha ne_b12_pt (Ne.symm ne_ca_sa15) (Ne.symm ne_ha_sa15) (Ne.symm ne_pt_sa15) ne_ca_ha ne_ca_pt ne_ha_pt g_b12 g_sa15 g_ca g_ha g_pt hr16 zr15 V_b1 V_b6 V_b11 (Ne.symm ne_b1_b12) (Ne.symm ne_b6_b12) (Ne.symm ne_b11_b12) (Ne.symm ne_b1_sa15) (Ne.symm ne_b6_sa15) (Ne.symm ne_b11_sa15) (Ne.symm ne_b1_ca) (Ne.symm ne_b6_ca) (Ne.symm ne_b11_ca) (Ne.symm ne_b1_ha) (Ne.symm ne_b6_ha) (Ne.symm ne_b11_ha) (Ne.symm ne_b1_pt) (Ne.symm ne_b6_pt) (Ne.symm ne_b11_pt) ne_b1_b6 ne_b1_b11 ne_b6_b11 g_b1 g_b6 g_b11
  · exact seg2 hx hlk hret hZ hw hby hml hown hnm p0 ja jb jc jd w1v wn _ n0 _ _ b12 b1 b6 b11 k1 k6 k11 sa15 ca ha pt ks15 kc kh kp sn15 _ _ hm15 hs15 r2 r16 X18 rfl Nf Zs hwn Eo17 Fo17_width Fo17_states Fo17_counts Fo17_homes Fo17_size Fo17_slots Vs17 Vc17 Vh17 Vp17 hL2 hN15 ne_b12_sa15 ne_b12_ca ne_b12_ha ne_b12_pt (Ne.symm ne_ca_sa15) (Ne.symm ne_ha_sa15) (Ne.symm ne_pt_sa15) ne_ca_ha ne_ca_pt ne_ha_pt g_b12 g_sa15 g_ca g_ha g_pt hr2 hr16 zr15 V_b1 V_b6 V_b11 (Ne.symm ne_b1_b12) (Ne.symm ne_b6_b12) (Ne.symm ne_b11_b12) (Ne.symm ne_b1_sa15) (Ne.symm ne_b6_sa15) (Ne.symm ne_b11_sa15) (Ne.symm ne_b1_ca) (Ne.symm ne_b6_ca) (Ne.symm ne_b11_ca) (Ne.symm ne_b1_ha) (Ne.symm ne_b6_ha) (Ne.symm ne_b11_ha) (Ne.symm ne_b1_pt) (Ne.symm ne_b6_pt) (Ne.symm ne_b11_pt) ne_b1_b6 ne_b1_b11 ne_b6_b11 g_b1 g_b6 g_b11
set_option maxRecDepth 65536 in
set_option maxHeartbeats 40000000 in
theorem comes_1 {Post : Tables → Env → Array Value → State → Outcome → State → Prop} (hpost : ∀ tb e args s v u, (limb_1_1.after args s (.returned v) u = true ∧ limb_1_2.after args s (.returned v) u = true ∧ True) → FrameEnd s (.returned v) u (Jvm.fieldLocs frame_1_writes args s ++ Jvm.arrayLocs frame_1_arrays args s ++ Jvm.staticLocs frame_1_statics s) 32 512 → Post tb e args s (.returned v) u) :
    ArmFor flags0 classFile x code maxLocals ret World_1 tables_1 room_1 Calls_1 rest_1 Pre_1 Post := by
  intro l hfl _ _ p e ha hc hk s m args below hf hA hF happ hP
  obtain ⟨hcalls, hrest, hpre⟩ := hP
  obtain ⟨-, -, -, hnamed, -, -, -, hat⟩ := (Spec.applies_iff hf).mp happ
  obtain ⟨hg, hn⟩ := and_e (Cond.before_iff.mp (show (Jvm.Cond.and given_1 narrow_1).before args s = true from hpre))
  obtain ⟨gg1, gg2⟩ := and_e hg
  obtain ⟨gg3, gg4⟩ := and_e gg2
  obtain ⟨gg5, gg6⟩ := and_e gg4
  obtain ⟨gg7, gg8⟩ := and_e gg6
  obtain ⟨gg9, gg10⟩ := and_e gg8
  obtain ⟨w0, w1, w2, w3, w4, rfl⟩ : ∃ w0 w1 w2 w3 w4 : Value, args = #[w0, w1, w2, w3, w4] := by
    have hs : args.size = 5 := by simpa [Cond.value, given_1] using gg1
    obtain ⟨L⟩ := args
    match L, hs with
    | [w0, w1, w2, w3, w4], _ => exact ⟨w0, w1, w2, w3, w4, rfl⟩
  have hw := fun d (hd : d ∈ tables_1) => atoms_spec (ws := Jvm.Cond.code x code maxLocals ret :: tables_1) hat d (List.mem_cons_of_mem _ hd)
  have hfit : Fit s := fun {y c} hc i hi => by
    obtain ⟨ha, rfl⟩ := Array.getElem?_eq_some_iff.mp hc
    have q := List.all_eq_true.mp ((Array.all_eq_true_iff_forall_mem.mp hF) _ (Array.getElem_mem ha)) i (List.mem_range.mpr hi)
    simpa [Array.getElem?_eq_getElem hi] using q
  obtain ⟨i0, ei0⟩ := is_v gg3
  obtain rfl : w0 = (.int i0) := Option.some.inj ei0
  obtain ⟨i1, ei1⟩ := isL_v gg5
  obtain rfl : w1 = (.long i1) := Option.some.inj ei1
  obtain ⟨i2, ei2⟩ := isL_v gg7
  obtain rfl : w2 = (.long i2) := Option.some.inj ei2
  obtain ⟨i3, ei3⟩ := isL_v gg9
  obtain rfl : w3 = (.long i3) := Option.some.inj ei3
  obtain ⟨i4, ei4⟩ := isL_v gg10
  obtain rfl : w4 = (.long i4) := Option.some.inj ei4
  obtain ⟨n, o, h1, h2, h3, _, L, rfl, ⟨rfl, N⟩, hq⟩ := rm0 l s _ hw tables_1 i0 i1 i2 i3 i4  s.heap s.heap.size (Nat.le_refl _)  p e ha hc hk s m _ below hf ((Spec.applies_iff_loose hf).mp happ).1 ⟨rfl, State.Warmed39.refl s, rfl⟩ trivial
  refine ⟨n, _, h1, h2, h3, hpost _ _ _ _ _ _ ⟨Cond.after_iff.mpr rfl, Cond.after_iff.mpr (eq_i res_at (Term.int_eval (1)) rfl), trivial⟩ ⟨hq.1, hq.2.1, (hq.2.2.sift fun y hy => Or.inr (N y hy)).mono (by decide) (by decide)⟩⟩
theorem main_1_1 : Claimed_1_1 := comes_1 fun _ _ _ _ _ _ h hF => ⟨h.1, hF⟩
theorem main_1_2 : Claimed_1_2 := comes_1 fun _ _ _ _ _ _ h hF => ⟨h.2.1, hF⟩
end Jvm.Pilot.@@N@@
namespace Jvm.Pilot.@@N@@
open Jvm Jvm.ClassFile Sem Op Lib Jvm.Free Jvm.Stand Jvm.Pilot.@@N@@.Jvm.D
/-! MADE BY PROGRAM (witnessworld.py) out of the Statement's table words and the real class files: 13 classes; the members and pool entries that the words name. The judged class is class 1, her method 1. -/
namespace start1
open Jvm.ClassFile
def u (s : String) : CpInfo := .utf8 (stringToUtf16 s)
/-- a pool by its gaps: so many unusable entries, then the entry; so many at the end -/
def gap : Nat → List CpInfo → List CpInfo
  | 0, r => r
  | n + 1, r => .unusable :: gap n r
def poolList (es : List (Nat × CpInfo)) (last : Nat) : List CpInfo := es.foldr (fun e r => gap e.1 (e.2 :: r)) (gap last [])
def pool (es : List (Nat × CpInfo)) (last : Nat) : Array CpInfo := ⟨poolList es last⟩
def fileOf (pool : Array CpInfo) (this : Nat) (attrs : Array Attribute := #[]) (ms : Array MethodInfo := #[]) (fl : Nat := 33) (sup : Nat := 0) (ifs : Array Nat := #[]) (fds : Array FieldInfo := #[]) : ClassFile where
  minorVersion := 0
  majorVersion := 65
  constantPool := pool
  accessFlags := fl
  thisClass := this
  superClass := sup
  interfaces := ifs
  fields := fds
  methods := ms
  attributes := attrs
def plain (name : String) (sup : Option ClassId) : Class where
  name := name
  kind := .ordinary
  loader := none
  accessFlags := 33
  super := sup
  interfaces := #[]
  cf := none
  fields := #[]
  methods := #[]
  instanceTypes := #[]
  staticTypes := #[]
  resolved := #[]
  callSites := []
  init := .initialized
  statics := none
  mirror := none

def pool0 : Array CpInfo := pool [(5, u "<init>"), (0, u "()V"), (1, .class_ 10), (1, u "java/lang/Object")] 113

def k0c0 : Code := { maxStack := 0, maxLocals := 1, code := object_method_1_code, exceptionTable := #[], attributes := #[] }
def k0m0 : Method := { name := "<init>", desc := "()V", sig := { parameters := [], returnType := none }, accessFlags := 1, code := some k0c0 }
/-- java/lang/Object -/
def k0 : Class := { plain "java/lang/Object" none with
  accessFlags := 33
  interfaces := #[]
  cf := some (fileOf pool0 8 #[] #[{ accessFlags := 1, nameIndex := 5, descriptorIndex := 6, attributes := #[] }] 33 0 #[] #[])
  fields := #[]
  methods := #[k0m0]
  instanceTypes := #[]
  staticTypes := #[]
  resolved := Array.replicate 124 none
  statics := none }

def pool1 : Array CpInfo := pool [(2, .class_ 4), (0, .nameAndType 5 6), (0, u "java/lang/Object"), (0, u "<init>"), (0, u "()V"), (0, .class_ 8), (0, u "com/example/moving_tokens/movingtokens/PartialChoices"), (0, .methodref 7 3), (0, .methodref 7 11), (0, .nameAndType 12 13), (0, u "clear"), (0, u "(I)V"), (0, .methodref 7 15), (0, .nameAndType 16 17), (0, u "entry"), (0, u "([J)I"), (0, .methodref 7 19), (0, .nameAndType 20 21), (0, u "size"), (0, u "()I"), (0, .methodref 7 23), (0, .nameAndType 24 17), (0, u "find"), (0, .methodref 7 26), (0, .nameAndType 27 28), (0, u "copyState"), (0, u "(I[J)V"), (0, .class_ 30), (0, u "com/example/moving_tokens/movingtokens/PartialChoicesClearPinLaw"), (2, u "law"), (0, u "(IJJJJ)Z")] 5

def k1m0 : Method := { name := "<init>", desc := "()V", sig := { parameters := [], returnType := none }, accessFlags := 1, code := none }
def k1c1 : Code := { maxStack := 5, maxLocals := 15, code := code, exceptionTable := #[], attributes := #[] }
def k1m1 : Method := { name := "law", desc := "(IJJJJ)Z", sig := { parameters := [.int, .long, .long, .long, .long], returnType := some .boolean }, accessFlags := 9, code := some k1c1 }
/-- com/example/moving_tokens/movingtokens/PartialChoicesClearPinLaw -/
def k1 : Class := { plain "com/example/moving_tokens/movingtokens/PartialChoicesClearPinLaw" (some 0) with
  accessFlags := 49
  interfaces := #[]
  cf := some (fileOf pool1 29 #[] #[{ accessFlags := 1, nameIndex := 5, descriptorIndex := 6, attributes := #[] }, { accessFlags := 9, nameIndex := 33, descriptorIndex := 34, attributes := #[] }] 49 2 #[] #[])
  fields := #[]
  methods := #[k1m0, k1m1]
  instanceTypes := #[]
  staticTypes := #[]
  resolved := Array.replicate 40 none
  statics := none }

def pool2 : Array CpInfo := pool [(3, .methodref 4 5), (0, .class_ 6), (0, .nameAndType 7 8), (0, u "java/lang/Object"), (0, u "<init>"), (0, u "()V"), (0, .class_ 10), (0, u "com/example/moving_tokens/movingtokens/PartialChoices"), (0, .fieldref 9 12), (0, .nameAndType 13 14), (0, u "states"), (0, u "[J"), (0, .fieldref 9 16), (0, .nameAndType 17 14), (0, u "counts"), (0, .fieldref 9 19), (0, .nameAndType 20 21), (0, u "homes"), (0, u "[I"), (0, .fieldref 9 23), (0, .nameAndType 24 21), (0, u "slots"), (0, .fieldref 9 26), (0, .nameAndType 27 28), (0, u "size"), (0, u "I"), (0, .fieldref 9 30), (0, .nameAndType 31 28), (0, u "width"), (0, .long 2147483639), (1, .methodref 9 35), (0, .nameAndType 36 37), (0, u "home"), (0, u "([J)I"), (0, .methodref 9 39), (0, .nameAndType 40 41), (0, u "holds"), (0, u "(I[J)Z"), (6, .methodref 49 50), (0, .class_ 51), (0, .nameAndType 52 53), (0, u "java/lang/System"), (0, u "arraycopy"), (0, u "(Ljava/lang/Object;ILjava/lang/Object;II)V"), (0, .methodref 55 56), (0, .class_ 57), (0, .nameAndType 58 59), (0, u "com/example/moving_tokens/movingtokens/MarkingSet"), (0, u "hash"), (0, u "([JII)J"), (19, u "copyState"), (0, u "(I[J)V"), (0, u "FIRST_ENTRIES"), (2, u "MOST_ENTRIES"), (0, u "MOST_WORDS"), (0, u "J"), (2, u "clear"), (0, u "(I)V"), (1, u "()I"), (0, u "find"), (0, u "entry")] 7

def k2c0 : Code := { maxStack := 2, maxLocals := 1, code := prog_38_method_1_code, exceptionTable := #[], attributes := #[] }
def k2m0 : Method := { name := "<init>", desc := "()V", sig := { parameters := [], returnType := none }, accessFlags := 0, code := some k2c0 }
def k2c1 : Code := { maxStack := 4, maxLocals := 4, code := prog_38_method_2_code, exceptionTable := #[], attributes := #[] }
def k2m1 : Method := { name := "clear", desc := "(I)V", sig := { parameters := [.int], returnType := none }, accessFlags := 0, code := some k2c1 }
def k2c2 : Code := { maxStack := 1, maxLocals := 1, code := prog_38_method_3_code, exceptionTable := #[], attributes := #[] }
def k2m2 : Method := { name := "size", desc := "()I", sig := { parameters := [], returnType := some .int }, accessFlags := 0, code := some k2c2 }
def k2c3 : Code := { maxStack := 3, maxLocals := 5, code := prog_38_method_4_code, exceptionTable := #[], attributes := #[] }
def k2m3 : Method := { name := "find", desc := "([J)I", sig := { parameters := [(.array .long)], returnType := some .int }, accessFlags := 0, code := some k2c3 }
def k2c4 : Code := { maxStack := 5, maxLocals := 5, code := prog_38_method_5_code, exceptionTable := #[], attributes := #[] }
def k2m4 : Method := { name := "entry", desc := "([J)I", sig := { parameters := [(.array .long)], returnType := some .int }, accessFlags := 0, code := some k2c4 }
def k2c5 : Code := { maxStack := 5, maxLocals := 3, code := prog_38_method_8_code, exceptionTable := #[], attributes := #[] }
def k2m5 : Method := { name := "copyState", desc := "(I[J)V", sig := { parameters := [.int, (.array .long)], returnType := none }, accessFlags := 0, code := some k2c5 }
def k2c6 : Code := { maxStack := 3, maxLocals := 2, code := prog_38_method_9_code, exceptionTable := #[], attributes := #[] }
def k2m6 : Method := { name := "home", desc := "([J)I", sig := { parameters := [(.array .long)], returnType := some .int }, accessFlags := 2, code := some k2c6 }
def k2c7 : Code := { maxStack := 4, maxLocals := 5, code := prog_38_method_11_code, exceptionTable := #[], attributes := #[] }
def k2m7 : Method := { name := "holds", desc := "(I[J)Z", sig := { parameters := [.int, (.array .long)], returnType := some .boolean }, accessFlags := 2, code := some k2c7 }
/-- com/example/moving_tokens/movingtokens/PartialChoices -/
def k2 : Class := { plain "com/example/moving_tokens/movingtokens/PartialChoices" (some 0) with
  accessFlags := 48
  interfaces := #[]
  cf := some (fileOf pool2 9 #[] #[{ accessFlags := 0, nameIndex := 7, descriptorIndex := 8, attributes := #[] }, { accessFlags := 0, nameIndex := 89, descriptorIndex := 90, attributes := #[] }, { accessFlags := 0, nameIndex := 27, descriptorIndex := 92, attributes := #[] }, { accessFlags := 0, nameIndex := 93, descriptorIndex := 37, attributes := #[] }, { accessFlags := 0, nameIndex := 94, descriptorIndex := 37, attributes := #[] }, { accessFlags := 0, nameIndex := 79, descriptorIndex := 80, attributes := #[] }, { accessFlags := 2, nameIndex := 36, descriptorIndex := 37, attributes := #[] }, { accessFlags := 2, nameIndex := 40, descriptorIndex := 41, attributes := #[] }] 48 4 #[] #[{ accessFlags := 26, nameIndex := 81, descriptorIndex := 28, attributes := #[] }, { accessFlags := 26, nameIndex := 84, descriptorIndex := 28, attributes := #[] }, { accessFlags := 26, nameIndex := 85, descriptorIndex := 86, attributes := #[] }, { accessFlags := 2, nameIndex := 31, descriptorIndex := 28, attributes := #[] }, { accessFlags := 2, nameIndex := 13, descriptorIndex := 14, attributes := #[] }, { accessFlags := 2, nameIndex := 17, descriptorIndex := 14, attributes := #[] }, { accessFlags := 2, nameIndex := 20, descriptorIndex := 21, attributes := #[] }, { accessFlags := 2, nameIndex := 27, descriptorIndex := 28, attributes := #[] }, { accessFlags := 2, nameIndex := 24, descriptorIndex := 21, attributes := #[] }])
  fields := #[{ name := "FIRST_ENTRIES", type := .int, accessFlags := 26, slot := 0, constantValue := 0 }, { name := "MOST_ENTRIES", type := .int, accessFlags := 26, slot := 1, constantValue := 0 }, { name := "MOST_WORDS", type := .long, accessFlags := 26, slot := 2, constantValue := 0 }, { name := "width", type := .int, accessFlags := 2, slot := 0, constantValue := 0 }, { name := "states", type := (.array .long), accessFlags := 2, slot := 1, constantValue := 0 }, { name := "counts", type := (.array .long), accessFlags := 2, slot := 2, constantValue := 0 }, { name := "homes", type := (.array .int), accessFlags := 2, slot := 3, constantValue := 0 }, { name := "size", type := .int, accessFlags := 2, slot := 4, constantValue := 0 }, { name := "slots", type := (.array .int), accessFlags := 2, slot := 5, constantValue := 0 }]
  methods := #[k2m0, k2m1, k2m2, k2m3, k2m4, k2m5, k2m6, k2m7]
  instanceTypes := #[.int, (.array .long), (.array .long), (.array .int), .int, (.array .int)]
  staticTypes := #[.int, .int, .long]
  resolved := Array.replicate 102 none
  statics := none }

def pool3 : Array CpInfo := pool [(1, .class_ 2), (0, u "com/example/moving_tokens/movingtokens/MarkingSet"), (1, .class_ 6), (1, u "java/lang/Object"), (4, u "slots"), (0, u "[J"), (4, u "summed"), (0, u "J"), (2, u "places"), (0, u "I"), (6, .class_ 30), (0, u "com/example/moving_tokens/movingtokens/MarkingSet$Layout"), (5, u "layout"), (0, u "Lcom/example/moving_tokens/movingtokens/MarkingSet$Layout;"), (10, u "pages"), (0, u "Lcom/example/moving_tokens/movingtokens/WordPages;"), (2, u "candidate"), (2, u "size"), (51, u "hash"), (0, u "([JII)J"), (4, .methodref 1 114), (0, .nameAndType 115 108), (0, u "sum"), (2, u "sumOfSummed"), (9, .methodref 1 129), (0, .nameAndType 130 131), (0, u "share"), (0, u "(JI)J"), (0, .methodref 1 133), (0, .nameAndType 134 135), (0, u "spread"), (0, u "(J)J"), (62, .long 11400714819323198485), (1, .long 13787848793156543929), (1, .long 10723151780598845931), (1, u "MOST_BITS"), (2, u "FIRST_SLOTS"), (1, u "MOST_SLOTS"), (1, u "MOST_MARKINGS"), (0, u "NUMBER_BITS"), (0, u "SALT"), (0, u "SPREAD"), (0, u "SPREAD_AGAIN")] 17

def k3c0 : Code := { maxStack := 3, maxLocals := 3, code := prog_30_method_15_code, exceptionTable := #[], attributes := #[] }
def k3m0 : Method := { name := "hash", desc := "([JII)J", sig := { parameters := [(.array .long), .int, .int], returnType := some .long }, accessFlags := 8, code := some k3c0 }
def k3c1 : Code := { maxStack := 5, maxLocals := 6, code := prog_30_method_16_code, exceptionTable := #[], attributes := #[] }
def k3m1 : Method := { name := "sum", desc := "([JII)J", sig := { parameters := [(.array .long), .int, .int], returnType := some .long }, accessFlags := 10, code := some k3c1 }
def k3c2 : Code := { maxStack := 6, maxLocals := 3, code := prog_30_method_17_code, exceptionTable := #[], attributes := #[] }
def k3m2 : Method := { name := "share", desc := "(JI)J", sig := { parameters := [.long, .int], returnType := some .long }, accessFlags := 10, code := some k3c2 }
def k3c3 : Code := { maxStack := 5, maxLocals := 4, code := prog_30_method_18_code, exceptionTable := #[], attributes := #[] }
def k3m3 : Method := { name := "spread", desc := "(J)J", sig := { parameters := [.long], returnType := some .long }, accessFlags := 10, code := some k3c3 }
/-- com/example/moving_tokens/movingtokens/MarkingSet -/
def k3 : Class := { plain "com/example/moving_tokens/movingtokens/MarkingSet" (some 0) with
  accessFlags := 48
  interfaces := #[]
  cf := some (fileOf pool3 1 #[.nestMembers #[29]] #[{ accessFlags := 8, nameIndex := 107, descriptorIndex := 108, attributes := #[] }, { accessFlags := 10, nameIndex := 115, descriptorIndex := 108, attributes := #[] }, { accessFlags := 10, nameIndex := 130, descriptorIndex := 131, attributes := #[] }, { accessFlags := 10, nameIndex := 134, descriptorIndex := 135, attributes := #[] }] 48 4 #[] #[{ accessFlags := 26, nameIndex := 204, descriptorIndex := 22, attributes := #[] }, { accessFlags := 26, nameIndex := 207, descriptorIndex := 22, attributes := #[] }, { accessFlags := 26, nameIndex := 209, descriptorIndex := 22, attributes := #[] }, { accessFlags := 26, nameIndex := 211, descriptorIndex := 18, attributes := #[] }, { accessFlags := 24, nameIndex := 212, descriptorIndex := 18, attributes := #[] }, { accessFlags := 26, nameIndex := 213, descriptorIndex := 18, attributes := #[] }, { accessFlags := 26, nameIndex := 214, descriptorIndex := 18, attributes := #[] }, { accessFlags := 26, nameIndex := 215, descriptorIndex := 18, attributes := #[] }, { accessFlags := 18, nameIndex := 21, descriptorIndex := 22, attributes := #[] }, { accessFlags := 2, nameIndex := 36, descriptorIndex := 37, attributes := #[] }, { accessFlags := 2, nameIndex := 48, descriptorIndex := 49, attributes := #[] }, { accessFlags := 2, nameIndex := 55, descriptorIndex := 18, attributes := #[] }, { accessFlags := 2, nameIndex := 11, descriptorIndex := 12, attributes := #[] }, { accessFlags := 2, nameIndex := 52, descriptorIndex := 12, attributes := #[] }, { accessFlags := 2, nameIndex := 17, descriptorIndex := 18, attributes := #[] }, { accessFlags := 2, nameIndex := 118, descriptorIndex := 18, attributes := #[] }])
  fields := #[{ name := "MOST_BITS", type := .int, accessFlags := 26, slot := 0, constantValue := 0 }, { name := "FIRST_SLOTS", type := .int, accessFlags := 26, slot := 1, constantValue := 0 }, { name := "MOST_SLOTS", type := .int, accessFlags := 26, slot := 2, constantValue := 0 }, { name := "MOST_MARKINGS", type := .long, accessFlags := 26, slot := 3, constantValue := 0 }, { name := "NUMBER_BITS", type := .long, accessFlags := 24, slot := 4, constantValue := 0 }, { name := "SALT", type := .long, accessFlags := 26, slot := 5, constantValue := 0 }, { name := "SPREAD", type := .long, accessFlags := 26, slot := 6, constantValue := 0 }, { name := "SPREAD_AGAIN", type := .long, accessFlags := 26, slot := 7, constantValue := 0 }, { name := "places", type := .int, accessFlags := 18, slot := 0, constantValue := 0 }, { name := "layout", type := (.object "com/example/moving_tokens/movingtokens/MarkingSet$Layout"), accessFlags := 2, slot := 1, constantValue := 0 }, { name := "pages", type := (.object "com/example/moving_tokens/movingtokens/WordPages"), accessFlags := 2, slot := 2, constantValue := 0 }, { name := "size", type := .long, accessFlags := 2, slot := 3, constantValue := 0 }, { name := "slots", type := (.array .long), accessFlags := 2, slot := 4, constantValue := 0 }, { name := "candidate", type := (.array .long), accessFlags := 2, slot := 5, constantValue := 0 }, { name := "summed", type := .long, accessFlags := 2, slot := 6, constantValue := 0 }, { name := "sumOfSummed", type := .long, accessFlags := 2, slot := 7, constantValue := 0 }]
  methods := #[k3m0, k3m1, k3m2, k3m3]
  instanceTypes := #[.int, (.object "com/example/moving_tokens/movingtokens/MarkingSet$Layout"), (.object "com/example/moving_tokens/movingtokens/WordPages"), .long, (.array .long), (.array .long), .long, .long]
  staticTypes := #[.int, .int, .int, .long, .long, .long, .long, .long]
  resolved := Array.replicate 233 none
  statics := none }

def pool4 : Array CpInfo := pool [(2, .class_ 4), (1, u "java/lang/Object"), (0, u "<init>"), (0, u "()V"), (1, .class_ 10), (1, u "java/lang/System"), (0, u "allowSecurityManager"), (0, u "I"), (16, u "cons"), (0, u "Ljava/io/Console;"), (77, .class_ 110), (1, u "java/lang/System$CallersHolder"), (43, u "initialErrStream"), (0, u "Ljava/io/PrintStream;"), (19, u "security"), (0, u "Ljava/lang/SecurityManager;"), (31, .class_ 209), (0, u "java/lang/System$1"), (7, u "props"), (0, u "Ljava/util/Properties;"), (2, u "lineSeparator"), (0, u "Ljava/lang/String;"), (96, .class_ 321), (1, u "java/lang/System$LoggerFinder"), (5, .class_ 328), (0, u "java/lang/System$Logger"), (67, u "err"), (2, u "out"), (91, u "notSupportedJnuEncoding"), (15, u "in"), (17, u "initialIn"), (0, u "Ljava/io/InputStream;"), (35, u "bootLayer"), (0, u "Ljava/lang/ModuleLayer;"), (99, .class_ 664), (0, u "java/lang/System$2"), (9, u "NEVER"), (2, u "MAYBE"), (49, u "arraycopy"), (0, u "(Ljava/lang/Object;ILjava/lang/Object;II)V"), (72, .class_ 802), (0, u "java/lang/System$Logger$Level")] 31

def k4m0 : Method := { name := "<init>", desc := "()V", sig := { parameters := [], returnType := none }, accessFlags := 2, code := none }
def k4m1 : Method := { name := "arraycopy", desc := "(Ljava/lang/Object;ILjava/lang/Object;II)V", sig := { parameters := [(.object "java/lang/Object"), .int, (.object "java/lang/Object"), .int, .int], returnType := none }, accessFlags := 265, code := none }
/-- java/lang/System -/
def k4 : Class := { plain "java/lang/System" (some 0) with
  accessFlags := 49
  interfaces := #[]
  cf := some (fileOf pool4 8 #[.nestMembers #[319, 327, 801, 108, 663, 208]] #[{ accessFlags := 2, nameIndex := 5, descriptorIndex := 6, attributes := #[] }, { accessFlags := 265, nameIndex := 727, descriptorIndex := 728, attributes := #[] }] 49 2 #[] #[{ accessFlags := 25, nameIndex := 507, descriptorIndex := 526, attributes := #[] }, { accessFlags := 25, nameIndex := 399, descriptorIndex := 155, attributes := #[] }, { accessFlags := 25, nameIndex := 396, descriptorIndex := 155, attributes := #[] }, { accessFlags := 10, nameIndex := 525, descriptorIndex := 526, attributes := #[] }, { accessFlags := 26, nameIndex := 674, descriptorIndex := 12, attributes := #[] }, { accessFlags := 26, nameIndex := 677, descriptorIndex := 12, attributes := #[] }, { accessFlags := 10, nameIndex := 11, descriptorIndex := 12, attributes := #[] }, { accessFlags := 74, nameIndex := 175, descriptorIndex := 176, attributes := #[] }, { accessFlags := 10, nameIndex := 491, descriptorIndex := 222, attributes := #[] }, { accessFlags := 74, nameIndex := 29, descriptorIndex := 30, attributes := #[] }, { accessFlags := 74, nameIndex := 154, descriptorIndex := 155, attributes := #[] }, { accessFlags := 10, nameIndex := 217, descriptorIndex := 218, attributes := #[] }, { accessFlags := 10, nameIndex := 221, descriptorIndex := 222, attributes := #[] }, { accessFlags := 8, nameIndex := 562, descriptorIndex := 563, attributes := #[] }])
  fields := #[{ name := "in", type := (.object "java/io/InputStream"), accessFlags := 25, slot := 0, constantValue := 0 }, { name := "out", type := (.object "java/io/PrintStream"), accessFlags := 25, slot := 1, constantValue := 0 }, { name := "err", type := (.object "java/io/PrintStream"), accessFlags := 25, slot := 2, constantValue := 0 }, { name := "initialIn", type := (.object "java/io/InputStream"), accessFlags := 10, slot := 3, constantValue := 0 }, { name := "NEVER", type := .int, accessFlags := 26, slot := 4, constantValue := 0 }, { name := "MAYBE", type := .int, accessFlags := 26, slot := 5, constantValue := 0 }, { name := "allowSecurityManager", type := .int, accessFlags := 10, slot := 6, constantValue := 0 }, { name := "security", type := (.object "java/lang/SecurityManager"), accessFlags := 74, slot := 7, constantValue := 0 }, { name := "notSupportedJnuEncoding", type := (.object "java/lang/String"), accessFlags := 10, slot := 8, constantValue := 0 }, { name := "cons", type := (.object "java/io/Console"), accessFlags := 74, slot := 9, constantValue := 0 }, { name := "initialErrStream", type := (.object "java/io/PrintStream"), accessFlags := 74, slot := 10, constantValue := 0 }, { name := "props", type := (.object "java/util/Properties"), accessFlags := 10, slot := 11, constantValue := 0 }, { name := "lineSeparator", type := (.object "java/lang/String"), accessFlags := 10, slot := 12, constantValue := 0 }, { name := "bootLayer", type := (.object "java/lang/ModuleLayer"), accessFlags := 8, slot := 13, constantValue := 0 }]
  methods := #[k4m0, k4m1]
  instanceTypes := #[]
  staticTypes := #[(.object "java/io/InputStream"), (.object "java/io/PrintStream"), (.object "java/io/PrintStream"), (.object "java/io/InputStream"), .int, .int, .int, (.object "java/lang/SecurityManager"), (.object "java/lang/String"), (.object "java/io/Console"), (.object "java/io/PrintStream"), (.object "java/util/Properties"), (.object "java/lang/String"), (.object "java/lang/ModuleLayer")]
  resolved := Array.replicate 834 none
  statics := none }

def pool5 : Array CpInfo := pool [(1, u "java/lang/Cloneable"), (0, .class_ 1), (0, u "java/lang/Object"), (0, .class_ 3)] 3

/-- java/lang/Cloneable -/
def k5 : Class := { plain "java/lang/Cloneable" (some 0) with
  accessFlags := 1537
  interfaces := #[]
  cf := some (fileOf pool5 2 #[] #[] 1537 4 #[] #[])
  fields := #[]
  methods := #[]
  instanceTypes := #[]
  staticTypes := #[]
  resolved := Array.replicate 8 none
  statics := none }

def pool6 : Array CpInfo := pool [(1, u "java/io/Serializable"), (0, .class_ 1), (0, u "java/lang/Object"), (0, .class_ 3)] 3

/-- java/io/Serializable -/
def k6 : Class := { plain "java/io/Serializable" (some 0) with
  accessFlags := 1537
  interfaces := #[]
  cf := some (fileOf pool6 2 #[] #[] 1537 4 #[] #[])
  fields := #[]
  methods := #[]
  instanceTypes := #[]
  staticTypes := #[]
  resolved := Array.replicate 8 none
  statics := none }

/-- the primitive byte -/
def k7 : Class := { plain "byte" none with kind := .primitive 'B', accessFlags := 0x411 }
/-- [B -/
def k8 : Class := { plain "[B" (some 0) with kind := .array 7 .byte, interfaces := #[5, 6], accessFlags := 1041 }

/-- the primitive int -/
def k9 : Class := { plain "int" none with kind := .primitive 'I', accessFlags := 0x411 }
/-- [I -/
def k10 : Class := { plain "[I" (some 0) with kind := .array 9 .int, interfaces := #[5, 6], accessFlags := 1041 }

/-- the primitive long -/
def k11 : Class := { plain "long" none with kind := .primitive 'J', accessFlags := 0x411 }
/-- [J -/
def k12 : Class := { plain "[J" (some 0) with kind := .array 11 .long, interfaces := #[5, 6], accessFlags := 1041 }

def heap : Heap := #[]
def classes : Array Class := #[k0, k1, k2, k3, k4, k5, k6, k7, k8, k9, k10, k11, k12]
def interned : List (Array UInt16 × Addr) := []
def slotsUsed : Nat := 0
def theMethod : MethodId := ⟨1, 1⟩
def args0 : Array Value := #[.int 3, .long 4, .long 5, .long 6, .long 7]
def aboutOver (below : List Frame) : State where
  vm := { classes := classes, interned := interned.toArray }
  heap := heap
  slotsUsed := slotsUsed
  threads := #[{ frames := .invoking theMethod args0 :: below }]
def below0 : List Frame := [.native { method := ⟨0, 0⟩, args := #[] }]
def about1 : State := aboutOver below0
def p0 : Program := .bare "" "" ""
def e0 : Env := launch0.env 0 0 0
theorem w_frames : about1.frames = Frame.invoking theMethod args0 :: below0 := rfl
set_option maxRecDepth 65536 in
theorem w_args : argsFit about1.vm theMethod args0 = true := by decide +kernel
set_option maxRecDepth 65536 in
theorem w_heap : heapFits about1 = true := by decide +kernel
set_option maxRecDepth 65536 in
theorem w_runnable : about1.curStatus? = some .runnable := by decide +kernel
set_option maxRecDepth 65536 in
theorem w_alone : about1.alone = true := by decide +kernel
set_option maxRecDepth 65536 in
theorem w_named : about1.methodNamed? x = some theMethod := by decide +kernel
set_option maxRecDepth 65536 in
theorem w_hears : about1.hears theMethod below0 = true := by decide +kernel
set_option maxRecDepth 65536 in
theorem w_ripe : about1.ripe theMethod args0 below0 = true := by decide +kernel
theorem w_running : about1.status = .running := rfl
set_option maxRecDepth 65536 in
theorem w_room : about1.hasRoom e0.platform room_1 = true :=
  launch0.hasRoom_least _ room_1 (by decide +kernel) (by decide +kernel) (by decide +kernel) (by decide +kernel) (by decide +kernel) (by decide +kernel)
theorem allAtoms_all (ts : List Jvm.Cond) (a : Array Jvm.Value) (st : Jvm.State) : (allAtoms ts).before a st = ts.all (fun c => c.before a st) := by
  induction ts with
  | nil => rfl
  | cons c t ih =>
    show (Jvm.Cond.and c (allAtoms t)).before a st = _
    rw [Jvm.Cond.before_and, ih, List.all_cons]
def words1 : List Jvm.Cond := Jvm.Cond.code x code maxLocals ret :: tables_1
/-- a 'code' word, met by the world's own term for the bytes: nothing is compared byte by byte -/
theorem code_word {y : MethodName} {bytes : ByteArray} {mx : Nat} {rt : Option FieldType} {a : Array Value} {s : State} {m : MethodId} {meth : Method} {c : Code} (h1 : s.methodNamed? y = some m) (h2 : s.vm.method? m = some meth) (h3 : meth.code = some c) (h4 : c.code = bytes)
    (h5 : (c.maxLocals == mx && c.exceptionTable.isEmpty && decide (c.maxStack ≤ mostOperands) && decide (meth.sig.returnType = rt) && !meth.locks && decide (parseMethodDescriptor y.desc = some meth.sig)) = true) : (Jvm.Cond.code y bytes mx rt).before a s = true := by
  simp only [Bool.and_eq_true, beq_iff_eq, Bool.not_eq_true', decide_eq_true_eq] at h5
  obtain ⟨⟨⟨⟨⟨g1, g2⟩, g3⟩, g4⟩, g5⟩, g6⟩ := h5
  simp [Cond.before, Cond.holds, Cond.value, h1, h2, h3, h4, g1, g2, g3, g4, g5, g6]
def isCode : Jvm.Cond → Bool
  | .code _ _ _ _ => true
  | _ => false
theorem all_split {L : List Jvm.Cond} {P : Jvm.Cond → Bool} (h1 : L.all (fun c => isCode c || P c) = true) (h2 : ∀ c ∈ L.filter isCode, P c = true) : L.all P = true := by
  refine List.all_eq_true.mpr fun c hc => ?_
  have h := List.all_eq_true.mp h1 c hc
  rcases Bool.eq_false_or_eq_true (isCode c) with hi | hi
  · exact h2 c (List.mem_filter.mpr ⟨hc, hi⟩)
  · simpa [hi] using h
set_option maxRecDepth 65536 in
theorem w_c0 : (Jvm.Cond.code x code maxLocals ret).before args0 about1 = true := code_word (m := ⟨1, 1⟩) (meth := k1m1) (c := k1c1) (by decide +kernel) rfl rfl rfl (by decide +kernel)
set_option maxRecDepth 65536 in
theorem w_c1 : (Jvm.Cond.code ({ cls := "com/example/moving_tokens/movingtokens/PartialChoices", name := "<init>", desc := "()V" } : Jvm.MethodName) prog_38_method_1_code (1 : Nat) (Option.none : Option Jvm.ClassFile.FieldType)).before args0 about1 = true := code_word (m := ⟨2, 0⟩) (meth := k2m0) (c := k2c0) (by decide +kernel) rfl rfl rfl (by decide +kernel)
set_option maxRecDepth 65536 in
theorem w_c2 : (Jvm.Cond.code ({ cls := "java/lang/Object", name := "<init>", desc := "()V" } : Jvm.MethodName) object_method_1_code (1 : Nat) (Option.none : Option Jvm.ClassFile.FieldType)).before args0 about1 = true := code_word (m := ⟨0, 0⟩) (meth := k0m0) (c := k0c0) (by decide +kernel) rfl rfl rfl (by decide +kernel)
set_option maxRecDepth 65536 in
theorem w_c3 : (Jvm.Cond.code ({ cls := "com/example/moving_tokens/movingtokens/PartialChoices", name := "clear", desc := "(I)V" } : Jvm.MethodName) prog_38_method_2_code (4 : Nat) (Option.none : Option Jvm.ClassFile.FieldType)).before args0 about1 = true := code_word (m := ⟨2, 1⟩) (meth := k2m1) (c := k2c1) (by decide +kernel) rfl rfl rfl (by decide +kernel)
set_option maxRecDepth 65536 in
theorem w_c4 : (Jvm.Cond.code ({ cls := "com/example/moving_tokens/movingtokens/PartialChoices", name := "entry", desc := "([J)I" } : Jvm.MethodName) prog_38_method_5_code (5 : Nat) (Option.some Jvm.ClassFile.FieldType.int)).before args0 about1 = true := code_word (m := ⟨2, 4⟩) (meth := k2m4) (c := k2c4) (by decide +kernel) rfl rfl rfl (by decide +kernel)
set_option maxRecDepth 65536 in
theorem w_c5 : (Jvm.Cond.code ({ cls := "com/example/moving_tokens/movingtokens/PartialChoices", name := "home", desc := "([J)I" } : Jvm.MethodName) prog_38_method_9_code (2 : Nat) (Option.some Jvm.ClassFile.FieldType.int)).before args0 about1 = true := code_word (m := ⟨2, 6⟩) (meth := k2m6) (c := k2c6) (by decide +kernel) rfl rfl rfl (by decide +kernel)
set_option maxRecDepth 65536 in
theorem w_c6 : (Jvm.Cond.code ({ cls := "com/example/moving_tokens/movingtokens/MarkingSet", name := "hash", desc := "([JII)J" } : Jvm.MethodName) prog_30_method_15_code (3 : Nat) (Option.some Jvm.ClassFile.FieldType.long)).before args0 about1 = true := code_word (m := ⟨3, 0⟩) (meth := k3m0) (c := k3c0) (by decide +kernel) rfl rfl rfl (by decide +kernel)
set_option maxRecDepth 65536 in
theorem w_c7 : (Jvm.Cond.code ({ cls := "com/example/moving_tokens/movingtokens/MarkingSet", name := "sum", desc := "([JII)J" } : Jvm.MethodName) prog_30_method_16_code (6 : Nat) (Option.some Jvm.ClassFile.FieldType.long)).before args0 about1 = true := code_word (m := ⟨3, 1⟩) (meth := k3m1) (c := k3c1) (by decide +kernel) rfl rfl rfl (by decide +kernel)
set_option maxRecDepth 65536 in
theorem w_c8 : (Jvm.Cond.code ({ cls := "com/example/moving_tokens/movingtokens/MarkingSet", name := "share", desc := "(JI)J" } : Jvm.MethodName) prog_30_method_17_code (3 : Nat) (Option.some Jvm.ClassFile.FieldType.long)).before args0 about1 = true := code_word (m := ⟨3, 2⟩) (meth := k3m2) (c := k3c2) (by decide +kernel) rfl rfl rfl (by decide +kernel)
set_option maxRecDepth 65536 in
theorem w_c9 : (Jvm.Cond.code ({ cls := "com/example/moving_tokens/movingtokens/MarkingSet", name := "spread", desc := "(J)J" } : Jvm.MethodName) prog_30_method_18_code (4 : Nat) (Option.some Jvm.ClassFile.FieldType.long)).before args0 about1 = true := code_word (m := ⟨3, 3⟩) (meth := k3m3) (c := k3c3) (by decide +kernel) rfl rfl rfl (by decide +kernel)
set_option maxRecDepth 65536 in
theorem w_c10 : (Jvm.Cond.code ({ cls := "com/example/moving_tokens/movingtokens/PartialChoices", name := "size", desc := "()I" } : Jvm.MethodName) prog_38_method_3_code (1 : Nat) (Option.some Jvm.ClassFile.FieldType.int)).before args0 about1 = true := code_word (m := ⟨2, 2⟩) (meth := k2m2) (c := k2c2) (by decide +kernel) rfl rfl rfl (by decide +kernel)
set_option maxRecDepth 65536 in
theorem w_c11 : (Jvm.Cond.code ({ cls := "com/example/moving_tokens/movingtokens/PartialChoices", name := "find", desc := "([J)I" } : Jvm.MethodName) prog_38_method_4_code (5 : Nat) (Option.some Jvm.ClassFile.FieldType.int)).before args0 about1 = true := code_word (m := ⟨2, 3⟩) (meth := k2m3) (c := k2c3) (by decide +kernel) rfl rfl rfl (by decide +kernel)
set_option maxRecDepth 65536 in
theorem w_c12 : (Jvm.Cond.code ({ cls := "com/example/moving_tokens/movingtokens/PartialChoices", name := "copyState", desc := "(I[J)V" } : Jvm.MethodName) prog_38_method_8_code (3 : Nat) (Option.none : Option Jvm.ClassFile.FieldType)).before args0 about1 = true := code_word (m := ⟨2, 5⟩) (meth := k2m5) (c := k2c5) (by decide +kernel) rfl rfl rfl (by decide +kernel)
set_option maxRecDepth 65536 in
theorem w_c13 : (Jvm.Cond.code ({ cls := "com/example/moving_tokens/movingtokens/PartialChoices", name := "holds", desc := "(I[J)Z" } : Jvm.MethodName) prog_38_method_11_code (5 : Nat) (Option.some Jvm.ClassFile.FieldType.boolean)).before args0 about1 = true := code_word (m := ⟨2, 7⟩) (meth := k2m7) (c := k2c7) (by decide +kernel) rfl rfl rfl (by decide +kernel)
def codes1 : List Jvm.Cond := [Jvm.Cond.code x code maxLocals ret, Jvm.Cond.code ({ cls := "com/example/moving_tokens/movingtokens/PartialChoices", name := "<init>", desc := "()V" } : Jvm.MethodName) prog_38_method_1_code (1 : Nat) (Option.none : Option Jvm.ClassFile.FieldType), Jvm.Cond.code ({ cls := "java/lang/Object", name := "<init>", desc := "()V" } : Jvm.MethodName) object_method_1_code (1 : Nat) (Option.none : Option Jvm.ClassFile.FieldType), Jvm.Cond.code ({ cls := "com/example/moving_tokens/movingtokens/PartialChoices", name := "clear", desc := "(I)V" } : Jvm.MethodName) prog_38_method_2_code (4 : Nat) (Option.none : Option Jvm.ClassFile.FieldType), Jvm.Cond.code ({ cls := "com/example/moving_tokens/movingtokens/PartialChoices", name := "entry", desc := "([J)I" } : Jvm.MethodName) prog_38_method_5_code (5 : Nat) (Option.some Jvm.ClassFile.FieldType.int), Jvm.Cond.code ({ cls := "com/example/moving_tokens/movingtokens/PartialChoices", name := "home", desc := "([J)I" } : Jvm.MethodName) prog_38_method_9_code (2 : Nat) (Option.some Jvm.ClassFile.FieldType.int), Jvm.Cond.code ({ cls := "com/example/moving_tokens/movingtokens/MarkingSet", name := "hash", desc := "([JII)J" } : Jvm.MethodName) prog_30_method_15_code (3 : Nat) (Option.some Jvm.ClassFile.FieldType.long), Jvm.Cond.code ({ cls := "com/example/moving_tokens/movingtokens/MarkingSet", name := "sum", desc := "([JII)J" } : Jvm.MethodName) prog_30_method_16_code (6 : Nat) (Option.some Jvm.ClassFile.FieldType.long), Jvm.Cond.code ({ cls := "com/example/moving_tokens/movingtokens/MarkingSet", name := "share", desc := "(JI)J" } : Jvm.MethodName) prog_30_method_17_code (3 : Nat) (Option.some Jvm.ClassFile.FieldType.long), Jvm.Cond.code ({ cls := "com/example/moving_tokens/movingtokens/MarkingSet", name := "spread", desc := "(J)J" } : Jvm.MethodName) prog_30_method_18_code (4 : Nat) (Option.some Jvm.ClassFile.FieldType.long), Jvm.Cond.code ({ cls := "com/example/moving_tokens/movingtokens/PartialChoices", name := "size", desc := "()I" } : Jvm.MethodName) prog_38_method_3_code (1 : Nat) (Option.some Jvm.ClassFile.FieldType.int), Jvm.Cond.code ({ cls := "com/example/moving_tokens/movingtokens/PartialChoices", name := "find", desc := "([J)I" } : Jvm.MethodName) prog_38_method_4_code (5 : Nat) (Option.some Jvm.ClassFile.FieldType.int), Jvm.Cond.code ({ cls := "com/example/moving_tokens/movingtokens/PartialChoices", name := "copyState", desc := "(I[J)V" } : Jvm.MethodName) prog_38_method_8_code (3 : Nat) (Option.none : Option Jvm.ClassFile.FieldType), Jvm.Cond.code ({ cls := "com/example/moving_tokens/movingtokens/PartialChoices", name := "holds", desc := "(I[J)Z" } : Jvm.MethodName) prog_38_method_11_code (5 : Nat) (Option.some Jvm.ClassFile.FieldType.boolean)]
set_option maxRecDepth 65536 in
theorem codes_eq : words1.filter isCode = codes1 := rfl
theorem w_codes : ∀ c ∈ words1.filter isCode, c.before args0 about1 = true := by
  rw [codes_eq]
  intro c hc
  simp only [codes1, List.mem_cons, List.not_mem_nil, or_false] at hc
  rcases hc with rfl | rfl | rfl | rfl | rfl | rfl | rfl | rfl | rfl | rfl | rfl | rfl | rfl | rfl
  · exact w_c0
  · exact w_c1
  · exact w_c2
  · exact w_c3
  · exact w_c4
  · exact w_c5
  · exact w_c6
  · exact w_c7
  · exact w_c8
  · exact w_c9
  · exact w_c10
  · exact w_c11
  · exact w_c12
  · exact w_c13
set_option maxRecDepth 65536 in
theorem w_t1 : (words1.take 24).all (fun c => isCode c || c.before args0 about1) = true := by decide +kernel
set_option maxRecDepth 65536 in
theorem w_t2 : ((words1.drop 24).take 24).all (fun c => isCode c || c.before args0 about1) = true := by decide +kernel
set_option maxRecDepth 65536 in
theorem w_t3 : (((words1.drop 24).drop 24).take 24).all (fun c => isCode c || c.before args0 about1) = true := by decide +kernel
set_option maxRecDepth 65536 in
theorem w_t4 : (((words1.drop 24).drop 24).drop 24).all (fun c => isCode c || c.before args0 about1) = true := by decide +kernel
theorem w_tables : (allAtoms (Jvm.Cond.code x code maxLocals ret :: tables_1)).before args0 about1 = true := by
  rw [allAtoms_all]
  show words1.all (fun c => c.before args0 about1) = true
  refine all_split ?_ w_codes
  rw [← List.take_append_drop 24 words1, List.all_append, w_t1, ← List.take_append_drop 24 (words1.drop 24), List.all_append, w_t2, ← List.take_append_drop 24 ((words1.drop 24).drop 24), List.all_append, w_t3, w_t4]
  rfl
set_option maxRecDepth 65536 in
theorem w_case : (Jvm.Cond.and given_1 narrow_1).before args0 about1 = true := by decide +kernel
theorem w_applies : (headSpec (Jvm.Cond.code x code maxLocals ret :: tables_1) room_1).applies x e0.platform about1 = true :=
  (Spec.applies_iff w_frames).mpr ⟨w_running, w_runnable, w_alone, w_named, w_hears, w_ripe, w_room, w_tables⟩
theorem atStart : AtStart classFile x code maxLocals ret World_1 tables_1 room_1 Calls_1 rest_1 Pre_1 launch0 p0 e0 about1 theMethod args0 below0 :=
  ⟨lists_1, trivial, launch0.admits_env _ _ _, launch0.least_env, fairChoices_fair.cas, fairChoices_fair.clock, w_frames, w_args, w_heap, w_applies, trivial, trivial, w_case⟩
end start1
theorem witness_1 : WitnessClaimed_1 := ⟨start1.p0, start1.e0, start1.about1, start1.theMethod, start1.args0, start1.below0, start1.atStart⟩
end Jvm.Pilot.@@N@@
