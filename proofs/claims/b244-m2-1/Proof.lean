import JvmDerived
import JvmDerived.Pilot.@@N@@Statement
import JvmDerived.Pilot.@@N@@Code
set_option linter.unusedVariables false
set_option linter.unusedSimpArgs false
namespace Jvm.Pilot.@@N@@
open Jvm Jvm.ClassFile Sem Op Lib Jvm.Free Jvm.Stand Jvm.LawKit Jvm.RoadKit Bundle Jvm.Pilot.@@N@@.Jvm.D
section OwnKit
variable {p : Program} {l : Launch} {e : Env} {R : Room} {s : State} {m : MethodId} {args : Array Value} {below : List Frame} {meth : Method} {c : Code} {T : State} {locs : List Loc} {cells slots : Nat} {Q : Option Value → Heap → List Loc → Prop} {C S : Nat}
/-- from x the run ends, returning, with what Q says -/
def own_End (p : Program) (e : Env) (below : List Frame) (s : State) (Q : Option Value → Heap → List Loc → Prop) (C S : Nat) (x : State) : Prop :=
  ∃ t o, Steps p.tables e below x t ∧ t.status = .running ∧ Ended t below o ∧ ∃ v L, o = .returned v ∧ Q v t.heap L ∧ FrameEnd s o t L C S
theorem own_go {x x' : State} (h : ∀ t, Steps p.tables e below x' t → Steps p.tables e below x t) (k : own_End p e below s Q C S x') : own_End p e below s Q C S x := by
  obtain ⟨t, o, h1, h2⟩ := k
  exact ⟨t, o, h t h1, h2⟩
theorem own_mono {Q' : Option Value → Heap → List Loc → Prop} {x : State} (h : ∀ v h L, Q v h L → Q' v h L) (k : own_End p e below s Q C S x) : own_End p e below s Q' C S x := by
  obtain ⟨t, o, h1, h2, h3, v, L, h4, h5, h6⟩ := k
  exact ⟨t, o, h1, h2, h3, v, L, h4, h _ _ _ h5, h6⟩
theorem own_out (X : Stand p l e R s m args below meth c T locs cells slots) (hlk : meth.locks = false) {v : Option Value} (hv : meth.sig.returnType = none → v = none) {x : State}
    (h : ∀ fs, (∀ (f : JFrame) (acts : List Action), f.method = m → f.locked = none → f.entered = [] → (doReturn e (T.setTop f) acts v).1 = T.setFrames fs) → Steps p.tables e below x (T.setFrames fs))
    (hq : Q v T.heap locs) (hc : cells ≤ C) (hs : slots ≤ S) : own_End p e below s Q C S x := by
  obtain ⟨fs, hr, hrun, hended, hW, hsame⟩ := X.leave hv hlk
  exact ⟨_, _, h fs hr, hrun, hended, _, _, rfl, hq, ⟨_, rfl⟩, hW, hsame.mono hc hs⟩
theorem own_retV (X : Stand p l e R s m args below meth c T locs cells slots) (hx : p.tables.exec = Jvm.exec) (hlk : meth.locks = false) {pc : Nat} {Ls : Array Slot} (hret : meth.sig.returnType = none) (hd : decode c.code pc = .ok (.return_, 1))
    (hq : Q none T.heap locs) (hc : cells ≤ C) (hs : slots ≤ S) : own_End p e below s Q C S (T.setTop (mkF m pc Ls [])) :=
  own_out X hlk (fun _ => rfl) (fun fs hr => X.returnOut hx hret hd hr) hq hc hs
theorem own_retN (X : Stand p l e R s m args below meth c T locs cells slots) (hx : p.tables.exec = Jvm.exec) (hlk : meth.locks = false) {pc : Nat} {Ls : Array Slot} {z w : Int32} {t : FieldType} {rest : List Value} (hret : meth.sig.returnType = some t) (ht : t = .boolean ∨ t = .byte ∨ t = .char ∨ t = .short) (hd : decode c.code pc = .ok (.ireturn, 1))
    (hz : nar t z = w) (hq : Q (some (.int w)) T.heap locs) (hc : cells ≤ C) (hs : slots ≤ S) : own_End p e below s Q C S (T.setTop (mkF m pc Ls (.int z :: rest))) := by
  subst hz
  exact own_out X hlk (fun h => by rw [hret] at h; cases h) (fun fs hr => retN X hx hret ht hd hr) hq hc hs
theorem own_retI (X : Stand p l e R s m args below meth c T locs cells slots) (hx : p.tables.exec = Jvm.exec) (hlk : meth.locks = false) {pc : Nat} {Ls : Array Slot} {z : Int32} {rest : List Value} (hret : meth.sig.returnType = some .int) (hd : decode c.code pc = .ok (.ireturn, 1))
    (hq : Q (some (.int z)) T.heap locs) (hc : cells ≤ C) (hs : slots ≤ S) : own_End p e below s Q C S (T.setTop (mkF m pc Ls (.int z :: rest))) :=
  own_out X hlk (fun h => by rw [hret] at h; cases h) (fun fs hr => retOut X hx hret rfl (Or.inl ⟨rfl, Or.inl rfl, _, rfl⟩) hd hr) hq hc hs
theorem own_retJ (X : Stand p l e R s m args below meth c T locs cells slots) (hx : p.tables.exec = Jvm.exec) (hlk : meth.locks = false) {pc : Nat} {Ls : Array Slot} {z : Int64} {rest : List Value} (hret : meth.sig.returnType = some .long) (hd : decode c.code pc = .ok (.lreturn, 1))
    (hq : Q (some (.long z)) T.heap locs) (hc : cells ≤ C) (hs : slots ≤ S) : own_End p e below s Q C S (T.setTop (mkF m pc Ls (.long z :: rest))) :=
  own_out X hlk (fun h => by rw [hret] at h; cases h) (fun fs hr => retOut X hx hret rfl (Or.inr (Or.inl ⟨rfl, rfl, _, rfl⟩)) hd hr) hq hc hs
theorem own_retR (X : Stand p l e R s m args below meth c T locs cells slots) (hx : p.tables.exec = Jvm.exec) (hlk : meth.locks = false) {pc : Nat} {Ls : Array Slot} {z : Value} {t : FieldType} {rest : List Value} (hret : meth.sig.returnType = some t) (ht : t.isReference = true) (hv : z.isRef = true) (hd : decode c.code pc = .ok (.areturn, 1))
    (hq : Q (some z) T.heap locs) (hc : cells ≤ C) (hs : slots ≤ S) : own_End p e below s Q C S (T.setTop (mkF m pc Ls (z :: rest))) :=
  own_out X hlk (fun h => by rw [hret] at h; cases h) (fun fs hr => retOut X hx hret (by cases t <;> first | rfl | cases ht) (Or.inr (Or.inr (Or.inr (Or.inr ⟨rfl, ht, hv⟩)))) hd hr) hq hc hs
theorem own_w {a0 : Array Value} {Z : State} (hw : ∀ d ∈ tables_1, d.before a0 Z = true) (i : Nat) {d : Jvm.Cond} (h : tables_1[i]? = some d) : d.before a0 Z = true := hw _ (List.mem_of_getElem? h)
theorem own_self {a0 : Array Value} {Z : State} {y : MethodName} {n : Nat} (wi : (Jvm.Cond.instantiable y.cls n).before a0 Z = true) (wm : (Jvm.Cond.instanceMethod y).before a0 Z = true) (wp : (Jvm.Cond.privateMethod y).before a0 Z = true) (hy : y.cls ≠ "java/lang/invoke/MethodHandle" ∧ y.cls ≠ "java/lang/invoke/VarHandle") : (Jvm.Cond.selects y.cls y y).before a0 Z = true := by
  obtain ⟨c, k, h1, h2, -, h4, -⟩ := Cond.instantiable_spec wi
  have h5 : k.isInterface = false := by
    cases hq : k.isInterface
    · rfl
    · rw [hq] at h4; cases h4
  exact selects_self_of_private h1 h2 h5 (Cond.privateMethod_at wp) wm hy
end OwnKit
section OwnWide
variable {p : Program} {l : Launch} {e : Env} {R : Room} {s : State} {vm0 : Vm} {k0 : Nat} {m : MethodId} {args : Array Value} {below : List Frame} {meth : Method} {c : Code} {T : State} {locs : List Loc} {cells slots : Nat} {Q : Option Value → Heap → List Loc → Prop} {C S : Nat}
/-- as own_End, in the wide frame (String constants may have been loaded) -/
def own_EndW (p : Program) (e : Env) (below : List Frame) (s : State) (Q : Option Value → Heap → List Loc → Prop) (C S : Nat) (x : State) : Prop :=
  ∃ t o, Steps p.tables e below x t ∧ t.status = .running ∧ Ended t below o ∧ ∃ v L, o = .returned v ∧ Q v t.heap L ∧ ReturnedEndW s o t L C S
theorem own_goW {x x' : State} (h : ∀ t, Steps p.tables e below x' t → Steps p.tables e below x t) (k : own_EndW p e below s Q C S x') : own_EndW p e below s Q C S x := by
  obtain ⟨t, o, h1, h2⟩ := k
  exact ⟨t, o, h t h1, h2⟩
theorem own_hk {h : Heap} {k : Nat} (eT : T.heap = h) (hk : k ≤ h.size) : k ≤ T.heap.size := eT ▸ hk
theorem own_outW (X : Stand p l e R (s.setVm vm0) m args below meth c T locs cells slots) (hS : s.Since vm0 k0) (hk : k0 ≤ T.heap.size) (hlk : meth.locks = false) {v : Option Value} (hv : meth.sig.returnType = none → v = none) {x : State}
    (h : ∀ fs, (∀ (f : JFrame) (acts : List Action), f.method = m → f.locked = none → f.entered = [] → (doReturn e (T.setTop f) acts v).1 = T.setFrames fs) → Steps p.tables e below x (T.setFrames fs))
    (hq : Q v T.heap locs) (hc : cells ≤ C) (hs : slots ≤ S) : own_EndW p e below s Q C S x := by
  obtain ⟨fs, hr, hrun, hended, hE⟩ := X.leaveW hS hk hv hlk
  exact ⟨_, _, h fs hr, hrun, hended, _, _, rfl, hq, hE.1, hE.2.1, hE.2.2.1, hE.2.2.2.mono hc hs⟩
theorem own_retVW (X : Stand p l e R (s.setVm vm0) m args below meth c T locs cells slots) (hS : s.Since vm0 k0) (hk : k0 ≤ T.heap.size) (hx : p.tables.exec = Jvm.exec) (hlk : meth.locks = false) {pc : Nat} {Ls : Array Slot} (hret : meth.sig.returnType = none) (hd : decode c.code pc = .ok (.return_, 1))
    (hq : Q none T.heap locs) (hc : cells ≤ C) (hs : slots ≤ S) : own_EndW p e below s Q C S (T.setTop (mkF m pc Ls [])) :=
  own_outW X hS hk hlk (fun _ => rfl) (fun fs hr => X.returnOut hx hret hd hr) hq hc hs
theorem own_retNW (X : Stand p l e R (s.setVm vm0) m args below meth c T locs cells slots) (hS : s.Since vm0 k0) (hk : k0 ≤ T.heap.size) (hx : p.tables.exec = Jvm.exec) (hlk : meth.locks = false) {pc : Nat} {Ls : Array Slot} {z w : Int32} {t : FieldType} {rest : List Value} (hret : meth.sig.returnType = some t) (ht : t = .boolean ∨ t = .byte ∨ t = .char ∨ t = .short) (hd : decode c.code pc = .ok (.ireturn, 1))
    (hz : nar t z = w) (hq : Q (some (.int w)) T.heap locs) (hc : cells ≤ C) (hs : slots ≤ S) : own_EndW p e below s Q C S (T.setTop (mkF m pc Ls (.int z :: rest))) := by
  subst hz
  exact own_outW X hS hk hlk (fun h => by rw [hret] at h; cases h) (fun fs hr => retN X hx hret ht hd hr) hq hc hs
theorem own_retIW (X : Stand p l e R (s.setVm vm0) m args below meth c T locs cells slots) (hS : s.Since vm0 k0) (hk : k0 ≤ T.heap.size) (hx : p.tables.exec = Jvm.exec) (hlk : meth.locks = false) {pc : Nat} {Ls : Array Slot} {z : Int32} {rest : List Value} (hret : meth.sig.returnType = some .int) (hd : decode c.code pc = .ok (.ireturn, 1))
    (hq : Q (some (.int z)) T.heap locs) (hc : cells ≤ C) (hs : slots ≤ S) : own_EndW p e below s Q C S (T.setTop (mkF m pc Ls (.int z :: rest))) :=
  own_outW X hS hk hlk (fun h => by rw [hret] at h; cases h) (fun fs hr => retOut X hx hret rfl (Or.inl ⟨rfl, Or.inl rfl, _, rfl⟩) hd hr) hq hc hs
theorem own_retRW (X : Stand p l e R (s.setVm vm0) m args below meth c T locs cells slots) (hS : s.Since vm0 k0) (hk : k0 ≤ T.heap.size) (hx : p.tables.exec = Jvm.exec) (hlk : meth.locks = false) {pc : Nat} {Ls : Array Slot} {z : Value} {t : FieldType} {rest : List Value} (hret : meth.sig.returnType = some t) (ht : t.isReference = true) (hv : z.isRef = true) (hd : decode c.code pc = .ok (.areturn, 1))
    (hq : Q (some z) T.heap locs) (hc : cells ≤ C) (hs : slots ≤ S) : own_EndW p e below s Q C S (T.setTop (mkF m pc Ls (z :: rest))) :=
  own_outW X hS hk hlk (fun h => by rw [hret] at h; cases h) (fun fs hr => retOut X hx hret (by cases t <;> first | rfl | cases ht) (Or.inr (Or.inr (Or.inr (Or.inr ⟨rfl, ht, hv⟩)))) hd hr) hq hc hs
theorem own_wS {a0 : Array Value} {Z : State} (hw : ∀ d ∈ tables_1, d.before a0 Z = true) : ∀ a ∈ Bundle.stringAtoms, a.before a0 Z = true := fun d hd => by
  simp only [Bundle.stringAtoms, List.mem_cons, List.not_mem_nil, or_false] at hd
  rcases hd with rfl | rfl | rfl | rfl | rfl | rfl | rfl
  · exact (own_w hw 8 rfl)
  · exact (own_w hw 7 rfl)
  · exact (own_w hw 20 rfl)
  · exact (own_w hw 21 rfl)
  · exact (own_w hw 22 rfl)
  · exact (own_w hw 23 rfl)
  · exact (own_w hw 24 rfl)
end OwnWide
section OwnHeld
variable {p : Program} {l : Launch} {e : Env} {R : Room} {s : State} {vm0 vm : Vm} {k0 : Nat} {m : MethodId} {args : Array Value} {below : List Frame} {meth : Method} {c : Code} {T Z : State} {a0 : Array Value} {EL : List (String × Nat)} {locs : List Loc} {cells slots : Nat} {Q : Option Value → Heap → List Loc → Prop} {C S : Nat} {h : Heap}
/-- as own_EndW; and the booked constants stand -/
def own_EndH (Z : State) (EL : List (String × Nat)) (p : Program) (e : Env) (below : List Frame) (s : State) (Q : Option Value → Heap → List Loc → Prop) (C S : Nat) (x : State) : Prop :=
  ∃ t o, Steps p.tables e below x t ∧ t.status = .running ∧ Ended t below o ∧ ∃ v L, o = .returned v ∧ Q v t.heap L ∧ CHr Z EL s.vm s.heap t.vm t.heap ∧ ReturnedEndW s o t L C S
theorem own_goH {x x' : State} (h : ∀ t, Steps p.tables e below x' t → Steps p.tables e below x t) (k : own_EndH Z EL p e below s Q C S x') : own_EndH Z EL p e below s Q C S x := by
  obtain ⟨t, o, h1, h2⟩ := k
  exact ⟨t, o, h t h1, h2⟩
theorem own_monoH {Q' : Option Value → Heap → List Loc → Prop} {x : State} (h : ∀ v h L, Q v h L → Q' v h L) (k : own_EndH Z EL p e below s Q C S x) : own_EndH Z EL p e below s Q' C S x := by
  obtain ⟨t, o, h1, h2, h3, v, L, h4, h5, h6⟩ := k
  exact ⟨t, o, h1, h2, h3, v, L, h4, h _ _ _ h5, h6⟩
theorem own_hr (eT : T.heap = h) (hR : CHr Z EL s.vm s.heap vm0 h) : CHr Z EL s.vm s.heap vm0 T.heap := eT ▸ hR
theorem own_sfn {x : Addr} (hR : CHr Z EL s.vm s.heap vm0 h) (hx : h.size ≤ x) : Safe Z EL vm0 h x := Safe.new hx
theorem own_outH (X : Stand p l e R (s.setVm vm0) m args below meth c T locs cells slots) (hS : s.Since vm0 k0) (hk : k0 ≤ T.heap.size) (hR : CHr Z EL s.vm s.heap vm0 T.heap) (hZ : Z.Warmed39 vm0) (hEL : EW Z a0 EL) (hlk : meth.locks = false) {v : Option Value} (hv : meth.sig.returnType = none → v = none) {x : State}
    (h : ∀ fs, (∀ (f : JFrame) (acts : List Action), f.method = m → f.locked = none → f.entered = [] → (doReturn e (T.setTop f) acts v).1 = T.setFrames fs) → Steps p.tables e below x (T.setFrames fs))
    (hq : Q v T.heap locs) (hc : cells ≤ C) (hs : slots ≤ S) : own_EndH Z EL p e below s Q C S x := by
  have hC := hR.trans (CHv.at X hZ hEL hR.1)
  obtain ⟨fs, hr, hrun, hended, hE⟩ := X.leaveW hS hk hv hlk
  exact ⟨_, _, h fs hr, hrun, hended, _, _, rfl, hq, hC, hE.1, hE.2.1, hE.2.2.1, hE.2.2.2.mono hc hs⟩
theorem own_retVH (X : Stand p l e R (s.setVm vm0) m args below meth c T locs cells slots) (hS : s.Since vm0 k0) (hk : k0 ≤ T.heap.size) (hR : CHr Z EL s.vm s.heap vm0 T.heap) (hZ : Z.Warmed39 vm0) (hEL : EW Z a0 EL) (hx : p.tables.exec = Jvm.exec) (hlk : meth.locks = false) {pc : Nat} {Ls : Array Slot} (hret : meth.sig.returnType = none) (hd : decode c.code pc = .ok (.return_, 1))
    (hq : Q none T.heap locs) (hc : cells ≤ C) (hs : slots ≤ S) : own_EndH Z EL p e below s Q C S (T.setTop (mkF m pc Ls [])) :=
  own_outH X hS hk hR hZ hEL hlk (fun _ => rfl) (fun fs hr => X.returnOut hx hret hd hr) hq hc hs
theorem own_retNH (X : Stand p l e R (s.setVm vm0) m args below meth c T locs cells slots) (hS : s.Since vm0 k0) (hk : k0 ≤ T.heap.size) (hR : CHr Z EL s.vm s.heap vm0 T.heap) (hZ : Z.Warmed39 vm0) (hEL : EW Z a0 EL) (hx : p.tables.exec = Jvm.exec) (hlk : meth.locks = false) {pc : Nat} {Ls : Array Slot} {z w : Int32} {t : FieldType} {rest : List Value} (hret : meth.sig.returnType = some t) (ht : t = .boolean ∨ t = .byte ∨ t = .char ∨ t = .short) (hd : decode c.code pc = .ok (.ireturn, 1))
    (hz : nar t z = w) (hq : Q (some (.int w)) T.heap locs) (hc : cells ≤ C) (hs : slots ≤ S) : own_EndH Z EL p e below s Q C S (T.setTop (mkF m pc Ls (.int z :: rest))) := by
  subst hz
  exact own_outH X hS hk hR hZ hEL hlk (fun h => by rw [hret] at h; cases h) (fun fs hr => retN X hx hret ht hd hr) hq hc hs
theorem own_retRH (X : Stand p l e R (s.setVm vm0) m args below meth c T locs cells slots) (hS : s.Since vm0 k0) (hk : k0 ≤ T.heap.size) (hR : CHr Z EL s.vm s.heap vm0 T.heap) (hZ : Z.Warmed39 vm0) (hEL : EW Z a0 EL) (hx : p.tables.exec = Jvm.exec) (hlk : meth.locks = false) {pc : Nat} {Ls : Array Slot} {z : Value} {t : FieldType} {rest : List Value} (hret : meth.sig.returnType = some t) (ht : t.isReference = true) (hv : z.isRef = true) (hd : decode c.code pc = .ok (.areturn, 1))
    (hq : Q (some z) T.heap locs) (hc : cells ≤ C) (hs : slots ≤ S) : own_EndH Z EL p e below s Q C S (T.setTop (mkF m pc Ls (z :: rest))) :=
  own_outH X hS hk hR hZ hEL hlk (fun h => by rw [hret] at h; cases h) (fun fs hr => retOut X hx hret (by cases t <;> first | rfl | cases ht) (Or.inr (Or.inr (Or.inr (Or.inr ⟨rfl, ht, hv⟩)))) hd hr) hq hc hs
def own_EL : List (String × Nat) := [("com/example/triplewright/triplewright/Term$Iri", 40), ("java/lang/String", 7)]
theorem own_EW {a0 : Array Value} {Z : State} (hw : ∀ d ∈ tables_1, d.before a0 Z = true) : EW Z a0 own_EL := (EW.cons (own_w hw 167 rfl) (by decide) (EW.cons (own_w hw 19 rfl) (by decide) EW.nil))
/-- a String whose value is still null is none that the tables book -/
theorem own_sfN {x : Addr} (hal : Z.vm.Alike vm) (E : Exa Z h x "java/lang/String") (F0 : Fld Z h x "java/lang/String" "value" "[B" .null) : Safe Z EL vm h x := fun B => by
  obtain ⟨p, -, u, a, -, q, -, F, rfl | rfl⟩ := B
  · obtain ⟨cell, cf, k, i, f, e1, e2, -, -, -, e3⟩ := F0
    cases (show h[q.sa]? = some q.sC from F.ha).symm.trans e1
    obtain ⟨cS, ⟨⟨-, -, -, ⟨c1, k1, i1, f1, -⟩, -, -, -, v1, -⟩, -⟩, -⟩ := F
    obtain ⟨k3, e4, -⟩ := State.fieldFound?_setVm (s := Z) hal e2
    have e5 := (show (Wst Z vm h).fieldFound? "java/lang/String" "value" "[B" = _ from e4).symm.trans f1
    simp only [Option.some.injEq, Prod.mk.injEq] at e5
    rw [← e5.2.2.2] at v1
    simp_all
  · obtain ⟨cell, k, e1, e2, e3, -, -⟩ := E
    cases (show h[q.sd]? = some q.SA from F.hd).symm.trans e1
    obtain ⟨cS, -, -, f, -⟩ := F
    rw [show (Wst Z vm h).vm.findClass "[B" = Z.vm.findClass "[B" from hal.findClass _ _] at f
    obtain ⟨k1, q1, q2⟩ := Vm.findClass_spec f
    obtain ⟨k2, q3, q4⟩ := Vm.findClass_spec e2
    cases q1.symm.trans q3
    exact absurd (q2.symm.trans q4) (by decide)
end OwnHeld
/-- the statics -/
def own_St (Z : State) (G1 : Int32) (sf : Value) : Prop := Sta Z Z.heap "java/lang/String" "COMPACT_STRINGS" "Z" (.int G1) ∧ (¬ G1 = (0 : Int32)) ∧ Sta Z Z.heap "java/lang/StringUTF16" "$assertionsDisabled" "Z" (.int (1 : Int32)) ∧ Sta Z Z.heap "java/lang/StringUTF16" "HI_BYTE_SHIFT" "I" (.int (0 : Int32)) ∧ Sta Z Z.heap "java/lang/StringUTF16" "LO_BYTE_SHIFT" "I" (.int (8 : Int32)) ∧ Sta Z Z.heap "jdk/internal/util/Preconditions" "SIOOBE_FORMATTER" "Ljava/util/function/BiFunction;" sf ∧ sf.isRef = true ∧ sf.category = 1
/-- a char -/
def own_ch (x : Int32) : Prop := ¬ x < 0 ∧ ¬ (65535 : Int32) < x
theorem own_lt {a b : Int32} : a < b ↔ a.toInt < b.toInt := Int32.lt_iff_toInt_lt
theorem own_k0 : (0 : Int32).toInt = 0 := by decide
theorem own_k255 : (255 : Int32).toInt = 255 := by decide
theorem own_kff : (65535 : Int32).toInt = 65535 := by decide
theorem own_nc {x : Int32} (h : own_ch x) : nar .char x = x := by
  have q := c_i2c x
  have h1 := mt own_lt.mpr h.1
  have h2 := mt own_lt.mpr h.2
  rw [own_k0] at h1
  rw [own_kff] at h2
  exact Int32.toInt_inj.mp (show x.toUInt32.toUInt16.toUInt32.toInt32.toInt = x.toInt by omega)
theorem own_nr (x : Int32) : own_ch (nar .char x) := by
  have q := c_i2c x
  refine ⟨mt own_lt.mp ?_, mt own_lt.mp ?_⟩
  · rw [own_k0]; show ¬ x.toUInt32.toUInt16.toUInt32.toInt32.toInt < 0; omega
  · rw [own_kff]; show ¬ 65535 < x.toUInt32.toUInt16.toUInt32.toInt32.toInt; omega
theorem own_bb (x : Int32) : nar .byte (x.toInt8.toInt32) = x.toInt8.toInt32 := by
  have h := c_i2b x
  have q := c_i2b (x.toInt8.toInt32)
  exact Int32.toInt_inj.mp (show (x.toInt8.toInt32).toInt8.toInt32.toInt = x.toInt8.toInt32.toInt by omega)
theorem own_b58 {x : Int32} (h : own_ch x) (h2 : ¬ (255 : Int32) < x) : nar .byte (x.toInt8.toInt32) = (58 : Int32) ↔ x = 58 := by
  have q := c_i2b x
  have h1 := mt own_lt.mpr h.1
  have h2 := mt own_lt.mpr h2
  rw [own_k0] at h1
  rw [own_k255] at h2
  have e : (58 : Int32).toInt = 58 := by decide
  rw [own_bb]
  constructor
  · intro u
    have u := congrArg Int32.toInt u
    exact Int32.toInt_inj.mp (by omega)
  · intro u
    have u := congrArg Int32.toInt u
    exact Int32.toInt_inj.mp (by omega)
theorem own_latc {x : Int32} (h : own_ch x) (h2 : ¬ (255 : Int32) < x) : nar .char (((nar .byte (x.toInt8.toInt32)) &&& (255 : Int32)).toUInt32.toUInt16.toUInt32.toInt32) = x := by
  have q := c_i2b x
  have h1 := mt own_lt.mpr h.1
  have h2 := mt own_lt.mpr h2
  rw [own_k0] at h1
  rw [own_k255] at h2
  rw [own_bb]
  have m := c_mask (x.toInt8.toInt32) 255 8 (by decide) (by decide)
  have e : x.toInt8.toInt32 &&& (255 : Int32) = x := Int32.toInt_inj.mp (by omega)
  rw [e]
  exact (congrArg (nar .char) (own_nc h)).trans (own_nc h)
theorem own_utfc {x : Int32} (h : own_ch x) : nar .char (((((nar .byte ((x >>> ((0 : Int32) &&& 31)).toInt8.toInt32)) &&& (255 : Int32)) <<< ((0 : Int32) &&& 31)) ||| (((nar .byte ((x >>> ((8 : Int32) &&& 31)).toInt8.toInt32)) &&& (255 : Int32)) <<< ((8 : Int32) &&& 31))).toUInt32.toUInt16.toUInt32.toInt32) = x := by
  have h1 := mt own_lt.mpr h.1
  have h2 := mt own_lt.mpr h.2
  rw [own_k0] at h1
  rw [own_kff] at h2
  have s0 := c_ishr x 0 0 (by decide)
  have s8 := c_ishr x 8 8 (by decide)
  obtain ⟨a, ha⟩ : ∃ a, a = x >>> ((0 : Int32) &&& 31) := ⟨_, rfl⟩
  obtain ⟨b, hb⟩ : ∃ b, b = x >>> ((8 : Int32) &&& 31) := ⟨_, rfl⟩
  rw [← ha] at s0 ⊢
  rw [← hb] at s8 ⊢
  rw [own_bb, own_bb]
  have qa := c_i2b a
  have qb := c_i2b b
  have ma := c_mask (a.toInt8.toInt32) 255 8 (by decide) (by decide)
  have mb := c_mask (b.toInt8.toInt32) 255 8 (by decide) (by decide)
  obtain ⟨u, hu⟩ : ∃ u, u = a.toInt8.toInt32 &&& (255 : Int32) := ⟨_, rfl⟩
  obtain ⟨v, hv⟩ : ∃ v, v = b.toInt8.toInt32 &&& (255 : Int32) := ⟨_, rfl⟩
  rw [← hu] at ma ⊢
  rw [← hv] at mb ⊢
  have su := c_ishl u 0 0 (by decide)
  have sv := c_ishl v 8 8 (by decide)
  obtain ⟨u', hu'⟩ : ∃ z, z = u <<< ((0 : Int32) &&& 31) := ⟨_, rfl⟩
  obtain ⟨v', hv'⟩ : ∃ z, z = v <<< ((8 : Int32) &&& 31) := ⟨_, rfl⟩
  rw [← hu'] at su ⊢
  rw [← hv'] at sv ⊢
  have ru := rng32 u'
  have rv := rng32 v'
  have e : u' ||| v' = x := by
    rw [Int32.or_comm]
    have o := c_or v' u' 8 (by decide) 256 (by decide) (by omega) (by omega) (by omega)
    have ro := rng32 (v' ||| u')
    exact Int32.toInt_inj.mp (by omega)
  rw [e]
  exact (congrArg (nar .char) (own_nc h)).trans (own_nc h)
def own_lat (xs : List Int32) : List Value := xs.map fun x => .int (nar .byte (x.toInt8.toInt32))
def own_utf : List Int32 → List Value
  | [] => []
  | x :: r => .int (nar .byte ((x >>> ((0 : Int32) &&& 31)).toInt8.toInt32)) :: .int (nar .byte ((x >>> ((8 : Int32) &&& 31)).toInt8.toInt32)) :: own_utf r
/-- b is a String of these chars -/
def own_S (Z : State) (h : Heap) (b : Addr) (xs : List Int32) : Prop := ∃ (d : Addr) (kd : ClassId), Exa Z h b "java/lang/String" ∧ Fld Z h b "java/lang/String" "value" "[B" (.ref d) ∧ (∀ x ∈ xs, own_ch x) ∧
  ((Fld Z h b "java/lang/String" "coder" "B" (.int (0 : Int32)) ∧ (∀ x ∈ xs, ¬ (255 : Int32) < x) ∧ Arv Z h d kd .byte (Int32.ofNat xs.length) (own_lat xs) (.int (0 : Int32))) ∨
   (Fld Z h b "java/lang/String" "coder" "B" (.int (1 : Int32)) ∧ Arv Z h d kd .byte (Int32.ofNat (2 * xs.length)) (own_utf xs) (.int (0 : Int32))))
theorem own_S.ext {Z : State} {h h' : Heap} {b : Addr} {xs : List Int32} (S : own_S Z h b xs) (E : Ext h h') : own_S Z h' b xs := by
  obtain ⟨d, kd, h1, h2, h3, h4⟩ := S
  exact ⟨d, kd, Exa.ext E h1, Fld.ext E h2, h3, h4.imp (fun q => ⟨Fld.ext E q.1, q.2.1, q.2.2.ext E⟩) (fun q => ⟨Fld.ext E q.1, q.2.ext E⟩)⟩
def own_ixg (k : Nat) : List Int32 → Int32
  | [] => -1
  | x :: r => if x = 58 then Int32.ofNat k else own_ixg (k + 1) r
def own_ix (xs : List Int32) : Int32 := own_ixg 0 xs
theorem d35_0 : decode jdk_41_method_11_code 0 = .ok (.iload_n 0, 1) := by decide +kernel
theorem d35_1 : decode jdk_41_method_11_code 1 = .ok (.ifCond .lt 8, 3) := by decide +kernel
theorem d35_4 : decode jdk_41_method_11_code 4 = .ok (.iload_n 0, 1) := by decide +kernel
theorem d35_5 : decode jdk_41_method_11_code 5 = .ok (.iload_n 1, 1) := by decide +kernel
theorem d35_6 : decode jdk_41_method_11_code 6 = .ok (.if_icmp .lt 10, 3) := by decide +kernel
theorem d35_16 : decode jdk_41_method_11_code 16 = .ok (.iload_n 0, 1) := by decide +kernel
theorem d35_17 : decode jdk_41_method_11_code 17 = .ok (.ireturn, 1) := by decide +kernel
def Q_rm35 (Z : State) (p0 p1 : Int32) (sf : Value) (h0 : Heap) (n0 : Nat) (v : Option Value) (h : Heap) (L : List Loc) : Prop := v = some (.int p0) ∧ Fr n0 L ∧ h = h0
theorem pn_rm35 : plainName "jdk/internal/util/Preconditions" = true := by first | (simp [plainName, overriddenIn]; done) | decide +kernel
theorem ef_rm35 (m : MethodId) (x0 : Int32) (x1 : Int32) (x2 : Value) (c2 : x2.category = 1) : entryFrame m #[(.int x0), (.int x1), x2] 3 = mkF m 0 #[.val (.int x0), .val (.int x1), .val x2] [] := by simp [entryFrame, mkF, argsToLocals, c2, show (Value.int x0).category = 1 from rfl, show (Value.int x1).category = 1 from rfl]
set_option maxRecDepth 65536 in
set_option maxHeartbeats 40000000 in
theorem rm35 (l : Launch) (Z : State) (a0 : Array Value) (hw : ∀ d ∈ tables_1, d.before a0 Z = true) (ws : List Jvm.Cond) (p0 p1 : Int32) (sf : Value) (h0 : Heap) (n0 : Nat) (Z0 : n0 ≤ h0.size) (r_sf : sf.isRef = true) (c_sf : sf.category = 1) (hi : ¬ p0 < 0 ∧ p0 < p1) :
    MetFree l (⟨"jdk/internal/util/Preconditions", "checkIndex", "(IILjava/util/function/BiFunction;)I"⟩ : MethodName) (head1 (Jvm.Cond.code (⟨"jdk/internal/util/Preconditions", "checkIndex", "(IILjava/util/function/BiFunction;)I"⟩ : MethodName) jdk_41_method_11_code 3 (some .int) :: ws) ({ frames := 0, cells := 0, slots := 0, locals := 0 } : Room)) (fun a U => a = #[(.int p0), (.int p1), sf] ∧ Z.Warmed39 U.vm ∧ U.heap = h0) (fun _ _ _ _ _ => True) (fun _ U o U' => ∃ v L, o = .returned v ∧ (Q_rm35 Z p0 p1 sf h0 n0) v U'.heap L ∧ FrameEnd U o U' L ({ frames := 0, cells := 0, slots := 0, locals := 0 } : Room).cells ({ frames := 0, cells := 0, slots := 0, locals := 0 } : Room).slots) := by
  refine MetFree.of_bodySF (plainFor_of_name pn_rm35) hisR ?_
  intro p e s m args below meth c s₁ Bd hml0 hP hK
  obtain ⟨rfl, hZ, hh⟩ := hP
  have hx := Bd.exec
  have hby := Bd.bytes
  have hlk := BodyLoose.notSynchronized Bd
  have hret := Bd.returns
  have hml : c.maxLocals = 3 := hml0
  have hown : s.vm.findClass "jdk/internal/util/Preconditions" = some m.cls := findClass_of_methodNamed Bd.named
  have hnm := (name_of_methodNamed Bd.named Bd.method).1
  have X0 : Stand p l e ({ frames := 0, cells := 0, slots := 0, locals := 0 } : Room) s m #[(.int p0), (.int p1), sf] below meth c s₁ [] 0 0 := Stand.of_body Bd
  have e0 : s₁.heap = h0 := by rw [← hh, Bd.state]; rfl
  have Nf := Fr.nil n0
  have Zs := Z0
  have Kp : Keep h0 h0 [] := Keep.refl _ _
  show own_End p e below s (Q_rm35 Z p0 p1 sf h0 n0) ({ frames := 0, cells := 0, slots := 0, locals := 0 } : Room).cells ({ frames := 0, cells := 0, slots := 0, locals := 0 } : Room).slots (s₁.setTop (entryFrame m #[(.int p0), (.int p1), sf] 3))
  refine own_go (x' := s₁.setTop (mkF m 0 #[.val (.int p0), .val (.int p1), .val sf] [])) (fun t k => castTop (ef_rm35 m p0 p1 sf c_sf) k) ?_
  refine own_go (x' := s₁.setTop (mkF m 17 #[.val (.int p0), .val (.int p1), .val sf] [(.int p0)])) (fun _ k => XS.iloadN X0.here hx rfl (hb hby d35_0) rfl (XS.ifNo X0.here hx rfl (hb hby d35_1) rfl ((if0 _ _).trans (flt hi.1).1) (XS.iloadN X0.here hx rfl (hb hby d35_4) rfl (XS.iloadN X0.here hx rfl (hb hby d35_5) rfl (XS.icmpYes X0.here hx rfl (pc0 := 6) (pc' := 16) rfl (hb hby d35_6) rfl (tlt hi.2).1 (by decide) (by decide) (XS.iloadN X0.here hx rfl (hb hby d35_16) rfl k)))))) ?_
  refine own_retI X0 hx hlk hret (hb hby d35_17) ?_ (by decide) (by decide)
  rw [e0]
  exact ⟨rfl, Nf, rfl⟩
theorem pd_0 : parseMethodDescriptor "(IILjava/util/function/BiFunction;)I" = some ⟨[.int, .int, (.object "java/util/function/BiFunction")], some .int⟩ := by decide +kernel
theorem d34_0 : decode jdk_42_method_155_code 0 = .ok (.iload_n 0, 1) := by decide +kernel
theorem d34_1 : decode jdk_42_method_155_code 1 = .ok (.iload_n 1, 1) := by decide +kernel
theorem d34_2 : decode jdk_42_method_155_code 2 = .ok (.getstatic 1053, 3) := by decide +kernel
theorem d34_5 : decode jdk_42_method_155_code 5 = .ok (.invokestatic 1059, 3) := by decide +kernel
theorem d34_8 : decode jdk_42_method_155_code 8 = .ok (.pop, 1) := by decide +kernel
theorem d34_9 : decode jdk_42_method_155_code 9 = .ok (.return_, 1) := by decide +kernel
def Q_rm34 (Z : State) (p0 p1 : Int32) (G1 : Int32) (sf : Value) (h0 : Heap) (n0 : Nat) (v : Option Value) (h : Heap) (L : List Loc) : Prop := v = none ∧ Fr n0 L ∧ h = h0
theorem pn_rm34 : plainName "java/lang/String" = true := by first | (simp [plainName, overriddenIn]; done) | decide +kernel
theorem ef_rm34 (m : MethodId) (x0 : Int32) (x1 : Int32) : entryFrame m #[(.int x0), (.int x1)] 2 = mkF m 0 #[.val (.int x0), .val (.int x1)] [] := by first | (simp [entryFrame, mkF, argsToLocals, Value.category]; done) | rfl
set_option maxRecDepth 65536 in
set_option maxHeartbeats 40000000 in
theorem rm34 (l : Launch) (Z : State) (a0 : Array Value) (hw : ∀ d ∈ tables_1, d.before a0 Z = true) (ws : List Jvm.Cond) (p0 p1 : Int32) (G1 : Int32) (sf : Value) (h0 : Heap) (n0 : Nat) (Z0 : n0 ≤ h0.size) (hi : ¬ p0 < 0 ∧ p0 < p1) (Od : Old Z n0 h0) (hst : own_St Z G1 sf) :
    MetFree l (⟨"java/lang/String", "checkIndex", "(II)V"⟩ : MethodName) (head1 (Jvm.Cond.code (⟨"java/lang/String", "checkIndex", "(II)V"⟩ : MethodName) jdk_42_method_155_code 2 none :: ws) ({ frames := 1, cells := 0, slots := 0, locals := 14 } : Room)) (fun a U => a = #[(.int p0), (.int p1)] ∧ Z.Warmed39 U.vm ∧ U.heap = h0) (fun _ _ _ _ _ => True) (fun _ U o U' => ∃ v L, o = .returned v ∧ (Q_rm34 Z p0 p1 G1 sf h0 n0) v U'.heap L ∧ FrameEnd U o U' L ({ frames := 1, cells := 0, slots := 0, locals := 14 } : Room).cells ({ frames := 1, cells := 0, slots := 0, locals := 14 } : Room).slots) := by
  refine MetFree.of_bodySF (plainFor_of_name pn_rm34) hisR ?_
  intro p e s m args below meth c s₁ Bd hml0 hP hK
  obtain ⟨rfl, hZ, hh⟩ := hP
  have hx := Bd.exec
  have hby := Bd.bytes
  have hlk := BodyLoose.notSynchronized Bd
  have hret := Bd.returns
  have hml : c.maxLocals = 2 := hml0
  have hown : s.vm.findClass "java/lang/String" = some m.cls := findClass_of_methodNamed Bd.named
  have hnm := (name_of_methodNamed Bd.named Bd.method).1
  have X0 : Stand p l e ({ frames := 1, cells := 0, slots := 0, locals := 14 } : Room) s m #[(.int p0), (.int p1)] below meth c s₁ [] 0 0 := Stand.of_body Bd
  have e0 : s₁.heap = h0 := by rw [← hh, Bd.state]; rfl
  have Nf := Fr.nil n0
  have Zs := Z0
  have Kp : Keep h0 h0 [] := Keep.refl _ _
  obtain ⟨S_COMPACT_STRINGS, hG, S__assertionsDisabled, S_HI_BYTE_SHIFT, S_LO_BYTE_SHIFT, S_SIOOBE_FORMATTER, r_sf, c_sf⟩ := id hst
  show own_End p e below s (Q_rm34 Z p0 p1 G1 sf h0 n0) ({ frames := 1, cells := 0, slots := 0, locals := 14 } : Room).cells ({ frames := 1, cells := 0, slots := 0, locals := 14 } : Room).slots (s₁.setTop (entryFrame m #[(.int p0), (.int p1)] 2))
  refine own_go (x' := s₁.setTop (mkF m 0 #[.val (.int p0), .val (.int p1)] [])) (fun t k => castTop (ef_rm34 m p0 p1) k) ?_
  refine own_go (x' := s₁.setTop (mkF m 2 #[.val (.int p0), .val (.int p1)] [(.int p1), (.int p0)])) (fun _ k => XS.iloadN X0.here hx rfl (hb hby d34_0) rfl (XS.iloadN X0.here hx rfl (hb hby d34_1) rfl k)) ?_
  obtain ⟨T1, X1, e1, st1⟩ := getS2 X0 hx hZ hown (host := "") (Or.inl (own_w hw 125 rfl)) Via.refl e0 (Sta.ext Od.2 S_SIOOBE_FORMATTER) (g := (mkF m 2 #[.val (.int p0), .val (.int p1)] [(.int p1), (.int p0)])) rfl (hb hby d34_2)
  refine own_go (x' := T1.setTop (mkF m 5 #[.val (.int p0), .val (.int p1)] [sf, (.int p1), (.int p0)])) st1 ?_
  obtain ⟨_, _, ⟨T2, L2, k2, n2⟩, -, X2, ⟨Lc2, hQ2, l2, y2, z2⟩, st2⟩ := Jvm.LawKit.callS X1 hx (y := (⟨"jdk/internal/util/Preconditions", "checkIndex", "(IILjava/util/function/BiFunction;)I"⟩ : MethodName)) hown (mvT hZ (own_w hw 144 rfl)) (mvT hZ (own_w hw 145 rfl)) (mvT hZ (own_w hw 126 rfl)) (mvT hZ (own_w hw 146 rfl)) (by decide) (backOf (W := 0) (rm35 l Z a0 hw [] p0 p1 sf h0 n0 Zs r_sf c_sf hi) hZ (own_w hw 146 rfl) (own_w hw 126 rfl) (by decide) (by decide)) (g := (mkF m 5 #[.val (.int p0), .val (.int p1)] [sf, (.int p1), (.int p0)])) rfl (by rw [hml]; rfl) (argsL := [(.int p0), (.int p1), sf]) (rest := []) (lenOf pd_0 rfl) rfl (by show 2 * 0 + _ ≤ _; exact Nat.le_of_eq rfl) (hb hby d34_5) (fun _ _ => ⟨rfl, e1, (by decide : 0 + 0 ≤ _), (by decide : 0 + 0 ≤ _)⟩)
  dsimp only [Pt.U, Pt.locs, Pt.cells, Pt.slots] at X2 l2 y2 z2 st2 hQ2
  subst l2 y2 z2
  obtain ⟨hv2, Nq2, eq2⟩ := hQ2
  subst hv2
  replace Nf := Fr.app Nf Nq2
  refine own_go (x' := T2.setTop (mkF m 8 #[.val (.int p0), .val (.int p1)] [(.int p0)])) st2 ?_
  refine own_go (x' := T2.setTop (mkF m 9 #[.val (.int p0), .val (.int p1)] [])) (fun _ k => XS.pop X2.here hx rfl (hb hby d34_8) rfl rfl k) ?_
  refine own_retV X2 hx hlk hret (hb hby d34_9) ?_ (by decide) (by decide)
  rw [eq2]
  exact ⟨rfl, Nf, rfl⟩
theorem pd_1 : parseMethodDescriptor "(II)V" = some ⟨[.int, .int], none⟩ := by decide +kernel
theorem d33_0 : decode jdk_43_method_2_code 0 = .ok (.iload_n 1, 1) := by decide +kernel
theorem d33_1 : decode jdk_43_method_2_code 1 = .ok (.aload_n 0, 1) := by decide +kernel
theorem d33_2 : decode jdk_43_method_2_code 2 = .ok (.arraylength, 1) := by decide +kernel
theorem d33_3 : decode jdk_43_method_2_code 3 = .ok (.invokestatic 9, 3) := by decide +kernel
theorem d33_6 : decode jdk_43_method_2_code 6 = .ok (.aload_n 0, 1) := by decide +kernel
theorem d33_7 : decode jdk_43_method_2_code 7 = .ok (.iload_n 1, 1) := by decide +kernel
theorem d33_8 : decode jdk_43_method_2_code 8 = .ok (.baload, 1) := by decide +kernel
theorem d33_9 : decode jdk_43_method_2_code 9 = .ok (.sipush 255, 3) := by decide +kernel
theorem d33_12 : decode jdk_43_method_2_code 12 = .ok (.iand, 1) := by decide +kernel
theorem d33_13 : decode jdk_43_method_2_code 13 = .ok (.i2c, 1) := by decide +kernel
theorem d33_14 : decode jdk_43_method_2_code 14 = .ok (.ireturn, 1) := by decide +kernel
def Q_rm33 (Z : State) (ao0 : Addr) (kd : ClassId) (mm : Int32) (vs : List Value) (p1 yb xc : Int32) (G1 : Int32) (sf : Value) (h0 : Heap) (n0 : Nat) (v : Option Value) (h : Heap) (L : List Loc) : Prop := v = some (.int xc) ∧ Fr n0 L ∧ h = h0
theorem pn_rm33 : plainName "java/lang/StringLatin1" = true := by first | (simp [plainName, overriddenIn]; done) | decide +kernel
theorem ef_rm33 (m : MethodId) (x0 : Addr) (x1 : Int32) : entryFrame m #[(.ref x0), (.int x1)] 2 = mkF m 0 #[.val (.ref x0), .val (.int x1)] [] := by first | (simp [entryFrame, mkF, argsToLocals, Value.category]; done) | rfl
set_option maxRecDepth 65536 in
set_option maxHeartbeats 40000000 in
theorem rm33 (l : Launch) (Z : State) (a0 : Array Value) (hw : ∀ d ∈ tables_1, d.before a0 Z = true) (ws : List Jvm.Cond) (ao0 : Addr) (kd : ClassId) (mm : Int32) (vs : List Value) (p1 yb xc : Int32) (G1 : Int32) (sf : Value) (h0 : Heap) (n0 : Nat) (Z0 : n0 ≤ h0.size) (V_ao0 : Arv Z h0 ao0 kd .byte mm vs (.int (0 : Int32))) (hi : ¬ p1 < 0 ∧ p1 < mm) (hv : vs.getD p1.toNatClampNeg (.int (0 : Int32)) = .int yb) (hr : nar .char ((yb &&& (255 : Int32)).toUInt32.toUInt16.toUInt32.toInt32) = xc) (Od : Old Z n0 h0) (hst : own_St Z G1 sf) :
    MetFree l (⟨"java/lang/StringLatin1", "charAt", "([BI)C"⟩ : MethodName) (head1 (Jvm.Cond.code (⟨"java/lang/StringLatin1", "charAt", "([BI)C"⟩ : MethodName) jdk_43_method_2_code 2 (some .char) :: ws) ({ frames := 2, cells := 0, slots := 0, locals := 27 } : Room)) (fun a U => a = #[(.ref ao0), (.int p1)] ∧ Z.Warmed39 U.vm ∧ U.heap = h0) (fun _ _ _ _ _ => True) (fun _ U o U' => ∃ v L, o = .returned v ∧ (Q_rm33 Z ao0 kd mm vs p1 yb xc G1 sf h0 n0) v U'.heap L ∧ FrameEnd U o U' L ({ frames := 2, cells := 0, slots := 0, locals := 27 } : Room).cells ({ frames := 2, cells := 0, slots := 0, locals := 27 } : Room).slots) := by
  refine MetFree.of_bodySF (plainFor_of_name pn_rm33) hisR ?_
  intro p e s m args below meth c s₁ Bd hml0 hP hK
  obtain ⟨rfl, hZ, hh⟩ := hP
  have hx := Bd.exec
  have hby := Bd.bytes
  have hlk := BodyLoose.notSynchronized Bd
  have hret := Bd.returns
  have hml : c.maxLocals = 2 := hml0
  have hown : s.vm.findClass "java/lang/StringLatin1" = some m.cls := findClass_of_methodNamed Bd.named
  have hnm := (name_of_methodNamed Bd.named Bd.method).1
  have X0 : Stand p l e ({ frames := 2, cells := 0, slots := 0, locals := 27 } : Room) s m #[(.ref ao0), (.int p1)] below meth c s₁ [] 0 0 := Stand.of_body Bd
  have e0 : s₁.heap = h0 := by rw [← hh, Bd.state]; rfl
  have Nf := Fr.nil n0
  have Zs := Z0
  have Kp : Keep h0 h0 [] := Keep.refl _ _
  obtain ⟨S_COMPACT_STRINGS, hG, S__assertionsDisabled, S_HI_BYTE_SHIFT, S_LO_BYTE_SHIFT, S_SIOOBE_FORMATTER, r_sf, c_sf⟩ := id hst
  show own_End p e below s (Q_rm33 Z ao0 kd mm vs p1 yb xc G1 sf h0 n0) ({ frames := 2, cells := 0, slots := 0, locals := 27 } : Room).cells ({ frames := 2, cells := 0, slots := 0, locals := 27 } : Room).slots (s₁.setTop (entryFrame m #[(.ref ao0), (.int p1)] 2))
  refine own_go (x' := s₁.setTop (mkF m 0 #[.val (.ref ao0), .val (.int p1)] [])) (fun t k => castTop (ef_rm33 m ao0 p1) k) ?_
  refine own_go (x' := s₁.setTop (mkF m 2 #[.val (.ref ao0), .val (.int p1)] [(.ref ao0), (.int p1)])) (fun _ k => XS.iloadN X0.here hx rfl (hb hby d33_0) rfl (XS.aloadN X0.here hx rfl (hb hby d33_1) rfl rfl k)) ?_
  obtain ⟨cl1, Ar1, -, Sz1, Nn1, -, -⟩ := id V_ao0
  refine own_go (x' := s₁.setTop (mkF m 3 #[.val (.ref ao0), .val (.int p1)] [(.int mm), (.int p1)])) (fun t k => X0.arraylength hx (Eq.trans (congrArg (fun h_ => h_[_]?) e0) Ar1.1) (State.isArrayOf_alike hZ.alike Ar1.2.1) (g := (mkF m 2 #[.val (.ref ao0), .val (.int p1)] [(.ref ao0), (.int p1)])) rfl rfl (hb hby d33_2) t (by rw [len_of Sz1 Nn1]; exact k)) ?_
  obtain ⟨_, _, ⟨T2, L2, k2, n2⟩, -, X2, ⟨Lc2, hQ2, l2, y2, z2⟩, st2⟩ := Jvm.LawKit.callS X0 hx (y := (⟨"java/lang/String", "checkIndex", "(II)V"⟩ : MethodName)) hown (mvT hZ (own_w hw 141 rfl)) (mvT hZ (own_w hw 142 rfl)) (mvT hZ (own_w hw 8 rfl)) (mvT hZ (own_w hw 143 rfl)) (by decide) (backOf (W := 0) (rm34 l Z a0 hw [] p1 mm G1 sf h0 n0 Zs hi Od hst) hZ (own_w hw 143 rfl) (own_w hw 8 rfl) (by decide) (by decide)) (g := (mkF m 3 #[.val (.ref ao0), .val (.int p1)] [(.int mm), (.int p1)])) rfl (by rw [hml]; rfl) (argsL := [(.int p1), (.int mm)]) (rest := []) (lenOf pd_1 rfl) rfl (by show 2 * 0 + _ ≤ _; exact Nat.le_of_eq rfl) (hb hby d33_3) (fun _ _ => ⟨rfl, e0, (by decide : 0 + 0 ≤ _), (by decide : 0 + 0 ≤ _)⟩)
  dsimp only [Pt.U, Pt.locs, Pt.cells, Pt.slots] at X2 l2 y2 z2 st2 hQ2
  subst l2 y2 z2
  obtain ⟨hv2, Nq2, eq2⟩ := hQ2
  subst hv2
  replace Nf := Fr.app Nf Nq2
  refine own_go (x' := T2.setTop (mkF m 6 #[.val (.ref ao0), .val (.int p1)] [])) st2 ?_
  refine own_go (x' := T2.setTop (mkF m 8 #[.val (.ref ao0), .val (.int p1)] [(.int p1), (.ref ao0)])) (fun _ k => XS.aloadN X2.here hx rfl (hb hby d33_6) rfl rfl (XS.iloadN X2.here hx rfl (hb hby d33_7) rfl k)) ?_
  obtain ⟨cl3, Ar3, q3, Sz3, Nn3, Hh3, Gg3⟩ := id V_ao0
  have hin3 : ¬ (p1 < 0 ∨ cl3.slots.size ≤ (p1).toNatClampNeg) := inb_of Sz3 hi
  refine own_go (x' := T2.setTop (mkF m 9 #[.val (.ref ao0), .val (.int p1)] [(.int yb)])) (X2.baloadBytes hx (j := p1) (v := (.int yb)) (Eq.trans (congrArg (fun h_ => h_[_]?) eq2) Ar3.1) (State.isArrayOf_alike hZ.alike Ar3.2.1) Ar3.2.2 hin3 (Hh3.at hin3 hv) (g := (mkF m 8 #[.val (.ref ao0), .val (.int p1)] [(.int p1), (.ref ao0)])) rfl rfl (hb hby d33_8)) ?_
  refine own_go (x' := T2.setTop (mkF m 14 #[.val (.ref ao0), .val (.int p1)] [(.int ((yb &&& (255 : Int32)).toUInt32.toUInt16.toUInt32.toInt32))])) (fun _ k => XS.sipush X2.here hx rfl (hb hby d33_9) (XS.iand X2.here hx rfl (hb hby d33_12) rfl (XS.i2c X2.here hx rfl (hb hby d33_13) rfl k))) ?_
  refine own_retN X2 hx hlk (t := .char) hret (by simp) (hb hby d33_14) (w := xc) hr ?_ (by decide) (by decide)
  rw [eq2]
  exact ⟨rfl, Nf, rfl⟩
theorem d8_0 : decode jdk_42_method_154_code 0 = .ok (.getstatic 38, 3) := by decide +kernel
theorem d8_3 : decode jdk_42_method_154_code 3 = .ok (.ifCond .eq 14, 3) := by decide +kernel
theorem d8_6 : decode jdk_42_method_154_code 6 = .ok (.aload_n 0, 1) := by decide +kernel
theorem d8_7 : decode jdk_42_method_154_code 7 = .ok (.getfield 15, 3) := by decide +kernel
theorem d8_10 : decode jdk_42_method_154_code 10 = .ok (.ifCond .ne 7, 3) := by decide +kernel
theorem d8_13 : decode jdk_42_method_154_code 13 = .ok (.iconst 1, 1) := by decide +kernel
theorem d8_14 : decode jdk_42_method_154_code 14 = .ok (.goto 4, 3) := by decide +kernel
theorem d8_18 : decode jdk_42_method_154_code 18 = .ok (.ireturn, 1) := by decide +kernel
def Q_rm8_0 (Z : State) (ao0 : Addr) (G1 : Int32) (sf : Value) (h0 : Heap) (n0 : Nat) (v : Option Value) (h : Heap) (L : List Loc) : Prop := v = some (.int (1 : Int32)) ∧ Fr n0 L ∧ h = h0
theorem pn_rm8_0 : plainName "java/lang/String" = true := by first | (simp [plainName, overriddenIn]; done) | decide +kernel
theorem ef_rm8_0 (m : MethodId) (x0 : Addr) : entryFrame m #[(.ref x0)] 1 = mkF m 0 #[.val (.ref x0)] [] := by first | (simp [entryFrame, mkF, argsToLocals, Value.category]; done) | rfl
set_option maxRecDepth 65536 in
set_option maxHeartbeats 40000000 in
theorem rm8_0 (l : Launch) (Z : State) (a0 : Array Value) (hw : ∀ d ∈ tables_1, d.before a0 Z = true) (ws : List Jvm.Cond) (ao0 : Addr) (G1 : Int32) (sf : Value) (h0 : Heap) (n0 : Nat) (Z0 : n0 ≤ h0.size) (F_ao0_coder : Fld Z h0 ao0 "java/lang/String" "coder" "B" (.int (0 : Int32))) (Od : Old Z n0 h0) (hst : own_St Z G1 sf) :
    MetFree l (⟨"java/lang/String", "isLatin1", "()Z"⟩ : MethodName) (head1 (Jvm.Cond.code (⟨"java/lang/String", "isLatin1", "()Z"⟩ : MethodName) jdk_42_method_154_code 1 (some .boolean) :: ws) ({ frames := 0, cells := 0, slots := 0, locals := 0 } : Room)) (fun a U => a = #[(.ref ao0)] ∧ Z.Warmed39 U.vm ∧ U.heap = h0) (fun _ _ _ _ _ => True) (fun _ U o U' => ∃ v L, o = .returned v ∧ (Q_rm8_0 Z ao0 G1 sf h0 n0) v U'.heap L ∧ FrameEnd U o U' L ({ frames := 0, cells := 0, slots := 0, locals := 0 } : Room).cells ({ frames := 0, cells := 0, slots := 0, locals := 0 } : Room).slots) := by
  refine MetFree.of_bodySF (plainFor_of_name pn_rm8_0) hisR ?_
  intro p e s m args below meth c s₁ Bd hml0 hP hK
  obtain ⟨rfl, hZ, hh⟩ := hP
  have hx := Bd.exec
  have hby := Bd.bytes
  have hlk := BodyLoose.notSynchronized Bd
  have hret := Bd.returns
  have hml : c.maxLocals = 1 := hml0
  have hown : s.vm.findClass "java/lang/String" = some m.cls := findClass_of_methodNamed Bd.named
  have hnm := (name_of_methodNamed Bd.named Bd.method).1
  have X0 : Stand p l e ({ frames := 0, cells := 0, slots := 0, locals := 0 } : Room) s m #[(.ref ao0)] below meth c s₁ [] 0 0 := Stand.of_body Bd
  have e0 : s₁.heap = h0 := by rw [← hh, Bd.state]; rfl
  have Nf := Fr.nil n0
  have Zs := Z0
  have Kp : Keep h0 h0 [] := Keep.refl _ _
  obtain ⟨S_COMPACT_STRINGS, hG, S__assertionsDisabled, S_HI_BYTE_SHIFT, S_LO_BYTE_SHIFT, S_SIOOBE_FORMATTER, r_sf, c_sf⟩ := id hst
  show own_End p e below s (Q_rm8_0 Z ao0 G1 sf h0 n0) ({ frames := 0, cells := 0, slots := 0, locals := 0 } : Room).cells ({ frames := 0, cells := 0, slots := 0, locals := 0 } : Room).slots (s₁.setTop (entryFrame m #[(.ref ao0)] 1))
  refine own_go (x' := s₁.setTop (mkF m 0 #[.val (.ref ao0)] [])) (fun t k => castTop (ef_rm8_0 m ao0) k) ?_
  obtain ⟨T1, X1, e1, st1⟩ := getS2 X0 hx hZ hown (host := "") (Or.inl (own_w hw 46 rfl)) Via.refl e0 (Sta.ext Od.2 S_COMPACT_STRINGS) (g := (mkF m 0 #[.val (.ref ao0)] [])) rfl (hb hby d8_0)
  refine own_go (x' := T1.setTop (mkF m 3 #[.val (.ref ao0)] [(.int G1)])) st1 ?_
  refine own_go (x' := T1.setTop (mkF m 7 #[.val (.ref ao0)] [(.ref ao0)])) (fun _ k => XS.ifNo X1.here hx rfl (hb hby d8_3) rfl ((if0 _ _).trans (feq hG).1) (XS.aloadN X1.here hx rfl (hb hby d8_6) rfl rfl k)) ?_
  obtain ⟨T2, X2, e2, st2⟩ := getF X1 hx hZ hown (host := "") (Or.inl (own_w hw 26 rfl)) Via.refl e1 F_ao0_coder (g := (mkF m 7 #[.val (.ref ao0)] [(.ref ao0)])) rfl rfl (hb hby d8_7)
  refine own_go (x' := T2.setTop (mkF m 10 #[.val (.ref ao0)] [(.int 0)])) st2 ?_
  refine own_go (x' := T2.setTop (mkF m 18 #[.val (.ref ao0)] [(.int 1)])) (fun _ k => XS.ifNo X2.here hx rfl (hb hby d8_10) rfl ((if0 _ _).trans (teq rfl).2) (XS.iconst X2.here hx rfl (hb hby d8_13) (XS.goto X2.here hx rfl (pc0 := 14) (pc' := 18) rfl (hb hby d8_14) (by decide) (by decide) k))) ?_
  refine own_retN X2 hx hlk (t := .boolean) hret (by simp) (hb hby d8_18) (w := (1 : Int32)) rfl ?_ (by decide) (by decide)
  rw [e2]
  exact ⟨rfl, Nf, rfl⟩
theorem d10_0 : decode jdk_42_method_152_code 0 = .ok (.getstatic 38, 3) := by decide +kernel
theorem d10_3 : decode jdk_42_method_152_code 3 = .ok (.ifCond .eq 10, 3) := by decide +kernel
theorem d10_6 : decode jdk_42_method_152_code 6 = .ok (.aload_n 0, 1) := by decide +kernel
theorem d10_7 : decode jdk_42_method_152_code 7 = .ok (.getfield 15, 3) := by decide +kernel
theorem d10_10 : decode jdk_42_method_152_code 10 = .ok (.goto 4, 3) := by decide +kernel
theorem d10_14 : decode jdk_42_method_152_code 14 = .ok (.ireturn, 1) := by decide +kernel
def Q_rm10_0 (Z : State) (ao0 : Addr) (G1 : Int32) (sf : Value) (h0 : Heap) (n0 : Nat) (v : Option Value) (h : Heap) (L : List Loc) : Prop := v = some (.int (0 : Int32)) ∧ Fr n0 L ∧ h = h0
theorem pn_rm10_0 : plainName "java/lang/String" = true := by first | (simp [plainName, overriddenIn]; done) | decide +kernel
theorem ef_rm10_0 (m : MethodId) (x0 : Addr) : entryFrame m #[(.ref x0)] 1 = mkF m 0 #[.val (.ref x0)] [] := by first | (simp [entryFrame, mkF, argsToLocals, Value.category]; done) | rfl
set_option maxRecDepth 65536 in
set_option maxHeartbeats 40000000 in
theorem rm10_0 (l : Launch) (Z : State) (a0 : Array Value) (hw : ∀ d ∈ tables_1, d.before a0 Z = true) (ws : List Jvm.Cond) (ao0 : Addr) (G1 : Int32) (sf : Value) (h0 : Heap) (n0 : Nat) (Z0 : n0 ≤ h0.size) (F_ao0_coder : Fld Z h0 ao0 "java/lang/String" "coder" "B" (.int (0 : Int32))) (Od : Old Z n0 h0) (hst : own_St Z G1 sf) :
    MetFree l (⟨"java/lang/String", "coder", "()B"⟩ : MethodName) (head1 (Jvm.Cond.code (⟨"java/lang/String", "coder", "()B"⟩ : MethodName) jdk_42_method_152_code 1 (some .byte) :: ws) ({ frames := 0, cells := 0, slots := 0, locals := 0 } : Room)) (fun a U => a = #[(.ref ao0)] ∧ Z.Warmed39 U.vm ∧ U.heap = h0) (fun _ _ _ _ _ => True) (fun _ U o U' => ∃ v L, o = .returned v ∧ (Q_rm10_0 Z ao0 G1 sf h0 n0) v U'.heap L ∧ FrameEnd U o U' L ({ frames := 0, cells := 0, slots := 0, locals := 0 } : Room).cells ({ frames := 0, cells := 0, slots := 0, locals := 0 } : Room).slots) := by
  refine MetFree.of_bodySF (plainFor_of_name pn_rm10_0) hisR ?_
  intro p e s m args below meth c s₁ Bd hml0 hP hK
  obtain ⟨rfl, hZ, hh⟩ := hP
  have hx := Bd.exec
  have hby := Bd.bytes
  have hlk := BodyLoose.notSynchronized Bd
  have hret := Bd.returns
  have hml : c.maxLocals = 1 := hml0
  have hown : s.vm.findClass "java/lang/String" = some m.cls := findClass_of_methodNamed Bd.named
  have hnm := (name_of_methodNamed Bd.named Bd.method).1
  have X0 : Stand p l e ({ frames := 0, cells := 0, slots := 0, locals := 0 } : Room) s m #[(.ref ao0)] below meth c s₁ [] 0 0 := Stand.of_body Bd
  have e0 : s₁.heap = h0 := by rw [← hh, Bd.state]; rfl
  have Nf := Fr.nil n0
  have Zs := Z0
  have Kp : Keep h0 h0 [] := Keep.refl _ _
  obtain ⟨S_COMPACT_STRINGS, hG, S__assertionsDisabled, S_HI_BYTE_SHIFT, S_LO_BYTE_SHIFT, S_SIOOBE_FORMATTER, r_sf, c_sf⟩ := id hst
  show own_End p e below s (Q_rm10_0 Z ao0 G1 sf h0 n0) ({ frames := 0, cells := 0, slots := 0, locals := 0 } : Room).cells ({ frames := 0, cells := 0, slots := 0, locals := 0 } : Room).slots (s₁.setTop (entryFrame m #[(.ref ao0)] 1))
  refine own_go (x' := s₁.setTop (mkF m 0 #[.val (.ref ao0)] [])) (fun t k => castTop (ef_rm10_0 m ao0) k) ?_
  obtain ⟨T1, X1, e1, st1⟩ := getS2 X0 hx hZ hown (host := "") (Or.inl (own_w hw 46 rfl)) Via.refl e0 (Sta.ext Od.2 S_COMPACT_STRINGS) (g := (mkF m 0 #[.val (.ref ao0)] [])) rfl (hb hby d10_0)
  refine own_go (x' := T1.setTop (mkF m 3 #[.val (.ref ao0)] [(.int G1)])) st1 ?_
  refine own_go (x' := T1.setTop (mkF m 7 #[.val (.ref ao0)] [(.ref ao0)])) (fun _ k => XS.ifNo X1.here hx rfl (hb hby d10_3) rfl ((if0 _ _).trans (feq hG).1) (XS.aloadN X1.here hx rfl (hb hby d10_6) rfl rfl k)) ?_
  obtain ⟨T2, X2, e2, st2⟩ := getF X1 hx hZ hown (host := "") (Or.inl (own_w hw 26 rfl)) Via.refl e1 F_ao0_coder (g := (mkF m 7 #[.val (.ref ao0)] [(.ref ao0)])) rfl rfl (hb hby d10_7)
  refine own_go (x' := T2.setTop (mkF m 10 #[.val (.ref ao0)] [(.int 0)])) st2 ?_
  refine own_go (x' := T2.setTop (mkF m 14 #[.val (.ref ao0)] [(.int 0)])) (fun _ k => XS.goto X2.here hx rfl (pc0 := 10) (pc' := 14) rfl (hb hby d10_10) (by decide) (by decide) k) ?_
  refine own_retN X2 hx hlk (t := .byte) hret (by simp) (hb hby d10_14) (w := (0 : Int32)) rfl ?_ (by decide) (by decide)
  rw [e2]
  exact ⟨rfl, Nf, rfl⟩
theorem d8_17 : decode jdk_42_method_154_code 17 = .ok (.iconst 0, 1) := by decide +kernel
def Q_rm8_1 (Z : State) (ao0 : Addr) (G1 : Int32) (sf : Value) (h0 : Heap) (n0 : Nat) (v : Option Value) (h : Heap) (L : List Loc) : Prop := v = some (.int (0 : Int32)) ∧ Fr n0 L ∧ h = h0
theorem pn_rm8_1 : plainName "java/lang/String" = true := by first | (simp [plainName, overriddenIn]; done) | decide +kernel
theorem ef_rm8_1 (m : MethodId) (x0 : Addr) : entryFrame m #[(.ref x0)] 1 = mkF m 0 #[.val (.ref x0)] [] := by first | (simp [entryFrame, mkF, argsToLocals, Value.category]; done) | rfl
set_option maxRecDepth 65536 in
set_option maxHeartbeats 40000000 in
theorem rm8_1 (l : Launch) (Z : State) (a0 : Array Value) (hw : ∀ d ∈ tables_1, d.before a0 Z = true) (ws : List Jvm.Cond) (ao0 : Addr) (G1 : Int32) (sf : Value) (h0 : Heap) (n0 : Nat) (Z0 : n0 ≤ h0.size) (F_ao0_coder : Fld Z h0 ao0 "java/lang/String" "coder" "B" (.int (1 : Int32))) (Od : Old Z n0 h0) (hst : own_St Z G1 sf) :
    MetFree l (⟨"java/lang/String", "isLatin1", "()Z"⟩ : MethodName) (head1 (Jvm.Cond.code (⟨"java/lang/String", "isLatin1", "()Z"⟩ : MethodName) jdk_42_method_154_code 1 (some .boolean) :: ws) ({ frames := 0, cells := 0, slots := 0, locals := 0 } : Room)) (fun a U => a = #[(.ref ao0)] ∧ Z.Warmed39 U.vm ∧ U.heap = h0) (fun _ _ _ _ _ => True) (fun _ U o U' => ∃ v L, o = .returned v ∧ (Q_rm8_1 Z ao0 G1 sf h0 n0) v U'.heap L ∧ FrameEnd U o U' L ({ frames := 0, cells := 0, slots := 0, locals := 0 } : Room).cells ({ frames := 0, cells := 0, slots := 0, locals := 0 } : Room).slots) := by
  refine MetFree.of_bodySF (plainFor_of_name pn_rm8_1) hisR ?_
  intro p e s m args below meth c s₁ Bd hml0 hP hK
  obtain ⟨rfl, hZ, hh⟩ := hP
  have hx := Bd.exec
  have hby := Bd.bytes
  have hlk := BodyLoose.notSynchronized Bd
  have hret := Bd.returns
  have hml : c.maxLocals = 1 := hml0
  have hown : s.vm.findClass "java/lang/String" = some m.cls := findClass_of_methodNamed Bd.named
  have hnm := (name_of_methodNamed Bd.named Bd.method).1
  have X0 : Stand p l e ({ frames := 0, cells := 0, slots := 0, locals := 0 } : Room) s m #[(.ref ao0)] below meth c s₁ [] 0 0 := Stand.of_body Bd
  have e0 : s₁.heap = h0 := by rw [← hh, Bd.state]; rfl
  have Nf := Fr.nil n0
  have Zs := Z0
  have Kp : Keep h0 h0 [] := Keep.refl _ _
  obtain ⟨S_COMPACT_STRINGS, hG, S__assertionsDisabled, S_HI_BYTE_SHIFT, S_LO_BYTE_SHIFT, S_SIOOBE_FORMATTER, r_sf, c_sf⟩ := id hst
  show own_End p e below s (Q_rm8_1 Z ao0 G1 sf h0 n0) ({ frames := 0, cells := 0, slots := 0, locals := 0 } : Room).cells ({ frames := 0, cells := 0, slots := 0, locals := 0 } : Room).slots (s₁.setTop (entryFrame m #[(.ref ao0)] 1))
  refine own_go (x' := s₁.setTop (mkF m 0 #[.val (.ref ao0)] [])) (fun t k => castTop (ef_rm8_1 m ao0) k) ?_
  obtain ⟨T1, X1, e1, st1⟩ := getS2 X0 hx hZ hown (host := "") (Or.inl (own_w hw 46 rfl)) Via.refl e0 (Sta.ext Od.2 S_COMPACT_STRINGS) (g := (mkF m 0 #[.val (.ref ao0)] [])) rfl (hb hby d8_0)
  refine own_go (x' := T1.setTop (mkF m 3 #[.val (.ref ao0)] [(.int G1)])) st1 ?_
  refine own_go (x' := T1.setTop (mkF m 7 #[.val (.ref ao0)] [(.ref ao0)])) (fun _ k => XS.ifNo X1.here hx rfl (hb hby d8_3) rfl ((if0 _ _).trans (feq hG).1) (XS.aloadN X1.here hx rfl (hb hby d8_6) rfl rfl k)) ?_
  obtain ⟨T2, X2, e2, st2⟩ := getF X1 hx hZ hown (host := "") (Or.inl (own_w hw 26 rfl)) Via.refl e1 F_ao0_coder (g := (mkF m 7 #[.val (.ref ao0)] [(.ref ao0)])) rfl rfl (hb hby d8_7)
  refine own_go (x' := T2.setTop (mkF m 10 #[.val (.ref ao0)] [(.int 1)])) st2 ?_
  refine own_go (x' := T2.setTop (mkF m 18 #[.val (.ref ao0)] [(.int 0)])) (fun _ k => XS.ifYes X2.here hx rfl (pc0 := 10) (pc' := 17) rfl (hb hby d8_10) rfl ((if0 _ _).trans (feq (by decide +kernel : ¬ ((1 : Int32) = (0 : Int32)))).2) (by decide) (by decide) (XS.iconst X2.here hx rfl (hb hby d8_17) k)) ?_
  refine own_retN X2 hx hlk (t := .boolean) hret (by simp) (hb hby d8_18) (w := (0 : Int32)) rfl ?_ (by decide) (by decide)
  rw [e2]
  exact ⟨rfl, Nf, rfl⟩
def Q_rm10_1 (Z : State) (ao0 : Addr) (G1 : Int32) (sf : Value) (h0 : Heap) (n0 : Nat) (v : Option Value) (h : Heap) (L : List Loc) : Prop := v = some (.int (1 : Int32)) ∧ Fr n0 L ∧ h = h0
theorem pn_rm10_1 : plainName "java/lang/String" = true := by first | (simp [plainName, overriddenIn]; done) | decide +kernel
theorem ef_rm10_1 (m : MethodId) (x0 : Addr) : entryFrame m #[(.ref x0)] 1 = mkF m 0 #[.val (.ref x0)] [] := by first | (simp [entryFrame, mkF, argsToLocals, Value.category]; done) | rfl
set_option maxRecDepth 65536 in
set_option maxHeartbeats 40000000 in
theorem rm10_1 (l : Launch) (Z : State) (a0 : Array Value) (hw : ∀ d ∈ tables_1, d.before a0 Z = true) (ws : List Jvm.Cond) (ao0 : Addr) (G1 : Int32) (sf : Value) (h0 : Heap) (n0 : Nat) (Z0 : n0 ≤ h0.size) (F_ao0_coder : Fld Z h0 ao0 "java/lang/String" "coder" "B" (.int (1 : Int32))) (Od : Old Z n0 h0) (hst : own_St Z G1 sf) :
    MetFree l (⟨"java/lang/String", "coder", "()B"⟩ : MethodName) (head1 (Jvm.Cond.code (⟨"java/lang/String", "coder", "()B"⟩ : MethodName) jdk_42_method_152_code 1 (some .byte) :: ws) ({ frames := 0, cells := 0, slots := 0, locals := 0 } : Room)) (fun a U => a = #[(.ref ao0)] ∧ Z.Warmed39 U.vm ∧ U.heap = h0) (fun _ _ _ _ _ => True) (fun _ U o U' => ∃ v L, o = .returned v ∧ (Q_rm10_1 Z ao0 G1 sf h0 n0) v U'.heap L ∧ FrameEnd U o U' L ({ frames := 0, cells := 0, slots := 0, locals := 0 } : Room).cells ({ frames := 0, cells := 0, slots := 0, locals := 0 } : Room).slots) := by
  refine MetFree.of_bodySF (plainFor_of_name pn_rm10_1) hisR ?_
  intro p e s m args below meth c s₁ Bd hml0 hP hK
  obtain ⟨rfl, hZ, hh⟩ := hP
  have hx := Bd.exec
  have hby := Bd.bytes
  have hlk := BodyLoose.notSynchronized Bd
  have hret := Bd.returns
  have hml : c.maxLocals = 1 := hml0
  have hown : s.vm.findClass "java/lang/String" = some m.cls := findClass_of_methodNamed Bd.named
  have hnm := (name_of_methodNamed Bd.named Bd.method).1
  have X0 : Stand p l e ({ frames := 0, cells := 0, slots := 0, locals := 0 } : Room) s m #[(.ref ao0)] below meth c s₁ [] 0 0 := Stand.of_body Bd
  have e0 : s₁.heap = h0 := by rw [← hh, Bd.state]; rfl
  have Nf := Fr.nil n0
  have Zs := Z0
  have Kp : Keep h0 h0 [] := Keep.refl _ _
  obtain ⟨S_COMPACT_STRINGS, hG, S__assertionsDisabled, S_HI_BYTE_SHIFT, S_LO_BYTE_SHIFT, S_SIOOBE_FORMATTER, r_sf, c_sf⟩ := id hst
  show own_End p e below s (Q_rm10_1 Z ao0 G1 sf h0 n0) ({ frames := 0, cells := 0, slots := 0, locals := 0 } : Room).cells ({ frames := 0, cells := 0, slots := 0, locals := 0 } : Room).slots (s₁.setTop (entryFrame m #[(.ref ao0)] 1))
  refine own_go (x' := s₁.setTop (mkF m 0 #[.val (.ref ao0)] [])) (fun t k => castTop (ef_rm10_1 m ao0) k) ?_
  obtain ⟨T1, X1, e1, st1⟩ := getS2 X0 hx hZ hown (host := "") (Or.inl (own_w hw 46 rfl)) Via.refl e0 (Sta.ext Od.2 S_COMPACT_STRINGS) (g := (mkF m 0 #[.val (.ref ao0)] [])) rfl (hb hby d10_0)
  refine own_go (x' := T1.setTop (mkF m 3 #[.val (.ref ao0)] [(.int G1)])) st1 ?_
  refine own_go (x' := T1.setTop (mkF m 7 #[.val (.ref ao0)] [(.ref ao0)])) (fun _ k => XS.ifNo X1.here hx rfl (hb hby d10_3) rfl ((if0 _ _).trans (feq hG).1) (XS.aloadN X1.here hx rfl (hb hby d10_6) rfl rfl k)) ?_
  obtain ⟨T2, X2, e2, st2⟩ := getF X1 hx hZ hown (host := "") (Or.inl (own_w hw 26 rfl)) Via.refl e1 F_ao0_coder (g := (mkF m 7 #[.val (.ref ao0)] [(.ref ao0)])) rfl rfl (hb hby d10_7)
  refine own_go (x' := T2.setTop (mkF m 10 #[.val (.ref ao0)] [(.int 1)])) st2 ?_
  refine own_go (x' := T2.setTop (mkF m 14 #[.val (.ref ao0)] [(.int 1)])) (fun _ k => XS.goto X2.here hx rfl (pc0 := 10) (pc' := 14) rfl (hb hby d10_10) (by decide) (by decide) k) ?_
  refine own_retN X2 hx hlk (t := .byte) hret (by simp) (hb hby d10_14) (w := (1 : Int32)) rfl ?_ (by decide) (by decide)
  rw [e2]
  exact ⟨rfl, Nf, rfl⟩
theorem d28_0 : decode jdk_52_method_6_code 0 = .ok (.aload_n 0, 1) := by decide +kernel
theorem d28_1 : decode jdk_52_method_6_code 1 = .ok (.arraylength, 1) := by decide +kernel
theorem d28_2 : decode jdk_52_method_6_code 2 = .ok (.iconst 1, 1) := by decide +kernel
theorem d28_3 : decode jdk_52_method_6_code 3 = .ok (.ishr, 1) := by decide +kernel
theorem d28_4 : decode jdk_52_method_6_code 4 = .ok (.ireturn, 1) := by decide +kernel
def Q_rm28 (Z : State) (ao0 : Addr) (kd : ClassId) (mm : Int32) (vs : List Value) (nn : Int32) (h0 : Heap) (n0 : Nat) (v : Option Value) (h : Heap) (L : List Loc) : Prop := v = some (.int nn) ∧ Fr n0 L ∧ h = h0
theorem pn_rm28 : plainName "java/lang/StringUTF16" = true := by first | (simp [plainName, overriddenIn]; done) | decide +kernel
theorem ef_rm28 (m : MethodId) (x0 : Addr) : entryFrame m #[(.ref x0)] 1 = mkF m 0 #[.val (.ref x0)] [] := by first | (simp [entryFrame, mkF, argsToLocals, Value.category]; done) | rfl
set_option maxRecDepth 65536 in
set_option maxHeartbeats 40000000 in
theorem rm28 (l : Launch) (Z : State) (a0 : Array Value) (hw : ∀ d ∈ tables_1, d.before a0 Z = true) (ws : List Jvm.Cond) (ao0 : Addr) (kd : ClassId) (mm : Int32) (vs : List Value) (nn : Int32) (h0 : Heap) (n0 : Nat) (Z0 : n0 ≤ h0.size) (V_ao0 : Arv Z h0 ao0 kd .byte mm vs (.int (0 : Int32))) (hq : (mm >>> ((1 : Int32) &&& 31)) = nn) :
    MetFree l (⟨"java/lang/StringUTF16", "length", "([B)I"⟩ : MethodName) (head1 (Jvm.Cond.code (⟨"java/lang/StringUTF16", "length", "([B)I"⟩ : MethodName) jdk_52_method_6_code 1 (some .int) :: ws) ({ frames := 0, cells := 0, slots := 0, locals := 0 } : Room)) (fun a U => a = #[(.ref ao0)] ∧ Z.Warmed39 U.vm ∧ U.heap = h0) (fun _ _ _ _ _ => True) (fun _ U o U' => ∃ v L, o = .returned v ∧ (Q_rm28 Z ao0 kd mm vs nn h0 n0) v U'.heap L ∧ FrameEnd U o U' L ({ frames := 0, cells := 0, slots := 0, locals := 0 } : Room).cells ({ frames := 0, cells := 0, slots := 0, locals := 0 } : Room).slots) := by
  refine MetFree.of_bodySF (plainFor_of_name pn_rm28) hisR ?_
  intro p e s m args below meth c s₁ Bd hml0 hP hK
  obtain ⟨rfl, hZ, hh⟩ := hP
  have hx := Bd.exec
  have hby := Bd.bytes
  have hlk := BodyLoose.notSynchronized Bd
  have hret := Bd.returns
  have hml : c.maxLocals = 1 := hml0
  have hown : s.vm.findClass "java/lang/StringUTF16" = some m.cls := findClass_of_methodNamed Bd.named
  have hnm := (name_of_methodNamed Bd.named Bd.method).1
  have X0 : Stand p l e ({ frames := 0, cells := 0, slots := 0, locals := 0 } : Room) s m #[(.ref ao0)] below meth c s₁ [] 0 0 := Stand.of_body Bd
  have e0 : s₁.heap = h0 := by rw [← hh, Bd.state]; rfl
  have Nf := Fr.nil n0
  have Zs := Z0
  have Kp : Keep h0 h0 [] := Keep.refl _ _
  show own_End p e below s (Q_rm28 Z ao0 kd mm vs nn h0 n0) ({ frames := 0, cells := 0, slots := 0, locals := 0 } : Room).cells ({ frames := 0, cells := 0, slots := 0, locals := 0 } : Room).slots (s₁.setTop (entryFrame m #[(.ref ao0)] 1))
  refine own_go (x' := s₁.setTop (mkF m 0 #[.val (.ref ao0)] [])) (fun t k => castTop (ef_rm28 m ao0) k) ?_
  refine own_go (x' := s₁.setTop (mkF m 1 #[.val (.ref ao0)] [(.ref ao0)])) (fun _ k => XS.aloadN X0.here hx rfl (hb hby d28_0) rfl rfl k) ?_
  obtain ⟨cl1, Ar1, -, Sz1, Nn1, -, -⟩ := id V_ao0
  refine own_go (x' := s₁.setTop (mkF m 2 #[.val (.ref ao0)] [(.int mm)])) (fun t k => X0.arraylength hx (Eq.trans (congrArg (fun h_ => h_[_]?) e0) Ar1.1) (State.isArrayOf_alike hZ.alike Ar1.2.1) (g := (mkF m 1 #[.val (.ref ao0)] [(.ref ao0)])) rfl rfl (hb hby d28_1) t (by rw [len_of Sz1 Nn1]; exact k)) ?_
  refine own_go (x' := s₁.setTop (mkF m 4 #[.val (.ref ao0)] [(.int (mm >>> ((1 : Int32) &&& 31)))])) (fun _ k => XS.iconst X0.here hx rfl (hb hby d28_2) (XS.ishr X0.here hx rfl (hb hby d28_3) rfl k)) ?_
  refine own_retI X0 hx hlk hret (hb hby d28_4) ?_ (by decide) (by decide)
  rw [e0]
  exact ⟨by rw [hq], Nf, rfl⟩
theorem d24_0 : decode jdk_52_method_5_code 0 = .ok (.getstatic 44, 3) := by decide +kernel
theorem d24_3 : decode jdk_52_method_5_code 3 = .ok (.ifCond .ne 25, 3) := by decide +kernel
theorem d24_28 : decode jdk_52_method_5_code 28 = .ok (.iload_n 1, 1) := by decide +kernel
theorem d24_29 : decode jdk_52_method_5_code 29 = .ok (.iconst 1, 1) := by decide +kernel
theorem d24_30 : decode jdk_52_method_5_code 30 = .ok (.ishl, 1) := by decide +kernel
theorem d24_31 : decode jdk_52_method_5_code 31 = .ok (.istore_n 1, 1) := by decide +kernel
theorem d24_32 : decode jdk_52_method_5_code 32 = .ok (.aload_n 0, 1) := by decide +kernel
theorem d24_33 : decode jdk_52_method_5_code 33 = .ok (.iload_n 1, 1) := by decide +kernel
theorem d24_34 : decode jdk_52_method_5_code 34 = .ok (.iinc 1 1, 3) := by decide +kernel
theorem d24_37 : decode jdk_52_method_5_code 37 = .ok (.baload, 1) := by decide +kernel
theorem d24_38 : decode jdk_52_method_5_code 38 = .ok (.sipush 255, 3) := by decide +kernel
theorem d24_41 : decode jdk_52_method_5_code 41 = .ok (.iand, 1) := by decide +kernel
theorem d24_42 : decode jdk_52_method_5_code 42 = .ok (.getstatic 59, 3) := by decide +kernel
theorem d24_45 : decode jdk_52_method_5_code 45 = .ok (.ishl, 1) := by decide +kernel
theorem d24_46 : decode jdk_52_method_5_code 46 = .ok (.aload_n 0, 1) := by decide +kernel
theorem d24_47 : decode jdk_52_method_5_code 47 = .ok (.iload_n 1, 1) := by decide +kernel
theorem d24_48 : decode jdk_52_method_5_code 48 = .ok (.baload, 1) := by decide +kernel
theorem d24_49 : decode jdk_52_method_5_code 49 = .ok (.sipush 255, 3) := by decide +kernel
theorem d24_52 : decode jdk_52_method_5_code 52 = .ok (.iand, 1) := by decide +kernel
theorem d24_53 : decode jdk_52_method_5_code 53 = .ok (.getstatic 63, 3) := by decide +kernel
theorem d24_56 : decode jdk_52_method_5_code 56 = .ok (.ishl, 1) := by decide +kernel
theorem d24_57 : decode jdk_52_method_5_code 57 = .ok (.ior, 1) := by decide +kernel
theorem d24_58 : decode jdk_52_method_5_code 58 = .ok (.i2c, 1) := by decide +kernel
theorem d24_59 : decode jdk_52_method_5_code 59 = .ok (.ireturn, 1) := by decide +kernel
def Q_rm24 (Z : State) (ao0 : Addr) (kd : ClassId) (mm : Int32) (vs : List Value) (p1 yb yc xc : Int32) (G1 : Int32) (sf : Value) (h0 : Heap) (n0 : Nat) (v : Option Value) (h : Heap) (L : List Loc) : Prop := v = some (.int xc) ∧ Fr n0 L ∧ h = h0
theorem pn_rm24 : plainName "java/lang/StringUTF16" = true := by first | (simp [plainName, overriddenIn]; done) | decide +kernel
theorem ef_rm24 (m : MethodId) (x0 : Addr) (x1 : Int32) : entryFrame m #[(.ref x0), (.int x1)] 2 = mkF m 0 #[.val (.ref x0), .val (.int x1)] [] := by first | (simp [entryFrame, mkF, argsToLocals, Value.category]; done) | rfl
set_option maxRecDepth 65536 in
set_option maxHeartbeats 40000000 in
theorem rm24 (l : Launch) (Z : State) (a0 : Array Value) (hw : ∀ d ∈ tables_1, d.before a0 Z = true) (ws : List Jvm.Cond) (ao0 : Addr) (kd : ClassId) (mm : Int32) (vs : List Value) (p1 yb yc xc : Int32) (G1 : Int32) (sf : Value) (h0 : Heap) (n0 : Nat) (Z0 : n0 ≤ h0.size) (V_ao0 : Arv Z h0 ao0 kd .byte mm vs (.int (0 : Int32))) (i0 : ¬ (p1 <<< ((1 : Int32) &&& 31)) < 0 ∧ (p1 <<< ((1 : Int32) &&& 31)) < mm) (i1 : ¬ ((p1 <<< ((1 : Int32) &&& 31)) + (1 : Int32)) < 0 ∧ ((p1 <<< ((1 : Int32) &&& 31)) + (1 : Int32)) < mm) (v0 : vs.getD (p1 <<< ((1 : Int32) &&& 31)).toNatClampNeg (.int (0 : Int32)) = .int yb) (v1 : vs.getD ((p1 <<< ((1 : Int32) &&& 31)) + (1 : Int32)).toNatClampNeg (.int (0 : Int32)) = .int yc) (hr : nar .char ((((yb &&& (255 : Int32)) <<< ((0 : Int32) &&& 31)) ||| ((yc &&& (255 : Int32)) <<< ((8 : Int32) &&& 31))).toUInt32.toUInt16.toUInt32.toInt32) = xc) (Od : Old Z n0 h0) (hst : own_St Z G1 sf) :
    MetFree l (⟨"java/lang/StringUTF16", "getChar", "([BI)C"⟩ : MethodName) (head1 (Jvm.Cond.code (⟨"java/lang/StringUTF16", "getChar", "([BI)C"⟩ : MethodName) jdk_52_method_5_code 2 (some .char) :: ws) ({ frames := 0, cells := 0, slots := 0, locals := 0 } : Room)) (fun a U => a = #[(.ref ao0), (.int p1)] ∧ Z.Warmed39 U.vm ∧ U.heap = h0) (fun _ _ _ _ _ => True) (fun _ U o U' => ∃ v L, o = .returned v ∧ (Q_rm24 Z ao0 kd mm vs p1 yb yc xc G1 sf h0 n0) v U'.heap L ∧ FrameEnd U o U' L ({ frames := 0, cells := 0, slots := 0, locals := 0 } : Room).cells ({ frames := 0, cells := 0, slots := 0, locals := 0 } : Room).slots) := by
  refine MetFree.of_bodySF (plainFor_of_name pn_rm24) hisR ?_
  intro p e s m args below meth c s₁ Bd hml0 hP hK
  obtain ⟨rfl, hZ, hh⟩ := hP
  have hx := Bd.exec
  have hby := Bd.bytes
  have hlk := BodyLoose.notSynchronized Bd
  have hret := Bd.returns
  have hml : c.maxLocals = 2 := hml0
  have hown : s.vm.findClass "java/lang/StringUTF16" = some m.cls := findClass_of_methodNamed Bd.named
  have hnm := (name_of_methodNamed Bd.named Bd.method).1
  have X0 : Stand p l e ({ frames := 0, cells := 0, slots := 0, locals := 0 } : Room) s m #[(.ref ao0), (.int p1)] below meth c s₁ [] 0 0 := Stand.of_body Bd
  have e0 : s₁.heap = h0 := by rw [← hh, Bd.state]; rfl
  have Nf := Fr.nil n0
  have Zs := Z0
  have Kp : Keep h0 h0 [] := Keep.refl _ _
  obtain ⟨S_COMPACT_STRINGS, hG, S__assertionsDisabled, S_HI_BYTE_SHIFT, S_LO_BYTE_SHIFT, S_SIOOBE_FORMATTER, r_sf, c_sf⟩ := id hst
  show own_End p e below s (Q_rm24 Z ao0 kd mm vs p1 yb yc xc G1 sf h0 n0) ({ frames := 0, cells := 0, slots := 0, locals := 0 } : Room).cells ({ frames := 0, cells := 0, slots := 0, locals := 0 } : Room).slots (s₁.setTop (entryFrame m #[(.ref ao0), (.int p1)] 2))
  refine own_go (x' := s₁.setTop (mkF m 0 #[.val (.ref ao0), .val (.int p1)] [])) (fun t k => castTop (ef_rm24 m ao0 p1) k) ?_
  obtain ⟨T1, X1, e1, st1⟩ := getS2 X0 hx hZ hown (host := "") (Or.inl (own_w hw 101 rfl)) Via.refl e0 (Sta.ext Od.2 S__assertionsDisabled) (g := (mkF m 0 #[.val (.ref ao0), .val (.int p1)] [])) rfl (hb hby d24_0)
  refine own_go (x' := T1.setTop (mkF m 3 #[.val (.ref ao0), .val (.int p1)] [(.int 1)])) st1 ?_
  refine own_go (x' := T1.setTop (mkF m 33 #[.val (.ref ao0), .val (.int (p1 <<< ((1 : Int32) &&& 31)))] [(.ref ao0)])) (fun _ k => XS.ifYes X1.here hx rfl (pc0 := 3) (pc' := 28) rfl (hb hby d24_3) rfl ((if0 _ _).trans (feq (by decide +kernel : ¬ ((1 : Int32) = (0 : Int32)))).2) (by decide) (by decide) (XS.iloadN X1.here hx rfl (hb hby d24_28) rfl (XS.iconst X1.here hx rfl (hb hby d24_29) (XS.ishl X1.here hx rfl (hb hby d24_30) rfl (XS.istoreN X1.here hx rfl (hb hby d24_31) rfl (l' := #[.val (.ref ao0), .val (.int (p1 <<< ((1 : Int32) &&& 31)))]) rfl (XS.aloadN X1.here hx rfl (hb hby d24_32) rfl rfl k)))))) ?_
  refine own_go (x' := T1.setTop (mkF m 37 #[.val (.ref ao0), .val (.int ((p1 <<< ((1 : Int32) &&& 31)) + (1 : Int32)))] [(.int (p1 <<< ((1 : Int32) &&& 31))), (.ref ao0)])) (fun _ k => XS.iloadN X1.here hx rfl (hb hby d24_33) rfl (XS.iinc X1.here hx rfl (hb hby d24_34) rfl (l' := #[.val (.ref ao0), .val (.int ((p1 <<< ((1 : Int32) &&& 31)) + (1 : Int32)))]) rfl k)) ?_
  obtain ⟨cl2, Ar2, q2, Sz2, Nn2, Hh2, Gg2⟩ := id V_ao0
  have hin2 : ¬ ((p1 <<< ((1 : Int32) &&& 31)) < 0 ∨ cl2.slots.size ≤ ((p1 <<< ((1 : Int32) &&& 31))).toNatClampNeg) := inb_of Sz2 i0
  refine own_go (x' := T1.setTop (mkF m 38 #[.val (.ref ao0), .val (.int ((p1 <<< ((1 : Int32) &&& 31)) + (1 : Int32)))] [(.int yb)])) (X1.baloadBytes hx (j := (p1 <<< ((1 : Int32) &&& 31))) (v := (.int yb)) (Eq.trans (congrArg (fun h_ => h_[_]?) e1) Ar2.1) (State.isArrayOf_alike hZ.alike Ar2.2.1) Ar2.2.2 hin2 (Hh2.at hin2 v0) (g := (mkF m 37 #[.val (.ref ao0), .val (.int ((p1 <<< ((1 : Int32) &&& 31)) + (1 : Int32)))] [(.int (p1 <<< ((1 : Int32) &&& 31))), (.ref ao0)])) rfl rfl (hb hby d24_37)) ?_
  refine own_go (x' := T1.setTop (mkF m 42 #[.val (.ref ao0), .val (.int ((p1 <<< ((1 : Int32) &&& 31)) + (1 : Int32)))] [(.int (yb &&& (255 : Int32)))])) (fun _ k => XS.sipush X1.here hx rfl (hb hby d24_38) (XS.iand X1.here hx rfl (hb hby d24_41) rfl k)) ?_
  obtain ⟨T3, X3, e3, st3⟩ := getS2 X1 hx hZ hown (host := "") (Or.inl (own_w hw 102 rfl)) Via.refl e1 (Sta.ext Od.2 S_HI_BYTE_SHIFT) (g := (mkF m 42 #[.val (.ref ao0), .val (.int ((p1 <<< ((1 : Int32) &&& 31)) + (1 : Int32)))] [(.int (yb &&& (255 : Int32)))])) rfl (hb hby d24_42)
  refine own_go (x' := T3.setTop (mkF m 45 #[.val (.ref ao0), .val (.int ((p1 <<< ((1 : Int32) &&& 31)) + (1 : Int32)))] [(.int 0), (.int (yb &&& (255 : Int32)))])) st3 ?_
  refine own_go (x' := T3.setTop (mkF m 48 #[.val (.ref ao0), .val (.int ((p1 <<< ((1 : Int32) &&& 31)) + (1 : Int32)))] [(.int ((p1 <<< ((1 : Int32) &&& 31)) + (1 : Int32))), (.ref ao0), (.int ((yb &&& (255 : Int32)) <<< ((0 : Int32) &&& 31)))])) (fun _ k => XS.ishl X3.here hx rfl (hb hby d24_45) rfl (XS.aloadN X3.here hx rfl (hb hby d24_46) rfl rfl (XS.iloadN X3.here hx rfl (hb hby d24_47) rfl k))) ?_
  obtain ⟨cl4, Ar4, q4, Sz4, Nn4, Hh4, Gg4⟩ := id V_ao0
  have hin4 : ¬ (((p1 <<< ((1 : Int32) &&& 31)) + (1 : Int32)) < 0 ∨ cl4.slots.size ≤ (((p1 <<< ((1 : Int32) &&& 31)) + (1 : Int32))).toNatClampNeg) := inb_of Sz4 i1
  refine own_go (x' := T3.setTop (mkF m 49 #[.val (.ref ao0), .val (.int ((p1 <<< ((1 : Int32) &&& 31)) + (1 : Int32)))] [(.int yc), (.int ((yb &&& (255 : Int32)) <<< ((0 : Int32) &&& 31)))])) (X3.baloadBytes hx (j := ((p1 <<< ((1 : Int32) &&& 31)) + (1 : Int32))) (v := (.int yc)) (Eq.trans (congrArg (fun h_ => h_[_]?) e3) Ar4.1) (State.isArrayOf_alike hZ.alike Ar4.2.1) Ar4.2.2 hin4 (Hh4.at hin4 v1) (g := (mkF m 48 #[.val (.ref ao0), .val (.int ((p1 <<< ((1 : Int32) &&& 31)) + (1 : Int32)))] [(.int ((p1 <<< ((1 : Int32) &&& 31)) + (1 : Int32))), (.ref ao0), (.int ((yb &&& (255 : Int32)) <<< ((0 : Int32) &&& 31)))])) rfl rfl (hb hby d24_48)) ?_
  refine own_go (x' := T3.setTop (mkF m 53 #[.val (.ref ao0), .val (.int ((p1 <<< ((1 : Int32) &&& 31)) + (1 : Int32)))] [(.int (yc &&& (255 : Int32))), (.int ((yb &&& (255 : Int32)) <<< ((0 : Int32) &&& 31)))])) (fun _ k => XS.sipush X3.here hx rfl (hb hby d24_49) (XS.iand X3.here hx rfl (hb hby d24_52) rfl k)) ?_
  obtain ⟨T5, X5, e5, st5⟩ := getS2 X3 hx hZ hown (host := "") (Or.inl (own_w hw 103 rfl)) Via.refl e3 (Sta.ext Od.2 S_LO_BYTE_SHIFT) (g := (mkF m 53 #[.val (.ref ao0), .val (.int ((p1 <<< ((1 : Int32) &&& 31)) + (1 : Int32)))] [(.int (yc &&& (255 : Int32))), (.int ((yb &&& (255 : Int32)) <<< ((0 : Int32) &&& 31)))])) rfl (hb hby d24_53)
  refine own_go (x' := T5.setTop (mkF m 56 #[.val (.ref ao0), .val (.int ((p1 <<< ((1 : Int32) &&& 31)) + (1 : Int32)))] [(.int 8), (.int (yc &&& (255 : Int32))), (.int ((yb &&& (255 : Int32)) <<< ((0 : Int32) &&& 31)))])) st5 ?_
  refine own_go (x' := T5.setTop (mkF m 59 #[.val (.ref ao0), .val (.int ((p1 <<< ((1 : Int32) &&& 31)) + (1 : Int32)))] [(.int ((((yb &&& (255 : Int32)) <<< ((0 : Int32) &&& 31)) ||| ((yc &&& (255 : Int32)) <<< ((8 : Int32) &&& 31))).toUInt32.toUInt16.toUInt32.toInt32))])) (fun _ k => XS.ishl X5.here hx rfl (hb hby d24_56) rfl (XS.ior X5.here hx rfl (hb hby d24_57) rfl (XS.i2c X5.here hx rfl (hb hby d24_58) rfl k))) ?_
  refine own_retN X5 hx hlk (t := .char) hret (by simp) (hb hby d24_59) (w := xc) hr ?_ (by decide) (by decide)
  rw [e5]
  exact ⟨rfl, Nf, rfl⟩
theorem pd_2 : parseMethodDescriptor "([B)I" = some ⟨[(.array .byte)], some .int⟩ := by decide +kernel
theorem d40_0 : decode jdk_52_method_91_code 0 = .ok (.iload_n 0, 1) := by decide +kernel
theorem d40_1 : decode jdk_52_method_91_code 1 = .ok (.aload_n 1, 1) := by decide +kernel
theorem d40_2 : decode jdk_52_method_91_code 2 = .ok (.invokestatic 48, 3) := by decide +kernel
theorem d40_5 : decode jdk_52_method_91_code 5 = .ok (.invokestatic 414, 3) := by decide +kernel
theorem d40_8 : decode jdk_52_method_91_code 8 = .ok (.return_, 1) := by decide +kernel
def Q_rm40 (Z : State) (ao0 : Addr) (kd : ClassId) (mm : Int32) (vs : List Value) (nn p1 : Int32) (G1 : Int32) (sf : Value) (h0 : Heap) (n0 : Nat) (v : Option Value) (h : Heap) (L : List Loc) : Prop := v = none ∧ Fr n0 L ∧ h = h0
theorem pn_rm40 : plainName "java/lang/StringUTF16" = true := by first | (simp [plainName, overriddenIn]; done) | decide +kernel
theorem ef_rm40 (m : MethodId) (x0 : Int32) (x1 : Addr) : entryFrame m #[(.int x0), (.ref x1)] 2 = mkF m 0 #[.val (.int x0), .val (.ref x1)] [] := by first | (simp [entryFrame, mkF, argsToLocals, Value.category]; done) | rfl
set_option maxRecDepth 65536 in
set_option maxHeartbeats 40000000 in
theorem rm40 (l : Launch) (Z : State) (a0 : Array Value) (hw : ∀ d ∈ tables_1, d.before a0 Z = true) (ws : List Jvm.Cond) (ao0 : Addr) (kd : ClassId) (mm : Int32) (vs : List Value) (nn p1 : Int32) (G1 : Int32) (sf : Value) (h0 : Heap) (n0 : Nat) (Z0 : n0 ≤ h0.size) (V_ao0 : Arv Z h0 ao0 kd .byte mm vs (.int (0 : Int32))) (hq : (mm >>> ((1 : Int32) &&& 31)) = nn) (hi : ¬ p1 < 0 ∧ p1 < nn) (Od : Old Z n0 h0) (hst : own_St Z G1 sf) :
    MetFree l (⟨"java/lang/StringUTF16", "checkIndex", "(I[B)V"⟩ : MethodName) (head1 (Jvm.Cond.code (⟨"java/lang/StringUTF16", "checkIndex", "(I[B)V"⟩ : MethodName) jdk_52_method_91_code 2 none :: ws) ({ frames := 2, cells := 0, slots := 0, locals := 27 } : Room)) (fun a U => a = #[(.int p1), (.ref ao0)] ∧ Z.Warmed39 U.vm ∧ U.heap = h0) (fun _ _ _ _ _ => True) (fun _ U o U' => ∃ v L, o = .returned v ∧ (Q_rm40 Z ao0 kd mm vs nn p1 G1 sf h0 n0) v U'.heap L ∧ FrameEnd U o U' L ({ frames := 2, cells := 0, slots := 0, locals := 27 } : Room).cells ({ frames := 2, cells := 0, slots := 0, locals := 27 } : Room).slots) := by
  refine MetFree.of_bodySF (plainFor_of_name pn_rm40) hisR ?_
  intro p e s m args below meth c s₁ Bd hml0 hP hK
  obtain ⟨rfl, hZ, hh⟩ := hP
  have hx := Bd.exec
  have hby := Bd.bytes
  have hlk := BodyLoose.notSynchronized Bd
  have hret := Bd.returns
  have hml : c.maxLocals = 2 := hml0
  have hown : s.vm.findClass "java/lang/StringUTF16" = some m.cls := findClass_of_methodNamed Bd.named
  have hnm := (name_of_methodNamed Bd.named Bd.method).1
  have X0 : Stand p l e ({ frames := 2, cells := 0, slots := 0, locals := 27 } : Room) s m #[(.int p1), (.ref ao0)] below meth c s₁ [] 0 0 := Stand.of_body Bd
  have e0 : s₁.heap = h0 := by rw [← hh, Bd.state]; rfl
  have Nf := Fr.nil n0
  have Zs := Z0
  have Kp : Keep h0 h0 [] := Keep.refl _ _
  obtain ⟨S_COMPACT_STRINGS, hG, S__assertionsDisabled, S_HI_BYTE_SHIFT, S_LO_BYTE_SHIFT, S_SIOOBE_FORMATTER, r_sf, c_sf⟩ := id hst
  show own_End p e below s (Q_rm40 Z ao0 kd mm vs nn p1 G1 sf h0 n0) ({ frames := 2, cells := 0, slots := 0, locals := 27 } : Room).cells ({ frames := 2, cells := 0, slots := 0, locals := 27 } : Room).slots (s₁.setTop (entryFrame m #[(.int p1), (.ref ao0)] 2))
  refine own_go (x' := s₁.setTop (mkF m 0 #[.val (.int p1), .val (.ref ao0)] [])) (fun t k => castTop (ef_rm40 m p1 ao0) k) ?_
  refine own_go (x' := s₁.setTop (mkF m 2 #[.val (.int p1), .val (.ref ao0)] [(.ref ao0), (.int p1)])) (fun _ k => XS.iloadN X0.here hx rfl (hb hby d40_0) rfl (XS.aloadN X0.here hx rfl (hb hby d40_1) rfl rfl k)) ?_
  obtain ⟨_, _, ⟨T1, L1, k1, n1⟩, -, X1, ⟨Lc1, hQ1, l1, y1, z1⟩, st1⟩ := Jvm.LawKit.callS X0 hx (y := (⟨"java/lang/StringUTF16", "length", "([B)I"⟩ : MethodName)) hown (mvT hZ (own_w hw 119 rfl)) (mvT hZ (own_w hw 120 rfl)) (mvT hZ (own_w hw 77 rfl)) (mvT hZ (own_w hw 121 rfl)) (by decide) (backOf (W := 1) (rm28 l Z a0 hw [] ao0 kd mm vs nn  h0 n0 Zs V_ao0 hq ) hZ (own_w hw 121 rfl) (own_w hw 77 rfl) (by decide) (by decide)) (g := (mkF m 2 #[.val (.int p1), .val (.ref ao0)] [(.ref ao0), (.int p1)])) rfl (by rw [hml]; rfl) (argsL := [(.ref ao0)]) (rest := [(.int p1)]) (lenOf pd_2 rfl) rfl (by show 2 * 0 + _ ≤ _; exact Nat.le_of_eq rfl) (hb hby d40_2) (fun _ _ => ⟨rfl, e0, (by decide : 0 + 0 ≤ _), (by decide : 0 + 0 ≤ _)⟩)
  dsimp only [Pt.U, Pt.locs, Pt.cells, Pt.slots] at X1 l1 y1 z1 st1 hQ1
  subst l1 y1 z1
  obtain ⟨hv1, Nq1, eq1⟩ := hQ1
  subst hv1
  replace Nf := Fr.app Nf Nq1
  refine own_go (x' := T1.setTop (mkF m 5 #[.val (.int p1), .val (.ref ao0)] [(.int nn), (.int p1)])) st1 ?_
  obtain ⟨_, _, ⟨T2, L2, k2, n2⟩, -, X2, ⟨Lc2, hQ2, l2, y2, z2⟩, st2⟩ := Jvm.LawKit.callS X1 hx (y := (⟨"java/lang/String", "checkIndex", "(II)V"⟩ : MethodName)) hown (mvT hZ (own_w hw 162 rfl)) (mvT hZ (own_w hw 142 rfl)) (mvT hZ (own_w hw 8 rfl)) (mvT hZ (own_w hw 143 rfl)) (by decide) (backOf (W := 0) (rm34 l Z a0 hw [] p1 nn G1 sf h0 n0 Zs hi Od hst) hZ (own_w hw 143 rfl) (own_w hw 8 rfl) (by decide) (by decide)) (g := (mkF m 5 #[.val (.int p1), .val (.ref ao0)] [(.int nn), (.int p1)])) rfl (by rw [hml]; rfl) (argsL := [(.int p1), (.int nn)]) (rest := []) (lenOf pd_1 rfl) rfl (by show 2 * 0 + _ ≤ _; exact Nat.le_of_eq rfl) (hb hby d40_5) (fun _ _ => ⟨rfl, eq1, (by decide : 0 + 0 ≤ _), (by decide : 0 + 0 ≤ _)⟩)
  dsimp only [Pt.U, Pt.locs, Pt.cells, Pt.slots] at X2 l2 y2 z2 st2 hQ2
  subst l2 y2 z2
  obtain ⟨hv2, Nq2, eq2⟩ := hQ2
  subst hv2
  replace Nf := Fr.app Nf Nq2
  refine own_go (x' := T2.setTop (mkF m 8 #[.val (.int p1), .val (.ref ao0)] [])) st2 ?_
  refine own_retV X2 hx hlk hret (hb hby d40_8) ?_ (by decide) (by decide)
  rw [eq2]
  exact ⟨rfl, Nf, rfl⟩
theorem pd_3 : parseMethodDescriptor "(I[B)V" = some ⟨[.int, (.array .byte)], none⟩ := by decide +kernel
theorem pd_4 : parseMethodDescriptor "([BI)C" = some ⟨[(.array .byte), .int], some .char⟩ := by decide +kernel
theorem d39_0 : decode jdk_52_method_83_code 0 = .ok (.iload_n 1, 1) := by decide +kernel
theorem d39_1 : decode jdk_52_method_83_code 1 = .ok (.aload_n 0, 1) := by decide +kernel
theorem d39_2 : decode jdk_52_method_83_code 2 = .ok (.invokestatic 67, 3) := by decide +kernel
theorem d39_5 : decode jdk_52_method_83_code 5 = .ok (.aload_n 0, 1) := by decide +kernel
theorem d39_6 : decode jdk_52_method_83_code 6 = .ok (.iload_n 1, 1) := by decide +kernel
theorem d39_7 : decode jdk_52_method_83_code 7 = .ok (.invokestatic 71, 3) := by decide +kernel
theorem d39_10 : decode jdk_52_method_83_code 10 = .ok (.ireturn, 1) := by decide +kernel
def Q_rm39 (Z : State) (ao0 : Addr) (kd : ClassId) (mm : Int32) (vs : List Value) (nn p1 yb yc xc : Int32) (G1 : Int32) (sf : Value) (h0 : Heap) (n0 : Nat) (v : Option Value) (h : Heap) (L : List Loc) : Prop := v = some (.int xc) ∧ Fr n0 L ∧ h = h0
theorem pn_rm39 : plainName "java/lang/StringUTF16" = true := by first | (simp [plainName, overriddenIn]; done) | decide +kernel
theorem ef_rm39 (m : MethodId) (x0 : Addr) (x1 : Int32) : entryFrame m #[(.ref x0), (.int x1)] 2 = mkF m 0 #[.val (.ref x0), .val (.int x1)] [] := by first | (simp [entryFrame, mkF, argsToLocals, Value.category]; done) | rfl
set_option maxRecDepth 65536 in
set_option maxHeartbeats 40000000 in
theorem rm39 (l : Launch) (Z : State) (a0 : Array Value) (hw : ∀ d ∈ tables_1, d.before a0 Z = true) (ws : List Jvm.Cond) (ao0 : Addr) (kd : ClassId) (mm : Int32) (vs : List Value) (nn p1 yb yc xc : Int32) (G1 : Int32) (sf : Value) (h0 : Heap) (n0 : Nat) (Z0 : n0 ≤ h0.size) (V_ao0 : Arv Z h0 ao0 kd .byte mm vs (.int (0 : Int32))) (hq : (mm >>> ((1 : Int32) &&& 31)) = nn) (hi : ¬ p1 < 0 ∧ p1 < nn) (i0 : ¬ (p1 <<< ((1 : Int32) &&& 31)) < 0 ∧ (p1 <<< ((1 : Int32) &&& 31)) < mm) (i1 : ¬ ((p1 <<< ((1 : Int32) &&& 31)) + (1 : Int32)) < 0 ∧ ((p1 <<< ((1 : Int32) &&& 31)) + (1 : Int32)) < mm) (v0 : vs.getD (p1 <<< ((1 : Int32) &&& 31)).toNatClampNeg (.int (0 : Int32)) = .int yb) (v1 : vs.getD ((p1 <<< ((1 : Int32) &&& 31)) + (1 : Int32)).toNatClampNeg (.int (0 : Int32)) = .int yc) (hr : nar .char ((((yb &&& (255 : Int32)) <<< ((0 : Int32) &&& 31)) ||| ((yc &&& (255 : Int32)) <<< ((8 : Int32) &&& 31))).toUInt32.toUInt16.toUInt32.toInt32) = xc) (hcx : nar .char xc = xc) (Od : Old Z n0 h0) (hst : own_St Z G1 sf) :
    MetFree l (⟨"java/lang/StringUTF16", "charAt", "([BI)C"⟩ : MethodName) (head1 (Jvm.Cond.code (⟨"java/lang/StringUTF16", "charAt", "([BI)C"⟩ : MethodName) jdk_52_method_83_code 2 (some .char) :: ws) ({ frames := 3, cells := 0, slots := 0, locals := 40 } : Room)) (fun a U => a = #[(.ref ao0), (.int p1)] ∧ Z.Warmed39 U.vm ∧ U.heap = h0) (fun _ _ _ _ _ => True) (fun _ U o U' => ∃ v L, o = .returned v ∧ (Q_rm39 Z ao0 kd mm vs nn p1 yb yc xc G1 sf h0 n0) v U'.heap L ∧ FrameEnd U o U' L ({ frames := 3, cells := 0, slots := 0, locals := 40 } : Room).cells ({ frames := 3, cells := 0, slots := 0, locals := 40 } : Room).slots) := by
  refine MetFree.of_bodySF (plainFor_of_name pn_rm39) hisR ?_
  intro p e s m args below meth c s₁ Bd hml0 hP hK
  obtain ⟨rfl, hZ, hh⟩ := hP
  have hx := Bd.exec
  have hby := Bd.bytes
  have hlk := BodyLoose.notSynchronized Bd
  have hret := Bd.returns
  have hml : c.maxLocals = 2 := hml0
  have hown : s.vm.findClass "java/lang/StringUTF16" = some m.cls := findClass_of_methodNamed Bd.named
  have hnm := (name_of_methodNamed Bd.named Bd.method).1
  have X0 : Stand p l e ({ frames := 3, cells := 0, slots := 0, locals := 40 } : Room) s m #[(.ref ao0), (.int p1)] below meth c s₁ [] 0 0 := Stand.of_body Bd
  have e0 : s₁.heap = h0 := by rw [← hh, Bd.state]; rfl
  have Nf := Fr.nil n0
  have Zs := Z0
  have Kp : Keep h0 h0 [] := Keep.refl _ _
  obtain ⟨S_COMPACT_STRINGS, hG, S__assertionsDisabled, S_HI_BYTE_SHIFT, S_LO_BYTE_SHIFT, S_SIOOBE_FORMATTER, r_sf, c_sf⟩ := id hst
  show own_End p e below s (Q_rm39 Z ao0 kd mm vs nn p1 yb yc xc G1 sf h0 n0) ({ frames := 3, cells := 0, slots := 0, locals := 40 } : Room).cells ({ frames := 3, cells := 0, slots := 0, locals := 40 } : Room).slots (s₁.setTop (entryFrame m #[(.ref ao0), (.int p1)] 2))
  refine own_go (x' := s₁.setTop (mkF m 0 #[.val (.ref ao0), .val (.int p1)] [])) (fun t k => castTop (ef_rm39 m ao0 p1) k) ?_
  refine own_go (x' := s₁.setTop (mkF m 2 #[.val (.ref ao0), .val (.int p1)] [(.ref ao0), (.int p1)])) (fun _ k => XS.iloadN X0.here hx rfl (hb hby d39_0) rfl (XS.aloadN X0.here hx rfl (hb hby d39_1) rfl rfl k)) ?_
  obtain ⟨_, _, ⟨T1, L1, k1, n1⟩, -, X1, ⟨Lc1, hQ1, l1, y1, z1⟩, st1⟩ := Jvm.LawKit.callS X0 hx (y := (⟨"java/lang/StringUTF16", "checkIndex", "(I[B)V"⟩ : MethodName)) hown (mvT hZ (own_w hw 159 rfl)) (mvT hZ (own_w hw 160 rfl)) (mvT hZ (own_w hw 77 rfl)) (mvT hZ (own_w hw 161 rfl)) (by decide) (backOf (W := 0) (rm40 l Z a0 hw [] ao0 kd mm vs nn p1 G1 sf h0 n0 Zs V_ao0 hq hi Od hst) hZ (own_w hw 161 rfl) (own_w hw 77 rfl) (by decide) (by decide)) (g := (mkF m 2 #[.val (.ref ao0), .val (.int p1)] [(.ref ao0), (.int p1)])) rfl (by rw [hml]; rfl) (argsL := [(.int p1), (.ref ao0)]) (rest := []) (lenOf pd_3 rfl) rfl (by show 2 * 0 + _ ≤ _; exact Nat.le_of_eq rfl) (hb hby d39_2) (fun _ _ => ⟨rfl, e0, (by decide : 0 + 0 ≤ _), (by decide : 0 + 0 ≤ _)⟩)
  dsimp only [Pt.U, Pt.locs, Pt.cells, Pt.slots] at X1 l1 y1 z1 st1 hQ1
  subst l1 y1 z1
  obtain ⟨hv1, Nq1, eq1⟩ := hQ1
  subst hv1
  replace Nf := Fr.app Nf Nq1
  refine own_go (x' := T1.setTop (mkF m 5 #[.val (.ref ao0), .val (.int p1)] [])) st1 ?_
  refine own_go (x' := T1.setTop (mkF m 7 #[.val (.ref ao0), .val (.int p1)] [(.int p1), (.ref ao0)])) (fun _ k => XS.aloadN X1.here hx rfl (hb hby d39_5) rfl rfl (XS.iloadN X1.here hx rfl (hb hby d39_6) rfl k)) ?_
  obtain ⟨_, _, ⟨T2, L2, k2, n2⟩, -, X2, ⟨Lc2, hQ2, l2, y2, z2⟩, st2⟩ := Jvm.LawKit.callS X1 hx (y := (⟨"java/lang/StringUTF16", "getChar", "([BI)C"⟩ : MethodName)) hown (mvT hZ (own_w hw 104 rfl)) (mvT hZ (own_w hw 105 rfl)) (mvT hZ (own_w hw 77 rfl)) (mvT hZ (own_w hw 106 rfl)) (by decide) (backOf (W := 0) (rm24 l Z a0 hw [] ao0 kd mm vs p1 yb yc xc G1 sf h0 n0 Zs V_ao0 i0 i1 v0 v1 hr Od hst) hZ (own_w hw 106 rfl) (own_w hw 77 rfl) (by decide) (by decide)) (g := (mkF m 7 #[.val (.ref ao0), .val (.int p1)] [(.int p1), (.ref ao0)])) rfl (by rw [hml]; rfl) (argsL := [(.ref ao0), (.int p1)]) (rest := []) (lenOf pd_4 rfl) rfl (by show 2 * 0 + _ ≤ _; exact Nat.le_of_eq rfl) (hb hby d39_7) (fun _ _ => ⟨rfl, eq1, (by decide : 0 + 0 ≤ _), (by decide : 0 + 0 ≤ _)⟩)
  dsimp only [Pt.U, Pt.locs, Pt.cells, Pt.slots] at X2 l2 y2 z2 st2 hQ2
  subst l2 y2 z2
  obtain ⟨hv2, Nq2, eq2⟩ := hQ2
  subst hv2
  replace Nf := Fr.app Nf Nq2
  refine own_go (x' := T2.setTop (mkF m 10 #[.val (.ref ao0), .val (.int p1)] [(.int xc)])) st2 ?_
  refine own_retN X2 hx hlk (t := .char) hret (by simp) (hb hby d39_10) (w := xc) hcx ?_ (by decide) (by decide)
  rw [eq2]
  exact ⟨rfl, Nf, rfl⟩
theorem pd_5 : parseMethodDescriptor "()Z" = some ⟨[], some .boolean⟩ := by decide +kernel
theorem d32_0 : decode jdk_42_method_56_code 0 = .ok (.aload_n 0, 1) := by decide +kernel
theorem d32_1 : decode jdk_42_method_56_code 1 = .ok (.invokevirtual 492, 3) := by decide +kernel
theorem d32_4 : decode jdk_42_method_56_code 4 = .ok (.ifCond .eq 12, 3) := by decide +kernel
theorem d32_7 : decode jdk_42_method_56_code 7 = .ok (.aload_n 0, 1) := by decide +kernel
theorem d32_8 : decode jdk_42_method_56_code 8 = .ok (.getfield 9, 3) := by decide +kernel
theorem d32_11 : decode jdk_42_method_56_code 11 = .ok (.iload_n 1, 1) := by decide +kernel
theorem d32_12 : decode jdk_42_method_56_code 12 = .ok (.invokestatic 495, 3) := by decide +kernel
theorem d32_15 : decode jdk_42_method_56_code 15 = .ok (.ireturn, 1) := by decide +kernel
def Q_rm32L (Z : State) (ao0 dd : Addr) (kd : ClassId) (mm : Int32) (vs : List Value) (p1 yb xc : Int32) (G1 : Int32) (sf : Value) (h0 : Heap) (n0 : Nat) (v : Option Value) (h : Heap) (L : List Loc) : Prop := v = some (.int xc) ∧ Fr n0 L ∧ h = h0
theorem pn_rm32L : plainName "java/lang/String" = true := by first | (simp [plainName, overriddenIn]; done) | decide +kernel
theorem ef_rm32L (m : MethodId) (x0 : Addr) (x1 : Int32) : entryFrame m #[(.ref x0), (.int x1)] 2 = mkF m 0 #[.val (.ref x0), .val (.int x1)] [] := by first | (simp [entryFrame, mkF, argsToLocals, Value.category]; done) | rfl
set_option maxRecDepth 65536 in
set_option maxHeartbeats 40000000 in
theorem rm32L (l : Launch) (Z : State) (a0 : Array Value) (hw : ∀ d ∈ tables_1, d.before a0 Z = true) (ws : List Jvm.Cond) (ao0 dd : Addr) (kd : ClassId) (mm : Int32) (vs : List Value) (p1 yb xc : Int32) (G1 : Int32) (sf : Value) (h0 : Heap) (n0 : Nat) (Z0 : n0 ≤ h0.size) (E_ao0 : Exa Z h0 ao0 "java/lang/String") (F_ao0_coder : Fld Z h0 ao0 "java/lang/String" "coder" "B" (.int (0 : Int32))) (F_ao0_value : Fld Z h0 ao0 "java/lang/String" "value" "[B" (.ref dd)) (V_dd : Arv Z h0 dd kd .byte mm vs (.int (0 : Int32))) (hi : ¬ p1 < 0 ∧ p1 < mm) (hv : vs.getD p1.toNatClampNeg (.int (0 : Int32)) = .int yb) (hr : nar .char ((yb &&& (255 : Int32)).toUInt32.toUInt16.toUInt32.toInt32) = xc) (hcx : nar .char xc = xc) (Od : Old Z n0 h0) (hst : own_St Z G1 sf) :
    MetFree l (⟨"java/lang/String", "charAt", "(I)C"⟩ : MethodName) (head1 (Jvm.Cond.code (⟨"java/lang/String", "charAt", "(I)C"⟩ : MethodName) jdk_42_method_56_code 2 (some .char) :: ws) ({ frames := 4, cells := 0, slots := 0, locals := 53 } : Room)) (fun a U => a = #[(.ref ao0), (.int p1)] ∧ Z.Warmed39 U.vm ∧ U.heap = h0) (fun _ _ _ _ _ => True) (fun _ U o U' => ∃ v L, o = .returned v ∧ (Q_rm32L Z ao0 dd kd mm vs p1 yb xc G1 sf h0 n0) v U'.heap L ∧ FrameEnd U o U' L ({ frames := 4, cells := 0, slots := 0, locals := 53 } : Room).cells ({ frames := 4, cells := 0, slots := 0, locals := 53 } : Room).slots) := by
  refine MetFree.of_bodySF (plainFor_of_name pn_rm32L) hisR ?_
  intro p e s m args below meth c s₁ Bd hml0 hP hK
  obtain ⟨rfl, hZ, hh⟩ := hP
  have hx := Bd.exec
  have hby := Bd.bytes
  have hlk := BodyLoose.notSynchronized Bd
  have hret := Bd.returns
  have hml : c.maxLocals = 2 := hml0
  have hown : s.vm.findClass "java/lang/String" = some m.cls := findClass_of_methodNamed Bd.named
  have hnm := (name_of_methodNamed Bd.named Bd.method).1
  have X0 : Stand p l e ({ frames := 4, cells := 0, slots := 0, locals := 53 } : Room) s m #[(.ref ao0), (.int p1)] below meth c s₁ [] 0 0 := Stand.of_body Bd
  have e0 : s₁.heap = h0 := by rw [← hh, Bd.state]; rfl
  have Nf := Fr.nil n0
  have Zs := Z0
  have Kp : Keep h0 h0 [] := Keep.refl _ _
  obtain ⟨S_COMPACT_STRINGS, hG, S__assertionsDisabled, S_HI_BYTE_SHIFT, S_LO_BYTE_SHIFT, S_SIOOBE_FORMATTER, r_sf, c_sf⟩ := id hst
  show own_End p e below s (Q_rm32L Z ao0 dd kd mm vs p1 yb xc G1 sf h0 n0) ({ frames := 4, cells := 0, slots := 0, locals := 53 } : Room).cells ({ frames := 4, cells := 0, slots := 0, locals := 53 } : Room).slots (s₁.setTop (entryFrame m #[(.ref ao0), (.int p1)] 2))
  refine own_go (x' := s₁.setTop (mkF m 0 #[.val (.ref ao0), .val (.int p1)] [])) (fun t k => castTop (ef_rm32L m ao0 p1) k) ?_
  refine own_go (x' := s₁.setTop (mkF m 1 #[.val (.ref ao0), .val (.int p1)] [(.ref ao0)])) (fun _ k => XS.aloadN X0.here hx rfl (hb hby d32_0) rfl rfl k) ?_
  obtain ⟨cq1, kq1, q1a, q1b, q1c⟩ := isOf hZ e0 E_ao0
  obtain ⟨_, _, ⟨T1, L1, k1, n1⟩, -, X1, ⟨Lc1, hQ1, l1, y1, z1⟩, st1⟩ := X0.virtualBack hx (y := (⟨"java/lang/String", "isLatin1", "()Z"⟩ : MethodName)) (z := (⟨"java/lang/String", "isLatin1", "()Z"⟩ : MethodName)) hown (mvT hZ (own_w hw 41 rfl)) (mvT hZ (own_w hw 42 rfl)) (notFace_of_selects (args := #[]) (mvT hZ (own_w hw 44 rfl))) (mvT hZ (own_w hw 44 rfl)) (mvT hZ (own_w hw 43 rfl)) (by decide) (backOf (W := 0) (rm8_0 l Z a0 hw [] ao0 G1 sf h0 n0 Zs F_ao0_coder Od hst) hZ (own_w hw 45 rfl) (own_w hw 8 rfl) (by decide) (by decide)) q1a q1c (g := (mkF m 1 #[.val (.ref ao0), .val (.int p1)] [(.ref ao0)])) rfl (by rw [hml]; rfl) (Steps.refl _) (argsL := []) (rest := []) (lenOf pd_5 rfl) rfl (by show 2 * 0 + _ ≤ _; exact Nat.le_of_eq rfl) (hb hby d32_1) (fun _ _ => ⟨rfl, e0, (by decide : 0 + 0 ≤ _), (by decide : 0 + 0 ≤ _)⟩)
  dsimp only [Pt.U, Pt.locs, Pt.cells, Pt.slots] at X1 l1 y1 z1 st1 hQ1
  subst l1 y1 z1
  obtain ⟨hv1, Nq1, eq1⟩ := hQ1
  subst hv1
  replace Nf := Fr.app Nf Nq1
  refine own_go (x' := T1.setTop (mkF m 4 #[.val (.ref ao0), .val (.int p1)] [(.int 1)])) (fun _ k => st1.trans k) ?_
  refine own_go (x' := T1.setTop (mkF m 8 #[.val (.ref ao0), .val (.int p1)] [(.ref ao0)])) (fun _ k => XS.ifNo X1.here hx rfl (hb hby d32_4) rfl ((if0 _ _).trans (feq (by decide +kernel : ¬ ((1 : Int32) = (0 : Int32)))).1) (XS.aloadN X1.here hx rfl (hb hby d32_7) rfl rfl k)) ?_
  obtain ⟨T2, X2, e2, st2⟩ := getF X1 hx hZ hown (host := "") (Or.inl (own_w hw 25 rfl)) Via.refl eq1 F_ao0_value (g := (mkF m 8 #[.val (.ref ao0), .val (.int p1)] [(.ref ao0)])) rfl rfl (hb hby d32_8)
  refine own_go (x' := T2.setTop (mkF m 11 #[.val (.ref ao0), .val (.int p1)] [(.ref dd)])) st2 ?_
  refine own_go (x' := T2.setTop (mkF m 12 #[.val (.ref ao0), .val (.int p1)] [(.int p1), (.ref dd)])) (fun _ k => XS.iloadN X2.here hx rfl (hb hby d32_11) rfl k) ?_
  obtain ⟨_, _, ⟨T3, L3, k3, n3⟩, -, X3, ⟨Lc3, hQ3, l3, y3, z3⟩, st3⟩ := Jvm.LawKit.callS X2 hx (y := (⟨"java/lang/StringLatin1", "charAt", "([BI)C"⟩ : MethodName)) hown (mvT hZ (own_w hw 138 rfl)) (mvT hZ (own_w hw 139 rfl)) (mvT hZ (own_w hw 59 rfl)) (mvT hZ (own_w hw 140 rfl)) (by decide) (backOf (W := 0) (rm33 l Z a0 hw [] dd kd mm vs p1 yb xc G1 sf h0 n0 Zs V_dd hi hv hr Od hst) hZ (own_w hw 140 rfl) (own_w hw 59 rfl) (by decide) (by decide)) (g := (mkF m 12 #[.val (.ref ao0), .val (.int p1)] [(.int p1), (.ref dd)])) rfl (by rw [hml]; rfl) (argsL := [(.ref dd), (.int p1)]) (rest := []) (lenOf pd_4 rfl) rfl (by show 2 * 0 + _ ≤ _; exact Nat.le_of_eq rfl) (hb hby d32_12) (fun _ _ => ⟨rfl, e2, (by decide : 0 + 0 ≤ _), (by decide : 0 + 0 ≤ _)⟩)
  dsimp only [Pt.U, Pt.locs, Pt.cells, Pt.slots] at X3 l3 y3 z3 st3 hQ3
  subst l3 y3 z3
  obtain ⟨hv3, Nq3, eq3⟩ := hQ3
  subst hv3
  replace Nf := Fr.app Nf Nq3
  refine own_go (x' := T3.setTop (mkF m 15 #[.val (.ref ao0), .val (.int p1)] [(.int xc)])) st3 ?_
  refine own_retN X3 hx hlk (t := .char) hret (by simp) (hb hby d32_15) (w := xc) hcx ?_ (by decide) (by decide)
  rw [eq3]
  exact ⟨rfl, Nf, rfl⟩
theorem d32_16 : decode jdk_42_method_56_code 16 = .ok (.aload_n 0, 1) := by decide +kernel
theorem d32_17 : decode jdk_42_method_56_code 17 = .ok (.getfield 9, 3) := by decide +kernel
theorem d32_20 : decode jdk_42_method_56_code 20 = .ok (.iload_n 1, 1) := by decide +kernel
theorem d32_21 : decode jdk_42_method_56_code 21 = .ok (.invokestatic 498, 3) := by decide +kernel
theorem d32_24 : decode jdk_42_method_56_code 24 = .ok (.ireturn, 1) := by decide +kernel
def Q_rm32U (Z : State) (ao0 dd : Addr) (kd : ClassId) (mm : Int32) (vs : List Value) (nn p1 yb yc xc : Int32) (G1 : Int32) (sf : Value) (h0 : Heap) (n0 : Nat) (v : Option Value) (h : Heap) (L : List Loc) : Prop := v = some (.int xc) ∧ Fr n0 L ∧ h = h0
theorem pn_rm32U : plainName "java/lang/String" = true := by first | (simp [plainName, overriddenIn]; done) | decide +kernel
theorem ef_rm32U (m : MethodId) (x0 : Addr) (x1 : Int32) : entryFrame m #[(.ref x0), (.int x1)] 2 = mkF m 0 #[.val (.ref x0), .val (.int x1)] [] := by first | (simp [entryFrame, mkF, argsToLocals, Value.category]; done) | rfl
set_option maxRecDepth 65536 in
set_option maxHeartbeats 40000000 in
theorem rm32U (l : Launch) (Z : State) (a0 : Array Value) (hw : ∀ d ∈ tables_1, d.before a0 Z = true) (ws : List Jvm.Cond) (ao0 dd : Addr) (kd : ClassId) (mm : Int32) (vs : List Value) (nn p1 yb yc xc : Int32) (G1 : Int32) (sf : Value) (h0 : Heap) (n0 : Nat) (Z0 : n0 ≤ h0.size) (E_ao0 : Exa Z h0 ao0 "java/lang/String") (F_ao0_coder : Fld Z h0 ao0 "java/lang/String" "coder" "B" (.int (1 : Int32))) (F_ao0_value : Fld Z h0 ao0 "java/lang/String" "value" "[B" (.ref dd)) (V_dd : Arv Z h0 dd kd .byte mm vs (.int (0 : Int32))) (hq : (mm >>> ((1 : Int32) &&& 31)) = nn) (hi : ¬ p1 < 0 ∧ p1 < nn) (i0 : ¬ (p1 <<< ((1 : Int32) &&& 31)) < 0 ∧ (p1 <<< ((1 : Int32) &&& 31)) < mm) (i1 : ¬ ((p1 <<< ((1 : Int32) &&& 31)) + (1 : Int32)) < 0 ∧ ((p1 <<< ((1 : Int32) &&& 31)) + (1 : Int32)) < mm) (v0 : vs.getD (p1 <<< ((1 : Int32) &&& 31)).toNatClampNeg (.int (0 : Int32)) = .int yb) (v1 : vs.getD ((p1 <<< ((1 : Int32) &&& 31)) + (1 : Int32)).toNatClampNeg (.int (0 : Int32)) = .int yc) (hr : nar .char ((((yb &&& (255 : Int32)) <<< ((0 : Int32) &&& 31)) ||| ((yc &&& (255 : Int32)) <<< ((8 : Int32) &&& 31))).toUInt32.toUInt16.toUInt32.toInt32) = xc) (hcx : nar .char xc = xc) (Od : Old Z n0 h0) (hst : own_St Z G1 sf) :
    MetFree l (⟨"java/lang/String", "charAt", "(I)C"⟩ : MethodName) (head1 (Jvm.Cond.code (⟨"java/lang/String", "charAt", "(I)C"⟩ : MethodName) jdk_42_method_56_code 2 (some .char) :: ws) ({ frames := 4, cells := 0, slots := 0, locals := 53 } : Room)) (fun a U => a = #[(.ref ao0), (.int p1)] ∧ Z.Warmed39 U.vm ∧ U.heap = h0) (fun _ _ _ _ _ => True) (fun _ U o U' => ∃ v L, o = .returned v ∧ (Q_rm32U Z ao0 dd kd mm vs nn p1 yb yc xc G1 sf h0 n0) v U'.heap L ∧ FrameEnd U o U' L ({ frames := 4, cells := 0, slots := 0, locals := 53 } : Room).cells ({ frames := 4, cells := 0, slots := 0, locals := 53 } : Room).slots) := by
  refine MetFree.of_bodySF (plainFor_of_name pn_rm32U) hisR ?_
  intro p e s m args below meth c s₁ Bd hml0 hP hK
  obtain ⟨rfl, hZ, hh⟩ := hP
  have hx := Bd.exec
  have hby := Bd.bytes
  have hlk := BodyLoose.notSynchronized Bd
  have hret := Bd.returns
  have hml : c.maxLocals = 2 := hml0
  have hown : s.vm.findClass "java/lang/String" = some m.cls := findClass_of_methodNamed Bd.named
  have hnm := (name_of_methodNamed Bd.named Bd.method).1
  have X0 : Stand p l e ({ frames := 4, cells := 0, slots := 0, locals := 53 } : Room) s m #[(.ref ao0), (.int p1)] below meth c s₁ [] 0 0 := Stand.of_body Bd
  have e0 : s₁.heap = h0 := by rw [← hh, Bd.state]; rfl
  have Nf := Fr.nil n0
  have Zs := Z0
  have Kp : Keep h0 h0 [] := Keep.refl _ _
  obtain ⟨S_COMPACT_STRINGS, hG, S__assertionsDisabled, S_HI_BYTE_SHIFT, S_LO_BYTE_SHIFT, S_SIOOBE_FORMATTER, r_sf, c_sf⟩ := id hst
  show own_End p e below s (Q_rm32U Z ao0 dd kd mm vs nn p1 yb yc xc G1 sf h0 n0) ({ frames := 4, cells := 0, slots := 0, locals := 53 } : Room).cells ({ frames := 4, cells := 0, slots := 0, locals := 53 } : Room).slots (s₁.setTop (entryFrame m #[(.ref ao0), (.int p1)] 2))
  refine own_go (x' := s₁.setTop (mkF m 0 #[.val (.ref ao0), .val (.int p1)] [])) (fun t k => castTop (ef_rm32U m ao0 p1) k) ?_
  refine own_go (x' := s₁.setTop (mkF m 1 #[.val (.ref ao0), .val (.int p1)] [(.ref ao0)])) (fun _ k => XS.aloadN X0.here hx rfl (hb hby d32_0) rfl rfl k) ?_
  obtain ⟨cq1, kq1, q1a, q1b, q1c⟩ := isOf hZ e0 E_ao0
  obtain ⟨_, _, ⟨T1, L1, k1, n1⟩, -, X1, ⟨Lc1, hQ1, l1, y1, z1⟩, st1⟩ := X0.virtualBack hx (y := (⟨"java/lang/String", "isLatin1", "()Z"⟩ : MethodName)) (z := (⟨"java/lang/String", "isLatin1", "()Z"⟩ : MethodName)) hown (mvT hZ (own_w hw 41 rfl)) (mvT hZ (own_w hw 42 rfl)) (notFace_of_selects (args := #[]) (mvT hZ (own_w hw 44 rfl))) (mvT hZ (own_w hw 44 rfl)) (mvT hZ (own_w hw 43 rfl)) (by decide) (backOf (W := 0) (rm8_1 l Z a0 hw [] ao0 G1 sf h0 n0 Zs F_ao0_coder Od hst) hZ (own_w hw 45 rfl) (own_w hw 8 rfl) (by decide) (by decide)) q1a q1c (g := (mkF m 1 #[.val (.ref ao0), .val (.int p1)] [(.ref ao0)])) rfl (by rw [hml]; rfl) (Steps.refl _) (argsL := []) (rest := []) (lenOf pd_5 rfl) rfl (by show 2 * 0 + _ ≤ _; exact Nat.le_of_eq rfl) (hb hby d32_1) (fun _ _ => ⟨rfl, e0, (by decide : 0 + 0 ≤ _), (by decide : 0 + 0 ≤ _)⟩)
  dsimp only [Pt.U, Pt.locs, Pt.cells, Pt.slots] at X1 l1 y1 z1 st1 hQ1
  subst l1 y1 z1
  obtain ⟨hv1, Nq1, eq1⟩ := hQ1
  subst hv1
  replace Nf := Fr.app Nf Nq1
  refine own_go (x' := T1.setTop (mkF m 4 #[.val (.ref ao0), .val (.int p1)] [(.int 0)])) (fun _ k => st1.trans k) ?_
  refine own_go (x' := T1.setTop (mkF m 17 #[.val (.ref ao0), .val (.int p1)] [(.ref ao0)])) (fun _ k => XS.ifYes X1.here hx rfl (pc0 := 4) (pc' := 16) rfl (hb hby d32_4) rfl ((if0 _ _).trans (teq rfl).1) (by decide) (by decide) (XS.aloadN X1.here hx rfl (hb hby d32_16) rfl rfl k)) ?_
  obtain ⟨T2, X2, e2, st2⟩ := getF X1 hx hZ hown (host := "") (Or.inl (own_w hw 25 rfl)) Via.refl eq1 F_ao0_value (g := (mkF m 17 #[.val (.ref ao0), .val (.int p1)] [(.ref ao0)])) rfl rfl (hb hby d32_17)
  refine own_go (x' := T2.setTop (mkF m 20 #[.val (.ref ao0), .val (.int p1)] [(.ref dd)])) st2 ?_
  refine own_go (x' := T2.setTop (mkF m 21 #[.val (.ref ao0), .val (.int p1)] [(.int p1), (.ref dd)])) (fun _ k => XS.iloadN X2.here hx rfl (hb hby d32_20) rfl k) ?_
  obtain ⟨_, _, ⟨T3, L3, k3, n3⟩, -, X3, ⟨Lc3, hQ3, l3, y3, z3⟩, st3⟩ := Jvm.LawKit.callS X2 hx (y := (⟨"java/lang/StringUTF16", "charAt", "([BI)C"⟩ : MethodName)) hown (mvT hZ (own_w hw 156 rfl)) (mvT hZ (own_w hw 157 rfl)) (mvT hZ (own_w hw 77 rfl)) (mvT hZ (own_w hw 158 rfl)) (by decide) (backOf (W := 0) (rm39 l Z a0 hw [] dd kd mm vs nn p1 yb yc xc G1 sf h0 n0 Zs V_dd hq hi i0 i1 v0 v1 hr hcx Od hst) hZ (own_w hw 158 rfl) (own_w hw 77 rfl) (by decide) (by decide)) (g := (mkF m 21 #[.val (.ref ao0), .val (.int p1)] [(.int p1), (.ref dd)])) rfl (by rw [hml]; rfl) (argsL := [(.ref dd), (.int p1)]) (rest := []) (lenOf pd_4 rfl) rfl (by show 2 * 0 + _ ≤ _; exact Nat.le_of_eq rfl) (hb hby d32_21) (fun _ _ => ⟨rfl, e2, (by decide : 0 + 0 ≤ _), (by decide : 0 + 0 ≤ _)⟩)
  dsimp only [Pt.U, Pt.locs, Pt.cells, Pt.slots] at X3 l3 y3 z3 st3 hQ3
  subst l3 y3 z3
  obtain ⟨hv3, Nq3, eq3⟩ := hQ3
  subst hv3
  replace Nf := Fr.app Nf Nq3
  refine own_go (x' := T3.setTop (mkF m 24 #[.val (.ref ao0), .val (.int p1)] [(.int xc)])) st3 ?_
  refine own_retN X3 hx hlk (t := .char) hret (by simp) (hb hby d32_24) (w := xc) hcx ?_ (by decide) (by decide)
  rw [eq3]
  exact ⟨rfl, Nf, rfl⟩
theorem own_on : ∀ k, k ≤ 20 → (Int32.ofNat k).toInt = k := by decide
theorem own_onc : ∀ k, k ≤ 20 → (Int32.ofNat k).toNatClampNeg = k := by decide
theorem own_onn : ∀ k, k ≤ 20 → ¬ Int32.ofNat k < 0 := by decide
theorem own_oinc : ∀ k, k ≤ 20 → Int32.ofNat k + (1 : Int32) = Int32.ofNat (k + 1) := by decide
theorem own_osh : ∀ k, k ≤ 10 → Int32.ofNat k <<< ((1 : Int32) &&& 31) = Int32.ofNat (2 * k) := by decide
theorem own_oshr : ∀ k, k ≤ 10 → Int32.ofNat (2 * k) >>> ((1 : Int32) &&& 31) = Int32.ofNat k := by decide
theorem own_oshz : ∀ k, k ≤ 20 → Int32.ofNat k >>> ((0 : Int32) &&& 31) = Int32.ofNat k := by decide
theorem own_olt {a b : Nat} (ha : a ≤ 20) (hb : b ≤ 20) : Int32.ofNat a < Int32.ofNat b ↔ a < b := by
  rw [own_lt, own_on a ha, own_on b hb]
  omega
theorem own_ilen {xs : List Int32} (h : xs.length ≤ 6) : ¬ Int32.ofNat xs.length < 0 := own_onn _ (by omega)
theorem own_drop {α : Type} {xs : List α} {j : Nat} {x : α} {r : List α} (h : xs.drop j = x :: r) : j < xs.length ∧ xs[j]? = some x ∧ xs.drop (j + 1) = r := by
  have h1 : j < xs.length := by
    rcases Nat.lt_or_ge j xs.length with q | q
    · exact q
    · rw [List.drop_eq_nil_of_le q] at h; cases h
  rw [List.drop_eq_getElem_cons h1] at h
  injection h with h2 h3
  exact ⟨h1, by rw [List.getElem?_eq_getElem h1, h2], h3⟩
theorem own_drop0 {α : Type} {xs : List α} {j : Nat} (h : xs.drop j = []) (hj : j ≤ xs.length) : j = xs.length := by
  have := List.drop_eq_nil_iff.mp h
  omega
theorem own_latD {xs : List Int32} {j : Nat} {x : Int32} (h : xs[j]? = some x) (d : Value) : (own_lat xs).getD j d = .int (nar .byte (x.toInt8.toInt32)) := by
  simp [own_lat, List.getD_eq_getElem?_getD, h]
theorem own_utfL : ∀ xs : List Int32, (own_utf xs).length = 2 * xs.length
  | [] => rfl
  | x :: r => by simp [own_utf, own_utfL r]; omega
theorem own_utfD : ∀ {xs : List Int32} {j : Nat} {x : Int32}, xs[j]? = some x → ∀ d : Value, (own_utf xs).getD (2 * j) d = .int (nar .byte ((x >>> ((0 : Int32) &&& 31)).toInt8.toInt32)) ∧ (own_utf xs).getD (2 * j + 1) d = .int (nar .byte ((x >>> ((8 : Int32) &&& 31)).toInt8.toInt32))
  | [], j, x, h, d => by simp at h
  | y :: r, 0, x, h, d => by
    have e : y = x := by simpa using h
    subst e
    exact ⟨rfl, rfl⟩
  | y :: r, j + 1, x, h, d => by
    have q := own_utfD (xs := r) (j := j) (x := x) (by simpa using h) d
    rw [show 2 * (j + 1) = (2 * j + 1) + 1 from by omega]
    exact q
theorem own_mem {xs : List Int32} {j : Nat} {x : Int32} (h : xs[j]? = some x) : x ∈ xs := List.mem_of_getElem? h
theorem own_ix0 {xs : List Int32} (hl : xs.length ≤ 6) (h : ¬ (0 : Int32) < Int32.ofNat xs.length) : own_ix xs = -1 := by
  have q := mt (own_olt (a := 0) (b := xs.length) (by omega) (by omega)).mpr h
  have e : xs = [] := List.eq_nil_of_length_eq_zero (by omega)
  rw [e]; rfl
theorem pd_6 : parseMethodDescriptor "()B" = some ⟨[], some .byte⟩ := by decide +kernel
theorem d9_0 : decode jdk_42_method_54_code 0 = .ok (.aload_n 0, 1) := by decide +kernel
theorem d9_1 : decode jdk_42_method_54_code 1 = .ok (.getfield 9, 3) := by decide +kernel
theorem d9_4 : decode jdk_42_method_54_code 4 = .ok (.arraylength, 1) := by decide +kernel
theorem d9_5 : decode jdk_42_method_54_code 5 = .ok (.aload_n 0, 1) := by decide +kernel
theorem d9_6 : decode jdk_42_method_54_code 6 = .ok (.invokevirtual 335, 3) := by decide +kernel
theorem d9_9 : decode jdk_42_method_54_code 9 = .ok (.ishr, 1) := by decide +kernel
theorem d9_10 : decode jdk_42_method_54_code 10 = .ok (.ireturn, 1) := by decide +kernel
def Q_rm9_0 (Z : State) (ao0 dd : Addr) (kd : ClassId) (mm : Int32) (vs : List Value) (nn : Int32) (G1 : Int32) (sf : Value) (h0 : Heap) (n0 : Nat) (v : Option Value) (h : Heap) (L : List Loc) : Prop := v = some (.int nn) ∧ Fr n0 L ∧ h = h0
theorem pn_rm9_0 : plainName "java/lang/String" = true := by first | (simp [plainName, overriddenIn]; done) | decide +kernel
theorem ef_rm9_0 (m : MethodId) (x0 : Addr) : entryFrame m #[(.ref x0)] 1 = mkF m 0 #[.val (.ref x0)] [] := by first | (simp [entryFrame, mkF, argsToLocals, Value.category]; done) | rfl
set_option maxRecDepth 65536 in
set_option maxHeartbeats 40000000 in
theorem rm9_0 (l : Launch) (Z : State) (a0 : Array Value) (hw : ∀ d ∈ tables_1, d.before a0 Z = true) (ws : List Jvm.Cond) (ao0 dd : Addr) (kd : ClassId) (mm : Int32) (vs : List Value) (nn : Int32) (G1 : Int32) (sf : Value) (h0 : Heap) (n0 : Nat) (Z0 : n0 ≤ h0.size) (E_ao0 : Exa Z h0 ao0 "java/lang/String") (F_ao0_coder : Fld Z h0 ao0 "java/lang/String" "coder" "B" (.int (0 : Int32))) (F_ao0_value : Fld Z h0 ao0 "java/lang/String" "value" "[B" (.ref dd)) (V_dd : Arv Z h0 dd kd .byte mm vs (.int (0 : Int32))) (hq : (mm >>> ((0 : Int32) &&& 31)) = nn) (Od : Old Z n0 h0) (hst : own_St Z G1 sf) :
    MetFree l (⟨"java/lang/String", "length", "()I"⟩ : MethodName) (head1 (Jvm.Cond.code (⟨"java/lang/String", "length", "()I"⟩ : MethodName) jdk_42_method_54_code 1 (some .int) :: ws) ({ frames := 1, cells := 0, slots := 0, locals := 13 } : Room)) (fun a U => a = #[(.ref ao0)] ∧ Z.Warmed39 U.vm ∧ U.heap = h0) (fun _ _ _ _ _ => True) (fun _ U o U' => ∃ v L, o = .returned v ∧ (Q_rm9_0 Z ao0 dd kd mm vs nn G1 sf h0 n0) v U'.heap L ∧ FrameEnd U o U' L ({ frames := 1, cells := 0, slots := 0, locals := 13 } : Room).cells ({ frames := 1, cells := 0, slots := 0, locals := 13 } : Room).slots) := by
  refine MetFree.of_bodySF (plainFor_of_name pn_rm9_0) hisR ?_
  intro p e s m args below meth c s₁ Bd hml0 hP hK
  obtain ⟨rfl, hZ, hh⟩ := hP
  have hx := Bd.exec
  have hby := Bd.bytes
  have hlk := BodyLoose.notSynchronized Bd
  have hret := Bd.returns
  have hml : c.maxLocals = 1 := hml0
  have hown : s.vm.findClass "java/lang/String" = some m.cls := findClass_of_methodNamed Bd.named
  have hnm := (name_of_methodNamed Bd.named Bd.method).1
  have X0 : Stand p l e ({ frames := 1, cells := 0, slots := 0, locals := 13 } : Room) s m #[(.ref ao0)] below meth c s₁ [] 0 0 := Stand.of_body Bd
  have e0 : s₁.heap = h0 := by rw [← hh, Bd.state]; rfl
  have Nf := Fr.nil n0
  have Zs := Z0
  have Kp : Keep h0 h0 [] := Keep.refl _ _
  obtain ⟨S_COMPACT_STRINGS, hG, S__assertionsDisabled, S_HI_BYTE_SHIFT, S_LO_BYTE_SHIFT, S_SIOOBE_FORMATTER, r_sf, c_sf⟩ := id hst
  show own_End p e below s (Q_rm9_0 Z ao0 dd kd mm vs nn G1 sf h0 n0) ({ frames := 1, cells := 0, slots := 0, locals := 13 } : Room).cells ({ frames := 1, cells := 0, slots := 0, locals := 13 } : Room).slots (s₁.setTop (entryFrame m #[(.ref ao0)] 1))
  refine own_go (x' := s₁.setTop (mkF m 0 #[.val (.ref ao0)] [])) (fun t k => castTop (ef_rm9_0 m ao0) k) ?_
  refine own_go (x' := s₁.setTop (mkF m 1 #[.val (.ref ao0)] [(.ref ao0)])) (fun _ k => XS.aloadN X0.here hx rfl (hb hby d9_0) rfl rfl k) ?_
  obtain ⟨T1, X1, e1, st1⟩ := getF X0 hx hZ hown (host := "") (Or.inl (own_w hw 25 rfl)) Via.refl e0 F_ao0_value (g := (mkF m 1 #[.val (.ref ao0)] [(.ref ao0)])) rfl rfl (hb hby d9_1)
  refine own_go (x' := T1.setTop (mkF m 4 #[.val (.ref ao0)] [(.ref dd)])) st1 ?_
  obtain ⟨cl2, Ar2, -, Sz2, Nn2, -, -⟩ := id V_dd
  refine own_go (x' := T1.setTop (mkF m 5 #[.val (.ref ao0)] [(.int mm)])) (fun t k => X1.arraylength hx (Eq.trans (congrArg (fun h_ => h_[_]?) e1) Ar2.1) (State.isArrayOf_alike hZ.alike Ar2.2.1) (g := (mkF m 4 #[.val (.ref ao0)] [(.ref dd)])) rfl rfl (hb hby d9_4) t (by rw [len_of Sz2 Nn2]; exact k)) ?_
  refine own_go (x' := T1.setTop (mkF m 6 #[.val (.ref ao0)] [(.ref ao0), (.int mm)])) (fun _ k => XS.aloadN X1.here hx rfl (hb hby d9_5) rfl rfl k) ?_
  obtain ⟨cq3, kq3, q3a, q3b, q3c⟩ := isOf hZ e1 E_ao0
  obtain ⟨_, _, ⟨T3, L3, k3, n3⟩, -, X3, ⟨Lc3, hQ3, l3, y3, z3⟩, st3⟩ := X1.virtualBack hx (y := (⟨"java/lang/String", "coder", "()B"⟩ : MethodName)) (z := (⟨"java/lang/String", "coder", "()B"⟩ : MethodName)) hown (mvT hZ (own_w hw 52 rfl)) (mvT hZ (own_w hw 53 rfl)) (notFace_of_selects (args := #[]) (mvT hZ (own_w hw 55 rfl))) (mvT hZ (own_w hw 55 rfl)) (mvT hZ (own_w hw 54 rfl)) (by decide) (backOf (W := 1) (rm10_0 l Z a0 hw [] ao0 G1 sf h0 n0 Zs F_ao0_coder Od hst) hZ (own_w hw 56 rfl) (own_w hw 8 rfl) (by decide) (by decide)) q3a q3c (g := (mkF m 6 #[.val (.ref ao0)] [(.ref ao0), (.int mm)])) rfl (by rw [hml]; rfl) (Steps.refl _) (argsL := []) (rest := [(.int mm)]) (lenOf pd_6 rfl) rfl (by show 2 * 0 + _ ≤ _; exact Nat.le_of_eq rfl) (hb hby d9_6) (fun _ _ => ⟨rfl, e1, (by decide : 0 + 0 ≤ _), (by decide : 0 + 0 ≤ _)⟩)
  dsimp only [Pt.U, Pt.locs, Pt.cells, Pt.slots] at X3 l3 y3 z3 st3 hQ3
  subst l3 y3 z3
  obtain ⟨hv3, Nq3, eq3⟩ := hQ3
  subst hv3
  replace Nf := Fr.app Nf Nq3
  refine own_go (x' := T3.setTop (mkF m 9 #[.val (.ref ao0)] [(.int 0), (.int mm)])) (fun _ k => st3.trans k) ?_
  refine own_go (x' := T3.setTop (mkF m 10 #[.val (.ref ao0)] [(.int (mm >>> ((0 : Int32) &&& 31)))])) (fun _ k => XS.ishr X3.here hx rfl (hb hby d9_9) rfl k) ?_
  refine own_retI X3 hx hlk hret (hb hby d9_10) ?_ (by decide) (by decide)
  rw [eq3]
  exact ⟨by rw [hq], Nf, rfl⟩
def Q_rm9_1 (Z : State) (ao0 dd : Addr) (kd : ClassId) (mm : Int32) (vs : List Value) (nn : Int32) (G1 : Int32) (sf : Value) (h0 : Heap) (n0 : Nat) (v : Option Value) (h : Heap) (L : List Loc) : Prop := v = some (.int nn) ∧ Fr n0 L ∧ h = h0
theorem pn_rm9_1 : plainName "java/lang/String" = true := by first | (simp [plainName, overriddenIn]; done) | decide +kernel
theorem ef_rm9_1 (m : MethodId) (x0 : Addr) : entryFrame m #[(.ref x0)] 1 = mkF m 0 #[.val (.ref x0)] [] := by first | (simp [entryFrame, mkF, argsToLocals, Value.category]; done) | rfl
set_option maxRecDepth 65536 in
set_option maxHeartbeats 40000000 in
theorem rm9_1 (l : Launch) (Z : State) (a0 : Array Value) (hw : ∀ d ∈ tables_1, d.before a0 Z = true) (ws : List Jvm.Cond) (ao0 dd : Addr) (kd : ClassId) (mm : Int32) (vs : List Value) (nn : Int32) (G1 : Int32) (sf : Value) (h0 : Heap) (n0 : Nat) (Z0 : n0 ≤ h0.size) (E_ao0 : Exa Z h0 ao0 "java/lang/String") (F_ao0_coder : Fld Z h0 ao0 "java/lang/String" "coder" "B" (.int (1 : Int32))) (F_ao0_value : Fld Z h0 ao0 "java/lang/String" "value" "[B" (.ref dd)) (V_dd : Arv Z h0 dd kd .byte mm vs (.int (0 : Int32))) (hq : (mm >>> ((1 : Int32) &&& 31)) = nn) (Od : Old Z n0 h0) (hst : own_St Z G1 sf) :
    MetFree l (⟨"java/lang/String", "length", "()I"⟩ : MethodName) (head1 (Jvm.Cond.code (⟨"java/lang/String", "length", "()I"⟩ : MethodName) jdk_42_method_54_code 1 (some .int) :: ws) ({ frames := 1, cells := 0, slots := 0, locals := 13 } : Room)) (fun a U => a = #[(.ref ao0)] ∧ Z.Warmed39 U.vm ∧ U.heap = h0) (fun _ _ _ _ _ => True) (fun _ U o U' => ∃ v L, o = .returned v ∧ (Q_rm9_1 Z ao0 dd kd mm vs nn G1 sf h0 n0) v U'.heap L ∧ FrameEnd U o U' L ({ frames := 1, cells := 0, slots := 0, locals := 13 } : Room).cells ({ frames := 1, cells := 0, slots := 0, locals := 13 } : Room).slots) := by
  refine MetFree.of_bodySF (plainFor_of_name pn_rm9_1) hisR ?_
  intro p e s m args below meth c s₁ Bd hml0 hP hK
  obtain ⟨rfl, hZ, hh⟩ := hP
  have hx := Bd.exec
  have hby := Bd.bytes
  have hlk := BodyLoose.notSynchronized Bd
  have hret := Bd.returns
  have hml : c.maxLocals = 1 := hml0
  have hown : s.vm.findClass "java/lang/String" = some m.cls := findClass_of_methodNamed Bd.named
  have hnm := (name_of_methodNamed Bd.named Bd.method).1
  have X0 : Stand p l e ({ frames := 1, cells := 0, slots := 0, locals := 13 } : Room) s m #[(.ref ao0)] below meth c s₁ [] 0 0 := Stand.of_body Bd
  have e0 : s₁.heap = h0 := by rw [← hh, Bd.state]; rfl
  have Nf := Fr.nil n0
  have Zs := Z0
  have Kp : Keep h0 h0 [] := Keep.refl _ _
  obtain ⟨S_COMPACT_STRINGS, hG, S__assertionsDisabled, S_HI_BYTE_SHIFT, S_LO_BYTE_SHIFT, S_SIOOBE_FORMATTER, r_sf, c_sf⟩ := id hst
  show own_End p e below s (Q_rm9_1 Z ao0 dd kd mm vs nn G1 sf h0 n0) ({ frames := 1, cells := 0, slots := 0, locals := 13 } : Room).cells ({ frames := 1, cells := 0, slots := 0, locals := 13 } : Room).slots (s₁.setTop (entryFrame m #[(.ref ao0)] 1))
  refine own_go (x' := s₁.setTop (mkF m 0 #[.val (.ref ao0)] [])) (fun t k => castTop (ef_rm9_1 m ao0) k) ?_
  refine own_go (x' := s₁.setTop (mkF m 1 #[.val (.ref ao0)] [(.ref ao0)])) (fun _ k => XS.aloadN X0.here hx rfl (hb hby d9_0) rfl rfl k) ?_
  obtain ⟨T1, X1, e1, st1⟩ := getF X0 hx hZ hown (host := "") (Or.inl (own_w hw 25 rfl)) Via.refl e0 F_ao0_value (g := (mkF m 1 #[.val (.ref ao0)] [(.ref ao0)])) rfl rfl (hb hby d9_1)
  refine own_go (x' := T1.setTop (mkF m 4 #[.val (.ref ao0)] [(.ref dd)])) st1 ?_
  obtain ⟨cl2, Ar2, -, Sz2, Nn2, -, -⟩ := id V_dd
  refine own_go (x' := T1.setTop (mkF m 5 #[.val (.ref ao0)] [(.int mm)])) (fun t k => X1.arraylength hx (Eq.trans (congrArg (fun h_ => h_[_]?) e1) Ar2.1) (State.isArrayOf_alike hZ.alike Ar2.2.1) (g := (mkF m 4 #[.val (.ref ao0)] [(.ref dd)])) rfl rfl (hb hby d9_4) t (by rw [len_of Sz2 Nn2]; exact k)) ?_
  refine own_go (x' := T1.setTop (mkF m 6 #[.val (.ref ao0)] [(.ref ao0), (.int mm)])) (fun _ k => XS.aloadN X1.here hx rfl (hb hby d9_5) rfl rfl k) ?_
  obtain ⟨cq3, kq3, q3a, q3b, q3c⟩ := isOf hZ e1 E_ao0
  obtain ⟨_, _, ⟨T3, L3, k3, n3⟩, -, X3, ⟨Lc3, hQ3, l3, y3, z3⟩, st3⟩ := X1.virtualBack hx (y := (⟨"java/lang/String", "coder", "()B"⟩ : MethodName)) (z := (⟨"java/lang/String", "coder", "()B"⟩ : MethodName)) hown (mvT hZ (own_w hw 52 rfl)) (mvT hZ (own_w hw 53 rfl)) (notFace_of_selects (args := #[]) (mvT hZ (own_w hw 55 rfl))) (mvT hZ (own_w hw 55 rfl)) (mvT hZ (own_w hw 54 rfl)) (by decide) (backOf (W := 1) (rm10_1 l Z a0 hw [] ao0 G1 sf h0 n0 Zs F_ao0_coder Od hst) hZ (own_w hw 56 rfl) (own_w hw 8 rfl) (by decide) (by decide)) q3a q3c (g := (mkF m 6 #[.val (.ref ao0)] [(.ref ao0), (.int mm)])) rfl (by rw [hml]; rfl) (Steps.refl _) (argsL := []) (rest := [(.int mm)]) (lenOf pd_6 rfl) rfl (by show 2 * 0 + _ ≤ _; exact Nat.le_of_eq rfl) (hb hby d9_6) (fun _ _ => ⟨rfl, e1, (by decide : 0 + 0 ≤ _), (by decide : 0 + 0 ≤ _)⟩)
  dsimp only [Pt.U, Pt.locs, Pt.cells, Pt.slots] at X3 l3 y3 z3 st3 hQ3
  subst l3 y3 z3
  obtain ⟨hv3, Nq3, eq3⟩ := hQ3
  subst hv3
  replace Nf := Fr.app Nf Nq3
  refine own_go (x' := T3.setTop (mkF m 9 #[.val (.ref ao0)] [(.int 1), (.int mm)])) (fun _ k => st3.trans k) ?_
  refine own_go (x' := T3.setTop (mkF m 10 #[.val (.ref ao0)] [(.int (mm >>> ((1 : Int32) &&& 31)))])) (fun _ k => XS.ishr X3.here hx rfl (hb hby d9_9) rfl k) ?_
  refine own_retI X3 hx hlk hret (hb hby d9_10) ?_ (by decide) (by decide)
  rw [eq3]
  exact ⟨by rw [hq], Nf, rfl⟩
theorem d13_0 : decode jdk_29_method_65_code 0 = .ok (.iload_n 0, 1) := by decide +kernel
theorem d13_1 : decode jdk_29_method_65_code 1 = .ok (.iload_n 1, 1) := by decide +kernel
theorem d13_2 : decode jdk_29_method_65_code 2 = .ok (.if_icmp .lt 7, 3) := by decide +kernel
theorem d13_5 : decode jdk_29_method_65_code 5 = .ok (.iload_n 0, 1) := by decide +kernel
theorem d13_6 : decode jdk_29_method_65_code 6 = .ok (.goto 4, 3) := by decide +kernel
theorem d13_10 : decode jdk_29_method_65_code 10 = .ok (.ireturn, 1) := by decide +kernel
def Q_rm13 (Z : State) (p0 : Int32) (h0 : Heap) (n0 : Nat) (v : Option Value) (h : Heap) (L : List Loc) : Prop := v = some (.int p0) ∧ Fr n0 L ∧ h = h0
theorem ef_rm13 (m : MethodId) (x0 : Int32) (x1 : Int32) : entryFrame m #[(.int x0), (.int x1)] 2 = mkF m 0 #[.val (.int x0), .val (.int x1)] [] := by first | (simp [entryFrame, mkF, argsToLocals, Value.category]; done) | rfl
set_option maxRecDepth 65536 in
set_option maxHeartbeats 40000000 in
theorem rm13 (l : Launch) (Z : State) (a0 : Array Value) (hw : ∀ d ∈ tables_1, d.before a0 Z = true) (ws : List Jvm.Cond) (p0 : Int32) (h0 : Heap) (n0 : Nat) (Z0 : n0 ≤ h0.size) :
    MetFree l (⟨"java/lang/Math", "max", "(II)I"⟩ : MethodName) (head1 (Jvm.Cond.code (⟨"java/lang/Math", "max", "(II)I"⟩ : MethodName) jdk_29_method_65_code 2 (some .int) :: ws) ({ frames := 0, cells := 0, slots := 0, locals := 0 } : Room)) (fun a U => a = #[(.int p0), (.int p0)] ∧ Z.Warmed39 U.vm ∧ U.heap = h0) (fun _ _ _ _ _ => True) (fun _ U o U' => ∃ v L, o = .returned v ∧ (Q_rm13 Z p0 h0 n0) v U'.heap L ∧ FrameEnd U o U' L ({ frames := 0, cells := 0, slots := 0, locals := 0 } : Room).cells ({ frames := 0, cells := 0, slots := 0, locals := 0 } : Room).slots) := by
  refine MetFree.of_bodySF (Jvm.Free.JP.mathPlain rfl (by decide +kernel)) hisR ?_
  intro p e s m args below meth c s₁ Bd hml0 hP hK
  obtain ⟨rfl, hZ, hh⟩ := hP
  have hx := Bd.exec
  have hby := Bd.bytes
  have hlk := BodyLoose.notSynchronized Bd
  have hret := Bd.returns
  have hml : c.maxLocals = 2 := hml0
  have hown : s.vm.findClass "java/lang/Math" = some m.cls := findClass_of_methodNamed Bd.named
  have hnm := (name_of_methodNamed Bd.named Bd.method).1
  have X0 : Stand p l e ({ frames := 0, cells := 0, slots := 0, locals := 0 } : Room) s m #[(.int p0), (.int p0)] below meth c s₁ [] 0 0 := Stand.of_body Bd
  have e0 : s₁.heap = h0 := by rw [← hh, Bd.state]; rfl
  have Nf := Fr.nil n0
  have Zs := Z0
  have Kp : Keep h0 h0 [] := Keep.refl _ _
  show own_End p e below s (Q_rm13 Z p0 h0 n0) ({ frames := 0, cells := 0, slots := 0, locals := 0 } : Room).cells ({ frames := 0, cells := 0, slots := 0, locals := 0 } : Room).slots (s₁.setTop (entryFrame m #[(.int p0), (.int p0)] 2))
  refine own_go (x' := s₁.setTop (mkF m 0 #[.val (.int p0), .val (.int p0)] [])) (fun t k => castTop (ef_rm13 m p0 p0) k) ?_
  refine own_go (x' := s₁.setTop (mkF m 10 #[.val (.int p0), .val (.int p0)] [(.int p0)])) (fun _ k => XS.iloadN X0.here hx rfl (hb hby d13_0) rfl (XS.iloadN X0.here hx rfl (hb hby d13_1) rfl (XS.icmpNo X0.here hx rfl (hb hby d13_2) rfl (flt (Int32.lt_irrefl)).1 (XS.iloadN X0.here hx rfl (hb hby d13_5) rfl (XS.goto X0.here hx rfl (pc0 := 6) (pc' := 10) rfl (hb hby d13_6) (by decide) (by decide) k))))) ?_
  refine own_retI X0 hx hlk hret (hb hby d13_10) ?_ (by decide) (by decide)
  rw [e0]
  exact ⟨rfl, Nf, rfl⟩
theorem d14_0 : decode jdk_29_method_69_code 0 = .ok (.iload_n 0, 1) := by decide +kernel
theorem d14_1 : decode jdk_29_method_69_code 1 = .ok (.iload_n 1, 1) := by decide +kernel
theorem d14_2 : decode jdk_29_method_69_code 2 = .ok (.if_icmp .gt 7, 3) := by decide +kernel
theorem d14_5 : decode jdk_29_method_69_code 5 = .ok (.iload_n 0, 1) := by decide +kernel
theorem d14_6 : decode jdk_29_method_69_code 6 = .ok (.goto 4, 3) := by decide +kernel
theorem d14_10 : decode jdk_29_method_69_code 10 = .ok (.ireturn, 1) := by decide +kernel
def Q_rm14 (Z : State) (p0 : Int32) (h0 : Heap) (n0 : Nat) (v : Option Value) (h : Heap) (L : List Loc) : Prop := v = some (.int p0) ∧ Fr n0 L ∧ h = h0
theorem ef_rm14 (m : MethodId) (x0 : Int32) (x1 : Int32) : entryFrame m #[(.int x0), (.int x1)] 2 = mkF m 0 #[.val (.int x0), .val (.int x1)] [] := by first | (simp [entryFrame, mkF, argsToLocals, Value.category]; done) | rfl
set_option maxRecDepth 65536 in
set_option maxHeartbeats 40000000 in
theorem rm14 (l : Launch) (Z : State) (a0 : Array Value) (hw : ∀ d ∈ tables_1, d.before a0 Z = true) (ws : List Jvm.Cond) (p0 : Int32) (h0 : Heap) (n0 : Nat) (Z0 : n0 ≤ h0.size) :
    MetFree l (⟨"java/lang/Math", "min", "(II)I"⟩ : MethodName) (head1 (Jvm.Cond.code (⟨"java/lang/Math", "min", "(II)I"⟩ : MethodName) jdk_29_method_69_code 2 (some .int) :: ws) ({ frames := 0, cells := 0, slots := 0, locals := 0 } : Room)) (fun a U => a = #[(.int p0), (.int p0)] ∧ Z.Warmed39 U.vm ∧ U.heap = h0) (fun _ _ _ _ _ => True) (fun _ U o U' => ∃ v L, o = .returned v ∧ (Q_rm14 Z p0 h0 n0) v U'.heap L ∧ FrameEnd U o U' L ({ frames := 0, cells := 0, slots := 0, locals := 0 } : Room).cells ({ frames := 0, cells := 0, slots := 0, locals := 0 } : Room).slots) := by
  refine MetFree.of_bodySF (Jvm.Free.JP.mathPlain rfl (by decide +kernel)) hisR ?_
  intro p e s m args below meth c s₁ Bd hml0 hP hK
  obtain ⟨rfl, hZ, hh⟩ := hP
  have hx := Bd.exec
  have hby := Bd.bytes
  have hlk := BodyLoose.notSynchronized Bd
  have hret := Bd.returns
  have hml : c.maxLocals = 2 := hml0
  have hown : s.vm.findClass "java/lang/Math" = some m.cls := findClass_of_methodNamed Bd.named
  have hnm := (name_of_methodNamed Bd.named Bd.method).1
  have X0 : Stand p l e ({ frames := 0, cells := 0, slots := 0, locals := 0 } : Room) s m #[(.int p0), (.int p0)] below meth c s₁ [] 0 0 := Stand.of_body Bd
  have e0 : s₁.heap = h0 := by rw [← hh, Bd.state]; rfl
  have Nf := Fr.nil n0
  have Zs := Z0
  have Kp : Keep h0 h0 [] := Keep.refl _ _
  show own_End p e below s (Q_rm14 Z p0 h0 n0) ({ frames := 0, cells := 0, slots := 0, locals := 0 } : Room).cells ({ frames := 0, cells := 0, slots := 0, locals := 0 } : Room).slots (s₁.setTop (entryFrame m #[(.int p0), (.int p0)] 2))
  refine own_go (x' := s₁.setTop (mkF m 0 #[.val (.int p0), .val (.int p0)] [])) (fun t k => castTop (ef_rm14 m p0 p0) k) ?_
  refine own_go (x' := s₁.setTop (mkF m 10 #[.val (.int p0), .val (.int p0)] [(.int p0)])) (fun _ k => XS.iloadN X0.here hx rfl (hb hby d14_0) rfl (XS.iloadN X0.here hx rfl (hb hby d14_1) rfl (XS.icmpNo X0.here hx rfl (hb hby d14_2) rfl (flt (Int32.lt_irrefl)).2.2.1 (XS.iloadN X0.here hx rfl (hb hby d14_5) rfl (XS.goto X0.here hx rfl (pc0 := 6) (pc' := 10) rfl (hb hby d14_6) (by decide) (by decide) k))))) ?_
  refine own_retI X0 hx hlk hret (hb hby d14_10) ?_ (by decide) (by decide)
  rw [e0]
  exact ⟨rfl, Nf, rfl⟩
def own_ce (x : Int32) : Int32 := if x < 0 then 0 else if (255 : Int32) < x then 0 else 1
theorem d12_0 : decode jdk_43_method_4_code 0 = .ok (.iload_n 0, 1) := by decide +kernel
theorem d12_1 : decode jdk_43_method_4_code 1 = .ok (.ifCond .lt 14, 3) := by decide +kernel
theorem d12_4 : decode jdk_43_method_4_code 4 = .ok (.iload_n 0, 1) := by decide +kernel
theorem d12_5 : decode jdk_43_method_4_code 5 = .ok (.sipush 255, 3) := by decide +kernel
theorem d12_8 : decode jdk_43_method_4_code 8 = .ok (.if_icmp .gt 7, 3) := by decide +kernel
theorem d12_11 : decode jdk_43_method_4_code 11 = .ok (.iconst 1, 1) := by decide +kernel
theorem d12_12 : decode jdk_43_method_4_code 12 = .ok (.goto 4, 3) := by decide +kernel
theorem d12_16 : decode jdk_43_method_4_code 16 = .ok (.ireturn, 1) := by decide +kernel
def Q_rm12k (Z : State)  (h0 : Heap) (n0 : Nat) (v : Option Value) (h : Heap) (L : List Loc) : Prop := v = some (.int (1 : Int32)) ∧ Fr n0 L ∧ h = h0
theorem pn_rm12k : plainName "java/lang/StringLatin1" = true := by first | (simp [plainName, overriddenIn]; done) | decide +kernel
theorem ef_rm12k (m : MethodId) (x0 : Int32) : entryFrame m #[(.int x0)] 1 = mkF m 0 #[.val (.int x0)] [] := by first | (simp [entryFrame, mkF, argsToLocals, Value.category]; done) | rfl
set_option maxRecDepth 65536 in
set_option maxHeartbeats 40000000 in
theorem rm12k (l : Launch) (Z : State) (a0 : Array Value) (hw : ∀ d ∈ tables_1, d.before a0 Z = true) (ws : List Jvm.Cond)  (h0 : Heap) (n0 : Nat) (Z0 : n0 ≤ h0.size) :
    MetFree l (⟨"java/lang/StringLatin1", "canEncode", "(I)Z"⟩ : MethodName) (head1 (Jvm.Cond.code (⟨"java/lang/StringLatin1", "canEncode", "(I)Z"⟩ : MethodName) jdk_43_method_4_code 1 (some .boolean) :: ws) ({ frames := 0, cells := 0, slots := 0, locals := 0 } : Room)) (fun a U => a = #[(.int 58)] ∧ Z.Warmed39 U.vm ∧ U.heap = h0) (fun _ _ _ _ _ => True) (fun _ U o U' => ∃ v L, o = .returned v ∧ (Q_rm12k Z  h0 n0) v U'.heap L ∧ FrameEnd U o U' L ({ frames := 0, cells := 0, slots := 0, locals := 0 } : Room).cells ({ frames := 0, cells := 0, slots := 0, locals := 0 } : Room).slots) := by
  refine MetFree.of_bodySF (plainFor_of_name pn_rm12k) hisR ?_
  intro p e s m args below meth c s₁ Bd hml0 hP hK
  obtain ⟨rfl, hZ, hh⟩ := hP
  have hx := Bd.exec
  have hby := Bd.bytes
  have hlk := BodyLoose.notSynchronized Bd
  have hret := Bd.returns
  have hml : c.maxLocals = 1 := hml0
  have hown : s.vm.findClass "java/lang/StringLatin1" = some m.cls := findClass_of_methodNamed Bd.named
  have hnm := (name_of_methodNamed Bd.named Bd.method).1
  have X0 : Stand p l e ({ frames := 0, cells := 0, slots := 0, locals := 0 } : Room) s m #[(.int 58)] below meth c s₁ [] 0 0 := Stand.of_body Bd
  have e0 : s₁.heap = h0 := by rw [← hh, Bd.state]; rfl
  have Nf := Fr.nil n0
  have Zs := Z0
  have Kp : Keep h0 h0 [] := Keep.refl _ _
  show own_End p e below s (Q_rm12k Z  h0 n0) ({ frames := 0, cells := 0, slots := 0, locals := 0 } : Room).cells ({ frames := 0, cells := 0, slots := 0, locals := 0 } : Room).slots (s₁.setTop (entryFrame m #[(.int 58)] 1))
  refine own_go (x' := s₁.setTop (mkF m 0 #[.val (.int 58)] [])) (fun t k => castTop (ef_rm12k m (58 : Int32)) k) ?_
  refine own_go (x' := s₁.setTop (mkF m 12 #[.val (.int 58)] [(.int 1)])) (fun _ k => XS.iloadN X0.here hx rfl (hb hby d12_0) rfl (XS.ifNo X0.here hx rfl (hb hby d12_1) rfl ((if0 _ _).trans (flt (by decide +kernel : ¬ ((58 : Int32) < (0 : Int32)))).1) (XS.iloadN X0.here hx rfl (hb hby d12_4) rfl (XS.sipush X0.here hx rfl (hb hby d12_5) (XS.icmpNo X0.here hx rfl (hb hby d12_8) rfl (flt (by decide +kernel : ¬ ((255 : Int32) < (58 : Int32)))).2.2.1 (XS.iconst X0.here hx rfl (hb hby d12_11) k)))))) ?_
  refine own_go (x' := s₁.setTop (mkF m 16 #[.val (.int 58)] [(.int 1)])) (fun _ k => XS.goto X0.here hx rfl (pc0 := 12) (pc' := 16) rfl (hb hby d12_12) (by decide) (by decide) k) ?_
  refine own_retN X0 hx hlk (t := .boolean) hret (by simp) (hb hby d12_16) (w := (1 : Int32)) rfl ?_ (by decide) (by decide)
  rw [e0]
  exact ⟨rfl, Nf, rfl⟩
theorem d12_15 : decode jdk_43_method_4_code 15 = .ok (.iconst 0, 1) := by decide +kernel
def Q_rm12 (Z : State) (p0 : Int32) (h0 : Heap) (n0 : Nat) (v : Option Value) (h : Heap) (L : List Loc) : Prop := v = some (.int (own_ce p0)) ∧ Fr n0 L ∧ h = h0
theorem pn_rm12 : plainName "java/lang/StringLatin1" = true := by first | (simp [plainName, overriddenIn]; done) | decide +kernel
theorem ef_rm12 (m : MethodId) (x0 : Int32) : entryFrame m #[(.int x0)] 1 = mkF m 0 #[.val (.int x0)] [] := by first | (simp [entryFrame, mkF, argsToLocals, Value.category]; done) | rfl
set_option maxRecDepth 65536 in
set_option maxHeartbeats 40000000 in
theorem rm12 (l : Launch) (Z : State) (a0 : Array Value) (hw : ∀ d ∈ tables_1, d.before a0 Z = true) (ws : List Jvm.Cond) (p0 : Int32) (h0 : Heap) (n0 : Nat) (Z0 : n0 ≤ h0.size) :
    MetFree l (⟨"java/lang/StringLatin1", "canEncode", "(I)Z"⟩ : MethodName) (head1 (Jvm.Cond.code (⟨"java/lang/StringLatin1", "canEncode", "(I)Z"⟩ : MethodName) jdk_43_method_4_code 1 (some .boolean) :: ws) ({ frames := 0, cells := 0, slots := 0, locals := 0 } : Room)) (fun a U => a = #[(.int p0)] ∧ Z.Warmed39 U.vm ∧ U.heap = h0) (fun _ _ _ _ _ => True) (fun _ U o U' => ∃ v L, o = .returned v ∧ (Q_rm12 Z p0 h0 n0) v U'.heap L ∧ FrameEnd U o U' L ({ frames := 0, cells := 0, slots := 0, locals := 0 } : Room).cells ({ frames := 0, cells := 0, slots := 0, locals := 0 } : Room).slots) := by
  refine MetFree.of_bodySF (plainFor_of_name pn_rm12) hisR ?_
  intro p e s m args below meth c s₁ Bd hml0 hP hK
  obtain ⟨rfl, hZ, hh⟩ := hP
  have hx := Bd.exec
  have hby := Bd.bytes
  have hlk := BodyLoose.notSynchronized Bd
  have hret := Bd.returns
  have hml : c.maxLocals = 1 := hml0
  have hown : s.vm.findClass "java/lang/StringLatin1" = some m.cls := findClass_of_methodNamed Bd.named
  have hnm := (name_of_methodNamed Bd.named Bd.method).1
  have X0 : Stand p l e ({ frames := 0, cells := 0, slots := 0, locals := 0 } : Room) s m #[(.int p0)] below meth c s₁ [] 0 0 := Stand.of_body Bd
  have e0 : s₁.heap = h0 := by rw [← hh, Bd.state]; rfl
  have Nf := Fr.nil n0
  have Zs := Z0
  have Kp : Keep h0 h0 [] := Keep.refl _ _
  show own_End p e below s (Q_rm12 Z p0 h0 n0) ({ frames := 0, cells := 0, slots := 0, locals := 0 } : Room).cells ({ frames := 0, cells := 0, slots := 0, locals := 0 } : Room).slots (s₁.setTop (entryFrame m #[(.int p0)] 1))
  refine own_go (x' := s₁.setTop (mkF m 0 #[.val (.int p0)] [])) (fun t k => castTop (ef_rm12 m p0) k) ?_
  refine own_go (x' := s₁.setTop (mkF m 1 #[.val (.int p0)] [(.int p0)])) (fun _ k => XS.iloadN X0.here hx rfl (hb hby d12_0) rfl k) ?_
  by_cases hc1 : p0 < (0 : Int32)
  · refine own_go (x' := s₁.setTop (mkF m 16 #[.val (.int p0)] [(.int 0)])) (fun _ k => XS.ifYes X0.here hx rfl (pc0 := 1) (pc' := 15) rfl (hb hby d12_1) rfl ((if0 _ _).trans (tlt hc1).1) (by decide) (by decide) (XS.iconst X0.here hx rfl (hb hby d12_15) k)) ?_
    refine own_retN X0 hx hlk (t := .boolean) hret (by simp) (hb hby d12_16) (w := (0 : Int32)) rfl ?_ (by decide) (by decide)
    rw [e0]
    exact ⟨by simp only [own_ce, if_pos hc1], Nf, rfl⟩
  · refine own_go (x' := s₁.setTop (mkF m 8 #[.val (.int p0)] [(.int 255), (.int p0)])) (fun _ k => XS.ifNo X0.here hx rfl (hb hby d12_1) rfl ((if0 _ _).trans (flt hc1).1) (XS.iloadN X0.here hx rfl (hb hby d12_4) rfl (XS.sipush X0.here hx rfl (hb hby d12_5) k))) ?_
    by_cases hc8 : (255 : Int32) < p0
    · refine own_go (x' := s₁.setTop (mkF m 16 #[.val (.int p0)] [(.int 0)])) (fun _ k => XS.icmpYes X0.here hx rfl (pc0 := 8) (pc' := 15) rfl (hb hby d12_8) rfl (tlt hc8).2.2.1 (by decide) (by decide) (XS.iconst X0.here hx rfl (hb hby d12_15) k)) ?_
      refine own_retN X0 hx hlk (t := .boolean) hret (by simp) (hb hby d12_16) (w := (0 : Int32)) rfl ?_ (by decide) (by decide)
      rw [e0]
      exact ⟨by simp only [own_ce, if_neg hc1, if_pos hc8], Nf, rfl⟩
    · refine own_go (x' := s₁.setTop (mkF m 16 #[.val (.int p0)] [(.int 1)])) (fun _ k => XS.icmpNo X0.here hx rfl (hb hby d12_8) rfl (flt hc8).2.2.1 (XS.iconst X0.here hx rfl (hb hby d12_11) (XS.goto X0.here hx rfl (pc0 := 12) (pc' := 16) rfl (hb hby d12_12) (by decide) (by decide) k))) ?_
      refine own_retN X0 hx hlk (t := .boolean) hret (by simp) (hb hby d12_16) (w := (1 : Int32)) rfl ?_ (by decide) (by decide)
      rw [e0]
      exact ⟨by simp only [own_ce, if_neg hc1, if_neg hc8], Nf, rfl⟩
theorem d19_7 : decode jdk_43_method_23_code 7 = .ok (.iload 5, 2) := by decide +kernel
theorem d19_9 : decode jdk_43_method_23_code 9 = .ok (.iload_n 3, 1) := by decide +kernel
theorem d19_10 : decode jdk_43_method_23_code 10 = .ok (.if_icmp .ge 21, 3) := by decide +kernel
theorem d19_31 : decode jdk_43_method_23_code 31 = .ok (.iconst (-1), 1) := by decide +kernel
theorem d19_32 : decode jdk_43_method_23_code 32 = .ok (.ireturn, 1) := by decide +kernel
theorem d19_13 : decode jdk_43_method_23_code 13 = .ok (.aload_n 0, 1) := by decide +kernel
theorem d19_14 : decode jdk_43_method_23_code 14 = .ok (.iload 5, 2) := by decide +kernel
theorem d19_16 : decode jdk_43_method_23_code 16 = .ok (.baload, 1) := by decide +kernel
theorem d19_17 : decode jdk_43_method_23_code 17 = .ok (.iload 4, 2) := by decide +kernel
theorem d19_19 : decode jdk_43_method_23_code 19 = .ok (.if_icmp .ne 6, 3) := by decide +kernel
theorem d19_22 : decode jdk_43_method_23_code 22 = .ok (.iload 5, 2) := by decide +kernel
theorem d19_24 : decode jdk_43_method_23_code 24 = .ok (.ireturn, 1) := by decide +kernel
theorem d19_25 : decode jdk_43_method_23_code 25 = .ok (.iinc 5 1, 3) := by decide +kernel
theorem d19_28 : decode jdk_43_method_23_code 28 = .ok (.goto (-21), 3) := by decide +kernel
set_option maxRecDepth 65536 in
set_option maxHeartbeats 40000000 in
theorem seg19 {p : Program} {l : Launch} {e : Env} {s : State} {m : MethodId} {args : Array Value} {below : List Frame} {meth : Method} {c : Code} {Z : State} {a0 : Array Value} (hx : p.tables.exec = Jvm.exec) (hlk : meth.locks = false) (hret : meth.sig.returnType = some .int) (hZ : Z.Warmed39 s.vm) (hw : ∀ d ∈ tables_1, d.before a0 Z = true) (hby : c.code = jdk_43_method_23_code) (hml : c.maxLocals = 6) (hown : s.vm.findClass "java/lang/StringLatin1" = some m.cls) (hnm : meth.name = "indexOfChar") (ao0 : Addr) (kd : ClassId) (xs : List Int32) (n0 : Nat) (hxs : ∀ x ∈ xs, own_ch x) (hlat : ∀ x ∈ xs, ¬ (255 : Int32) < x) (hlen : xs.length ≤ 6) : ∀ (ys : List Int32) (j : Nat) (h0 : Heap) (s₁ : State) (LL : List Loc) (_ : Stand p l e ({ frames := 0, cells := 0, slots := 0, locals := 0 } : Room) s m args below meth c s₁ LL 0 0) (_ : s₁.heap = h0) (_ : Fr n0 LL) (_ : n0 ≤ h0.size) (_ : Arv Z h0 ao0 kd .byte (Int32.ofNat xs.length) (own_lat xs) (.int (0 : Int32))) (_ : xs.drop j = ys) (_ : j ≤ xs.length),
    own_End p e below s (fun v h L => v = some (.int (own_ixg j ys)) ∧ Fr n0 L ∧ h = h0) ({ frames := 0, cells := 0, slots := 0, locals := 0 } : Room).cells ({ frames := 0, cells := 0, slots := 0, locals := 0 } : Room).slots (s₁.setTop (mkF m 7 #[.val (.ref ao0), .val (.int 58), .val (.int 0), .val (.int (Int32.ofNat xs.length)), .val (.int 58), .val (.int (Int32.ofNat j))] [])) := by
  intro ys
  induction ys with
  | nil =>
    intro j h0 s₁ LL X0 e0 Nf Zs V_ao0 hj hjl
    have Kp : Keep h0 h0 [] := Keep.refl _ _
    have hj0 := own_drop0 hj hjl
    have hbr : ¬ Int32.ofNat j < Int32.ofNat xs.length := fun q_ => by rw [hj0] at q_; exact absurd q_ (Int32.lt_irrefl)
    refine own_go (x' := s₁.setTop (mkF m 32 #[.val (.ref ao0), .val (.int 58), .val (.int 0), .val (.int (Int32.ofNat xs.length)), .val (.int 58), .val (.int (Int32.ofNat j))] [(.int (-1))])) (fun _ k => XS.iload X0.here hx rfl (hb hby d19_7) rfl (XS.iloadN X0.here hx rfl (hb hby d19_9) rfl (XS.icmpYes X0.here hx rfl (pc0 := 10) (pc' := 31) rfl (hb hby d19_10) rfl (flt hbr).2.1 (by decide) (by decide) (XS.iconst X0.here hx rfl (hb hby d19_31) k)))) ?_
    refine own_retI X0 hx hlk hret (hb hby d19_32) ?_ (by decide) (by decide)
    rw [e0]
    exact ⟨rfl, Nf, rfl⟩
  | cons x r ih =>
    intro j h0 s₁ LL X0 e0 Nf Zs V_ao0 hj hjl
    have Kp : Keep h0 h0 [] := Keep.refl _ _
    obtain ⟨hj1, hj2, hj3⟩ := own_drop hj
    have hbr : Int32.ofNat j < Int32.ofNat xs.length := (own_olt (by omega) (by omega)).mpr hj1
    refine own_go (x' := s₁.setTop (mkF m 16 #[.val (.ref ao0), .val (.int 58), .val (.int 0), .val (.int (Int32.ofNat xs.length)), .val (.int 58), .val (.int (Int32.ofNat j))] [(.int (Int32.ofNat j)), (.ref ao0)])) (fun _ k => XS.iload X0.here hx rfl (hb hby d19_7) rfl (XS.iloadN X0.here hx rfl (hb hby d19_9) rfl (XS.icmpNo X0.here hx rfl (hb hby d19_10) rfl (tlt hbr).2.1 (XS.aloadN X0.here hx rfl (hb hby d19_13) rfl rfl (XS.iload X0.here hx rfl (hb hby d19_14) rfl k))))) ?_
    obtain ⟨cl1, Ar1, q1, Sz1, Nn1, Hh1, Gg1⟩ := id V_ao0
    have hin1 : ¬ ((Int32.ofNat j) < 0 ∨ cl1.slots.size ≤ ((Int32.ofNat j)).toNatClampNeg) := inb_of Sz1 ⟨own_onn _ (by omega), hbr⟩
    refine own_go (x' := s₁.setTop (mkF m 17 #[.val (.ref ao0), .val (.int 58), .val (.int 0), .val (.int (Int32.ofNat xs.length)), .val (.int 58), .val (.int (Int32.ofNat j))] [(.int (nar .byte (x.toInt8.toInt32)))])) (X0.baloadBytes hx (j := (Int32.ofNat j)) (v := (.int (nar .byte (x.toInt8.toInt32)))) (Eq.trans (congrArg (fun h_ => h_[_]?) e0) Ar1.1) (State.isArrayOf_alike hZ.alike Ar1.2.1) Ar1.2.2 hin1 (Hh1.at hin1 (by rw [own_onc j (by omega)]; exact own_latD hj2 _)) (g := (mkF m 16 #[.val (.ref ao0), .val (.int 58), .val (.int 0), .val (.int (Int32.ofNat xs.length)), .val (.int 58), .val (.int (Int32.ofNat j))] [(.int (Int32.ofNat j)), (.ref ao0)])) rfl rfl (hb hby d19_16)) ?_
    refine own_go (x' := s₁.setTop (mkF m 19 #[.val (.ref ao0), .val (.int 58), .val (.int 0), .val (.int (Int32.ofNat xs.length)), .val (.int 58), .val (.int (Int32.ofNat j))] [(.int 58), (.int (nar .byte (x.toInt8.toInt32)))])) (fun _ k => XS.iload X0.here hx rfl (hb hby d19_17) rfl k) ?_
    by_cases hc19 : (nar .byte (x.toInt8.toInt32)) = (58 : Int32)
    · refine own_go (x' := s₁.setTop (mkF m 24 #[.val (.ref ao0), .val (.int 58), .val (.int 0), .val (.int (Int32.ofNat xs.length)), .val (.int 58), .val (.int (Int32.ofNat j))] [(.int (Int32.ofNat j))])) (fun _ k => XS.icmpNo X0.here hx rfl (hb hby d19_19) rfl (teq hc19).2 (XS.iload X0.here hx rfl (hb hby d19_22) rfl k)) ?_
      refine own_retI X0 hx hlk hret (hb hby d19_24) ?_ (by decide) (by decide)
      rw [e0]
      exact ⟨by rw [show own_ixg j (x :: r) = Int32.ofNat j from by simp only [own_ixg, if_pos ((own_b58 (hxs _ (own_mem hj2)) (hlat _ (own_mem hj2))).mp hc19)]], Nf, rfl⟩
    · refine own_go (x' := s₁.setTop (mkF m 7 #[.val (.ref ao0), .val (.int 58), .val (.int 0), .val (.int (Int32.ofNat xs.length)), .val (.int 58), .val (.int ((Int32.ofNat j) + (1 : Int32)))] [])) (fun _ k => XS.icmpYes X0.here hx rfl (pc0 := 19) (pc' := 25) rfl (hb hby d19_19) rfl (feq hc19).2 (by decide) (by decide) (XS.iinc X0.here hx rfl (hb hby d19_25) rfl (l' := #[.val (.ref ao0), .val (.int 58), .val (.int 0), .val (.int (Int32.ofNat xs.length)), .val (.int 58), .val (.int ((Int32.ofNat j) + (1 : Int32)))]) rfl (XS.goto X0.here hx rfl (pc0 := 28) (pc' := 7) rfl (hb hby d19_28) (by decide) (by decide) k))) ?_
      rw [own_oinc j (by omega)]
      have hx58 : ¬ x = 58 := mt (own_b58 (hxs _ (own_mem hj2)) (hlat _ (own_mem hj2))).mpr hc19
      exact own_mono (fun v h L q => ⟨by rw [q.1]; simp only [own_ixg, if_neg hx58], q.2.1, q.2.2⟩) (ih (j + 1) h0 _ _ X0 e0 Nf Zs V_ao0 hj3 hj1)
theorem d19_0 : decode jdk_43_method_23_code 0 = .ok (.iload_n 1, 1) := by decide +kernel
theorem d19_1 : decode jdk_43_method_23_code 1 = .ok (.i2b, 1) := by decide +kernel
theorem d19_2 : decode jdk_43_method_23_code 2 = .ok (.istore 4, 2) := by decide +kernel
theorem d19_4 : decode jdk_43_method_23_code 4 = .ok (.iload_n 2, 1) := by decide +kernel
theorem d19_5 : decode jdk_43_method_23_code 5 = .ok (.istore 5, 2) := by decide +kernel
def Q_rm19 (Z : State) (ao0 : Addr) (kd : ClassId) (xs : List Int32) (h0 : Heap) (n0 : Nat) (v : Option Value) (h : Heap) (L : List Loc) : Prop := v = some (.int (own_ix xs)) ∧ Fr n0 L ∧ h = h0
theorem pn_rm19 : plainName "java/lang/StringLatin1" = true := by first | (simp [plainName, overriddenIn]; done) | decide +kernel
theorem ef_rm19 (m : MethodId) (x0 : Addr) (x1 : Int32) (x2 : Int32) (x3 : Int32) : entryFrame m #[(.ref x0), (.int x1), (.int x2), (.int x3)] 6 = mkF m 0 #[.val (.ref x0), .val (.int x1), .val (.int x2), .val (.int x3), .unset, .unset] [] := by first | (simp [entryFrame, mkF, argsToLocals, Value.category]; done) | rfl
set_option maxRecDepth 65536 in
set_option maxHeartbeats 40000000 in
theorem rm19 (l : Launch) (Z : State) (a0 : Array Value) (hw : ∀ d ∈ tables_1, d.before a0 Z = true) (ws : List Jvm.Cond) (ao0 : Addr) (kd : ClassId) (xs : List Int32) (h0 : Heap) (n0 : Nat) (Z0 : n0 ≤ h0.size) (V_ao0 : Arv Z h0 ao0 kd .byte (Int32.ofNat xs.length) (own_lat xs) (.int (0 : Int32))) (hxs : ∀ x ∈ xs, own_ch x) (hlat : ∀ x ∈ xs, ¬ (255 : Int32) < x) (hlen : xs.length ≤ 6) :
    MetFree l (⟨"java/lang/StringLatin1", "indexOfChar", "([BIII)I"⟩ : MethodName) (head1 (Jvm.Cond.code (⟨"java/lang/StringLatin1", "indexOfChar", "([BIII)I"⟩ : MethodName) jdk_43_method_23_code 6 (some .int) :: ws) ({ frames := 0, cells := 0, slots := 0, locals := 0 } : Room)) (fun a U => a = #[(.ref ao0), (.int 58), (.int 0), (.int (Int32.ofNat xs.length))] ∧ Z.Warmed39 U.vm ∧ U.heap = h0) (fun _ _ _ _ _ => True) (fun _ U o U' => ∃ v L, o = .returned v ∧ (Q_rm19 Z ao0 kd xs h0 n0) v U'.heap L ∧ FrameEnd U o U' L ({ frames := 0, cells := 0, slots := 0, locals := 0 } : Room).cells ({ frames := 0, cells := 0, slots := 0, locals := 0 } : Room).slots) := by
  refine MetFree.of_bodySF (plainFor_of_name pn_rm19) hisR ?_
  intro p e s m args below meth c s₁ Bd hml0 hP hK
  obtain ⟨rfl, hZ, hh⟩ := hP
  have hx := Bd.exec
  have hby := Bd.bytes
  have hlk := BodyLoose.notSynchronized Bd
  have hret := Bd.returns
  have hml : c.maxLocals = 6 := hml0
  have hown : s.vm.findClass "java/lang/StringLatin1" = some m.cls := findClass_of_methodNamed Bd.named
  have hnm := (name_of_methodNamed Bd.named Bd.method).1
  have X0 : Stand p l e ({ frames := 0, cells := 0, slots := 0, locals := 0 } : Room) s m #[(.ref ao0), (.int 58), (.int 0), (.int (Int32.ofNat xs.length))] below meth c s₁ [] 0 0 := Stand.of_body Bd
  have e0 : s₁.heap = h0 := by rw [← hh, Bd.state]; rfl
  have Nf := Fr.nil n0
  have Zs := Z0
  have Kp : Keep h0 h0 [] := Keep.refl _ _
  show own_End p e below s (Q_rm19 Z ao0 kd xs h0 n0) ({ frames := 0, cells := 0, slots := 0, locals := 0 } : Room).cells ({ frames := 0, cells := 0, slots := 0, locals := 0 } : Room).slots (s₁.setTop (entryFrame m #[(.ref ao0), (.int 58), (.int 0), (.int (Int32.ofNat xs.length))] 6))
  refine own_go (x' := s₁.setTop (mkF m 0 #[.val (.ref ao0), .val (.int 58), .val (.int 0), .val (.int (Int32.ofNat xs.length)), .unset, .unset] [])) (fun t k => castTop (ef_rm19 m ao0 (58 : Int32) (0 : Int32) (Int32.ofNat xs.length)) k) ?_
  refine own_go (x' := s₁.setTop (mkF m 4 #[.val (.ref ao0), .val (.int 58), .val (.int 0), .val (.int (Int32.ofNat xs.length)), .val (.int ((58 : Int32).toInt8.toInt32)), .unset] [])) (fun _ k => XS.iloadN X0.here hx rfl (hb hby d19_0) rfl (XS.i2b X0.here hx rfl (hb hby d19_1) rfl (XS.istore X0.here hx rfl (hb hby d19_2) rfl (l' := #[.val (.ref ao0), .val (.int 58), .val (.int 0), .val (.int (Int32.ofNat xs.length)), .val (.int ((58 : Int32).toInt8.toInt32)), .unset]) rfl k))) ?_
  rw [show ((58 : Int32).toInt8.toInt32) = (58 : Int32) from by decide +kernel]
  refine own_go (x' := s₁.setTop (mkF m 7 #[.val (.ref ao0), .val (.int 58), .val (.int 0), .val (.int (Int32.ofNat xs.length)), .val (.int 58), .val (.int 0)] [])) (fun _ k => XS.iloadN X0.here hx rfl (hb hby d19_4) rfl (XS.istore X0.here hx rfl (hb hby d19_5) rfl (l' := #[.val (.ref ao0), .val (.int 58), .val (.int 0), .val (.int (Int32.ofNat xs.length)), .val (.int 58), .val (.int 0)]) rfl k)) ?_
  exact seg19 hx hlk hret hZ hw hby hml hown hnm ao0 kd xs n0 hxs hlat hlen xs 0 h0 _ _ X0 e0 Nf Zs V_ao0 rfl (Nat.zero_le _)
theorem pd_7 : parseMethodDescriptor "(I)Z" = some ⟨[.int], some .boolean⟩ := by decide +kernel
theorem pd_8 : parseMethodDescriptor "(II)I" = some ⟨[.int, .int], some .int⟩ := by decide +kernel
theorem pd_9 : parseMethodDescriptor "([BIII)I" = some ⟨[(.array .byte), .int, .int, .int], some .int⟩ := by decide +kernel
theorem d11_0 : decode jdk_43_method_22_code 0 = .ok (.iload_n 1, 1) := by decide +kernel
theorem d11_1 : decode jdk_43_method_22_code 1 = .ok (.invokestatic 88, 3) := by decide +kernel
theorem d11_4 : decode jdk_43_method_22_code 4 = .ok (.ifCond .ne 5, 3) := by decide +kernel
theorem d11_9 : decode jdk_43_method_22_code 9 = .ok (.iload_n 2, 1) := by decide +kernel
theorem d11_10 : decode jdk_43_method_22_code 10 = .ok (.iconst 0, 1) := by decide +kernel
theorem d11_11 : decode jdk_43_method_22_code 11 = .ok (.invokestatic 92, 3) := by decide +kernel
theorem d11_14 : decode jdk_43_method_22_code 14 = .ok (.istore_n 2, 1) := by decide +kernel
theorem d11_15 : decode jdk_43_method_22_code 15 = .ok (.iload_n 3, 1) := by decide +kernel
theorem d11_16 : decode jdk_43_method_22_code 16 = .ok (.aload_n 0, 1) := by decide +kernel
theorem d11_17 : decode jdk_43_method_22_code 17 = .ok (.arraylength, 1) := by decide +kernel
theorem d11_18 : decode jdk_43_method_22_code 18 = .ok (.invokestatic 38, 3) := by decide +kernel
theorem d11_21 : decode jdk_43_method_22_code 21 = .ok (.istore_n 3, 1) := by decide +kernel
theorem d11_22 : decode jdk_43_method_22_code 22 = .ok (.iload_n 2, 1) := by decide +kernel
theorem d11_23 : decode jdk_43_method_22_code 23 = .ok (.iload_n 3, 1) := by decide +kernel
theorem d11_24 : decode jdk_43_method_22_code 24 = .ok (.if_icmp .lt 5, 3) := by decide +kernel
theorem d11_27 : decode jdk_43_method_22_code 27 = .ok (.iconst (-1), 1) := by decide +kernel
theorem d11_28 : decode jdk_43_method_22_code 28 = .ok (.ireturn, 1) := by decide +kernel
theorem d11_29 : decode jdk_43_method_22_code 29 = .ok (.aload_n 0, 1) := by decide +kernel
theorem d11_30 : decode jdk_43_method_22_code 30 = .ok (.iload_n 1, 1) := by decide +kernel
theorem d11_31 : decode jdk_43_method_22_code 31 = .ok (.iload_n 2, 1) := by decide +kernel
theorem d11_32 : decode jdk_43_method_22_code 32 = .ok (.iload_n 3, 1) := by decide +kernel
theorem d11_33 : decode jdk_43_method_22_code 33 = .ok (.invokestatic 95, 3) := by decide +kernel
theorem d11_36 : decode jdk_43_method_22_code 36 = .ok (.ireturn, 1) := by decide +kernel
def Q_rm11 (Z : State) (ao0 : Addr) (kd : ClassId) (xs : List Int32) (h0 : Heap) (n0 : Nat) (v : Option Value) (h : Heap) (L : List Loc) : Prop := v = some (.int (own_ix xs)) ∧ Fr n0 L ∧ h = h0
theorem pn_rm11 : plainName "java/lang/StringLatin1" = true := by first | (simp [plainName, overriddenIn]; done) | decide +kernel
theorem ef_rm11 (m : MethodId) (x0 : Addr) (x1 : Int32) (x2 : Int32) (x3 : Int32) : entryFrame m #[(.ref x0), (.int x1), (.int x2), (.int x3)] 4 = mkF m 0 #[.val (.ref x0), .val (.int x1), .val (.int x2), .val (.int x3)] [] := by first | (simp [entryFrame, mkF, argsToLocals, Value.category]; done) | rfl
set_option maxRecDepth 65536 in
set_option maxHeartbeats 40000000 in
theorem rm11 (l : Launch) (Z : State) (a0 : Array Value) (hw : ∀ d ∈ tables_1, d.before a0 Z = true) (ws : List Jvm.Cond) (ao0 : Addr) (kd : ClassId) (xs : List Int32) (h0 : Heap) (n0 : Nat) (Z0 : n0 ≤ h0.size) (V_ao0 : Arv Z h0 ao0 kd .byte (Int32.ofNat xs.length) (own_lat xs) (.int (0 : Int32))) (hxs : ∀ x ∈ xs, own_ch x) (hlat : ∀ x ∈ xs, ¬ (255 : Int32) < x) (hlen : xs.length ≤ 6) :
    MetFree l (⟨"java/lang/StringLatin1", "indexOf", "([BIII)I"⟩ : MethodName) (head1 (Jvm.Cond.code (⟨"java/lang/StringLatin1", "indexOf", "([BIII)I"⟩ : MethodName) jdk_43_method_22_code 4 (some .int) :: ws) ({ frames := 1, cells := 0, slots := 0, locals := 17 } : Room)) (fun a U => a = #[(.ref ao0), (.int 58), (.int 0), (.int (Int32.ofNat xs.length))] ∧ Z.Warmed39 U.vm ∧ U.heap = h0) (fun _ _ _ _ _ => True) (fun _ U o U' => ∃ v L, o = .returned v ∧ (Q_rm11 Z ao0 kd xs h0 n0) v U'.heap L ∧ FrameEnd U o U' L ({ frames := 1, cells := 0, slots := 0, locals := 17 } : Room).cells ({ frames := 1, cells := 0, slots := 0, locals := 17 } : Room).slots) := by
  refine MetFree.of_bodySF (plainFor_of_name pn_rm11) hisR ?_
  intro p e s m args below meth c s₁ Bd hml0 hP hK
  obtain ⟨rfl, hZ, hh⟩ := hP
  have hx := Bd.exec
  have hby := Bd.bytes
  have hlk := BodyLoose.notSynchronized Bd
  have hret := Bd.returns
  have hml : c.maxLocals = 4 := hml0
  have hown : s.vm.findClass "java/lang/StringLatin1" = some m.cls := findClass_of_methodNamed Bd.named
  have hnm := (name_of_methodNamed Bd.named Bd.method).1
  have X0 : Stand p l e ({ frames := 1, cells := 0, slots := 0, locals := 17 } : Room) s m #[(.ref ao0), (.int 58), (.int 0), (.int (Int32.ofNat xs.length))] below meth c s₁ [] 0 0 := Stand.of_body Bd
  have e0 : s₁.heap = h0 := by rw [← hh, Bd.state]; rfl
  have Nf := Fr.nil n0
  have Zs := Z0
  have Kp : Keep h0 h0 [] := Keep.refl _ _
  show own_End p e below s (Q_rm11 Z ao0 kd xs h0 n0) ({ frames := 1, cells := 0, slots := 0, locals := 17 } : Room).cells ({ frames := 1, cells := 0, slots := 0, locals := 17 } : Room).slots (s₁.setTop (entryFrame m #[(.ref ao0), (.int 58), (.int 0), (.int (Int32.ofNat xs.length))] 4))
  refine own_go (x' := s₁.setTop (mkF m 0 #[.val (.ref ao0), .val (.int 58), .val (.int 0), .val (.int (Int32.ofNat xs.length))] [])) (fun t k => castTop (ef_rm11 m ao0 (58 : Int32) (0 : Int32) (Int32.ofNat xs.length)) k) ?_
  refine own_go (x' := s₁.setTop (mkF m 1 #[.val (.ref ao0), .val (.int 58), .val (.int 0), .val (.int (Int32.ofNat xs.length))] [(.int 58)])) (fun _ k => XS.iloadN X0.here hx rfl (hb hby d11_0) rfl k) ?_
  obtain ⟨_, _, ⟨T1, L1, k1, n1⟩, -, X1, ⟨Lc1, hQ1, l1, y1, z1⟩, st1⟩ := Jvm.LawKit.callS X0 hx (y := (⟨"java/lang/StringLatin1", "canEncode", "(I)Z"⟩ : MethodName)) hown (mvT hZ (own_w hw 61 rfl)) (mvT hZ (own_w hw 62 rfl)) (mvT hZ (own_w hw 59 rfl)) (mvT hZ (own_w hw 63 rfl)) (by decide) (backOf (W := 0) (rm12k l Z a0 hw []   h0 n0 Zs  ) hZ (own_w hw 63 rfl) (own_w hw 59 rfl) (by decide) (by decide)) (g := (mkF m 1 #[.val (.ref ao0), .val (.int 58), .val (.int 0), .val (.int (Int32.ofNat xs.length))] [(.int 58)])) rfl (by rw [hml]; rfl) (argsL := [(.int 58)]) (rest := []) (lenOf pd_7 rfl) rfl (by show 2 * 0 + _ ≤ _; exact Nat.le_of_eq rfl) (hb hby d11_1) (fun _ _ => ⟨rfl, e0, (by decide : 0 + 0 ≤ _), (by decide : 0 + 0 ≤ _)⟩)
  dsimp only [Pt.U, Pt.locs, Pt.cells, Pt.slots] at X1 l1 y1 z1 st1 hQ1
  subst l1 y1 z1
  obtain ⟨hv1, Nq1, eq1⟩ := hQ1
  subst hv1
  replace Nf := Fr.app Nf Nq1
  refine own_go (x' := T1.setTop (mkF m 4 #[.val (.ref ao0), .val (.int 58), .val (.int 0), .val (.int (Int32.ofNat xs.length))] [(.int 1)])) st1 ?_
  refine own_go (x' := T1.setTop (mkF m 11 #[.val (.ref ao0), .val (.int 58), .val (.int 0), .val (.int (Int32.ofNat xs.length))] [(.int 0), (.int 0)])) (fun _ k => XS.ifYes X1.here hx rfl (pc0 := 4) (pc' := 9) rfl (hb hby d11_4) rfl ((if0 _ _).trans (feq (by decide +kernel : ¬ ((1 : Int32) = (0 : Int32)))).2) (by decide) (by decide) (XS.iloadN X1.here hx rfl (hb hby d11_9) rfl (XS.iconst X1.here hx rfl (hb hby d11_10) k))) ?_
  obtain ⟨_, _, ⟨T2, L2, k2, n2⟩, -, X2, ⟨Lc2, hQ2, l2, y2, z2⟩, st2⟩ := Jvm.LawKit.callS X1 hx (y := (⟨"java/lang/Math", "max", "(II)I"⟩ : MethodName)) hown (mvT hZ (own_w hw 64 rfl)) (mvT hZ (own_w hw 65 rfl)) (mvT hZ (own_w hw 66 rfl)) (mvT hZ (own_w hw 67 rfl)) (by decide) (backOf (W := 0) (rm13 l Z a0 hw [] (0 : Int32)  h0 n0 Zs  ) hZ (own_w hw 67 rfl) (own_w hw 66 rfl) (by decide) (by decide)) (g := (mkF m 11 #[.val (.ref ao0), .val (.int 58), .val (.int 0), .val (.int (Int32.ofNat xs.length))] [(.int 0), (.int 0)])) rfl (by rw [hml]; rfl) (argsL := [(.int 0), (.int 0)]) (rest := []) (lenOf pd_8 rfl) rfl (by show 2 * 0 + _ ≤ _; exact Nat.le_of_eq rfl) (hb hby d11_11) (fun _ _ => ⟨rfl, eq1, (by decide : 0 + 0 ≤ _), (by decide : 0 + 0 ≤ _)⟩)
  dsimp only [Pt.U, Pt.locs, Pt.cells, Pt.slots] at X2 l2 y2 z2 st2 hQ2
  subst l2 y2 z2
  obtain ⟨hv2, Nq2, eq2⟩ := hQ2
  subst hv2
  replace Nf := Fr.app Nf Nq2
  refine own_go (x' := T2.setTop (mkF m 14 #[.val (.ref ao0), .val (.int 58), .val (.int 0), .val (.int (Int32.ofNat xs.length))] [(.int 0)])) st2 ?_
  refine own_go (x' := T2.setTop (mkF m 17 #[.val (.ref ao0), .val (.int 58), .val (.int 0), .val (.int (Int32.ofNat xs.length))] [(.ref ao0), (.int (Int32.ofNat xs.length))])) (fun _ k => XS.istoreN X2.here hx rfl (hb hby d11_14) rfl (l' := #[.val (.ref ao0), .val (.int 58), .val (.int 0), .val (.int (Int32.ofNat xs.length))]) rfl (XS.iloadN X2.here hx rfl (hb hby d11_15) rfl (XS.aloadN X2.here hx rfl (hb hby d11_16) rfl rfl k))) ?_
  obtain ⟨cl3, Ar3, -, Sz3, Nn3, -, -⟩ := id V_ao0
  refine own_go (x' := T2.setTop (mkF m 18 #[.val (.ref ao0), .val (.int 58), .val (.int 0), .val (.int (Int32.ofNat xs.length))] [(.int (Int32.ofNat xs.length)), (.int (Int32.ofNat xs.length))])) (fun t k => X2.arraylength hx (Eq.trans (congrArg (fun h_ => h_[_]?) eq2) Ar3.1) (State.isArrayOf_alike hZ.alike Ar3.2.1) (g := (mkF m 17 #[.val (.ref ao0), .val (.int 58), .val (.int 0), .val (.int (Int32.ofNat xs.length))] [(.ref ao0), (.int (Int32.ofNat xs.length))])) rfl rfl (hb hby d11_17) t (by rw [len_of Sz3 Nn3]; exact k)) ?_
  obtain ⟨_, _, ⟨T4, L4, k4, n4⟩, -, X4, ⟨Lc4, hQ4, l4, y4, z4⟩, st4⟩ := Jvm.LawKit.callS X2 hx (y := (⟨"java/lang/Math", "min", "(II)I"⟩ : MethodName)) hown (mvT hZ (own_w hw 68 rfl)) (mvT hZ (own_w hw 69 rfl)) (mvT hZ (own_w hw 66 rfl)) (mvT hZ (own_w hw 70 rfl)) (by decide) (backOf (W := 0) (rm14 l Z a0 hw [] (Int32.ofNat xs.length)  h0 n0 Zs  ) hZ (own_w hw 70 rfl) (own_w hw 66 rfl) (by decide) (by decide)) (g := (mkF m 18 #[.val (.ref ao0), .val (.int 58), .val (.int 0), .val (.int (Int32.ofNat xs.length))] [(.int (Int32.ofNat xs.length)), (.int (Int32.ofNat xs.length))])) rfl (by rw [hml]; rfl) (argsL := [(.int (Int32.ofNat xs.length)), (.int (Int32.ofNat xs.length))]) (rest := []) (lenOf pd_8 rfl) rfl (by show 2 * 0 + _ ≤ _; exact Nat.le_of_eq rfl) (hb hby d11_18) (fun _ _ => ⟨rfl, eq2, (by decide : 0 + 0 ≤ _), (by decide : 0 + 0 ≤ _)⟩)
  dsimp only [Pt.U, Pt.locs, Pt.cells, Pt.slots] at X4 l4 y4 z4 st4 hQ4
  subst l4 y4 z4
  obtain ⟨hv4, Nq4, eq4⟩ := hQ4
  subst hv4
  replace Nf := Fr.app Nf Nq4
  refine own_go (x' := T4.setTop (mkF m 21 #[.val (.ref ao0), .val (.int 58), .val (.int 0), .val (.int (Int32.ofNat xs.length))] [(.int (Int32.ofNat xs.length))])) st4 ?_
  refine own_go (x' := T4.setTop (mkF m 24 #[.val (.ref ao0), .val (.int 58), .val (.int 0), .val (.int (Int32.ofNat xs.length))] [(.int (Int32.ofNat xs.length)), (.int 0)])) (fun _ k => XS.istoreN X4.here hx rfl (hb hby d11_21) rfl (l' := #[.val (.ref ao0), .val (.int 58), .val (.int 0), .val (.int (Int32.ofNat xs.length))]) rfl (XS.iloadN X4.here hx rfl (hb hby d11_22) rfl (XS.iloadN X4.here hx rfl (hb hby d11_23) rfl k))) ?_
  by_cases hc24 : (0 : Int32) < (Int32.ofNat xs.length)
  · refine own_go (x' := T4.setTop (mkF m 33 #[.val (.ref ao0), .val (.int 58), .val (.int 0), .val (.int (Int32.ofNat xs.length))] [(.int (Int32.ofNat xs.length)), (.int 0), (.int 58), (.ref ao0)])) (fun _ k => XS.icmpYes X4.here hx rfl (pc0 := 24) (pc' := 29) rfl (hb hby d11_24) rfl (tlt hc24).1 (by decide) (by decide) (XS.aloadN X4.here hx rfl (hb hby d11_29) rfl rfl (XS.iloadN X4.here hx rfl (hb hby d11_30) rfl (XS.iloadN X4.here hx rfl (hb hby d11_31) rfl (XS.iloadN X4.here hx rfl (hb hby d11_32) rfl k))))) ?_
    obtain ⟨_, _, ⟨T5, L5, k5, n5⟩, -, X5, ⟨Lc5, hQ5, l5, y5, z5⟩, st5⟩ := Jvm.LawKit.callS X4 hx (y := (⟨"java/lang/StringLatin1", "indexOfChar", "([BIII)I"⟩ : MethodName)) hown (mvT hZ (own_w hw 85 rfl)) (mvT hZ (own_w hw 86 rfl)) (mvT hZ (own_w hw 59 rfl)) (mvT hZ (own_w hw 87 rfl)) (by decide) (backOf (W := 0) (rm19 l Z a0 hw [] ao0 kd xs  h0 n0 Zs V_ao0 hxs hlat hlen ) hZ (own_w hw 87 rfl) (own_w hw 59 rfl) (by decide) (by decide)) (g := (mkF m 33 #[.val (.ref ao0), .val (.int 58), .val (.int 0), .val (.int (Int32.ofNat xs.length))] [(.int (Int32.ofNat xs.length)), (.int 0), (.int 58), (.ref ao0)])) rfl (by rw [hml]; rfl) (argsL := [(.ref ao0), (.int 58), (.int 0), (.int (Int32.ofNat xs.length))]) (rest := []) (lenOf pd_9 rfl) rfl (by show 2 * 0 + _ ≤ _; exact Nat.le_of_eq rfl) (hb hby d11_33) (fun _ _ => ⟨rfl, eq4, (by decide : 0 + 0 ≤ _), (by decide : 0 + 0 ≤ _)⟩)
    dsimp only [Pt.U, Pt.locs, Pt.cells, Pt.slots] at X5 l5 y5 z5 st5 hQ5
    subst l5 y5 z5
    obtain ⟨hv5, Nq5, eq5⟩ := hQ5
    subst hv5
    replace Nf := Fr.app Nf Nq5
    refine own_go (x' := T5.setTop (mkF m 36 #[.val (.ref ao0), .val (.int 58), .val (.int 0), .val (.int (Int32.ofNat xs.length))] [(.int (own_ix xs))])) st5 ?_
    refine own_retI X5 hx hlk hret (hb hby d11_36) ?_ (by decide) (by decide)
    rw [eq5]
    exact ⟨rfl, Nf, rfl⟩
  · refine own_go (x' := T4.setTop (mkF m 28 #[.val (.ref ao0), .val (.int 58), .val (.int 0), .val (.int (Int32.ofNat xs.length))] [(.int (-1))])) (fun _ k => XS.icmpNo X4.here hx rfl (hb hby d11_24) rfl (flt hc24).1 (XS.iconst X4.here hx rfl (hb hby d11_27) k)) ?_
    refine own_retI X4 hx hlk hret (hb hby d11_28) ?_ (by decide) (by decide)
    rw [eq4]
    exact ⟨by rw [own_ix0 hlen hc24], Nf, rfl⟩
def own_fb (x : Int32) : Prop := x = 60 ∨ x = 62 ∨ x = 34 ∨ x = 123 ∨ x = 125 ∨ x = 124 ∨ x = 94 ∨ x = 96 ∨ x = 92
theorem own_bk {x k : Int32} (h : own_ch x) (h2 : ¬ (255 : Int32) < x) (hk : ¬ k < 0 ∧ ¬ (127 : Int32) < k) : k = x.toInt8.toInt32 ↔ x = k := by
  have q := c_i2b x
  have h1 := mt own_lt.mpr h.1
  have h2 := mt own_lt.mpr h2
  have h3 := mt own_lt.mpr hk.1
  have h4 := mt own_lt.mpr hk.2
  rw [own_k0] at h1 h3
  rw [own_k255] at h2
  rw [show (127 : Int32).toInt = 127 from by decide] at h4
  constructor
  · intro u
    have u := congrArg Int32.toInt u
    exact Int32.toInt_inj.mp (by omega)
  · intro u
    have u := congrArg Int32.toInt u
    exact Int32.toInt_inj.mp (by omega)
theorem own_ce0 {x : Int32} (h : own_ch x) : own_ce x = 0 ↔ (255 : Int32) < x := by
  simp only [own_ce, if_neg h.1]
  by_cases q : (255 : Int32) < x
  · simp [q]
  · simp [q]
theorem own_fb0 {x : Int32} (h : (255 : Int32) < x) : ¬ own_fb x := by
  have h := own_lt.mp h
  rw [own_k255] at h
  rintro (q | q | q | q | q | q | q | q | q) <;> (rw [q] at h; revert h; decide)
def Q_rm19f (Z : State) (ao0 : Addr) (kd : ClassId) (p1 : Int32) (h0 : Heap) (n0 : Nat) (v : Option Value) (h : Heap) (L : List Loc) : Prop := ∃ r : Int32, v = some (.int r) ∧ ((r < 0 ∧ ¬ own_fb p1) ∨ (¬ r < 0 ∧ own_fb p1)) ∧ Fr n0 L ∧ h = h0
theorem pn_rm19f : plainName "java/lang/StringLatin1" = true := by first | (simp [plainName, overriddenIn]; done) | decide +kernel
theorem ef_rm19f (m : MethodId) (x0 : Addr) (x1 : Int32) (x2 : Int32) (x3 : Int32) : entryFrame m #[(.ref x0), (.int x1), (.int x2), (.int x3)] 6 = mkF m 0 #[.val (.ref x0), .val (.int x1), .val (.int x2), .val (.int x3), .unset, .unset] [] := by first | (simp [entryFrame, mkF, argsToLocals, Value.category]; done) | rfl
set_option maxRecDepth 65536 in
set_option maxHeartbeats 40000000 in
theorem rm19f (l : Launch) (Z : State) (a0 : Array Value) (hw : ∀ d ∈ tables_1, d.before a0 Z = true) (ws : List Jvm.Cond) (ao0 : Addr) (kd : ClassId) (p1 : Int32) (h0 : Heap) (n0 : Nat) (Z0 : n0 ≤ h0.size) (V_ao0 : Arv Z h0 ao0 kd .byte (9 : Int32) [(.int 60), (.int 62), (.int 34), (.int 123), (.int 125), (.int 124), (.int 94), (.int 96), (.int 92)] (.int (0 : Int32))) (hp : own_ch p1 ∧ ¬ (255 : Int32) < p1) :
    MetFree l (⟨"java/lang/StringLatin1", "indexOfChar", "([BIII)I"⟩ : MethodName) (head1 (Jvm.Cond.code (⟨"java/lang/StringLatin1", "indexOfChar", "([BIII)I"⟩ : MethodName) jdk_43_method_23_code 6 (some .int) :: ws) ({ frames := 0, cells := 0, slots := 0, locals := 0 } : Room)) (fun a U => a = #[(.ref ao0), (.int p1), (.int 0), (.int 9)] ∧ Z.Warmed39 U.vm ∧ U.heap = h0) (fun _ _ _ _ _ => True) (fun _ U o U' => ∃ v L, o = .returned v ∧ (Q_rm19f Z ao0 kd p1 h0 n0) v U'.heap L ∧ FrameEnd U o U' L ({ frames := 0, cells := 0, slots := 0, locals := 0 } : Room).cells ({ frames := 0, cells := 0, slots := 0, locals := 0 } : Room).slots) := by
  refine MetFree.of_bodySF (plainFor_of_name pn_rm19f) hisR ?_
  intro p e s m args below meth c s₁ Bd hml0 hP hK
  obtain ⟨rfl, hZ, hh⟩ := hP
  have hx := Bd.exec
  have hby := Bd.bytes
  have hlk := BodyLoose.notSynchronized Bd
  have hret := Bd.returns
  have hml : c.maxLocals = 6 := hml0
  have hown : s.vm.findClass "java/lang/StringLatin1" = some m.cls := findClass_of_methodNamed Bd.named
  have hnm := (name_of_methodNamed Bd.named Bd.method).1
  have X0 : Stand p l e ({ frames := 0, cells := 0, slots := 0, locals := 0 } : Room) s m #[(.ref ao0), (.int p1), (.int 0), (.int 9)] below meth c s₁ [] 0 0 := Stand.of_body Bd
  have e0 : s₁.heap = h0 := by rw [← hh, Bd.state]; rfl
  have Nf := Fr.nil n0
  have Zs := Z0
  have Kp : Keep h0 h0 [] := Keep.refl _ _
  show own_End p e below s (Q_rm19f Z ao0 kd p1 h0 n0) ({ frames := 0, cells := 0, slots := 0, locals := 0 } : Room).cells ({ frames := 0, cells := 0, slots := 0, locals := 0 } : Room).slots (s₁.setTop (entryFrame m #[(.ref ao0), (.int p1), (.int 0), (.int 9)] 6))
  refine own_go (x' := s₁.setTop (mkF m 0 #[.val (.ref ao0), .val (.int p1), .val (.int 0), .val (.int 9), .unset, .unset] [])) (fun t k => castTop (ef_rm19f m ao0 p1 (0 : Int32) (9 : Int32)) k) ?_
  refine own_go (x' := s₁.setTop (mkF m 9 #[.val (.ref ao0), .val (.int p1), .val (.int 0), .val (.int 9), .val (.int (p1.toInt8.toInt32)), .val (.int 0)] [(.int 0)])) (fun _ k => XS.iloadN X0.here hx rfl (hb hby d19_0) rfl (XS.i2b X0.here hx rfl (hb hby d19_1) rfl (XS.istore X0.here hx rfl (hb hby d19_2) rfl (l' := #[.val (.ref ao0), .val (.int p1), .val (.int 0), .val (.int 9), .val (.int (p1.toInt8.toInt32)), .unset]) rfl (XS.iloadN X0.here hx rfl (hb hby d19_4) rfl (XS.istore X0.here hx rfl (hb hby d19_5) rfl (l' := #[.val (.ref ao0), .val (.int p1), .val (.int 0), .val (.int 9), .val (.int (p1.toInt8.toInt32)), .val (.int 0)]) rfl (XS.iload X0.here hx rfl (hb hby d19_7) rfl k)))))) ?_
  refine own_go (x' := s₁.setTop (mkF m 16 #[.val (.ref ao0), .val (.int p1), .val (.int 0), .val (.int 9), .val (.int (p1.toInt8.toInt32)), .val (.int 0)] [(.int 0), (.ref ao0)])) (fun _ k => XS.iloadN X0.here hx rfl (hb hby d19_9) rfl (XS.icmpNo X0.here hx rfl (hb hby d19_10) rfl (tlt (by decide +kernel : ((0 : Int32) < (9 : Int32)))).2.1 (XS.aloadN X0.here hx rfl (hb hby d19_13) rfl rfl (XS.iload X0.here hx rfl (hb hby d19_14) rfl k)))) ?_
  obtain ⟨cl1, Ar1, q1, Sz1, Nn1, Hh1, Gg1⟩ := id V_ao0
  have hin1 : ¬ ((0 : Int32) < 0 ∨ cl1.slots.size ≤ ((0 : Int32)).toNatClampNeg) := inb_of Sz1 ⟨by decide, by decide⟩
  refine own_go (x' := s₁.setTop (mkF m 17 #[.val (.ref ao0), .val (.int p1), .val (.int 0), .val (.int 9), .val (.int (p1.toInt8.toInt32)), .val (.int 0)] [(.int 60)])) (X0.baloadBytes hx (j := (0 : Int32)) (v := (.int 60)) (Eq.trans (congrArg (fun h_ => h_[_]?) e0) Ar1.1) (State.isArrayOf_alike hZ.alike Ar1.2.1) Ar1.2.2 hin1 (Hh1.at hin1 rfl) (g := (mkF m 16 #[.val (.ref ao0), .val (.int p1), .val (.int 0), .val (.int 9), .val (.int (p1.toInt8.toInt32)), .val (.int 0)] [(.int 0), (.ref ao0)])) rfl rfl (hb hby d19_16)) ?_
  refine own_go (x' := s₁.setTop (mkF m 19 #[.val (.ref ao0), .val (.int p1), .val (.int 0), .val (.int 9), .val (.int (p1.toInt8.toInt32)), .val (.int 0)] [(.int (p1.toInt8.toInt32)), (.int 60)])) (fun _ k => XS.iload X0.here hx rfl (hb hby d19_17) rfl k) ?_
  by_cases hc19 : (60 : Int32) = (p1.toInt8.toInt32)
  · refine own_go (x' := s₁.setTop (mkF m 24 #[.val (.ref ao0), .val (.int p1), .val (.int 0), .val (.int 9), .val (.int (p1.toInt8.toInt32)), .val (.int 0)] [(.int 0)])) (fun _ k => XS.icmpNo X0.here hx rfl (hb hby d19_19) rfl (teq hc19).2 (XS.iload X0.here hx rfl (hb hby d19_22) rfl k)) ?_
    refine own_retI X0 hx hlk hret (hb hby d19_24) ?_ (by decide) (by decide)
    rw [e0]
    have eb0 : p1 = (60 : Int32) := (own_bk hp.1 hp.2 (by decide)).mp hc19
    exact ⟨_, rfl, Or.inr ⟨by decide, (Or.inl eb0)⟩, Nf, rfl⟩
  · refine own_go (x' := s₁.setTop (mkF m 7 #[.val (.ref ao0), .val (.int p1), .val (.int 0), .val (.int 9), .val (.int (p1.toInt8.toInt32)), .val (.int ((0 : Int32) + (1 : Int32)))] [])) (fun _ k => XS.icmpYes X0.here hx rfl (pc0 := 19) (pc' := 25) rfl (hb hby d19_19) rfl (feq hc19).2 (by decide) (by decide) (XS.iinc X0.here hx rfl (hb hby d19_25) rfl (l' := #[.val (.ref ao0), .val (.int p1), .val (.int 0), .val (.int 9), .val (.int (p1.toInt8.toInt32)), .val (.int ((0 : Int32) + (1 : Int32)))]) rfl (XS.goto X0.here hx rfl (pc0 := 28) (pc' := 7) rfl (hb hby d19_28) (by decide) (by decide) k))) ?_
    rw [show ((0 : Int32) + (1 : Int32)) = (1 : Int32) from by decide +kernel]
    refine own_go (x' := s₁.setTop (mkF m 16 #[.val (.ref ao0), .val (.int p1), .val (.int 0), .val (.int 9), .val (.int (p1.toInt8.toInt32)), .val (.int 1)] [(.int 1), (.ref ao0)])) (fun _ k => XS.iload X0.here hx rfl (hb hby d19_7) rfl (XS.iloadN X0.here hx rfl (hb hby d19_9) rfl (XS.icmpNo X0.here hx rfl (hb hby d19_10) rfl (tlt (by decide +kernel : ((1 : Int32) < (9 : Int32)))).2.1 (XS.aloadN X0.here hx rfl (hb hby d19_13) rfl rfl (XS.iload X0.here hx rfl (hb hby d19_14) rfl k))))) ?_
    obtain ⟨cl2, Ar2, q2, Sz2, Nn2, Hh2, Gg2⟩ := id V_ao0
    have hin2 : ¬ ((1 : Int32) < 0 ∨ cl2.slots.size ≤ ((1 : Int32)).toNatClampNeg) := inb_of Sz2 ⟨by decide, by decide⟩
    refine own_go (x' := s₁.setTop (mkF m 17 #[.val (.ref ao0), .val (.int p1), .val (.int 0), .val (.int 9), .val (.int (p1.toInt8.toInt32)), .val (.int 1)] [(.int 62)])) (X0.baloadBytes hx (j := (1 : Int32)) (v := (.int 62)) (Eq.trans (congrArg (fun h_ => h_[_]?) e0) Ar2.1) (State.isArrayOf_alike hZ.alike Ar2.2.1) Ar2.2.2 hin2 (Hh2.at hin2 rfl) (g := (mkF m 16 #[.val (.ref ao0), .val (.int p1), .val (.int 0), .val (.int 9), .val (.int (p1.toInt8.toInt32)), .val (.int 1)] [(.int 1), (.ref ao0)])) rfl rfl (hb hby d19_16)) ?_
    refine own_go (x' := s₁.setTop (mkF m 19 #[.val (.ref ao0), .val (.int p1), .val (.int 0), .val (.int 9), .val (.int (p1.toInt8.toInt32)), .val (.int 1)] [(.int (p1.toInt8.toInt32)), (.int 62)])) (fun _ k => XS.iload X0.here hx rfl (hb hby d19_17) rfl k) ?_
    by_cases hc19_3 : (62 : Int32) = (p1.toInt8.toInt32)
    · refine own_go (x' := s₁.setTop (mkF m 24 #[.val (.ref ao0), .val (.int p1), .val (.int 0), .val (.int 9), .val (.int (p1.toInt8.toInt32)), .val (.int 1)] [(.int 1)])) (fun _ k => XS.icmpNo X0.here hx rfl (hb hby d19_19) rfl (teq hc19_3).2 (XS.iload X0.here hx rfl (hb hby d19_22) rfl k)) ?_
      refine own_retI X0 hx hlk hret (hb hby d19_24) ?_ (by decide) (by decide)
      rw [e0]
      have eb0 : ¬ p1 = (60 : Int32) := mt (own_bk hp.1 hp.2 (by decide)).mpr hc19
      have eb1 : p1 = (62 : Int32) := (own_bk hp.1 hp.2 (by decide)).mp hc19_3
      exact ⟨_, rfl, Or.inr ⟨by decide, (Or.inr (Or.inl eb1))⟩, Nf, rfl⟩
    · refine own_go (x' := s₁.setTop (mkF m 7 #[.val (.ref ao0), .val (.int p1), .val (.int 0), .val (.int 9), .val (.int (p1.toInt8.toInt32)), .val (.int ((1 : Int32) + (1 : Int32)))] [])) (fun _ k => XS.icmpYes X0.here hx rfl (pc0 := 19) (pc' := 25) rfl (hb hby d19_19) rfl (feq hc19_3).2 (by decide) (by decide) (XS.iinc X0.here hx rfl (hb hby d19_25) rfl (l' := #[.val (.ref ao0), .val (.int p1), .val (.int 0), .val (.int 9), .val (.int (p1.toInt8.toInt32)), .val (.int ((1 : Int32) + (1 : Int32)))]) rfl (XS.goto X0.here hx rfl (pc0 := 28) (pc' := 7) rfl (hb hby d19_28) (by decide) (by decide) k))) ?_
      rw [show ((1 : Int32) + (1 : Int32)) = (2 : Int32) from by decide +kernel]
      refine own_go (x' := s₁.setTop (mkF m 16 #[.val (.ref ao0), .val (.int p1), .val (.int 0), .val (.int 9), .val (.int (p1.toInt8.toInt32)), .val (.int 2)] [(.int 2), (.ref ao0)])) (fun _ k => XS.iload X0.here hx rfl (hb hby d19_7) rfl (XS.iloadN X0.here hx rfl (hb hby d19_9) rfl (XS.icmpNo X0.here hx rfl (hb hby d19_10) rfl (tlt (by decide +kernel : ((2 : Int32) < (9 : Int32)))).2.1 (XS.aloadN X0.here hx rfl (hb hby d19_13) rfl rfl (XS.iload X0.here hx rfl (hb hby d19_14) rfl k))))) ?_
      obtain ⟨cl4, Ar4, q4, Sz4, Nn4, Hh4, Gg4⟩ := id V_ao0
      have hin4 : ¬ ((2 : Int32) < 0 ∨ cl4.slots.size ≤ ((2 : Int32)).toNatClampNeg) := inb_of Sz4 ⟨by decide, by decide⟩
      refine own_go (x' := s₁.setTop (mkF m 17 #[.val (.ref ao0), .val (.int p1), .val (.int 0), .val (.int 9), .val (.int (p1.toInt8.toInt32)), .val (.int 2)] [(.int 34)])) (X0.baloadBytes hx (j := (2 : Int32)) (v := (.int 34)) (Eq.trans (congrArg (fun h_ => h_[_]?) e0) Ar4.1) (State.isArrayOf_alike hZ.alike Ar4.2.1) Ar4.2.2 hin4 (Hh4.at hin4 rfl) (g := (mkF m 16 #[.val (.ref ao0), .val (.int p1), .val (.int 0), .val (.int 9), .val (.int (p1.toInt8.toInt32)), .val (.int 2)] [(.int 2), (.ref ao0)])) rfl rfl (hb hby d19_16)) ?_
      refine own_go (x' := s₁.setTop (mkF m 19 #[.val (.ref ao0), .val (.int p1), .val (.int 0), .val (.int 9), .val (.int (p1.toInt8.toInt32)), .val (.int 2)] [(.int (p1.toInt8.toInt32)), (.int 34)])) (fun _ k => XS.iload X0.here hx rfl (hb hby d19_17) rfl k) ?_
      by_cases hc19_5 : (34 : Int32) = (p1.toInt8.toInt32)
      · refine own_go (x' := s₁.setTop (mkF m 24 #[.val (.ref ao0), .val (.int p1), .val (.int 0), .val (.int 9), .val (.int (p1.toInt8.toInt32)), .val (.int 2)] [(.int 2)])) (fun _ k => XS.icmpNo X0.here hx rfl (hb hby d19_19) rfl (teq hc19_5).2 (XS.iload X0.here hx rfl (hb hby d19_22) rfl k)) ?_
        refine own_retI X0 hx hlk hret (hb hby d19_24) ?_ (by decide) (by decide)
        rw [e0]
        have eb0 : ¬ p1 = (60 : Int32) := mt (own_bk hp.1 hp.2 (by decide)).mpr hc19
        have eb1 : ¬ p1 = (62 : Int32) := mt (own_bk hp.1 hp.2 (by decide)).mpr hc19_3
        have eb2 : p1 = (34 : Int32) := (own_bk hp.1 hp.2 (by decide)).mp hc19_5
        exact ⟨_, rfl, Or.inr ⟨by decide, (Or.inr (Or.inr (Or.inl eb2)))⟩, Nf, rfl⟩
      · refine own_go (x' := s₁.setTop (mkF m 7 #[.val (.ref ao0), .val (.int p1), .val (.int 0), .val (.int 9), .val (.int (p1.toInt8.toInt32)), .val (.int ((2 : Int32) + (1 : Int32)))] [])) (fun _ k => XS.icmpYes X0.here hx rfl (pc0 := 19) (pc' := 25) rfl (hb hby d19_19) rfl (feq hc19_5).2 (by decide) (by decide) (XS.iinc X0.here hx rfl (hb hby d19_25) rfl (l' := #[.val (.ref ao0), .val (.int p1), .val (.int 0), .val (.int 9), .val (.int (p1.toInt8.toInt32)), .val (.int ((2 : Int32) + (1 : Int32)))]) rfl (XS.goto X0.here hx rfl (pc0 := 28) (pc' := 7) rfl (hb hby d19_28) (by decide) (by decide) k))) ?_
        rw [show ((2 : Int32) + (1 : Int32)) = (3 : Int32) from by decide +kernel]
        refine own_go (x' := s₁.setTop (mkF m 16 #[.val (.ref ao0), .val (.int p1), .val (.int 0), .val (.int 9), .val (.int (p1.toInt8.toInt32)), .val (.int 3)] [(.int 3), (.ref ao0)])) (fun _ k => XS.iload X0.here hx rfl (hb hby d19_7) rfl (XS.iloadN X0.here hx rfl (hb hby d19_9) rfl (XS.icmpNo X0.here hx rfl (hb hby d19_10) rfl (tlt (by decide +kernel : ((3 : Int32) < (9 : Int32)))).2.1 (XS.aloadN X0.here hx rfl (hb hby d19_13) rfl rfl (XS.iload X0.here hx rfl (hb hby d19_14) rfl k))))) ?_
        obtain ⟨cl6, Ar6, q6, Sz6, Nn6, Hh6, Gg6⟩ := id V_ao0
        have hin6 : ¬ ((3 : Int32) < 0 ∨ cl6.slots.size ≤ ((3 : Int32)).toNatClampNeg) := inb_of Sz6 ⟨by decide, by decide⟩
        refine own_go (x' := s₁.setTop (mkF m 17 #[.val (.ref ao0), .val (.int p1), .val (.int 0), .val (.int 9), .val (.int (p1.toInt8.toInt32)), .val (.int 3)] [(.int 123)])) (X0.baloadBytes hx (j := (3 : Int32)) (v := (.int 123)) (Eq.trans (congrArg (fun h_ => h_[_]?) e0) Ar6.1) (State.isArrayOf_alike hZ.alike Ar6.2.1) Ar6.2.2 hin6 (Hh6.at hin6 rfl) (g := (mkF m 16 #[.val (.ref ao0), .val (.int p1), .val (.int 0), .val (.int 9), .val (.int (p1.toInt8.toInt32)), .val (.int 3)] [(.int 3), (.ref ao0)])) rfl rfl (hb hby d19_16)) ?_
        refine own_go (x' := s₁.setTop (mkF m 19 #[.val (.ref ao0), .val (.int p1), .val (.int 0), .val (.int 9), .val (.int (p1.toInt8.toInt32)), .val (.int 3)] [(.int (p1.toInt8.toInt32)), (.int 123)])) (fun _ k => XS.iload X0.here hx rfl (hb hby d19_17) rfl k) ?_
        by_cases hc19_7 : (123 : Int32) = (p1.toInt8.toInt32)
        · refine own_go (x' := s₁.setTop (mkF m 24 #[.val (.ref ao0), .val (.int p1), .val (.int 0), .val (.int 9), .val (.int (p1.toInt8.toInt32)), .val (.int 3)] [(.int 3)])) (fun _ k => XS.icmpNo X0.here hx rfl (hb hby d19_19) rfl (teq hc19_7).2 (XS.iload X0.here hx rfl (hb hby d19_22) rfl k)) ?_
          refine own_retI X0 hx hlk hret (hb hby d19_24) ?_ (by decide) (by decide)
          rw [e0]
          have eb0 : ¬ p1 = (60 : Int32) := mt (own_bk hp.1 hp.2 (by decide)).mpr hc19
          have eb1 : ¬ p1 = (62 : Int32) := mt (own_bk hp.1 hp.2 (by decide)).mpr hc19_3
          have eb2 : ¬ p1 = (34 : Int32) := mt (own_bk hp.1 hp.2 (by decide)).mpr hc19_5
          have eb3 : p1 = (123 : Int32) := (own_bk hp.1 hp.2 (by decide)).mp hc19_7
          exact ⟨_, rfl, Or.inr ⟨by decide, (Or.inr (Or.inr (Or.inr (Or.inl eb3))))⟩, Nf, rfl⟩
        · refine own_go (x' := s₁.setTop (mkF m 7 #[.val (.ref ao0), .val (.int p1), .val (.int 0), .val (.int 9), .val (.int (p1.toInt8.toInt32)), .val (.int ((3 : Int32) + (1 : Int32)))] [])) (fun _ k => XS.icmpYes X0.here hx rfl (pc0 := 19) (pc' := 25) rfl (hb hby d19_19) rfl (feq hc19_7).2 (by decide) (by decide) (XS.iinc X0.here hx rfl (hb hby d19_25) rfl (l' := #[.val (.ref ao0), .val (.int p1), .val (.int 0), .val (.int 9), .val (.int (p1.toInt8.toInt32)), .val (.int ((3 : Int32) + (1 : Int32)))]) rfl (XS.goto X0.here hx rfl (pc0 := 28) (pc' := 7) rfl (hb hby d19_28) (by decide) (by decide) k))) ?_
          rw [show ((3 : Int32) + (1 : Int32)) = (4 : Int32) from by decide +kernel]
          refine own_go (x' := s₁.setTop (mkF m 16 #[.val (.ref ao0), .val (.int p1), .val (.int 0), .val (.int 9), .val (.int (p1.toInt8.toInt32)), .val (.int 4)] [(.int 4), (.ref ao0)])) (fun _ k => XS.iload X0.here hx rfl (hb hby d19_7) rfl (XS.iloadN X0.here hx rfl (hb hby d19_9) rfl (XS.icmpNo X0.here hx rfl (hb hby d19_10) rfl (tlt (by decide +kernel : ((4 : Int32) < (9 : Int32)))).2.1 (XS.aloadN X0.here hx rfl (hb hby d19_13) rfl rfl (XS.iload X0.here hx rfl (hb hby d19_14) rfl k))))) ?_
          obtain ⟨cl8, Ar8, q8, Sz8, Nn8, Hh8, Gg8⟩ := id V_ao0
          have hin8 : ¬ ((4 : Int32) < 0 ∨ cl8.slots.size ≤ ((4 : Int32)).toNatClampNeg) := inb_of Sz8 ⟨by decide, by decide⟩
          refine own_go (x' := s₁.setTop (mkF m 17 #[.val (.ref ao0), .val (.int p1), .val (.int 0), .val (.int 9), .val (.int (p1.toInt8.toInt32)), .val (.int 4)] [(.int 125)])) (X0.baloadBytes hx (j := (4 : Int32)) (v := (.int 125)) (Eq.trans (congrArg (fun h_ => h_[_]?) e0) Ar8.1) (State.isArrayOf_alike hZ.alike Ar8.2.1) Ar8.2.2 hin8 (Hh8.at hin8 rfl) (g := (mkF m 16 #[.val (.ref ao0), .val (.int p1), .val (.int 0), .val (.int 9), .val (.int (p1.toInt8.toInt32)), .val (.int 4)] [(.int 4), (.ref ao0)])) rfl rfl (hb hby d19_16)) ?_
          refine own_go (x' := s₁.setTop (mkF m 19 #[.val (.ref ao0), .val (.int p1), .val (.int 0), .val (.int 9), .val (.int (p1.toInt8.toInt32)), .val (.int 4)] [(.int (p1.toInt8.toInt32)), (.int 125)])) (fun _ k => XS.iload X0.here hx rfl (hb hby d19_17) rfl k) ?_
          by_cases hc19_9 : (125 : Int32) = (p1.toInt8.toInt32)
          · refine own_go (x' := s₁.setTop (mkF m 24 #[.val (.ref ao0), .val (.int p1), .val (.int 0), .val (.int 9), .val (.int (p1.toInt8.toInt32)), .val (.int 4)] [(.int 4)])) (fun _ k => XS.icmpNo X0.here hx rfl (hb hby d19_19) rfl (teq hc19_9).2 (XS.iload X0.here hx rfl (hb hby d19_22) rfl k)) ?_
            refine own_retI X0 hx hlk hret (hb hby d19_24) ?_ (by decide) (by decide)
            rw [e0]
            have eb0 : ¬ p1 = (60 : Int32) := mt (own_bk hp.1 hp.2 (by decide)).mpr hc19
            have eb1 : ¬ p1 = (62 : Int32) := mt (own_bk hp.1 hp.2 (by decide)).mpr hc19_3
            have eb2 : ¬ p1 = (34 : Int32) := mt (own_bk hp.1 hp.2 (by decide)).mpr hc19_5
            have eb3 : ¬ p1 = (123 : Int32) := mt (own_bk hp.1 hp.2 (by decide)).mpr hc19_7
            have eb4 : p1 = (125 : Int32) := (own_bk hp.1 hp.2 (by decide)).mp hc19_9
            exact ⟨_, rfl, Or.inr ⟨by decide, (Or.inr (Or.inr (Or.inr (Or.inr (Or.inl eb4)))))⟩, Nf, rfl⟩
          · refine own_go (x' := s₁.setTop (mkF m 7 #[.val (.ref ao0), .val (.int p1), .val (.int 0), .val (.int 9), .val (.int (p1.toInt8.toInt32)), .val (.int ((4 : Int32) + (1 : Int32)))] [])) (fun _ k => XS.icmpYes X0.here hx rfl (pc0 := 19) (pc' := 25) rfl (hb hby d19_19) rfl (feq hc19_9).2 (by decide) (by decide) (XS.iinc X0.here hx rfl (hb hby d19_25) rfl (l' := #[.val (.ref ao0), .val (.int p1), .val (.int 0), .val (.int 9), .val (.int (p1.toInt8.toInt32)), .val (.int ((4 : Int32) + (1 : Int32)))]) rfl (XS.goto X0.here hx rfl (pc0 := 28) (pc' := 7) rfl (hb hby d19_28) (by decide) (by decide) k))) ?_
            rw [show ((4 : Int32) + (1 : Int32)) = (5 : Int32) from by decide +kernel]
            refine own_go (x' := s₁.setTop (mkF m 16 #[.val (.ref ao0), .val (.int p1), .val (.int 0), .val (.int 9), .val (.int (p1.toInt8.toInt32)), .val (.int 5)] [(.int 5), (.ref ao0)])) (fun _ k => XS.iload X0.here hx rfl (hb hby d19_7) rfl (XS.iloadN X0.here hx rfl (hb hby d19_9) rfl (XS.icmpNo X0.here hx rfl (hb hby d19_10) rfl (tlt (by decide +kernel : ((5 : Int32) < (9 : Int32)))).2.1 (XS.aloadN X0.here hx rfl (hb hby d19_13) rfl rfl (XS.iload X0.here hx rfl (hb hby d19_14) rfl k))))) ?_
            obtain ⟨cl10, Ar10, q10, Sz10, Nn10, Hh10, Gg10⟩ := id V_ao0
            have hin10 : ¬ ((5 : Int32) < 0 ∨ cl10.slots.size ≤ ((5 : Int32)).toNatClampNeg) := inb_of Sz10 ⟨by decide, by decide⟩
            refine own_go (x' := s₁.setTop (mkF m 17 #[.val (.ref ao0), .val (.int p1), .val (.int 0), .val (.int 9), .val (.int (p1.toInt8.toInt32)), .val (.int 5)] [(.int 124)])) (X0.baloadBytes hx (j := (5 : Int32)) (v := (.int 124)) (Eq.trans (congrArg (fun h_ => h_[_]?) e0) Ar10.1) (State.isArrayOf_alike hZ.alike Ar10.2.1) Ar10.2.2 hin10 (Hh10.at hin10 rfl) (g := (mkF m 16 #[.val (.ref ao0), .val (.int p1), .val (.int 0), .val (.int 9), .val (.int (p1.toInt8.toInt32)), .val (.int 5)] [(.int 5), (.ref ao0)])) rfl rfl (hb hby d19_16)) ?_
            refine own_go (x' := s₁.setTop (mkF m 19 #[.val (.ref ao0), .val (.int p1), .val (.int 0), .val (.int 9), .val (.int (p1.toInt8.toInt32)), .val (.int 5)] [(.int (p1.toInt8.toInt32)), (.int 124)])) (fun _ k => XS.iload X0.here hx rfl (hb hby d19_17) rfl k) ?_
            by_cases hc19_11 : (124 : Int32) = (p1.toInt8.toInt32)
            · refine own_go (x' := s₁.setTop (mkF m 24 #[.val (.ref ao0), .val (.int p1), .val (.int 0), .val (.int 9), .val (.int (p1.toInt8.toInt32)), .val (.int 5)] [(.int 5)])) (fun _ k => XS.icmpNo X0.here hx rfl (hb hby d19_19) rfl (teq hc19_11).2 (XS.iload X0.here hx rfl (hb hby d19_22) rfl k)) ?_
              refine own_retI X0 hx hlk hret (hb hby d19_24) ?_ (by decide) (by decide)
              rw [e0]
              have eb0 : ¬ p1 = (60 : Int32) := mt (own_bk hp.1 hp.2 (by decide)).mpr hc19
              have eb1 : ¬ p1 = (62 : Int32) := mt (own_bk hp.1 hp.2 (by decide)).mpr hc19_3
              have eb2 : ¬ p1 = (34 : Int32) := mt (own_bk hp.1 hp.2 (by decide)).mpr hc19_5
              have eb3 : ¬ p1 = (123 : Int32) := mt (own_bk hp.1 hp.2 (by decide)).mpr hc19_7
              have eb4 : ¬ p1 = (125 : Int32) := mt (own_bk hp.1 hp.2 (by decide)).mpr hc19_9
              have eb5 : p1 = (124 : Int32) := (own_bk hp.1 hp.2 (by decide)).mp hc19_11
              exact ⟨_, rfl, Or.inr ⟨by decide, (Or.inr (Or.inr (Or.inr (Or.inr (Or.inr (Or.inl eb5))))))⟩, Nf, rfl⟩
            · refine own_go (x' := s₁.setTop (mkF m 7 #[.val (.ref ao0), .val (.int p1), .val (.int 0), .val (.int 9), .val (.int (p1.toInt8.toInt32)), .val (.int ((5 : Int32) + (1 : Int32)))] [])) (fun _ k => XS.icmpYes X0.here hx rfl (pc0 := 19) (pc' := 25) rfl (hb hby d19_19) rfl (feq hc19_11).2 (by decide) (by decide) (XS.iinc X0.here hx rfl (hb hby d19_25) rfl (l' := #[.val (.ref ao0), .val (.int p1), .val (.int 0), .val (.int 9), .val (.int (p1.toInt8.toInt32)), .val (.int ((5 : Int32) + (1 : Int32)))]) rfl (XS.goto X0.here hx rfl (pc0 := 28) (pc' := 7) rfl (hb hby d19_28) (by decide) (by decide) k))) ?_
              rw [show ((5 : Int32) + (1 : Int32)) = (6 : Int32) from by decide +kernel]
              refine own_go (x' := s₁.setTop (mkF m 16 #[.val (.ref ao0), .val (.int p1), .val (.int 0), .val (.int 9), .val (.int (p1.toInt8.toInt32)), .val (.int 6)] [(.int 6), (.ref ao0)])) (fun _ k => XS.iload X0.here hx rfl (hb hby d19_7) rfl (XS.iloadN X0.here hx rfl (hb hby d19_9) rfl (XS.icmpNo X0.here hx rfl (hb hby d19_10) rfl (tlt (by decide +kernel : ((6 : Int32) < (9 : Int32)))).2.1 (XS.aloadN X0.here hx rfl (hb hby d19_13) rfl rfl (XS.iload X0.here hx rfl (hb hby d19_14) rfl k))))) ?_
              obtain ⟨cl12, Ar12, q12, Sz12, Nn12, Hh12, Gg12⟩ := id V_ao0
              have hin12 : ¬ ((6 : Int32) < 0 ∨ cl12.slots.size ≤ ((6 : Int32)).toNatClampNeg) := inb_of Sz12 ⟨by decide, by decide⟩
              refine own_go (x' := s₁.setTop (mkF m 17 #[.val (.ref ao0), .val (.int p1), .val (.int 0), .val (.int 9), .val (.int (p1.toInt8.toInt32)), .val (.int 6)] [(.int 94)])) (X0.baloadBytes hx (j := (6 : Int32)) (v := (.int 94)) (Eq.trans (congrArg (fun h_ => h_[_]?) e0) Ar12.1) (State.isArrayOf_alike hZ.alike Ar12.2.1) Ar12.2.2 hin12 (Hh12.at hin12 rfl) (g := (mkF m 16 #[.val (.ref ao0), .val (.int p1), .val (.int 0), .val (.int 9), .val (.int (p1.toInt8.toInt32)), .val (.int 6)] [(.int 6), (.ref ao0)])) rfl rfl (hb hby d19_16)) ?_
              refine own_go (x' := s₁.setTop (mkF m 19 #[.val (.ref ao0), .val (.int p1), .val (.int 0), .val (.int 9), .val (.int (p1.toInt8.toInt32)), .val (.int 6)] [(.int (p1.toInt8.toInt32)), (.int 94)])) (fun _ k => XS.iload X0.here hx rfl (hb hby d19_17) rfl k) ?_
              by_cases hc19_13 : (94 : Int32) = (p1.toInt8.toInt32)
              · refine own_go (x' := s₁.setTop (mkF m 24 #[.val (.ref ao0), .val (.int p1), .val (.int 0), .val (.int 9), .val (.int (p1.toInt8.toInt32)), .val (.int 6)] [(.int 6)])) (fun _ k => XS.icmpNo X0.here hx rfl (hb hby d19_19) rfl (teq hc19_13).2 (XS.iload X0.here hx rfl (hb hby d19_22) rfl k)) ?_
                refine own_retI X0 hx hlk hret (hb hby d19_24) ?_ (by decide) (by decide)
                rw [e0]
                have eb0 : ¬ p1 = (60 : Int32) := mt (own_bk hp.1 hp.2 (by decide)).mpr hc19
                have eb1 : ¬ p1 = (62 : Int32) := mt (own_bk hp.1 hp.2 (by decide)).mpr hc19_3
                have eb2 : ¬ p1 = (34 : Int32) := mt (own_bk hp.1 hp.2 (by decide)).mpr hc19_5
                have eb3 : ¬ p1 = (123 : Int32) := mt (own_bk hp.1 hp.2 (by decide)).mpr hc19_7
                have eb4 : ¬ p1 = (125 : Int32) := mt (own_bk hp.1 hp.2 (by decide)).mpr hc19_9
                have eb5 : ¬ p1 = (124 : Int32) := mt (own_bk hp.1 hp.2 (by decide)).mpr hc19_11
                have eb6 : p1 = (94 : Int32) := (own_bk hp.1 hp.2 (by decide)).mp hc19_13
                exact ⟨_, rfl, Or.inr ⟨by decide, (Or.inr (Or.inr (Or.inr (Or.inr (Or.inr (Or.inr (Or.inl eb6)))))))⟩, Nf, rfl⟩
              · refine own_go (x' := s₁.setTop (mkF m 7 #[.val (.ref ao0), .val (.int p1), .val (.int 0), .val (.int 9), .val (.int (p1.toInt8.toInt32)), .val (.int ((6 : Int32) + (1 : Int32)))] [])) (fun _ k => XS.icmpYes X0.here hx rfl (pc0 := 19) (pc' := 25) rfl (hb hby d19_19) rfl (feq hc19_13).2 (by decide) (by decide) (XS.iinc X0.here hx rfl (hb hby d19_25) rfl (l' := #[.val (.ref ao0), .val (.int p1), .val (.int 0), .val (.int 9), .val (.int (p1.toInt8.toInt32)), .val (.int ((6 : Int32) + (1 : Int32)))]) rfl (XS.goto X0.here hx rfl (pc0 := 28) (pc' := 7) rfl (hb hby d19_28) (by decide) (by decide) k))) ?_
                rw [show ((6 : Int32) + (1 : Int32)) = (7 : Int32) from by decide +kernel]
                refine own_go (x' := s₁.setTop (mkF m 16 #[.val (.ref ao0), .val (.int p1), .val (.int 0), .val (.int 9), .val (.int (p1.toInt8.toInt32)), .val (.int 7)] [(.int 7), (.ref ao0)])) (fun _ k => XS.iload X0.here hx rfl (hb hby d19_7) rfl (XS.iloadN X0.here hx rfl (hb hby d19_9) rfl (XS.icmpNo X0.here hx rfl (hb hby d19_10) rfl (tlt (by decide +kernel : ((7 : Int32) < (9 : Int32)))).2.1 (XS.aloadN X0.here hx rfl (hb hby d19_13) rfl rfl (XS.iload X0.here hx rfl (hb hby d19_14) rfl k))))) ?_
                obtain ⟨cl14, Ar14, q14, Sz14, Nn14, Hh14, Gg14⟩ := id V_ao0
                have hin14 : ¬ ((7 : Int32) < 0 ∨ cl14.slots.size ≤ ((7 : Int32)).toNatClampNeg) := inb_of Sz14 ⟨by decide, by decide⟩
                refine own_go (x' := s₁.setTop (mkF m 17 #[.val (.ref ao0), .val (.int p1), .val (.int 0), .val (.int 9), .val (.int (p1.toInt8.toInt32)), .val (.int 7)] [(.int 96)])) (X0.baloadBytes hx (j := (7 : Int32)) (v := (.int 96)) (Eq.trans (congrArg (fun h_ => h_[_]?) e0) Ar14.1) (State.isArrayOf_alike hZ.alike Ar14.2.1) Ar14.2.2 hin14 (Hh14.at hin14 rfl) (g := (mkF m 16 #[.val (.ref ao0), .val (.int p1), .val (.int 0), .val (.int 9), .val (.int (p1.toInt8.toInt32)), .val (.int 7)] [(.int 7), (.ref ao0)])) rfl rfl (hb hby d19_16)) ?_
                refine own_go (x' := s₁.setTop (mkF m 19 #[.val (.ref ao0), .val (.int p1), .val (.int 0), .val (.int 9), .val (.int (p1.toInt8.toInt32)), .val (.int 7)] [(.int (p1.toInt8.toInt32)), (.int 96)])) (fun _ k => XS.iload X0.here hx rfl (hb hby d19_17) rfl k) ?_
                by_cases hc19_15 : (96 : Int32) = (p1.toInt8.toInt32)
                · refine own_go (x' := s₁.setTop (mkF m 24 #[.val (.ref ao0), .val (.int p1), .val (.int 0), .val (.int 9), .val (.int (p1.toInt8.toInt32)), .val (.int 7)] [(.int 7)])) (fun _ k => XS.icmpNo X0.here hx rfl (hb hby d19_19) rfl (teq hc19_15).2 (XS.iload X0.here hx rfl (hb hby d19_22) rfl k)) ?_
                  refine own_retI X0 hx hlk hret (hb hby d19_24) ?_ (by decide) (by decide)
                  rw [e0]
                  have eb0 : ¬ p1 = (60 : Int32) := mt (own_bk hp.1 hp.2 (by decide)).mpr hc19
                  have eb1 : ¬ p1 = (62 : Int32) := mt (own_bk hp.1 hp.2 (by decide)).mpr hc19_3
                  have eb2 : ¬ p1 = (34 : Int32) := mt (own_bk hp.1 hp.2 (by decide)).mpr hc19_5
                  have eb3 : ¬ p1 = (123 : Int32) := mt (own_bk hp.1 hp.2 (by decide)).mpr hc19_7
                  have eb4 : ¬ p1 = (125 : Int32) := mt (own_bk hp.1 hp.2 (by decide)).mpr hc19_9
                  have eb5 : ¬ p1 = (124 : Int32) := mt (own_bk hp.1 hp.2 (by decide)).mpr hc19_11
                  have eb6 : ¬ p1 = (94 : Int32) := mt (own_bk hp.1 hp.2 (by decide)).mpr hc19_13
                  have eb7 : p1 = (96 : Int32) := (own_bk hp.1 hp.2 (by decide)).mp hc19_15
                  exact ⟨_, rfl, Or.inr ⟨by decide, (Or.inr (Or.inr (Or.inr (Or.inr (Or.inr (Or.inr (Or.inr (Or.inl eb7))))))))⟩, Nf, rfl⟩
                · refine own_go (x' := s₁.setTop (mkF m 7 #[.val (.ref ao0), .val (.int p1), .val (.int 0), .val (.int 9), .val (.int (p1.toInt8.toInt32)), .val (.int ((7 : Int32) + (1 : Int32)))] [])) (fun _ k => XS.icmpYes X0.here hx rfl (pc0 := 19) (pc' := 25) rfl (hb hby d19_19) rfl (feq hc19_15).2 (by decide) (by decide) (XS.iinc X0.here hx rfl (hb hby d19_25) rfl (l' := #[.val (.ref ao0), .val (.int p1), .val (.int 0), .val (.int 9), .val (.int (p1.toInt8.toInt32)), .val (.int ((7 : Int32) + (1 : Int32)))]) rfl (XS.goto X0.here hx rfl (pc0 := 28) (pc' := 7) rfl (hb hby d19_28) (by decide) (by decide) k))) ?_
                  rw [show ((7 : Int32) + (1 : Int32)) = (8 : Int32) from by decide +kernel]
                  refine own_go (x' := s₁.setTop (mkF m 16 #[.val (.ref ao0), .val (.int p1), .val (.int 0), .val (.int 9), .val (.int (p1.toInt8.toInt32)), .val (.int 8)] [(.int 8), (.ref ao0)])) (fun _ k => XS.iload X0.here hx rfl (hb hby d19_7) rfl (XS.iloadN X0.here hx rfl (hb hby d19_9) rfl (XS.icmpNo X0.here hx rfl (hb hby d19_10) rfl (tlt (by decide +kernel : ((8 : Int32) < (9 : Int32)))).2.1 (XS.aloadN X0.here hx rfl (hb hby d19_13) rfl rfl (XS.iload X0.here hx rfl (hb hby d19_14) rfl k))))) ?_
                  obtain ⟨cl16, Ar16, q16, Sz16, Nn16, Hh16, Gg16⟩ := id V_ao0
                  have hin16 : ¬ ((8 : Int32) < 0 ∨ cl16.slots.size ≤ ((8 : Int32)).toNatClampNeg) := inb_of Sz16 ⟨by decide, by decide⟩
                  refine own_go (x' := s₁.setTop (mkF m 17 #[.val (.ref ao0), .val (.int p1), .val (.int 0), .val (.int 9), .val (.int (p1.toInt8.toInt32)), .val (.int 8)] [(.int 92)])) (X0.baloadBytes hx (j := (8 : Int32)) (v := (.int 92)) (Eq.trans (congrArg (fun h_ => h_[_]?) e0) Ar16.1) (State.isArrayOf_alike hZ.alike Ar16.2.1) Ar16.2.2 hin16 (Hh16.at hin16 rfl) (g := (mkF m 16 #[.val (.ref ao0), .val (.int p1), .val (.int 0), .val (.int 9), .val (.int (p1.toInt8.toInt32)), .val (.int 8)] [(.int 8), (.ref ao0)])) rfl rfl (hb hby d19_16)) ?_
                  refine own_go (x' := s₁.setTop (mkF m 19 #[.val (.ref ao0), .val (.int p1), .val (.int 0), .val (.int 9), .val (.int (p1.toInt8.toInt32)), .val (.int 8)] [(.int (p1.toInt8.toInt32)), (.int 92)])) (fun _ k => XS.iload X0.here hx rfl (hb hby d19_17) rfl k) ?_
                  by_cases hc19_17 : (92 : Int32) = (p1.toInt8.toInt32)
                  · refine own_go (x' := s₁.setTop (mkF m 24 #[.val (.ref ao0), .val (.int p1), .val (.int 0), .val (.int 9), .val (.int (p1.toInt8.toInt32)), .val (.int 8)] [(.int 8)])) (fun _ k => XS.icmpNo X0.here hx rfl (hb hby d19_19) rfl (teq hc19_17).2 (XS.iload X0.here hx rfl (hb hby d19_22) rfl k)) ?_
                    refine own_retI X0 hx hlk hret (hb hby d19_24) ?_ (by decide) (by decide)
                    rw [e0]
                    have eb0 : ¬ p1 = (60 : Int32) := mt (own_bk hp.1 hp.2 (by decide)).mpr hc19
                    have eb1 : ¬ p1 = (62 : Int32) := mt (own_bk hp.1 hp.2 (by decide)).mpr hc19_3
                    have eb2 : ¬ p1 = (34 : Int32) := mt (own_bk hp.1 hp.2 (by decide)).mpr hc19_5
                    have eb3 : ¬ p1 = (123 : Int32) := mt (own_bk hp.1 hp.2 (by decide)).mpr hc19_7
                    have eb4 : ¬ p1 = (125 : Int32) := mt (own_bk hp.1 hp.2 (by decide)).mpr hc19_9
                    have eb5 : ¬ p1 = (124 : Int32) := mt (own_bk hp.1 hp.2 (by decide)).mpr hc19_11
                    have eb6 : ¬ p1 = (94 : Int32) := mt (own_bk hp.1 hp.2 (by decide)).mpr hc19_13
                    have eb7 : ¬ p1 = (96 : Int32) := mt (own_bk hp.1 hp.2 (by decide)).mpr hc19_15
                    have eb8 : p1 = (92 : Int32) := (own_bk hp.1 hp.2 (by decide)).mp hc19_17
                    exact ⟨_, rfl, Or.inr ⟨by decide, (Or.inr (Or.inr (Or.inr (Or.inr (Or.inr (Or.inr (Or.inr (Or.inr (eb8)))))))))⟩, Nf, rfl⟩
                  · refine own_go (x' := s₁.setTop (mkF m 7 #[.val (.ref ao0), .val (.int p1), .val (.int 0), .val (.int 9), .val (.int (p1.toInt8.toInt32)), .val (.int ((8 : Int32) + (1 : Int32)))] [])) (fun _ k => XS.icmpYes X0.here hx rfl (pc0 := 19) (pc' := 25) rfl (hb hby d19_19) rfl (feq hc19_17).2 (by decide) (by decide) (XS.iinc X0.here hx rfl (hb hby d19_25) rfl (l' := #[.val (.ref ao0), .val (.int p1), .val (.int 0), .val (.int 9), .val (.int (p1.toInt8.toInt32)), .val (.int ((8 : Int32) + (1 : Int32)))]) rfl (XS.goto X0.here hx rfl (pc0 := 28) (pc' := 7) rfl (hb hby d19_28) (by decide) (by decide) k))) ?_
                    rw [show ((8 : Int32) + (1 : Int32)) = (9 : Int32) from by decide +kernel]
                    refine own_go (x' := s₁.setTop (mkF m 32 #[.val (.ref ao0), .val (.int p1), .val (.int 0), .val (.int 9), .val (.int (p1.toInt8.toInt32)), .val (.int 9)] [(.int (-1))])) (fun _ k => XS.iload X0.here hx rfl (hb hby d19_7) rfl (XS.iloadN X0.here hx rfl (hb hby d19_9) rfl (XS.icmpYes X0.here hx rfl (pc0 := 10) (pc' := 31) rfl (hb hby d19_10) rfl (flt (Int32.lt_irrefl)).2.1 (by decide) (by decide) (XS.iconst X0.here hx rfl (hb hby d19_31) k)))) ?_
                    refine own_retI X0 hx hlk hret (hb hby d19_32) ?_ (by decide) (by decide)
                    rw [e0]
                    have eb0 : ¬ p1 = (60 : Int32) := mt (own_bk hp.1 hp.2 (by decide)).mpr hc19
                    have eb1 : ¬ p1 = (62 : Int32) := mt (own_bk hp.1 hp.2 (by decide)).mpr hc19_3
                    have eb2 : ¬ p1 = (34 : Int32) := mt (own_bk hp.1 hp.2 (by decide)).mpr hc19_5
                    have eb3 : ¬ p1 = (123 : Int32) := mt (own_bk hp.1 hp.2 (by decide)).mpr hc19_7
                    have eb4 : ¬ p1 = (125 : Int32) := mt (own_bk hp.1 hp.2 (by decide)).mpr hc19_9
                    have eb5 : ¬ p1 = (124 : Int32) := mt (own_bk hp.1 hp.2 (by decide)).mpr hc19_11
                    have eb6 : ¬ p1 = (94 : Int32) := mt (own_bk hp.1 hp.2 (by decide)).mpr hc19_13
                    have eb7 : ¬ p1 = (96 : Int32) := mt (own_bk hp.1 hp.2 (by decide)).mpr hc19_15
                    have eb8 : ¬ p1 = (92 : Int32) := mt (own_bk hp.1 hp.2 (by decide)).mpr hc19_17
                    exact ⟨_, rfl, Or.inl ⟨by decide, fun q => q.elim eb0 fun q => q.elim eb1 fun q => q.elim eb2 fun q => q.elim eb3 fun q => q.elim eb4 fun q => q.elim eb5 fun q => q.elim eb6 fun q => q.elim eb7 fun q => eb8 q⟩, Nf, rfl⟩
theorem d11_7 : decode jdk_43_method_22_code 7 = .ok (.iconst (-1), 1) := by decide +kernel
theorem d11_8 : decode jdk_43_method_22_code 8 = .ok (.ireturn, 1) := by decide +kernel
def Q_rm11f (Z : State) (ao0 : Addr) (kd : ClassId) (p1 : Int32) (h0 : Heap) (n0 : Nat) (v : Option Value) (h : Heap) (L : List Loc) : Prop := ∃ r : Int32, v = some (.int r) ∧ ((r < 0 ∧ ¬ own_fb p1) ∨ (¬ r < 0 ∧ own_fb p1)) ∧ Fr n0 L ∧ h = h0
theorem pn_rm11f : plainName "java/lang/StringLatin1" = true := by first | (simp [plainName, overriddenIn]; done) | decide +kernel
theorem ef_rm11f (m : MethodId) (x0 : Addr) (x1 : Int32) (x2 : Int32) (x3 : Int32) : entryFrame m #[(.ref x0), (.int x1), (.int x2), (.int x3)] 4 = mkF m 0 #[.val (.ref x0), .val (.int x1), .val (.int x2), .val (.int x3)] [] := by first | (simp [entryFrame, mkF, argsToLocals, Value.category]; done) | rfl
set_option maxRecDepth 65536 in
set_option maxHeartbeats 40000000 in
theorem rm11f (l : Launch) (Z : State) (a0 : Array Value) (hw : ∀ d ∈ tables_1, d.before a0 Z = true) (ws : List Jvm.Cond) (ao0 : Addr) (kd : ClassId) (p1 : Int32) (h0 : Heap) (n0 : Nat) (Z0 : n0 ≤ h0.size) (V_ao0 : Arv Z h0 ao0 kd .byte (9 : Int32) [(.int 60), (.int 62), (.int 34), (.int 123), (.int 125), (.int 124), (.int 94), (.int 96), (.int 92)] (.int (0 : Int32))) (hp : own_ch p1) :
    MetFree l (⟨"java/lang/StringLatin1", "indexOf", "([BIII)I"⟩ : MethodName) (head1 (Jvm.Cond.code (⟨"java/lang/StringLatin1", "indexOf", "([BIII)I"⟩ : MethodName) jdk_43_method_22_code 4 (some .int) :: ws) ({ frames := 1, cells := 0, slots := 0, locals := 17 } : Room)) (fun a U => a = #[(.ref ao0), (.int p1), (.int 0), (.int 9)] ∧ Z.Warmed39 U.vm ∧ U.heap = h0) (fun _ _ _ _ _ => True) (fun _ U o U' => ∃ v L, o = .returned v ∧ (Q_rm11f Z ao0 kd p1 h0 n0) v U'.heap L ∧ FrameEnd U o U' L ({ frames := 1, cells := 0, slots := 0, locals := 17 } : Room).cells ({ frames := 1, cells := 0, slots := 0, locals := 17 } : Room).slots) := by
  refine MetFree.of_bodySF (plainFor_of_name pn_rm11f) hisR ?_
  intro p e s m args below meth c s₁ Bd hml0 hP hK
  obtain ⟨rfl, hZ, hh⟩ := hP
  have hx := Bd.exec
  have hby := Bd.bytes
  have hlk := BodyLoose.notSynchronized Bd
  have hret := Bd.returns
  have hml : c.maxLocals = 4 := hml0
  have hown : s.vm.findClass "java/lang/StringLatin1" = some m.cls := findClass_of_methodNamed Bd.named
  have hnm := (name_of_methodNamed Bd.named Bd.method).1
  have X0 : Stand p l e ({ frames := 1, cells := 0, slots := 0, locals := 17 } : Room) s m #[(.ref ao0), (.int p1), (.int 0), (.int 9)] below meth c s₁ [] 0 0 := Stand.of_body Bd
  have e0 : s₁.heap = h0 := by rw [← hh, Bd.state]; rfl
  have Nf := Fr.nil n0
  have Zs := Z0
  have Kp : Keep h0 h0 [] := Keep.refl _ _
  show own_End p e below s (Q_rm11f Z ao0 kd p1 h0 n0) ({ frames := 1, cells := 0, slots := 0, locals := 17 } : Room).cells ({ frames := 1, cells := 0, slots := 0, locals := 17 } : Room).slots (s₁.setTop (entryFrame m #[(.ref ao0), (.int p1), (.int 0), (.int 9)] 4))
  refine own_go (x' := s₁.setTop (mkF m 0 #[.val (.ref ao0), .val (.int p1), .val (.int 0), .val (.int 9)] [])) (fun t k => castTop (ef_rm11f m ao0 p1 (0 : Int32) (9 : Int32)) k) ?_
  refine own_go (x' := s₁.setTop (mkF m 1 #[.val (.ref ao0), .val (.int p1), .val (.int 0), .val (.int 9)] [(.int p1)])) (fun _ k => XS.iloadN X0.here hx rfl (hb hby d11_0) rfl k) ?_
  obtain ⟨_, _, ⟨T1, L1, k1, n1⟩, -, X1, ⟨Lc1, hQ1, l1, y1, z1⟩, st1⟩ := Jvm.LawKit.callS X0 hx (y := (⟨"java/lang/StringLatin1", "canEncode", "(I)Z"⟩ : MethodName)) hown (mvT hZ (own_w hw 61 rfl)) (mvT hZ (own_w hw 62 rfl)) (mvT hZ (own_w hw 59 rfl)) (mvT hZ (own_w hw 63 rfl)) (by decide) (backOf (W := 0) (rm12 l Z a0 hw [] p1  h0 n0 Zs  ) hZ (own_w hw 63 rfl) (own_w hw 59 rfl) (by decide) (by decide)) (g := (mkF m 1 #[.val (.ref ao0), .val (.int p1), .val (.int 0), .val (.int 9)] [(.int p1)])) rfl (by rw [hml]; rfl) (argsL := [(.int p1)]) (rest := []) (lenOf pd_7 rfl) rfl (by show 2 * 0 + _ ≤ _; exact Nat.le_of_eq rfl) (hb hby d11_1) (fun _ _ => ⟨rfl, e0, (by decide : 0 + 0 ≤ _), (by decide : 0 + 0 ≤ _)⟩)
  dsimp only [Pt.U, Pt.locs, Pt.cells, Pt.slots] at X1 l1 y1 z1 st1 hQ1
  subst l1 y1 z1
  obtain ⟨hv1, Nq1, eq1⟩ := hQ1
  subst hv1
  replace Nf := Fr.app Nf Nq1
  refine own_go (x' := T1.setTop (mkF m 4 #[.val (.ref ao0), .val (.int p1), .val (.int 0), .val (.int 9)] [(.int (own_ce p1))])) st1 ?_
  by_cases hc4 : (own_ce p1) = (0 : Int32)
  · refine own_go (x' := T1.setTop (mkF m 8 #[.val (.ref ao0), .val (.int p1), .val (.int 0), .val (.int 9)] [(.int (-1))])) (fun _ k => XS.ifNo X1.here hx rfl (hb hby d11_4) rfl ((if0 _ _).trans (teq hc4).2) (XS.iconst X1.here hx rfl (hb hby d11_7) k)) ?_
    refine own_retI X1 hx hlk hret (hb hby d11_8) ?_ (by decide) (by decide)
    rw [eq1]
    exact ⟨_, rfl, Or.inl ⟨by decide, own_fb0 ((own_ce0 hp).mp hc4)⟩, Nf, rfl⟩
  · refine own_go (x' := T1.setTop (mkF m 11 #[.val (.ref ao0), .val (.int p1), .val (.int 0), .val (.int 9)] [(.int 0), (.int 0)])) (fun _ k => XS.ifYes X1.here hx rfl (pc0 := 4) (pc' := 9) rfl (hb hby d11_4) rfl ((if0 _ _).trans (feq hc4).2) (by decide) (by decide) (XS.iloadN X1.here hx rfl (hb hby d11_9) rfl (XS.iconst X1.here hx rfl (hb hby d11_10) k))) ?_
    obtain ⟨_, _, ⟨T2, L2, k2, n2⟩, -, X2, ⟨Lc2, hQ2, l2, y2, z2⟩, st2⟩ := Jvm.LawKit.callS X1 hx (y := (⟨"java/lang/Math", "max", "(II)I"⟩ : MethodName)) hown (mvT hZ (own_w hw 64 rfl)) (mvT hZ (own_w hw 65 rfl)) (mvT hZ (own_w hw 66 rfl)) (mvT hZ (own_w hw 67 rfl)) (by decide) (backOf (W := 0) (rm13 l Z a0 hw [] (0 : Int32)  h0 n0 Zs  ) hZ (own_w hw 67 rfl) (own_w hw 66 rfl) (by decide) (by decide)) (g := (mkF m 11 #[.val (.ref ao0), .val (.int p1), .val (.int 0), .val (.int 9)] [(.int 0), (.int 0)])) rfl (by rw [hml]; rfl) (argsL := [(.int 0), (.int 0)]) (rest := []) (lenOf pd_8 rfl) rfl (by show 2 * 0 + _ ≤ _; exact Nat.le_of_eq rfl) (hb hby d11_11) (fun _ _ => ⟨rfl, eq1, (by decide : 0 + 0 ≤ _), (by decide : 0 + 0 ≤ _)⟩)
    dsimp only [Pt.U, Pt.locs, Pt.cells, Pt.slots] at X2 l2 y2 z2 st2 hQ2
    subst l2 y2 z2
    obtain ⟨hv2, Nq2, eq2⟩ := hQ2
    subst hv2
    replace Nf := Fr.app Nf Nq2
    refine own_go (x' := T2.setTop (mkF m 14 #[.val (.ref ao0), .val (.int p1), .val (.int 0), .val (.int 9)] [(.int 0)])) st2 ?_
    refine own_go (x' := T2.setTop (mkF m 17 #[.val (.ref ao0), .val (.int p1), .val (.int 0), .val (.int 9)] [(.ref ao0), (.int 9)])) (fun _ k => XS.istoreN X2.here hx rfl (hb hby d11_14) rfl (l' := #[.val (.ref ao0), .val (.int p1), .val (.int 0), .val (.int 9)]) rfl (XS.iloadN X2.here hx rfl (hb hby d11_15) rfl (XS.aloadN X2.here hx rfl (hb hby d11_16) rfl rfl k))) ?_
    obtain ⟨cl3, Ar3, -, Sz3, Nn3, -, -⟩ := id V_ao0
    refine own_go (x' := T2.setTop (mkF m 18 #[.val (.ref ao0), .val (.int p1), .val (.int 0), .val (.int 9)] [(.int 9), (.int 9)])) (fun t k => X2.arraylength hx (Eq.trans (congrArg (fun h_ => h_[_]?) eq2) Ar3.1) (State.isArrayOf_alike hZ.alike Ar3.2.1) (g := (mkF m 17 #[.val (.ref ao0), .val (.int p1), .val (.int 0), .val (.int 9)] [(.ref ao0), (.int 9)])) rfl rfl (hb hby d11_17) t (by rw [len_of Sz3 Nn3]; exact k)) ?_
    obtain ⟨_, _, ⟨T4, L4, k4, n4⟩, -, X4, ⟨Lc4, hQ4, l4, y4, z4⟩, st4⟩ := Jvm.LawKit.callS X2 hx (y := (⟨"java/lang/Math", "min", "(II)I"⟩ : MethodName)) hown (mvT hZ (own_w hw 68 rfl)) (mvT hZ (own_w hw 69 rfl)) (mvT hZ (own_w hw 66 rfl)) (mvT hZ (own_w hw 70 rfl)) (by decide) (backOf (W := 0) (rm14 l Z a0 hw [] (9 : Int32)  h0 n0 Zs  ) hZ (own_w hw 70 rfl) (own_w hw 66 rfl) (by decide) (by decide)) (g := (mkF m 18 #[.val (.ref ao0), .val (.int p1), .val (.int 0), .val (.int 9)] [(.int 9), (.int 9)])) rfl (by rw [hml]; rfl) (argsL := [(.int 9), (.int 9)]) (rest := []) (lenOf pd_8 rfl) rfl (by show 2 * 0 + _ ≤ _; exact Nat.le_of_eq rfl) (hb hby d11_18) (fun _ _ => ⟨rfl, eq2, (by decide : 0 + 0 ≤ _), (by decide : 0 + 0 ≤ _)⟩)
    dsimp only [Pt.U, Pt.locs, Pt.cells, Pt.slots] at X4 l4 y4 z4 st4 hQ4
    subst l4 y4 z4
    obtain ⟨hv4, Nq4, eq4⟩ := hQ4
    subst hv4
    replace Nf := Fr.app Nf Nq4
    refine own_go (x' := T4.setTop (mkF m 21 #[.val (.ref ao0), .val (.int p1), .val (.int 0), .val (.int 9)] [(.int 9)])) st4 ?_
    refine own_go (x' := T4.setTop (mkF m 31 #[.val (.ref ao0), .val (.int p1), .val (.int 0), .val (.int 9)] [(.int p1), (.ref ao0)])) (fun _ k => XS.istoreN X4.here hx rfl (hb hby d11_21) rfl (l' := #[.val (.ref ao0), .val (.int p1), .val (.int 0), .val (.int 9)]) rfl (XS.iloadN X4.here hx rfl (hb hby d11_22) rfl (XS.iloadN X4.here hx rfl (hb hby d11_23) rfl (XS.icmpYes X4.here hx rfl (pc0 := 24) (pc' := 29) rfl (hb hby d11_24) rfl (tlt (by decide +kernel : ((0 : Int32) < (9 : Int32)))).1 (by decide) (by decide) (XS.aloadN X4.here hx rfl (hb hby d11_29) rfl rfl (XS.iloadN X4.here hx rfl (hb hby d11_30) rfl k)))))) ?_
    refine own_go (x' := T4.setTop (mkF m 33 #[.val (.ref ao0), .val (.int p1), .val (.int 0), .val (.int 9)] [(.int 9), (.int 0), (.int p1), (.ref ao0)])) (fun _ k => XS.iloadN X4.here hx rfl (hb hby d11_31) rfl (XS.iloadN X4.here hx rfl (hb hby d11_32) rfl k)) ?_
    obtain ⟨_, _, ⟨T5, L5, k5, n5⟩, -, X5, ⟨Lc5, hQ5, l5, y5, z5⟩, st5⟩ := Jvm.LawKit.callS X4 hx (y := (⟨"java/lang/StringLatin1", "indexOfChar", "([BIII)I"⟩ : MethodName)) hown (mvT hZ (own_w hw 85 rfl)) (mvT hZ (own_w hw 86 rfl)) (mvT hZ (own_w hw 59 rfl)) (mvT hZ (own_w hw 87 rfl)) (by decide) (backOf (W := 0) (rm19f l Z a0 hw [] ao0 kd p1  h0 n0 Zs V_ao0 ⟨hp, fun q_ => hc4 ((own_ce0 hp).mpr q_)⟩ ) hZ (own_w hw 87 rfl) (own_w hw 59 rfl) (by decide) (by decide)) (g := (mkF m 33 #[.val (.ref ao0), .val (.int p1), .val (.int 0), .val (.int 9)] [(.int 9), (.int 0), (.int p1), (.ref ao0)])) rfl (by rw [hml]; rfl) (argsL := [(.ref ao0), (.int p1), (.int 0), (.int 9)]) (rest := []) (lenOf pd_9 rfl) rfl (by show 2 * 0 + _ ≤ _; exact Nat.le_of_eq rfl) (hb hby d11_33) (fun _ _ => ⟨rfl, eq4, (by decide : 0 + 0 ≤ _), (by decide : 0 + 0 ≤ _)⟩)
    dsimp only [Pt.U, Pt.locs, Pt.cells, Pt.slots] at X5 l5 y5 z5 st5 hQ5
    subst l5 y5 z5
    obtain ⟨rr5, hv5, hf5, Nq5, eq5⟩ := hQ5
    subst hv5
    replace Nf := Fr.app Nf Nq5
    refine own_go (x' := T5.setTop (mkF m 36 #[.val (.ref ao0), .val (.int p1), .val (.int 0), .val (.int 9)] [(.int rr5)])) st5 ?_
    refine own_retI X5 hx hlk hret (hb hby d11_36) ?_ (by decide) (by decide)
    rw [eq5]
    exact ⟨_, rfl, hf5, Nf, rfl⟩
theorem pd_10 : parseMethodDescriptor "()I" = some ⟨[], some .int⟩ := by decide +kernel
theorem d7_0 : decode jdk_42_method_80_code 0 = .ok (.aload_n 0, 1) := by decide +kernel
theorem d7_1 : decode jdk_42_method_80_code 1 = .ok (.invokevirtual 492, 3) := by decide +kernel
theorem d7_4 : decode jdk_42_method_80_code 4 = .ok (.ifCond .eq 19, 3) := by decide +kernel
theorem d7_7 : decode jdk_42_method_80_code 7 = .ok (.aload_n 0, 1) := by decide +kernel
theorem d7_8 : decode jdk_42_method_80_code 8 = .ok (.getfield 9, 3) := by decide +kernel
theorem d7_11 : decode jdk_42_method_80_code 11 = .ok (.iload_n 1, 1) := by decide +kernel
theorem d7_12 : decode jdk_42_method_80_code 12 = .ok (.iload_n 2, 1) := by decide +kernel
theorem d7_13 : decode jdk_42_method_80_code 13 = .ok (.aload_n 0, 1) := by decide +kernel
theorem d7_14 : decode jdk_42_method_80_code 14 = .ok (.invokevirtual 505, 3) := by decide +kernel
theorem d7_17 : decode jdk_42_method_80_code 17 = .ok (.invokestatic 637, 3) := by decide +kernel
theorem d7_20 : decode jdk_42_method_80_code 20 = .ok (.goto 16, 3) := by decide +kernel
theorem d7_36 : decode jdk_42_method_80_code 36 = .ok (.ireturn, 1) := by decide +kernel
def Q_rm7f (Z : State) (ao0 dd : Addr) (kd : ClassId) (p1 : Int32) (G1 : Int32) (sf : Value) (h0 : Heap) (n0 : Nat) (v : Option Value) (h : Heap) (L : List Loc) : Prop := ∃ r : Int32, v = some (.int r) ∧ ((r < 0 ∧ ¬ own_fb p1) ∨ (¬ r < 0 ∧ own_fb p1)) ∧ Fr n0 L ∧ h = h0
theorem pn_rm7f : plainName "java/lang/String" = true := by first | (simp [plainName, overriddenIn]; done) | decide +kernel
theorem ef_rm7f (m : MethodId) (x0 : Addr) (x1 : Int32) (x2 : Int32) : entryFrame m #[(.ref x0), (.int x1), (.int x2)] 3 = mkF m 0 #[.val (.ref x0), .val (.int x1), .val (.int x2)] [] := by first | (simp [entryFrame, mkF, argsToLocals, Value.category]; done) | rfl
set_option maxRecDepth 65536 in
set_option maxHeartbeats 40000000 in
theorem rm7f (l : Launch) (Z : State) (a0 : Array Value) (hw : ∀ d ∈ tables_1, d.before a0 Z = true) (ws : List Jvm.Cond) (ao0 dd : Addr) (kd : ClassId) (p1 : Int32) (G1 : Int32) (sf : Value) (h0 : Heap) (n0 : Nat) (Z0 : n0 ≤ h0.size) (E_ao0 : Exa Z h0 ao0 "java/lang/String") (F_ao0_coder : Fld Z h0 ao0 "java/lang/String" "coder" "B" (.int (0 : Int32))) (F_ao0_value : Fld Z h0 ao0 "java/lang/String" "value" "[B" (.ref dd)) (V_dd : Arv Z h0 dd kd .byte (9 : Int32) [(.int 60), (.int 62), (.int 34), (.int 123), (.int 125), (.int 124), (.int 94), (.int 96), (.int 92)] (.int (0 : Int32))) (hp : own_ch p1) (Od : Old Z n0 h0) (hst : own_St Z G1 sf) :
    MetFree l (⟨"java/lang/String", "indexOf", "(II)I"⟩ : MethodName) (head1 (Jvm.Cond.code (⟨"java/lang/String", "indexOf", "(II)I"⟩ : MethodName) jdk_42_method_80_code 3 (some .int) :: ws) ({ frames := 2, cells := 0, slots := 0, locals := 32 } : Room)) (fun a U => a = #[(.ref ao0), (.int p1), (.int 0)] ∧ Z.Warmed39 U.vm ∧ U.heap = h0) (fun _ _ _ _ _ => True) (fun _ U o U' => ∃ v L, o = .returned v ∧ (Q_rm7f Z ao0 dd kd p1 G1 sf h0 n0) v U'.heap L ∧ FrameEnd U o U' L ({ frames := 2, cells := 0, slots := 0, locals := 32 } : Room).cells ({ frames := 2, cells := 0, slots := 0, locals := 32 } : Room).slots) := by
  refine MetFree.of_bodySF (plainFor_of_name pn_rm7f) hisR ?_
  intro p e s m args below meth c s₁ Bd hml0 hP hK
  obtain ⟨rfl, hZ, hh⟩ := hP
  have hx := Bd.exec
  have hby := Bd.bytes
  have hlk := BodyLoose.notSynchronized Bd
  have hret := Bd.returns
  have hml : c.maxLocals = 3 := hml0
  have hown : s.vm.findClass "java/lang/String" = some m.cls := findClass_of_methodNamed Bd.named
  have hnm := (name_of_methodNamed Bd.named Bd.method).1
  have X0 : Stand p l e ({ frames := 2, cells := 0, slots := 0, locals := 32 } : Room) s m #[(.ref ao0), (.int p1), (.int 0)] below meth c s₁ [] 0 0 := Stand.of_body Bd
  have e0 : s₁.heap = h0 := by rw [← hh, Bd.state]; rfl
  have Nf := Fr.nil n0
  have Zs := Z0
  have Kp : Keep h0 h0 [] := Keep.refl _ _
  obtain ⟨S_COMPACT_STRINGS, hG, S__assertionsDisabled, S_HI_BYTE_SHIFT, S_LO_BYTE_SHIFT, S_SIOOBE_FORMATTER, r_sf, c_sf⟩ := id hst
  show own_End p e below s (Q_rm7f Z ao0 dd kd p1 G1 sf h0 n0) ({ frames := 2, cells := 0, slots := 0, locals := 32 } : Room).cells ({ frames := 2, cells := 0, slots := 0, locals := 32 } : Room).slots (s₁.setTop (entryFrame m #[(.ref ao0), (.int p1), (.int 0)] 3))
  refine own_go (x' := s₁.setTop (mkF m 0 #[.val (.ref ao0), .val (.int p1), .val (.int 0)] [])) (fun t k => castTop (ef_rm7f m ao0 p1 (0 : Int32)) k) ?_
  refine own_go (x' := s₁.setTop (mkF m 1 #[.val (.ref ao0), .val (.int p1), .val (.int 0)] [(.ref ao0)])) (fun _ k => XS.aloadN X0.here hx rfl (hb hby d7_0) rfl rfl k) ?_
  obtain ⟨cq1, kq1, q1a, q1b, q1c⟩ := isOf hZ e0 E_ao0
  obtain ⟨_, _, ⟨T1, L1, k1, n1⟩, -, X1, ⟨Lc1, hQ1, l1, y1, z1⟩, st1⟩ := X0.virtualBack hx (y := (⟨"java/lang/String", "isLatin1", "()Z"⟩ : MethodName)) (z := (⟨"java/lang/String", "isLatin1", "()Z"⟩ : MethodName)) hown (mvT hZ (own_w hw 41 rfl)) (mvT hZ (own_w hw 42 rfl)) (notFace_of_selects (args := #[]) (mvT hZ (own_w hw 44 rfl))) (mvT hZ (own_w hw 44 rfl)) (mvT hZ (own_w hw 43 rfl)) (by decide) (backOf (W := 0) (rm8_0 l Z a0 hw [] ao0 G1 sf h0 n0 Zs F_ao0_coder Od hst) hZ (own_w hw 45 rfl) (own_w hw 8 rfl) (by decide) (by decide)) q1a q1c (g := (mkF m 1 #[.val (.ref ao0), .val (.int p1), .val (.int 0)] [(.ref ao0)])) rfl (by rw [hml]; rfl) (Steps.refl _) (argsL := []) (rest := []) (lenOf pd_5 rfl) rfl (by show 2 * 0 + _ ≤ _; exact Nat.le_of_eq rfl) (hb hby d7_1) (fun _ _ => ⟨rfl, e0, (by decide : 0 + 0 ≤ _), (by decide : 0 + 0 ≤ _)⟩)
  dsimp only [Pt.U, Pt.locs, Pt.cells, Pt.slots] at X1 l1 y1 z1 st1 hQ1
  subst l1 y1 z1
  obtain ⟨hv1, Nq1, eq1⟩ := hQ1
  subst hv1
  replace Nf := Fr.app Nf Nq1
  refine own_go (x' := T1.setTop (mkF m 4 #[.val (.ref ao0), .val (.int p1), .val (.int 0)] [(.int 1)])) (fun _ k => st1.trans k) ?_
  refine own_go (x' := T1.setTop (mkF m 8 #[.val (.ref ao0), .val (.int p1), .val (.int 0)] [(.ref ao0)])) (fun _ k => XS.ifNo X1.here hx rfl (hb hby d7_4) rfl ((if0 _ _).trans (feq (by decide +kernel : ¬ ((1 : Int32) = (0 : Int32)))).1) (XS.aloadN X1.here hx rfl (hb hby d7_7) rfl rfl k)) ?_
  obtain ⟨T2, X2, e2, st2⟩ := getF X1 hx hZ hown (host := "") (Or.inl (own_w hw 25 rfl)) Via.refl eq1 F_ao0_value (g := (mkF m 8 #[.val (.ref ao0), .val (.int p1), .val (.int 0)] [(.ref ao0)])) rfl rfl (hb hby d7_8)
  refine own_go (x' := T2.setTop (mkF m 11 #[.val (.ref ao0), .val (.int p1), .val (.int 0)] [(.ref dd)])) st2 ?_
  refine own_go (x' := T2.setTop (mkF m 14 #[.val (.ref ao0), .val (.int p1), .val (.int 0)] [(.ref ao0), (.int 0), (.int p1), (.ref dd)])) (fun _ k => XS.iloadN X2.here hx rfl (hb hby d7_11) rfl (XS.iloadN X2.here hx rfl (hb hby d7_12) rfl (XS.aloadN X2.here hx rfl (hb hby d7_13) rfl rfl k))) ?_
  obtain ⟨cq3, kq3, q3a, q3b, q3c⟩ := isOf hZ e2 E_ao0
  obtain ⟨_, _, ⟨T3, L3, k3, n3⟩, -, X3, ⟨Lc3, hQ3, l3, y3, z3⟩, st3⟩ := X2.virtualBack hx (y := (⟨"java/lang/String", "length", "()I"⟩ : MethodName)) (z := (⟨"java/lang/String", "length", "()I"⟩ : MethodName)) hown (mvT hZ (own_w hw 47 rfl)) (mvT hZ (own_w hw 48 rfl)) (notFace_of_selects (args := #[]) (mvT hZ (own_w hw 50 rfl))) (mvT hZ (own_w hw 50 rfl)) (mvT hZ (own_w hw 49 rfl)) (by decide) (backOf (W := 3) (rm9_0 l Z a0 hw [] ao0 dd kd _ _ (9 : Int32) G1 sf h0 n0 Zs E_ao0 F_ao0_coder F_ao0_value V_dd (by decide) Od hst) hZ (own_w hw 51 rfl) (own_w hw 8 rfl) (by decide) (by decide)) q3a q3c (g := (mkF m 14 #[.val (.ref ao0), .val (.int p1), .val (.int 0)] [(.ref ao0), (.int 0), (.int p1), (.ref dd)])) rfl (by rw [hml]; rfl) (Steps.refl _) (argsL := []) (rest := [(.int 0), (.int p1), (.ref dd)]) (lenOf pd_10 rfl) rfl (by show 2 * 0 + _ ≤ _; exact Nat.le_of_eq rfl) (hb hby d7_14) (fun _ _ => ⟨rfl, e2, (by decide : 0 + 0 ≤ _), (by decide : 0 + 0 ≤ _)⟩)
  dsimp only [Pt.U, Pt.locs, Pt.cells, Pt.slots] at X3 l3 y3 z3 st3 hQ3
  subst l3 y3 z3
  obtain ⟨hv3, Nq3, eq3⟩ := hQ3
  subst hv3
  replace Nf := Fr.app Nf Nq3
  refine own_go (x' := T3.setTop (mkF m 17 #[.val (.ref ao0), .val (.int p1), .val (.int 0)] [(.int 9), (.int 0), (.int p1), (.ref dd)])) (fun _ k => st3.trans k) ?_
  obtain ⟨_, _, ⟨T4, L4, k4, n4⟩, -, X4, ⟨Lc4, hQ4, l4, y4, z4⟩, st4⟩ := Jvm.LawKit.callS X3 hx (y := (⟨"java/lang/StringLatin1", "indexOf", "([BIII)I"⟩ : MethodName)) hown (mvT hZ (own_w hw 57 rfl)) (mvT hZ (own_w hw 58 rfl)) (mvT hZ (own_w hw 59 rfl)) (mvT hZ (own_w hw 60 rfl)) (by decide) (backOf (W := 0) (rm11f l Z a0 hw [] dd kd p1  h0 n0 Zs V_dd hp ) hZ (own_w hw 60 rfl) (own_w hw 59 rfl) (by decide) (by decide)) (g := (mkF m 17 #[.val (.ref ao0), .val (.int p1), .val (.int 0)] [(.int 9), (.int 0), (.int p1), (.ref dd)])) rfl (by rw [hml]; rfl) (argsL := [(.ref dd), (.int p1), (.int 0), (.int 9)]) (rest := []) (lenOf pd_9 rfl) rfl (by show 2 * 0 + _ ≤ _; exact Nat.le_of_eq rfl) (hb hby d7_17) (fun _ _ => ⟨rfl, eq3, (by decide : 0 + 0 ≤ _), (by decide : 0 + 0 ≤ _)⟩)
  dsimp only [Pt.U, Pt.locs, Pt.cells, Pt.slots] at X4 l4 y4 z4 st4 hQ4
  subst l4 y4 z4
  obtain ⟨rr4, hv4, hf4, Nq4, eq4⟩ := hQ4
  subst hv4
  replace Nf := Fr.app Nf Nq4
  refine own_go (x' := T4.setTop (mkF m 20 #[.val (.ref ao0), .val (.int p1), .val (.int 0)] [(.int rr4)])) st4 ?_
  refine own_go (x' := T4.setTop (mkF m 36 #[.val (.ref ao0), .val (.int p1), .val (.int 0)] [(.int rr4)])) (fun _ k => XS.goto X4.here hx rfl (pc0 := 20) (pc' := 36) rfl (hb hby d7_20) (by decide) (by decide) k) ?_
  refine own_retI X4 hx hlk hret (hb hby d7_36) ?_ (by decide) (by decide)
  rw [eq4]
  exact ⟨_, rfl, hf4, Nf, rfl⟩
theorem d6_0 : decode jdk_42_method_79_code 0 = .ok (.aload_n 0, 1) := by decide +kernel
theorem d6_1 : decode jdk_42_method_79_code 1 = .ok (.iload_n 1, 1) := by decide +kernel
theorem d6_2 : decode jdk_42_method_79_code 2 = .ok (.iconst 0, 1) := by decide +kernel
theorem d6_3 : decode jdk_42_method_79_code 3 = .ok (.invokevirtual 633, 3) := by decide +kernel
theorem d6_6 : decode jdk_42_method_79_code 6 = .ok (.ireturn, 1) := by decide +kernel
def Q_rm6f (Z : State) (ao0 dd : Addr) (kd : ClassId) (p1 : Int32) (G1 : Int32) (sf : Value) (h0 : Heap) (n0 : Nat) (v : Option Value) (h : Heap) (L : List Loc) : Prop := ∃ r : Int32, v = some (.int r) ∧ ((r < 0 ∧ ¬ own_fb p1) ∨ (¬ r < 0 ∧ own_fb p1)) ∧ Fr n0 L ∧ h = h0
theorem pn_rm6f : plainName "java/lang/String" = true := by first | (simp [plainName, overriddenIn]; done) | decide +kernel
theorem ef_rm6f (m : MethodId) (x0 : Addr) (x1 : Int32) : entryFrame m #[(.ref x0), (.int x1)] 2 = mkF m 0 #[.val (.ref x0), .val (.int x1)] [] := by first | (simp [entryFrame, mkF, argsToLocals, Value.category]; done) | rfl
set_option maxRecDepth 65536 in
set_option maxHeartbeats 40000000 in
theorem rm6f (l : Launch) (Z : State) (a0 : Array Value) (hw : ∀ d ∈ tables_1, d.before a0 Z = true) (ws : List Jvm.Cond) (ao0 dd : Addr) (kd : ClassId) (p1 : Int32) (G1 : Int32) (sf : Value) (h0 : Heap) (n0 : Nat) (Z0 : n0 ≤ h0.size) (E_ao0 : Exa Z h0 ao0 "java/lang/String") (F_ao0_coder : Fld Z h0 ao0 "java/lang/String" "coder" "B" (.int (0 : Int32))) (F_ao0_value : Fld Z h0 ao0 "java/lang/String" "value" "[B" (.ref dd)) (V_dd : Arv Z h0 dd kd .byte (9 : Int32) [(.int 60), (.int 62), (.int 34), (.int 123), (.int 125), (.int 124), (.int 94), (.int 96), (.int 92)] (.int (0 : Int32))) (hp : own_ch p1) (Od : Old Z n0 h0) (hst : own_St Z G1 sf) :
    MetFree l (⟨"java/lang/String", "indexOf", "(I)I"⟩ : MethodName) (head1 (Jvm.Cond.code (⟨"java/lang/String", "indexOf", "(I)I"⟩ : MethodName) jdk_42_method_79_code 2 (some .int) :: ws) ({ frames := 3, cells := 0, slots := 0, locals := 46 } : Room)) (fun a U => a = #[(.ref ao0), (.int p1)] ∧ Z.Warmed39 U.vm ∧ U.heap = h0) (fun _ _ _ _ _ => True) (fun _ U o U' => ∃ v L, o = .returned v ∧ (Q_rm6f Z ao0 dd kd p1 G1 sf h0 n0) v U'.heap L ∧ FrameEnd U o U' L ({ frames := 3, cells := 0, slots := 0, locals := 46 } : Room).cells ({ frames := 3, cells := 0, slots := 0, locals := 46 } : Room).slots) := by
  refine MetFree.of_bodySF (plainFor_of_name pn_rm6f) hisR ?_
  intro p e s m args below meth c s₁ Bd hml0 hP hK
  obtain ⟨rfl, hZ, hh⟩ := hP
  have hx := Bd.exec
  have hby := Bd.bytes
  have hlk := BodyLoose.notSynchronized Bd
  have hret := Bd.returns
  have hml : c.maxLocals = 2 := hml0
  have hown : s.vm.findClass "java/lang/String" = some m.cls := findClass_of_methodNamed Bd.named
  have hnm := (name_of_methodNamed Bd.named Bd.method).1
  have X0 : Stand p l e ({ frames := 3, cells := 0, slots := 0, locals := 46 } : Room) s m #[(.ref ao0), (.int p1)] below meth c s₁ [] 0 0 := Stand.of_body Bd
  have e0 : s₁.heap = h0 := by rw [← hh, Bd.state]; rfl
  have Nf := Fr.nil n0
  have Zs := Z0
  have Kp : Keep h0 h0 [] := Keep.refl _ _
  obtain ⟨S_COMPACT_STRINGS, hG, S__assertionsDisabled, S_HI_BYTE_SHIFT, S_LO_BYTE_SHIFT, S_SIOOBE_FORMATTER, r_sf, c_sf⟩ := id hst
  show own_End p e below s (Q_rm6f Z ao0 dd kd p1 G1 sf h0 n0) ({ frames := 3, cells := 0, slots := 0, locals := 46 } : Room).cells ({ frames := 3, cells := 0, slots := 0, locals := 46 } : Room).slots (s₁.setTop (entryFrame m #[(.ref ao0), (.int p1)] 2))
  refine own_go (x' := s₁.setTop (mkF m 0 #[.val (.ref ao0), .val (.int p1)] [])) (fun t k => castTop (ef_rm6f m ao0 p1) k) ?_
  refine own_go (x' := s₁.setTop (mkF m 3 #[.val (.ref ao0), .val (.int p1)] [(.int 0), (.int p1), (.ref ao0)])) (fun _ k => XS.aloadN X0.here hx rfl (hb hby d6_0) rfl rfl (XS.iloadN X0.here hx rfl (hb hby d6_1) rfl (XS.iconst X0.here hx rfl (hb hby d6_2) k))) ?_
  obtain ⟨cq1, kq1, q1a, q1b, q1c⟩ := isOf hZ e0 E_ao0
  obtain ⟨_, _, ⟨T1, L1, k1, n1⟩, -, X1, ⟨Lc1, hQ1, l1, y1, z1⟩, st1⟩ := X0.virtualBack hx (y := (⟨"java/lang/String", "indexOf", "(II)I"⟩ : MethodName)) (z := (⟨"java/lang/String", "indexOf", "(II)I"⟩ : MethodName)) hown (mvT hZ (own_w hw 36 rfl)) (mvT hZ (own_w hw 37 rfl)) (notFace_of_selects (args := #[]) (mvT hZ (own_w hw 39 rfl))) (mvT hZ (own_w hw 39 rfl)) (mvT hZ (own_w hw 38 rfl)) (by decide) (backOf (W := 0) (rm7f l Z a0 hw [] ao0 dd kd p1 G1 sf h0 n0 Zs E_ao0 F_ao0_coder F_ao0_value V_dd hp Od hst) hZ (own_w hw 40 rfl) (own_w hw 8 rfl) (by decide) (by decide)) q1a q1c (g := (mkF m 3 #[.val (.ref ao0), .val (.int p1)] [(.int 0), (.int p1), (.ref ao0)])) rfl (by rw [hml]; rfl) (Steps.refl _) (argsL := [(.int p1), (.int 0)]) (rest := []) (lenOf pd_8 rfl) rfl (by show 2 * 0 + _ ≤ _; exact Nat.le_of_eq rfl) (hb hby d6_3) (fun _ _ => ⟨rfl, e0, (by decide : 0 + 0 ≤ _), (by decide : 0 + 0 ≤ _)⟩)
  dsimp only [Pt.U, Pt.locs, Pt.cells, Pt.slots] at X1 l1 y1 z1 st1 hQ1
  subst l1 y1 z1
  obtain ⟨rr1, hv1, hf1, Nq1, eq1⟩ := hQ1
  subst hv1
  replace Nf := Fr.app Nf Nq1
  refine own_go (x' := T1.setTop (mkF m 6 #[.val (.ref ao0), .val (.int p1)] [(.int rr1)])) (fun _ k => st1.trans k) ?_
  refine own_retI X1 hx hlk hret (hb hby d6_6) ?_ (by decide) (by decide)
  rw [eq1]
  exact ⟨_, rfl, hf1, Nf, rfl⟩
theorem d30_0 : decode jdk_41_method_12_code 0 = .ok (.iload_n 0, 1) := by decide +kernel
theorem d30_1 : decode jdk_41_method_12_code 1 = .ok (.ifCond .lt 13, 3) := by decide +kernel
theorem d30_4 : decode jdk_41_method_12_code 4 = .ok (.iload_n 0, 1) := by decide +kernel
theorem d30_5 : decode jdk_41_method_12_code 5 = .ok (.iload_n 1, 1) := by decide +kernel
theorem d30_6 : decode jdk_41_method_12_code 6 = .ok (.if_icmp .gt 8, 3) := by decide +kernel
theorem d30_9 : decode jdk_41_method_12_code 9 = .ok (.iload_n 1, 1) := by decide +kernel
theorem d30_10 : decode jdk_41_method_12_code 10 = .ok (.iload_n 2, 1) := by decide +kernel
theorem d30_11 : decode jdk_41_method_12_code 11 = .ok (.if_icmp .le 11, 3) := by decide +kernel
theorem d30_22 : decode jdk_41_method_12_code 22 = .ok (.iload_n 0, 1) := by decide +kernel
theorem d30_23 : decode jdk_41_method_12_code 23 = .ok (.ireturn, 1) := by decide +kernel
def Q_rm30 (Z : State) (p1 : Int32) (sf : Value) (h0 : Heap) (n0 : Nat) (v : Option Value) (h : Heap) (L : List Loc) : Prop := v = some (.int (0 : Int32)) ∧ Fr n0 L ∧ h = h0
theorem pn_rm30 : plainName "jdk/internal/util/Preconditions" = true := by first | (simp [plainName, overriddenIn]; done) | decide +kernel
theorem ef_rm30 (m : MethodId) (x0 : Int32) (x1 : Int32) (x2 : Int32) (x3 : Value) (c3 : x3.category = 1) : entryFrame m #[(.int x0), (.int x1), (.int x2), x3] 4 = mkF m 0 #[.val (.int x0), .val (.int x1), .val (.int x2), .val x3] [] := by simp [entryFrame, mkF, argsToLocals, c3, show (Value.int x0).category = 1 from rfl, show (Value.int x1).category = 1 from rfl, show (Value.int x2).category = 1 from rfl]
set_option maxRecDepth 65536 in
set_option maxHeartbeats 40000000 in
theorem rm30 (l : Launch) (Z : State) (a0 : Array Value) (hw : ∀ d ∈ tables_1, d.before a0 Z = true) (ws : List Jvm.Cond) (p1 : Int32) (sf : Value) (h0 : Heap) (n0 : Nat) (Z0 : n0 ≤ h0.size) (r_sf : sf.isRef = true) (c_sf : sf.category = 1) (hp : ¬ p1 < 0) :
    MetFree l (⟨"jdk/internal/util/Preconditions", "checkFromToIndex", "(IIILjava/util/function/BiFunction;)I"⟩ : MethodName) (head1 (Jvm.Cond.code (⟨"jdk/internal/util/Preconditions", "checkFromToIndex", "(IIILjava/util/function/BiFunction;)I"⟩ : MethodName) jdk_41_method_12_code 4 (some .int) :: ws) ({ frames := 0, cells := 0, slots := 0, locals := 0 } : Room)) (fun a U => a = #[(.int 0), (.int p1), (.int p1), sf] ∧ Z.Warmed39 U.vm ∧ U.heap = h0) (fun _ _ _ _ _ => True) (fun _ U o U' => ∃ v L, o = .returned v ∧ (Q_rm30 Z p1 sf h0 n0) v U'.heap L ∧ FrameEnd U o U' L ({ frames := 0, cells := 0, slots := 0, locals := 0 } : Room).cells ({ frames := 0, cells := 0, slots := 0, locals := 0 } : Room).slots) := by
  refine MetFree.of_bodySF (plainFor_of_name pn_rm30) hisR ?_
  intro p e s m args below meth c s₁ Bd hml0 hP hK
  obtain ⟨rfl, hZ, hh⟩ := hP
  have hx := Bd.exec
  have hby := Bd.bytes
  have hlk := BodyLoose.notSynchronized Bd
  have hret := Bd.returns
  have hml : c.maxLocals = 4 := hml0
  have hown : s.vm.findClass "jdk/internal/util/Preconditions" = some m.cls := findClass_of_methodNamed Bd.named
  have hnm := (name_of_methodNamed Bd.named Bd.method).1
  have X0 : Stand p l e ({ frames := 0, cells := 0, slots := 0, locals := 0 } : Room) s m #[(.int 0), (.int p1), (.int p1), sf] below meth c s₁ [] 0 0 := Stand.of_body Bd
  have e0 : s₁.heap = h0 := by rw [← hh, Bd.state]; rfl
  have Nf := Fr.nil n0
  have Zs := Z0
  have Kp : Keep h0 h0 [] := Keep.refl _ _
  show own_End p e below s (Q_rm30 Z p1 sf h0 n0) ({ frames := 0, cells := 0, slots := 0, locals := 0 } : Room).cells ({ frames := 0, cells := 0, slots := 0, locals := 0 } : Room).slots (s₁.setTop (entryFrame m #[(.int 0), (.int p1), (.int p1), sf] 4))
  refine own_go (x' := s₁.setTop (mkF m 0 #[.val (.int 0), .val (.int p1), .val (.int p1), .val sf] [])) (fun t k => castTop (ef_rm30 m (0 : Int32) p1 p1 sf c_sf) k) ?_
  refine own_go (x' := s₁.setTop (mkF m 10 #[.val (.int 0), .val (.int p1), .val (.int p1), .val sf] [(.int p1)])) (fun _ k => XS.iloadN X0.here hx rfl (hb hby d30_0) rfl (XS.ifNo X0.here hx rfl (hb hby d30_1) rfl ((if0 _ _).trans (flt (Int32.lt_irrefl)).1) (XS.iloadN X0.here hx rfl (hb hby d30_4) rfl (XS.iloadN X0.here hx rfl (hb hby d30_5) rfl (XS.icmpNo X0.here hx rfl (hb hby d30_6) rfl (flt hp).2.2.1 (XS.iloadN X0.here hx rfl (hb hby d30_9) rfl k)))))) ?_
  refine own_go (x' := s₁.setTop (mkF m 23 #[.val (.int 0), .val (.int p1), .val (.int p1), .val sf] [(.int 0)])) (fun _ k => XS.iloadN X0.here hx rfl (hb hby d30_10) rfl (XS.icmpYes X0.here hx rfl (pc0 := 11) (pc' := 22) rfl (hb hby d30_11) rfl (flt (Int32.lt_irrefl)).2.2.2 (by decide) (by decide) (XS.iloadN X0.here hx rfl (hb hby d30_22) rfl k))) ?_
  refine own_retI X0 hx hlk hret (hb hby d30_23) ?_ (by decide) (by decide)
  rw [e0]
  exact ⟨rfl, Nf, rfl⟩
theorem pd_11 : parseMethodDescriptor "(IIILjava/util/function/BiFunction;)I" = some ⟨[.int, .int, .int, (.object "java/util/function/BiFunction")], some .int⟩ := by decide +kernel
theorem d29_0 : decode jdk_42_method_158_code 0 = .ok (.iload_n 0, 1) := by decide +kernel
theorem d29_1 : decode jdk_42_method_158_code 1 = .ok (.iload_n 1, 1) := by decide +kernel
theorem d29_2 : decode jdk_42_method_158_code 2 = .ok (.iload_n 2, 1) := by decide +kernel
theorem d29_3 : decode jdk_42_method_158_code 3 = .ok (.getstatic 1053, 3) := by decide +kernel
theorem d29_6 : decode jdk_42_method_158_code 6 = .ok (.invokestatic 1062, 3) := by decide +kernel
theorem d29_9 : decode jdk_42_method_158_code 9 = .ok (.pop, 1) := by decide +kernel
theorem d29_10 : decode jdk_42_method_158_code 10 = .ok (.return_, 1) := by decide +kernel
def Q_rm29 (Z : State) (p1 : Int32) (G1 : Int32) (sf : Value) (h0 : Heap) (n0 : Nat) (v : Option Value) (h : Heap) (L : List Loc) : Prop := v = none ∧ Fr n0 L ∧ h = h0
theorem pn_rm29 : plainName "java/lang/String" = true := by first | (simp [plainName, overriddenIn]; done) | decide +kernel
theorem ef_rm29 (m : MethodId) (x0 : Int32) (x1 : Int32) (x2 : Int32) : entryFrame m #[(.int x0), (.int x1), (.int x2)] 3 = mkF m 0 #[.val (.int x0), .val (.int x1), .val (.int x2)] [] := by first | (simp [entryFrame, mkF, argsToLocals, Value.category]; done) | rfl
set_option maxRecDepth 65536 in
set_option maxHeartbeats 40000000 in
theorem rm29 (l : Launch) (Z : State) (a0 : Array Value) (hw : ∀ d ∈ tables_1, d.before a0 Z = true) (ws : List Jvm.Cond) (p1 : Int32) (G1 : Int32) (sf : Value) (h0 : Heap) (n0 : Nat) (Z0 : n0 ≤ h0.size) (hp : ¬ p1 < 0) (Od : Old Z n0 h0) (hst : own_St Z G1 sf) :
    MetFree l (⟨"java/lang/String", "checkBoundsBeginEnd", "(III)V"⟩ : MethodName) (head1 (Jvm.Cond.code (⟨"java/lang/String", "checkBoundsBeginEnd", "(III)V"⟩ : MethodName) jdk_42_method_158_code 3 none :: ws) ({ frames := 1, cells := 0, slots := 0, locals := 15 } : Room)) (fun a U => a = #[(.int 0), (.int p1), (.int p1)] ∧ Z.Warmed39 U.vm ∧ U.heap = h0) (fun _ _ _ _ _ => True) (fun _ U o U' => ∃ v L, o = .returned v ∧ (Q_rm29 Z p1 G1 sf h0 n0) v U'.heap L ∧ FrameEnd U o U' L ({ frames := 1, cells := 0, slots := 0, locals := 15 } : Room).cells ({ frames := 1, cells := 0, slots := 0, locals := 15 } : Room).slots) := by
  refine MetFree.of_bodySF (plainFor_of_name pn_rm29) hisR ?_
  intro p e s m args below meth c s₁ Bd hml0 hP hK
  obtain ⟨rfl, hZ, hh⟩ := hP
  have hx := Bd.exec
  have hby := Bd.bytes
  have hlk := BodyLoose.notSynchronized Bd
  have hret := Bd.returns
  have hml : c.maxLocals = 3 := hml0
  have hown : s.vm.findClass "java/lang/String" = some m.cls := findClass_of_methodNamed Bd.named
  have hnm := (name_of_methodNamed Bd.named Bd.method).1
  have X0 : Stand p l e ({ frames := 1, cells := 0, slots := 0, locals := 15 } : Room) s m #[(.int 0), (.int p1), (.int p1)] below meth c s₁ [] 0 0 := Stand.of_body Bd
  have e0 : s₁.heap = h0 := by rw [← hh, Bd.state]; rfl
  have Nf := Fr.nil n0
  have Zs := Z0
  have Kp : Keep h0 h0 [] := Keep.refl _ _
  obtain ⟨S_COMPACT_STRINGS, hG, S__assertionsDisabled, S_HI_BYTE_SHIFT, S_LO_BYTE_SHIFT, S_SIOOBE_FORMATTER, r_sf, c_sf⟩ := id hst
  show own_End p e below s (Q_rm29 Z p1 G1 sf h0 n0) ({ frames := 1, cells := 0, slots := 0, locals := 15 } : Room).cells ({ frames := 1, cells := 0, slots := 0, locals := 15 } : Room).slots (s₁.setTop (entryFrame m #[(.int 0), (.int p1), (.int p1)] 3))
  refine own_go (x' := s₁.setTop (mkF m 0 #[.val (.int 0), .val (.int p1), .val (.int p1)] [])) (fun t k => castTop (ef_rm29 m (0 : Int32) p1 p1) k) ?_
  refine own_go (x' := s₁.setTop (mkF m 3 #[.val (.int 0), .val (.int p1), .val (.int p1)] [(.int p1), (.int p1), (.int 0)])) (fun _ k => XS.iloadN X0.here hx rfl (hb hby d29_0) rfl (XS.iloadN X0.here hx rfl (hb hby d29_1) rfl (XS.iloadN X0.here hx rfl (hb hby d29_2) rfl k))) ?_
  obtain ⟨T1, X1, e1, st1⟩ := getS2 X0 hx hZ hown (host := "") (Or.inl (own_w hw 125 rfl)) Via.refl e0 (Sta.ext Od.2 S_SIOOBE_FORMATTER) (g := (mkF m 3 #[.val (.int 0), .val (.int p1), .val (.int p1)] [(.int p1), (.int p1), (.int 0)])) rfl (hb hby d29_3)
  refine own_go (x' := T1.setTop (mkF m 6 #[.val (.int 0), .val (.int p1), .val (.int p1)] [sf, (.int p1), (.int p1), (.int 0)])) st1 ?_
  obtain ⟨_, _, ⟨T2, L2, k2, n2⟩, -, X2, ⟨Lc2, hQ2, l2, y2, z2⟩, st2⟩ := Jvm.LawKit.callS X1 hx (y := (⟨"jdk/internal/util/Preconditions", "checkFromToIndex", "(IIILjava/util/function/BiFunction;)I"⟩ : MethodName)) hown (mvT hZ (own_w hw 127 rfl)) (mvT hZ (own_w hw 128 rfl)) (mvT hZ (own_w hw 126 rfl)) (mvT hZ (own_w hw 129 rfl)) (by decide) (backOf (W := 0) (rm30 l Z a0 hw [] p1 sf h0 n0 Zs r_sf c_sf hp) hZ (own_w hw 129 rfl) (own_w hw 126 rfl) (by decide) (by decide)) (g := (mkF m 6 #[.val (.int 0), .val (.int p1), .val (.int p1)] [sf, (.int p1), (.int p1), (.int 0)])) rfl (by rw [hml]; rfl) (argsL := [(.int 0), (.int p1), (.int p1), sf]) (rest := []) (lenOf pd_11 rfl) rfl (by show 2 * 0 + _ ≤ _; exact Nat.le_of_eq rfl) (hb hby d29_6) (fun _ _ => ⟨rfl, e1, (by decide : 0 + 0 ≤ _), (by decide : 0 + 0 ≤ _)⟩)
  dsimp only [Pt.U, Pt.locs, Pt.cells, Pt.slots] at X2 l2 y2 z2 st2 hQ2
  subst l2 y2 z2
  obtain ⟨hv2, Nq2, eq2⟩ := hQ2
  subst hv2
  replace Nf := Fr.app Nf Nq2
  refine own_go (x' := T2.setTop (mkF m 9 #[.val (.int 0), .val (.int p1), .val (.int p1)] [(.int 0)])) st2 ?_
  refine own_go (x' := T2.setTop (mkF m 10 #[.val (.int 0), .val (.int p1), .val (.int p1)] [])) (fun _ k => XS.pop X2.here hx rfl (hb hby d29_9) rfl rfl k) ?_
  refine own_retV X2 hx hlk hret (hb hby d29_10) ?_ (by decide) (by decide)
  rw [eq2]
  exact ⟨rfl, Nf, rfl⟩
theorem pd_12 : parseMethodDescriptor "(III)V" = some ⟨[.int, .int, .int], none⟩ := by decide +kernel
theorem d27_0 : decode jdk_52_method_93_code 0 = .ok (.iload_n 0, 1) := by decide +kernel
theorem d27_1 : decode jdk_52_method_93_code 1 = .ok (.iload_n 1, 1) := by decide +kernel
theorem d27_2 : decode jdk_52_method_93_code 2 = .ok (.aload_n 2, 1) := by decide +kernel
theorem d27_3 : decode jdk_52_method_93_code 3 = .ok (.invokestatic 48, 3) := by decide +kernel
theorem d27_6 : decode jdk_52_method_93_code 6 = .ok (.invokestatic 241, 3) := by decide +kernel
theorem d27_9 : decode jdk_52_method_93_code 9 = .ok (.return_, 1) := by decide +kernel
def Q_rm27 (Z : State) (ao0 : Addr) (kd : ClassId) (mm : Int32) (vs : List Value) (nn : Int32) (G1 : Int32) (sf : Value) (h0 : Heap) (n0 : Nat) (v : Option Value) (h : Heap) (L : List Loc) : Prop := v = none ∧ Fr n0 L ∧ h = h0
theorem pn_rm27 : plainName "java/lang/StringUTF16" = true := by first | (simp [plainName, overriddenIn]; done) | decide +kernel
theorem ef_rm27 (m : MethodId) (x0 : Int32) (x1 : Int32) (x2 : Addr) : entryFrame m #[(.int x0), (.int x1), (.ref x2)] 3 = mkF m 0 #[.val (.int x0), .val (.int x1), .val (.ref x2)] [] := by first | (simp [entryFrame, mkF, argsToLocals, Value.category]; done) | rfl
set_option maxRecDepth 65536 in
set_option maxHeartbeats 40000000 in
theorem rm27 (l : Launch) (Z : State) (a0 : Array Value) (hw : ∀ d ∈ tables_1, d.before a0 Z = true) (ws : List Jvm.Cond) (ao0 : Addr) (kd : ClassId) (mm : Int32) (vs : List Value) (nn : Int32) (G1 : Int32) (sf : Value) (h0 : Heap) (n0 : Nat) (Z0 : n0 ≤ h0.size) (V_ao0 : Arv Z h0 ao0 kd .byte mm vs (.int (0 : Int32))) (hq : (mm >>> ((1 : Int32) &&& 31)) = nn) (hp : ¬ nn < 0) (Od : Old Z n0 h0) (hst : own_St Z G1 sf) :
    MetFree l (⟨"java/lang/StringUTF16", "checkBoundsBeginEnd", "(II[B)V"⟩ : MethodName) (head1 (Jvm.Cond.code (⟨"java/lang/StringUTF16", "checkBoundsBeginEnd", "(II[B)V"⟩ : MethodName) jdk_52_method_93_code 3 none :: ws) ({ frames := 2, cells := 0, slots := 0, locals := 29 } : Room)) (fun a U => a = #[(.int 0), (.int nn), (.ref ao0)] ∧ Z.Warmed39 U.vm ∧ U.heap = h0) (fun _ _ _ _ _ => True) (fun _ U o U' => ∃ v L, o = .returned v ∧ (Q_rm27 Z ao0 kd mm vs nn G1 sf h0 n0) v U'.heap L ∧ FrameEnd U o U' L ({ frames := 2, cells := 0, slots := 0, locals := 29 } : Room).cells ({ frames := 2, cells := 0, slots := 0, locals := 29 } : Room).slots) := by
  refine MetFree.of_bodySF (plainFor_of_name pn_rm27) hisR ?_
  intro p e s m args below meth c s₁ Bd hml0 hP hK
  obtain ⟨rfl, hZ, hh⟩ := hP
  have hx := Bd.exec
  have hby := Bd.bytes
  have hlk := BodyLoose.notSynchronized Bd
  have hret := Bd.returns
  have hml : c.maxLocals = 3 := hml0
  have hown : s.vm.findClass "java/lang/StringUTF16" = some m.cls := findClass_of_methodNamed Bd.named
  have hnm := (name_of_methodNamed Bd.named Bd.method).1
  have X0 : Stand p l e ({ frames := 2, cells := 0, slots := 0, locals := 29 } : Room) s m #[(.int 0), (.int nn), (.ref ao0)] below meth c s₁ [] 0 0 := Stand.of_body Bd
  have e0 : s₁.heap = h0 := by rw [← hh, Bd.state]; rfl
  have Nf := Fr.nil n0
  have Zs := Z0
  have Kp : Keep h0 h0 [] := Keep.refl _ _
  obtain ⟨S_COMPACT_STRINGS, hG, S__assertionsDisabled, S_HI_BYTE_SHIFT, S_LO_BYTE_SHIFT, S_SIOOBE_FORMATTER, r_sf, c_sf⟩ := id hst
  show own_End p e below s (Q_rm27 Z ao0 kd mm vs nn G1 sf h0 n0) ({ frames := 2, cells := 0, slots := 0, locals := 29 } : Room).cells ({ frames := 2, cells := 0, slots := 0, locals := 29 } : Room).slots (s₁.setTop (entryFrame m #[(.int 0), (.int nn), (.ref ao0)] 3))
  refine own_go (x' := s₁.setTop (mkF m 0 #[.val (.int 0), .val (.int nn), .val (.ref ao0)] [])) (fun t k => castTop (ef_rm27 m (0 : Int32) nn ao0) k) ?_
  refine own_go (x' := s₁.setTop (mkF m 3 #[.val (.int 0), .val (.int nn), .val (.ref ao0)] [(.ref ao0), (.int nn), (.int 0)])) (fun _ k => XS.iloadN X0.here hx rfl (hb hby d27_0) rfl (XS.iloadN X0.here hx rfl (hb hby d27_1) rfl (XS.aloadN X0.here hx rfl (hb hby d27_2) rfl rfl k))) ?_
  obtain ⟨_, _, ⟨T1, L1, k1, n1⟩, -, X1, ⟨Lc1, hQ1, l1, y1, z1⟩, st1⟩ := Jvm.LawKit.callS X0 hx (y := (⟨"java/lang/StringUTF16", "length", "([B)I"⟩ : MethodName)) hown (mvT hZ (own_w hw 119 rfl)) (mvT hZ (own_w hw 120 rfl)) (mvT hZ (own_w hw 77 rfl)) (mvT hZ (own_w hw 121 rfl)) (by decide) (backOf (W := 2) (rm28 l Z a0 hw [] ao0 kd mm vs nn  h0 n0 Zs V_ao0 hq ) hZ (own_w hw 121 rfl) (own_w hw 77 rfl) (by decide) (by decide)) (g := (mkF m 3 #[.val (.int 0), .val (.int nn), .val (.ref ao0)] [(.ref ao0), (.int nn), (.int 0)])) rfl (by rw [hml]; rfl) (argsL := [(.ref ao0)]) (rest := [(.int nn), (.int 0)]) (lenOf pd_2 rfl) rfl (by show 2 * 0 + _ ≤ _; exact Nat.le_of_eq rfl) (hb hby d27_3) (fun _ _ => ⟨rfl, e0, (by decide : 0 + 0 ≤ _), (by decide : 0 + 0 ≤ _)⟩)
  dsimp only [Pt.U, Pt.locs, Pt.cells, Pt.slots] at X1 l1 y1 z1 st1 hQ1
  subst l1 y1 z1
  obtain ⟨hv1, Nq1, eq1⟩ := hQ1
  subst hv1
  replace Nf := Fr.app Nf Nq1
  refine own_go (x' := T1.setTop (mkF m 6 #[.val (.int 0), .val (.int nn), .val (.ref ao0)] [(.int nn), (.int nn), (.int 0)])) st1 ?_
  obtain ⟨_, _, ⟨T2, L2, k2, n2⟩, -, X2, ⟨Lc2, hQ2, l2, y2, z2⟩, st2⟩ := Jvm.LawKit.callS X1 hx (y := (⟨"java/lang/String", "checkBoundsBeginEnd", "(III)V"⟩ : MethodName)) hown (mvT hZ (own_w hw 122 rfl)) (mvT hZ (own_w hw 123 rfl)) (mvT hZ (own_w hw 8 rfl)) (mvT hZ (own_w hw 124 rfl)) (by decide) (backOf (W := 0) (rm29 l Z a0 hw [] nn G1 sf h0 n0 Zs hp Od hst) hZ (own_w hw 124 rfl) (own_w hw 8 rfl) (by decide) (by decide)) (g := (mkF m 6 #[.val (.int 0), .val (.int nn), .val (.ref ao0)] [(.int nn), (.int nn), (.int 0)])) rfl (by rw [hml]; rfl) (argsL := [(.int 0), (.int nn), (.int nn)]) (rest := []) (lenOf pd_12 rfl) rfl (by show 2 * 0 + _ ≤ _; exact Nat.le_of_eq rfl) (hb hby d27_6) (fun _ _ => ⟨rfl, eq1, (by decide : 0 + 0 ≤ _), (by decide : 0 + 0 ≤ _)⟩)
  dsimp only [Pt.U, Pt.locs, Pt.cells, Pt.slots] at X2 l2 y2 z2 st2 hQ2
  subst l2 y2 z2
  obtain ⟨hv2, Nq2, eq2⟩ := hQ2
  subst hv2
  replace Nf := Fr.app Nf Nq2
  refine own_go (x' := T2.setTop (mkF m 9 #[.val (.int 0), .val (.int nn), .val (.ref ao0)] [])) st2 ?_
  refine own_retV X2 hx hlk hret (hb hby d27_9) ?_ (by decide) (by decide)
  rw [eq2]
  exact ⟨rfl, Nf, rfl⟩
theorem own_gc {xs : List Int32} {j : Nat} {x : Int32} (hlen : xs.length ≤ 6) (hj : j < xs.length) (hx : xs[j]? = some x) : (¬ (Int32.ofNat j <<< ((1 : Int32) &&& 31)) < 0 ∧ (Int32.ofNat j <<< ((1 : Int32) &&& 31)) < Int32.ofNat (2 * xs.length)) ∧ (¬ ((Int32.ofNat j <<< ((1 : Int32) &&& 31)) + (1 : Int32)) < 0 ∧ ((Int32.ofNat j <<< ((1 : Int32) &&& 31)) + (1 : Int32)) < Int32.ofNat (2 * xs.length)) ∧
    (own_utf xs).getD (Int32.ofNat j <<< ((1 : Int32) &&& 31)).toNatClampNeg (.int (0 : Int32)) = .int (nar .byte ((x >>> ((0 : Int32) &&& 31)).toInt8.toInt32)) ∧ (own_utf xs).getD ((Int32.ofNat j <<< ((1 : Int32) &&& 31)) + (1 : Int32)).toNatClampNeg (.int (0 : Int32)) = .int (nar .byte ((x >>> ((8 : Int32) &&& 31)).toInt8.toInt32)) := by
  rw [own_osh j (by omega), own_oinc (2 * j) (by omega), own_onc _ (by omega), own_onc _ (by omega)]
  exact ⟨⟨own_onn _ (by omega), (own_olt (by omega) (by omega)).mpr (by omega)⟩, ⟨own_onn _ (by omega), (own_olt (by omega) (by omega)).mpr (by omega)⟩, own_utfD hx _⟩
theorem d31_3 : decode jdk_52_method_48_code 3 = .ok (.iload 4, 2) := by decide +kernel
theorem d31_5 : decode jdk_52_method_48_code 5 = .ok (.iload_n 3, 1) := by decide +kernel
theorem d31_6 : decode jdk_52_method_48_code 6 = .ok (.if_icmp .ge 22, 3) := by decide +kernel
theorem d31_28 : decode jdk_52_method_48_code 28 = .ok (.iconst (-1), 1) := by decide +kernel
theorem d31_29 : decode jdk_52_method_48_code 29 = .ok (.ireturn, 1) := by decide +kernel
theorem d31_9 : decode jdk_52_method_48_code 9 = .ok (.aload_n 0, 1) := by decide +kernel
theorem d31_10 : decode jdk_52_method_48_code 10 = .ok (.iload 4, 2) := by decide +kernel
theorem d31_12 : decode jdk_52_method_48_code 12 = .ok (.invokestatic 71, 3) := by decide +kernel
theorem d31_15 : decode jdk_52_method_48_code 15 = .ok (.iload_n 1, 1) := by decide +kernel
theorem d31_16 : decode jdk_52_method_48_code 16 = .ok (.if_icmp .ne 6, 3) := by decide +kernel
theorem d31_19 : decode jdk_52_method_48_code 19 = .ok (.iload 4, 2) := by decide +kernel
theorem d31_21 : decode jdk_52_method_48_code 21 = .ok (.ireturn, 1) := by decide +kernel
theorem d31_22 : decode jdk_52_method_48_code 22 = .ok (.iinc 4 1, 3) := by decide +kernel
theorem d31_25 : decode jdk_52_method_48_code 25 = .ok (.goto (-22), 3) := by decide +kernel
set_option maxRecDepth 65536 in
set_option maxHeartbeats 40000000 in
theorem seg31 {p : Program} {l : Launch} {e : Env} {s : State} {m : MethodId} {args : Array Value} {below : List Frame} {meth : Method} {c : Code} {Z : State} {a0 : Array Value} (hx : p.tables.exec = Jvm.exec) (hlk : meth.locks = false) (hret : meth.sig.returnType = some .int) (hZ : Z.Warmed39 s.vm) (hw : ∀ d ∈ tables_1, d.before a0 Z = true) (hby : c.code = jdk_52_method_48_code) (hml : c.maxLocals = 5) (hown : s.vm.findClass "java/lang/StringUTF16" = some m.cls) (hnm : meth.name = "indexOfCharUnsafe") (ao0 : Addr) (kd : ClassId) (xs : List Int32) (G1 : Int32) (sf : Value) (n0 : Nat) (hxs : ∀ x ∈ xs, own_ch x) (hlen : xs.length ≤ 6) (hst : own_St Z G1 sf) : ∀ (ys : List Int32) (j : Nat) (h0 : Heap) (s₁ : State) (LL : List Loc) (_ : Stand p l e ({ frames := 1, cells := 0, slots := 0, locals := 15 } : Room) s m args below meth c s₁ LL 0 0) (_ : s₁.heap = h0) (_ : Fr n0 LL) (_ : n0 ≤ h0.size) (_ : Old Z n0 h0) (_ : Arv Z h0 ao0 kd .byte (Int32.ofNat (2 * xs.length)) (own_utf xs) (.int (0 : Int32))) (_ : xs.drop j = ys) (_ : j ≤ xs.length),
    own_End p e below s (fun v h L => v = some (.int (own_ixg j ys)) ∧ Fr n0 L ∧ h = h0) ({ frames := 1, cells := 0, slots := 0, locals := 15 } : Room).cells ({ frames := 1, cells := 0, slots := 0, locals := 15 } : Room).slots (s₁.setTop (mkF m 3 #[.val (.ref ao0), .val (.int 58), .val (.int 0), .val (.int (Int32.ofNat xs.length)), .val (.int (Int32.ofNat j))] [])) := by
  intro ys
  induction ys with
  | nil =>
    intro j h0 s₁ LL X0 e0 Nf Zs Od V_ao0 hj hjl
    obtain ⟨S_COMPACT_STRINGS, hG, S__assertionsDisabled, S_HI_BYTE_SHIFT, S_LO_BYTE_SHIFT, S_SIOOBE_FORMATTER, r_sf, c_sf⟩ := id hst
    have Kp : Keep h0 h0 [] := Keep.refl _ _
    have hj0 := own_drop0 hj hjl
    have hbr : ¬ Int32.ofNat j < Int32.ofNat xs.length := fun q_ => by rw [hj0] at q_; exact absurd q_ (Int32.lt_irrefl)
    refine own_go (x' := s₁.setTop (mkF m 29 #[.val (.ref ao0), .val (.int 58), .val (.int 0), .val (.int (Int32.ofNat xs.length)), .val (.int (Int32.ofNat j))] [(.int (-1))])) (fun _ k => XS.iload X0.here hx rfl (hb hby d31_3) rfl (XS.iloadN X0.here hx rfl (hb hby d31_5) rfl (XS.icmpYes X0.here hx rfl (pc0 := 6) (pc' := 28) rfl (hb hby d31_6) rfl (flt hbr).2.1 (by decide) (by decide) (XS.iconst X0.here hx rfl (hb hby d31_28) k)))) ?_
    refine own_retI X0 hx hlk hret (hb hby d31_29) ?_ (by decide) (by decide)
    rw [e0]
    exact ⟨rfl, Nf, rfl⟩
  | cons x r ih =>
    intro j h0 s₁ LL X0 e0 Nf Zs Od V_ao0 hj hjl
    obtain ⟨S_COMPACT_STRINGS, hG, S__assertionsDisabled, S_HI_BYTE_SHIFT, S_LO_BYTE_SHIFT, S_SIOOBE_FORMATTER, r_sf, c_sf⟩ := id hst
    have Kp : Keep h0 h0 [] := Keep.refl _ _
    obtain ⟨hj1, hj2, hj3⟩ := own_drop hj
    have hbr : Int32.ofNat j < Int32.ofNat xs.length := (own_olt (by omega) (by omega)).mpr hj1
    refine own_go (x' := s₁.setTop (mkF m 12 #[.val (.ref ao0), .val (.int 58), .val (.int 0), .val (.int (Int32.ofNat xs.length)), .val (.int (Int32.ofNat j))] [(.int (Int32.ofNat j)), (.ref ao0)])) (fun _ k => XS.iload X0.here hx rfl (hb hby d31_3) rfl (XS.iloadN X0.here hx rfl (hb hby d31_5) rfl (XS.icmpNo X0.here hx rfl (hb hby d31_6) rfl (tlt hbr).2.1 (XS.aloadN X0.here hx rfl (hb hby d31_9) rfl rfl (XS.iload X0.here hx rfl (hb hby d31_10) rfl k))))) ?_
    obtain ⟨_, _, ⟨T1, L1, k1, n1⟩, -, X1, ⟨Lc1, hQ1, l1, y1, z1⟩, st1⟩ := Jvm.LawKit.callS X0 hx (y := (⟨"java/lang/StringUTF16", "getChar", "([BI)C"⟩ : MethodName)) hown (mvT hZ (own_w hw 104 rfl)) (mvT hZ (own_w hw 105 rfl)) (mvT hZ (own_w hw 77 rfl)) (mvT hZ (own_w hw 106 rfl)) (by decide) (backOf (W := 0) (rm24 l Z a0 hw [] ao0 kd _ _ (Int32.ofNat j) _ _ x G1 sf h0 n0 Zs V_ao0 (own_gc hlen hj1 hj2).1 (own_gc hlen hj1 hj2).2.1 (own_gc hlen hj1 hj2).2.2.1 (own_gc hlen hj1 hj2).2.2.2 (own_utfc (hxs _ (own_mem hj2))) Od hst) hZ (own_w hw 106 rfl) (own_w hw 77 rfl) (by decide) (by decide)) (g := (mkF m 12 #[.val (.ref ao0), .val (.int 58), .val (.int 0), .val (.int (Int32.ofNat xs.length)), .val (.int (Int32.ofNat j))] [(.int (Int32.ofNat j)), (.ref ao0)])) rfl (by rw [hml]; rfl) (argsL := [(.ref ao0), (.int (Int32.ofNat j))]) (rest := []) (lenOf pd_4 rfl) rfl (by show 2 * 0 + _ ≤ _; exact Nat.le_of_eq rfl) (hb hby d31_12) (fun _ _ => ⟨rfl, e0, (by decide : 0 + 0 ≤ _), (by decide : 0 + 0 ≤ _)⟩)
    dsimp only [Pt.U, Pt.locs, Pt.cells, Pt.slots] at X1 l1 y1 z1 st1 hQ1
    subst l1 y1 z1
    obtain ⟨hv1, Nq1, eq1⟩ := hQ1
    subst hv1
    replace Nf := Fr.app Nf Nq1
    refine own_go (x' := T1.setTop (mkF m 15 #[.val (.ref ao0), .val (.int 58), .val (.int 0), .val (.int (Int32.ofNat xs.length)), .val (.int (Int32.ofNat j))] [(.int x)])) st1 ?_
    refine own_go (x' := T1.setTop (mkF m 16 #[.val (.ref ao0), .val (.int 58), .val (.int 0), .val (.int (Int32.ofNat xs.length)), .val (.int (Int32.ofNat j))] [(.int 58), (.int x)])) (fun _ k => XS.iloadN X1.here hx rfl (hb hby d31_15) rfl k) ?_
    by_cases hc16 : x = (58 : Int32)
    · refine own_go (x' := T1.setTop (mkF m 21 #[.val (.ref ao0), .val (.int 58), .val (.int 0), .val (.int (Int32.ofNat xs.length)), .val (.int (Int32.ofNat j))] [(.int (Int32.ofNat j))])) (fun _ k => XS.icmpNo X1.here hx rfl (hb hby d31_16) rfl (teq hc16).2 (XS.iload X1.here hx rfl (hb hby d31_19) rfl k)) ?_
      refine own_retI X1 hx hlk hret (hb hby d31_21) ?_ (by decide) (by decide)
      rw [eq1]
      exact ⟨by rw [show own_ixg j (x :: r) = Int32.ofNat j from by simp only [own_ixg, if_pos hc16]], Nf, rfl⟩
    · refine own_go (x' := T1.setTop (mkF m 3 #[.val (.ref ao0), .val (.int 58), .val (.int 0), .val (.int (Int32.ofNat xs.length)), .val (.int ((Int32.ofNat j) + (1 : Int32)))] [])) (fun _ k => XS.icmpYes X1.here hx rfl (pc0 := 16) (pc' := 22) rfl (hb hby d31_16) rfl (feq hc16).2 (by decide) (by decide) (XS.iinc X1.here hx rfl (hb hby d31_22) rfl (l' := #[.val (.ref ao0), .val (.int 58), .val (.int 0), .val (.int (Int32.ofNat xs.length)), .val (.int ((Int32.ofNat j) + (1 : Int32)))]) rfl (XS.goto X1.here hx rfl (pc0 := 25) (pc' := 3) rfl (hb hby d31_25) (by decide) (by decide) k))) ?_
      rw [own_oinc j (by omega)]
      exact own_mono (fun v h L q => ⟨by rw [q.1]; simp only [own_ixg, if_neg hc16], q.2.1, q.2.2⟩) (ih (j + 1) h0 _ _ X1 eq1 Nf Zs Od V_ao0 hj3 hj1)
theorem d31_0 : decode jdk_52_method_48_code 0 = .ok (.iload_n 2, 1) := by decide +kernel
theorem d31_1 : decode jdk_52_method_48_code 1 = .ok (.istore 4, 2) := by decide +kernel
def Q_rm31 (Z : State) (ao0 : Addr) (kd : ClassId) (xs : List Int32) (G1 : Int32) (sf : Value) (h0 : Heap) (n0 : Nat) (v : Option Value) (h : Heap) (L : List Loc) : Prop := v = some (.int (own_ix xs)) ∧ Fr n0 L ∧ h = h0
theorem pn_rm31 : plainName "java/lang/StringUTF16" = true := by first | (simp [plainName, overriddenIn]; done) | decide +kernel
theorem ef_rm31 (m : MethodId) (x0 : Addr) (x1 : Int32) (x2 : Int32) (x3 : Int32) : entryFrame m #[(.ref x0), (.int x1), (.int x2), (.int x3)] 5 = mkF m 0 #[.val (.ref x0), .val (.int x1), .val (.int x2), .val (.int x3), .unset] [] := by first | (simp [entryFrame, mkF, argsToLocals, Value.category]; done) | rfl
set_option maxRecDepth 65536 in
set_option maxHeartbeats 40000000 in
theorem rm31 (l : Launch) (Z : State) (a0 : Array Value) (hw : ∀ d ∈ tables_1, d.before a0 Z = true) (ws : List Jvm.Cond) (ao0 : Addr) (kd : ClassId) (xs : List Int32) (G1 : Int32) (sf : Value) (h0 : Heap) (n0 : Nat) (Z0 : n0 ≤ h0.size) (V_ao0 : Arv Z h0 ao0 kd .byte (Int32.ofNat (2 * xs.length)) (own_utf xs) (.int (0 : Int32))) (hxs : ∀ x ∈ xs, own_ch x) (hlen : xs.length ≤ 6) (Od : Old Z n0 h0) (hst : own_St Z G1 sf) :
    MetFree l (⟨"java/lang/StringUTF16", "indexOfCharUnsafe", "([BIII)I"⟩ : MethodName) (head1 (Jvm.Cond.code (⟨"java/lang/StringUTF16", "indexOfCharUnsafe", "([BIII)I"⟩ : MethodName) jdk_52_method_48_code 5 (some .int) :: ws) ({ frames := 1, cells := 0, slots := 0, locals := 15 } : Room)) (fun a U => a = #[(.ref ao0), (.int 58), (.int 0), (.int (Int32.ofNat xs.length))] ∧ Z.Warmed39 U.vm ∧ U.heap = h0) (fun _ _ _ _ _ => True) (fun _ U o U' => ∃ v L, o = .returned v ∧ (Q_rm31 Z ao0 kd xs G1 sf h0 n0) v U'.heap L ∧ FrameEnd U o U' L ({ frames := 1, cells := 0, slots := 0, locals := 15 } : Room).cells ({ frames := 1, cells := 0, slots := 0, locals := 15 } : Room).slots) := by
  refine MetFree.of_bodySF (plainFor_of_name pn_rm31) hisR ?_
  intro p e s m args below meth c s₁ Bd hml0 hP hK
  obtain ⟨rfl, hZ, hh⟩ := hP
  have hx := Bd.exec
  have hby := Bd.bytes
  have hlk := BodyLoose.notSynchronized Bd
  have hret := Bd.returns
  have hml : c.maxLocals = 5 := hml0
  have hown : s.vm.findClass "java/lang/StringUTF16" = some m.cls := findClass_of_methodNamed Bd.named
  have hnm := (name_of_methodNamed Bd.named Bd.method).1
  have X0 : Stand p l e ({ frames := 1, cells := 0, slots := 0, locals := 15 } : Room) s m #[(.ref ao0), (.int 58), (.int 0), (.int (Int32.ofNat xs.length))] below meth c s₁ [] 0 0 := Stand.of_body Bd
  have e0 : s₁.heap = h0 := by rw [← hh, Bd.state]; rfl
  have Nf := Fr.nil n0
  have Zs := Z0
  have Kp : Keep h0 h0 [] := Keep.refl _ _
  obtain ⟨S_COMPACT_STRINGS, hG, S__assertionsDisabled, S_HI_BYTE_SHIFT, S_LO_BYTE_SHIFT, S_SIOOBE_FORMATTER, r_sf, c_sf⟩ := id hst
  show own_End p e below s (Q_rm31 Z ao0 kd xs G1 sf h0 n0) ({ frames := 1, cells := 0, slots := 0, locals := 15 } : Room).cells ({ frames := 1, cells := 0, slots := 0, locals := 15 } : Room).slots (s₁.setTop (entryFrame m #[(.ref ao0), (.int 58), (.int 0), (.int (Int32.ofNat xs.length))] 5))
  refine own_go (x' := s₁.setTop (mkF m 0 #[.val (.ref ao0), .val (.int 58), .val (.int 0), .val (.int (Int32.ofNat xs.length)), .unset] [])) (fun t k => castTop (ef_rm31 m ao0 (58 : Int32) (0 : Int32) (Int32.ofNat xs.length)) k) ?_
  refine own_go (x' := s₁.setTop (mkF m 3 #[.val (.ref ao0), .val (.int 58), .val (.int 0), .val (.int (Int32.ofNat xs.length)), .val (.int 0)] [])) (fun _ k => XS.iloadN X0.here hx rfl (hb hby d31_0) rfl (XS.istore X0.here hx rfl (hb hby d31_1) rfl (l' := #[.val (.ref ao0), .val (.int 58), .val (.int 0), .val (.int (Int32.ofNat xs.length)), .val (.int 0)]) rfl k)) ?_
  exact seg31 hx hlk hret hZ hw hby hml hown hnm ao0 kd xs G1 sf n0 hxs hlen hst xs 0 h0 _ _ X0 e0 Nf Zs Od V_ao0 rfl (Nat.zero_le _)
theorem pd_13 : parseMethodDescriptor "(II[B)V" = some ⟨[.int, .int, (.array .byte)], none⟩ := by decide +kernel
theorem d26_0 : decode jdk_52_method_47_code 0 = .ok (.iload_n 2, 1) := by decide +kernel
theorem d26_1 : decode jdk_52_method_47_code 1 = .ok (.iload_n 3, 1) := by decide +kernel
theorem d26_2 : decode jdk_52_method_47_code 2 = .ok (.aload_n 0, 1) := by decide +kernel
theorem d26_3 : decode jdk_52_method_47_code 3 = .ok (.invokestatic 96, 3) := by decide +kernel
theorem d26_6 : decode jdk_52_method_47_code 6 = .ok (.aload_n 0, 1) := by decide +kernel
theorem d26_7 : decode jdk_52_method_47_code 7 = .ok (.iload_n 1, 1) := by decide +kernel
theorem d26_8 : decode jdk_52_method_47_code 8 = .ok (.iload_n 2, 1) := by decide +kernel
theorem d26_9 : decode jdk_52_method_47_code 9 = .ok (.iload_n 3, 1) := by decide +kernel
theorem d26_10 : decode jdk_52_method_47_code 10 = .ok (.invokestatic 244, 3) := by decide +kernel
theorem d26_13 : decode jdk_52_method_47_code 13 = .ok (.ireturn, 1) := by decide +kernel
def Q_rm26 (Z : State) (ao0 : Addr) (kd : ClassId) (xs : List Int32) (G1 : Int32) (sf : Value) (h0 : Heap) (n0 : Nat) (v : Option Value) (h : Heap) (L : List Loc) : Prop := v = some (.int (own_ix xs)) ∧ Fr n0 L ∧ h = h0
theorem pn_rm26 : plainName "java/lang/StringUTF16" = true := by first | (simp [plainName, overriddenIn]; done) | decide +kernel
theorem ef_rm26 (m : MethodId) (x0 : Addr) (x1 : Int32) (x2 : Int32) (x3 : Int32) : entryFrame m #[(.ref x0), (.int x1), (.int x2), (.int x3)] 4 = mkF m 0 #[.val (.ref x0), .val (.int x1), .val (.int x2), .val (.int x3)] [] := by first | (simp [entryFrame, mkF, argsToLocals, Value.category]; done) | rfl
set_option maxRecDepth 65536 in
set_option maxHeartbeats 40000000 in
theorem rm26 (l : Launch) (Z : State) (a0 : Array Value) (hw : ∀ d ∈ tables_1, d.before a0 Z = true) (ws : List Jvm.Cond) (ao0 : Addr) (kd : ClassId) (xs : List Int32) (G1 : Int32) (sf : Value) (h0 : Heap) (n0 : Nat) (Z0 : n0 ≤ h0.size) (V_ao0 : Arv Z h0 ao0 kd .byte (Int32.ofNat (2 * xs.length)) (own_utf xs) (.int (0 : Int32))) (hxs : ∀ x ∈ xs, own_ch x) (hlen : xs.length ≤ 6) (Od : Old Z n0 h0) (hst : own_St Z G1 sf) :
    MetFree l (⟨"java/lang/StringUTF16", "indexOfChar", "([BIII)I"⟩ : MethodName) (head1 (Jvm.Cond.code (⟨"java/lang/StringUTF16", "indexOfChar", "([BIII)I"⟩ : MethodName) jdk_52_method_47_code 4 (some .int) :: ws) ({ frames := 3, cells := 0, slots := 0, locals := 43 } : Room)) (fun a U => a = #[(.ref ao0), (.int 58), (.int 0), (.int (Int32.ofNat xs.length))] ∧ Z.Warmed39 U.vm ∧ U.heap = h0) (fun _ _ _ _ _ => True) (fun _ U o U' => ∃ v L, o = .returned v ∧ (Q_rm26 Z ao0 kd xs G1 sf h0 n0) v U'.heap L ∧ FrameEnd U o U' L ({ frames := 3, cells := 0, slots := 0, locals := 43 } : Room).cells ({ frames := 3, cells := 0, slots := 0, locals := 43 } : Room).slots) := by
  refine MetFree.of_bodySF (plainFor_of_name pn_rm26) hisR ?_
  intro p e s m args below meth c s₁ Bd hml0 hP hK
  obtain ⟨rfl, hZ, hh⟩ := hP
  have hx := Bd.exec
  have hby := Bd.bytes
  have hlk := BodyLoose.notSynchronized Bd
  have hret := Bd.returns
  have hml : c.maxLocals = 4 := hml0
  have hown : s.vm.findClass "java/lang/StringUTF16" = some m.cls := findClass_of_methodNamed Bd.named
  have hnm := (name_of_methodNamed Bd.named Bd.method).1
  have X0 : Stand p l e ({ frames := 3, cells := 0, slots := 0, locals := 43 } : Room) s m #[(.ref ao0), (.int 58), (.int 0), (.int (Int32.ofNat xs.length))] below meth c s₁ [] 0 0 := Stand.of_body Bd
  have e0 : s₁.heap = h0 := by rw [← hh, Bd.state]; rfl
  have Nf := Fr.nil n0
  have Zs := Z0
  have Kp : Keep h0 h0 [] := Keep.refl _ _
  obtain ⟨S_COMPACT_STRINGS, hG, S__assertionsDisabled, S_HI_BYTE_SHIFT, S_LO_BYTE_SHIFT, S_SIOOBE_FORMATTER, r_sf, c_sf⟩ := id hst
  show own_End p e below s (Q_rm26 Z ao0 kd xs G1 sf h0 n0) ({ frames := 3, cells := 0, slots := 0, locals := 43 } : Room).cells ({ frames := 3, cells := 0, slots := 0, locals := 43 } : Room).slots (s₁.setTop (entryFrame m #[(.ref ao0), (.int 58), (.int 0), (.int (Int32.ofNat xs.length))] 4))
  refine own_go (x' := s₁.setTop (mkF m 0 #[.val (.ref ao0), .val (.int 58), .val (.int 0), .val (.int (Int32.ofNat xs.length))] [])) (fun t k => castTop (ef_rm26 m ao0 (58 : Int32) (0 : Int32) (Int32.ofNat xs.length)) k) ?_
  refine own_go (x' := s₁.setTop (mkF m 3 #[.val (.ref ao0), .val (.int 58), .val (.int 0), .val (.int (Int32.ofNat xs.length))] [(.ref ao0), (.int (Int32.ofNat xs.length)), (.int 0)])) (fun _ k => XS.iloadN X0.here hx rfl (hb hby d26_0) rfl (XS.iloadN X0.here hx rfl (hb hby d26_1) rfl (XS.aloadN X0.here hx rfl (hb hby d26_2) rfl rfl k))) ?_
  obtain ⟨_, _, ⟨T1, L1, k1, n1⟩, -, X1, ⟨Lc1, hQ1, l1, y1, z1⟩, st1⟩ := Jvm.LawKit.callS X0 hx (y := (⟨"java/lang/StringUTF16", "checkBoundsBeginEnd", "(II[B)V"⟩ : MethodName)) hown (mvT hZ (own_w hw 116 rfl)) (mvT hZ (own_w hw 117 rfl)) (mvT hZ (own_w hw 77 rfl)) (mvT hZ (own_w hw 118 rfl)) (by decide) (backOf (W := 0) (rm27 l Z a0 hw [] ao0 kd _ _ (Int32.ofNat xs.length) G1 sf h0 n0 Zs V_ao0 (own_oshr _ (by omega)) (own_ilen hlen) Od hst) hZ (own_w hw 118 rfl) (own_w hw 77 rfl) (by decide) (by decide)) (g := (mkF m 3 #[.val (.ref ao0), .val (.int 58), .val (.int 0), .val (.int (Int32.ofNat xs.length))] [(.ref ao0), (.int (Int32.ofNat xs.length)), (.int 0)])) rfl (by rw [hml]; rfl) (argsL := [(.int 0), (.int (Int32.ofNat xs.length)), (.ref ao0)]) (rest := []) (lenOf pd_13 rfl) rfl (by show 2 * 0 + _ ≤ _; exact Nat.le_of_eq rfl) (hb hby d26_3) (fun _ _ => ⟨rfl, e0, (by decide : 0 + 0 ≤ _), (by decide : 0 + 0 ≤ _)⟩)
  dsimp only [Pt.U, Pt.locs, Pt.cells, Pt.slots] at X1 l1 y1 z1 st1 hQ1
  subst l1 y1 z1
  obtain ⟨hv1, Nq1, eq1⟩ := hQ1
  subst hv1
  replace Nf := Fr.app Nf Nq1
  refine own_go (x' := T1.setTop (mkF m 6 #[.val (.ref ao0), .val (.int 58), .val (.int 0), .val (.int (Int32.ofNat xs.length))] [])) st1 ?_
  refine own_go (x' := T1.setTop (mkF m 10 #[.val (.ref ao0), .val (.int 58), .val (.int 0), .val (.int (Int32.ofNat xs.length))] [(.int (Int32.ofNat xs.length)), (.int 0), (.int 58), (.ref ao0)])) (fun _ k => XS.aloadN X1.here hx rfl (hb hby d26_6) rfl rfl (XS.iloadN X1.here hx rfl (hb hby d26_7) rfl (XS.iloadN X1.here hx rfl (hb hby d26_8) rfl (XS.iloadN X1.here hx rfl (hb hby d26_9) rfl k)))) ?_
  obtain ⟨_, _, ⟨T2, L2, k2, n2⟩, -, X2, ⟨Lc2, hQ2, l2, y2, z2⟩, st2⟩ := Jvm.LawKit.callS X1 hx (y := (⟨"java/lang/StringUTF16", "indexOfCharUnsafe", "([BIII)I"⟩ : MethodName)) hown (mvT hZ (own_w hw 130 rfl)) (mvT hZ (own_w hw 131 rfl)) (mvT hZ (own_w hw 77 rfl)) (mvT hZ (own_w hw 132 rfl)) (by decide) (backOf (W := 0) (rm31 l Z a0 hw [] ao0 kd xs G1 sf h0 n0 Zs V_ao0 hxs hlen Od hst) hZ (own_w hw 132 rfl) (own_w hw 77 rfl) (by decide) (by decide)) (g := (mkF m 10 #[.val (.ref ao0), .val (.int 58), .val (.int 0), .val (.int (Int32.ofNat xs.length))] [(.int (Int32.ofNat xs.length)), (.int 0), (.int 58), (.ref ao0)])) rfl (by rw [hml]; rfl) (argsL := [(.ref ao0), (.int 58), (.int 0), (.int (Int32.ofNat xs.length))]) (rest := []) (lenOf pd_9 rfl) rfl (by show 2 * 0 + _ ≤ _; exact Nat.le_of_eq rfl) (hb hby d26_10) (fun _ _ => ⟨rfl, eq1, (by decide : 0 + 0 ≤ _), (by decide : 0 + 0 ≤ _)⟩)
  dsimp only [Pt.U, Pt.locs, Pt.cells, Pt.slots] at X2 l2 y2 z2 st2 hQ2
  subst l2 y2 z2
  obtain ⟨hv2, Nq2, eq2⟩ := hQ2
  subst hv2
  replace Nf := Fr.app Nf Nq2
  refine own_go (x' := T2.setTop (mkF m 13 #[.val (.ref ao0), .val (.int 58), .val (.int 0), .val (.int (Int32.ofNat xs.length))] [(.int (own_ix xs))])) st2 ?_
  refine own_retI X2 hx hlk hret (hb hby d26_13) ?_ (by decide) (by decide)
  rw [eq2]
  exact ⟨rfl, Nf, rfl⟩
theorem d25_0 : decode jdk_52_method_40_code 0 = .ok (.iload_n 2, 1) := by decide +kernel
theorem d25_1 : decode jdk_52_method_40_code 1 = .ok (.iconst 0, 1) := by decide +kernel
theorem d25_2 : decode jdk_52_method_40_code 2 = .ok (.invokestatic 224, 3) := by decide +kernel
theorem d25_5 : decode jdk_52_method_40_code 5 = .ok (.istore_n 2, 1) := by decide +kernel
theorem d25_6 : decode jdk_52_method_40_code 6 = .ok (.iload_n 3, 1) := by decide +kernel
theorem d25_7 : decode jdk_52_method_40_code 7 = .ok (.aload_n 0, 1) := by decide +kernel
theorem d25_8 : decode jdk_52_method_40_code 8 = .ok (.arraylength, 1) := by decide +kernel
theorem d25_9 : decode jdk_52_method_40_code 9 = .ok (.iconst 1, 1) := by decide +kernel
theorem d25_10 : decode jdk_52_method_40_code 10 = .ok (.ishr, 1) := by decide +kernel
theorem d25_11 : decode jdk_52_method_40_code 11 = .ok (.invokestatic 183, 3) := by decide +kernel
theorem d25_14 : decode jdk_52_method_40_code 14 = .ok (.istore_n 3, 1) := by decide +kernel
theorem d25_15 : decode jdk_52_method_40_code 15 = .ok (.iload_n 2, 1) := by decide +kernel
theorem d25_16 : decode jdk_52_method_40_code 16 = .ok (.iload_n 3, 1) := by decide +kernel
theorem d25_17 : decode jdk_52_method_40_code 17 = .ok (.if_icmp .lt 5, 3) := by decide +kernel
theorem d25_20 : decode jdk_52_method_40_code 20 = .ok (.iconst (-1), 1) := by decide +kernel
theorem d25_21 : decode jdk_52_method_40_code 21 = .ok (.ireturn, 1) := by decide +kernel
theorem d25_22 : decode jdk_52_method_40_code 22 = .ok (.iload_n 1, 1) := by decide +kernel
theorem d25_23 : decode jdk_52_method_40_code 23 = .ok (.ldc 227, 2) := by decide +kernel
theorem d25_25 : decode jdk_52_method_40_code 25 = .ok (.if_icmp .ge 11, 3) := by decide +kernel
theorem d25_28 : decode jdk_52_method_40_code 28 = .ok (.aload_n 0, 1) := by decide +kernel
theorem d25_29 : decode jdk_52_method_40_code 29 = .ok (.iload_n 1, 1) := by decide +kernel
theorem d25_30 : decode jdk_52_method_40_code 30 = .ok (.iload_n 2, 1) := by decide +kernel
theorem d25_31 : decode jdk_52_method_40_code 31 = .ok (.iload_n 3, 1) := by decide +kernel
theorem d25_32 : decode jdk_52_method_40_code 32 = .ok (.invokestatic 228, 3) := by decide +kernel
theorem d25_35 : decode jdk_52_method_40_code 35 = .ok (.ireturn, 1) := by decide +kernel
def Q_rm25 (Z : State) (ao0 : Addr) (kd : ClassId) (xs : List Int32) (G1 : Int32) (sf : Value) (h0 : Heap) (n0 : Nat) (v : Option Value) (h : Heap) (L : List Loc) : Prop := v = some (.int (own_ix xs)) ∧ Fr n0 L ∧ h = h0
theorem pn_rm25 : plainName "java/lang/StringUTF16" = true := by first | (simp [plainName, overriddenIn]; done) | decide +kernel
theorem ef_rm25 (m : MethodId) (x0 : Addr) (x1 : Int32) (x2 : Int32) (x3 : Int32) : entryFrame m #[(.ref x0), (.int x1), (.int x2), (.int x3)] 4 = mkF m 0 #[.val (.ref x0), .val (.int x1), .val (.int x2), .val (.int x3)] [] := by first | (simp [entryFrame, mkF, argsToLocals, Value.category]; done) | rfl
set_option maxRecDepth 65536 in
set_option maxHeartbeats 40000000 in
theorem rm25 (l : Launch) (Z : State) (a0 : Array Value) (hw : ∀ d ∈ tables_1, d.before a0 Z = true) (ws : List Jvm.Cond) (ao0 : Addr) (kd : ClassId) (xs : List Int32) (G1 : Int32) (sf : Value) (h0 : Heap) (n0 : Nat) (Z0 : n0 ≤ h0.size) (V_ao0 : Arv Z h0 ao0 kd .byte (Int32.ofNat (2 * xs.length)) (own_utf xs) (.int (0 : Int32))) (hxs : ∀ x ∈ xs, own_ch x) (hlen : xs.length ≤ 6) (Od : Old Z n0 h0) (hst : own_St Z G1 sf) :
    MetFree l (⟨"java/lang/StringUTF16", "indexOf", "([BIII)I"⟩ : MethodName) (head1 (Jvm.Cond.code (⟨"java/lang/StringUTF16", "indexOf", "([BIII)I"⟩ : MethodName) jdk_52_method_40_code 4 (some .int) :: ws) ({ frames := 4, cells := 0, slots := 0, locals := 58 } : Room)) (fun a U => a = #[(.ref ao0), (.int 58), (.int 0), (.int (Int32.ofNat xs.length))] ∧ Z.Warmed39 U.vm ∧ U.heap = h0) (fun _ _ _ _ _ => True) (fun _ U o U' => ∃ v L, o = .returned v ∧ (Q_rm25 Z ao0 kd xs G1 sf h0 n0) v U'.heap L ∧ FrameEnd U o U' L ({ frames := 4, cells := 0, slots := 0, locals := 58 } : Room).cells ({ frames := 4, cells := 0, slots := 0, locals := 58 } : Room).slots) := by
  refine MetFree.of_bodySF (plainFor_of_name pn_rm25) hisR ?_
  intro p e s m args below meth c s₁ Bd hml0 hP hK
  obtain ⟨rfl, hZ, hh⟩ := hP
  have hx := Bd.exec
  have hby := Bd.bytes
  have hlk := BodyLoose.notSynchronized Bd
  have hret := Bd.returns
  have hml : c.maxLocals = 4 := hml0
  have hown : s.vm.findClass "java/lang/StringUTF16" = some m.cls := findClass_of_methodNamed Bd.named
  have hnm := (name_of_methodNamed Bd.named Bd.method).1
  have X0 : Stand p l e ({ frames := 4, cells := 0, slots := 0, locals := 58 } : Room) s m #[(.ref ao0), (.int 58), (.int 0), (.int (Int32.ofNat xs.length))] below meth c s₁ [] 0 0 := Stand.of_body Bd
  have e0 : s₁.heap = h0 := by rw [← hh, Bd.state]; rfl
  have Nf := Fr.nil n0
  have Zs := Z0
  have Kp : Keep h0 h0 [] := Keep.refl _ _
  obtain ⟨S_COMPACT_STRINGS, hG, S__assertionsDisabled, S_HI_BYTE_SHIFT, S_LO_BYTE_SHIFT, S_SIOOBE_FORMATTER, r_sf, c_sf⟩ := id hst
  show own_End p e below s (Q_rm25 Z ao0 kd xs G1 sf h0 n0) ({ frames := 4, cells := 0, slots := 0, locals := 58 } : Room).cells ({ frames := 4, cells := 0, slots := 0, locals := 58 } : Room).slots (s₁.setTop (entryFrame m #[(.ref ao0), (.int 58), (.int 0), (.int (Int32.ofNat xs.length))] 4))
  refine own_go (x' := s₁.setTop (mkF m 0 #[.val (.ref ao0), .val (.int 58), .val (.int 0), .val (.int (Int32.ofNat xs.length))] [])) (fun t k => castTop (ef_rm25 m ao0 (58 : Int32) (0 : Int32) (Int32.ofNat xs.length)) k) ?_
  refine own_go (x' := s₁.setTop (mkF m 2 #[.val (.ref ao0), .val (.int 58), .val (.int 0), .val (.int (Int32.ofNat xs.length))] [(.int 0), (.int 0)])) (fun _ k => XS.iloadN X0.here hx rfl (hb hby d25_0) rfl (XS.iconst X0.here hx rfl (hb hby d25_1) k)) ?_
  obtain ⟨_, _, ⟨T1, L1, k1, n1⟩, -, X1, ⟨Lc1, hQ1, l1, y1, z1⟩, st1⟩ := Jvm.LawKit.callS X0 hx (y := (⟨"java/lang/Math", "max", "(II)I"⟩ : MethodName)) hown (mvT hZ (own_w hw 110 rfl)) (mvT hZ (own_w hw 65 rfl)) (mvT hZ (own_w hw 66 rfl)) (mvT hZ (own_w hw 67 rfl)) (by decide) (backOf (W := 0) (rm13 l Z a0 hw [] (0 : Int32)  h0 n0 Zs  ) hZ (own_w hw 67 rfl) (own_w hw 66 rfl) (by decide) (by decide)) (g := (mkF m 2 #[.val (.ref ao0), .val (.int 58), .val (.int 0), .val (.int (Int32.ofNat xs.length))] [(.int 0), (.int 0)])) rfl (by rw [hml]; rfl) (argsL := [(.int 0), (.int 0)]) (rest := []) (lenOf pd_8 rfl) rfl (by show 2 * 0 + _ ≤ _; exact Nat.le_of_eq rfl) (hb hby d25_2) (fun _ _ => ⟨rfl, e0, (by decide : 0 + 0 ≤ _), (by decide : 0 + 0 ≤ _)⟩)
  dsimp only [Pt.U, Pt.locs, Pt.cells, Pt.slots] at X1 l1 y1 z1 st1 hQ1
  subst l1 y1 z1
  obtain ⟨hv1, Nq1, eq1⟩ := hQ1
  subst hv1
  replace Nf := Fr.app Nf Nq1
  refine own_go (x' := T1.setTop (mkF m 5 #[.val (.ref ao0), .val (.int 58), .val (.int 0), .val (.int (Int32.ofNat xs.length))] [(.int 0)])) st1 ?_
  refine own_go (x' := T1.setTop (mkF m 8 #[.val (.ref ao0), .val (.int 58), .val (.int 0), .val (.int (Int32.ofNat xs.length))] [(.ref ao0), (.int (Int32.ofNat xs.length))])) (fun _ k => XS.istoreN X1.here hx rfl (hb hby d25_5) rfl (l' := #[.val (.ref ao0), .val (.int 58), .val (.int 0), .val (.int (Int32.ofNat xs.length))]) rfl (XS.iloadN X1.here hx rfl (hb hby d25_6) rfl (XS.aloadN X1.here hx rfl (hb hby d25_7) rfl rfl k))) ?_
  obtain ⟨cl2, Ar2, -, Sz2, Nn2, -, -⟩ := id V_ao0
  refine own_go (x' := T1.setTop (mkF m 9 #[.val (.ref ao0), .val (.int 58), .val (.int 0), .val (.int (Int32.ofNat xs.length))] [(.int (Int32.ofNat (2 * xs.length))), (.int (Int32.ofNat xs.length))])) (fun t k => X1.arraylength hx (Eq.trans (congrArg (fun h_ => h_[_]?) eq1) Ar2.1) (State.isArrayOf_alike hZ.alike Ar2.2.1) (g := (mkF m 8 #[.val (.ref ao0), .val (.int 58), .val (.int 0), .val (.int (Int32.ofNat xs.length))] [(.ref ao0), (.int (Int32.ofNat xs.length))])) rfl rfl (hb hby d25_8) t (by rw [len_of Sz2 Nn2]; exact k)) ?_
  refine own_go (x' := T1.setTop (mkF m 11 #[.val (.ref ao0), .val (.int 58), .val (.int 0), .val (.int (Int32.ofNat xs.length))] [(.int ((Int32.ofNat (2 * xs.length)) >>> ((1 : Int32) &&& 31))), (.int (Int32.ofNat xs.length))])) (fun _ k => XS.iconst X1.here hx rfl (hb hby d25_9) (XS.ishr X1.here hx rfl (hb hby d25_10) rfl k)) ?_
  rw [own_oshr xs.length (by omega)]
  obtain ⟨_, _, ⟨T3, L3, k3, n3⟩, -, X3, ⟨Lc3, hQ3, l3, y3, z3⟩, st3⟩ := Jvm.LawKit.callS X1 hx (y := (⟨"java/lang/Math", "min", "(II)I"⟩ : MethodName)) hown (mvT hZ (own_w hw 111 rfl)) (mvT hZ (own_w hw 69 rfl)) (mvT hZ (own_w hw 66 rfl)) (mvT hZ (own_w hw 70 rfl)) (by decide) (backOf (W := 0) (rm14 l Z a0 hw [] (Int32.ofNat xs.length)  h0 n0 Zs  ) hZ (own_w hw 70 rfl) (own_w hw 66 rfl) (by decide) (by decide)) (g := (mkF m 11 #[.val (.ref ao0), .val (.int 58), .val (.int 0), .val (.int (Int32.ofNat xs.length))] [(.int (Int32.ofNat xs.length)), (.int (Int32.ofNat xs.length))])) rfl (by rw [hml]; rfl) (argsL := [(.int (Int32.ofNat xs.length)), (.int (Int32.ofNat xs.length))]) (rest := []) (lenOf pd_8 rfl) rfl (by show 2 * 0 + _ ≤ _; exact Nat.le_of_eq rfl) (hb hby d25_11) (fun _ _ => ⟨rfl, eq1, (by decide : 0 + 0 ≤ _), (by decide : 0 + 0 ≤ _)⟩)
  dsimp only [Pt.U, Pt.locs, Pt.cells, Pt.slots] at X3 l3 y3 z3 st3 hQ3
  subst l3 y3 z3
  obtain ⟨hv3, Nq3, eq3⟩ := hQ3
  subst hv3
  replace Nf := Fr.app Nf Nq3
  refine own_go (x' := T3.setTop (mkF m 14 #[.val (.ref ao0), .val (.int 58), .val (.int 0), .val (.int (Int32.ofNat xs.length))] [(.int (Int32.ofNat xs.length))])) st3 ?_
  refine own_go (x' := T3.setTop (mkF m 17 #[.val (.ref ao0), .val (.int 58), .val (.int 0), .val (.int (Int32.ofNat xs.length))] [(.int (Int32.ofNat xs.length)), (.int 0)])) (fun _ k => XS.istoreN X3.here hx rfl (hb hby d25_14) rfl (l' := #[.val (.ref ao0), .val (.int 58), .val (.int 0), .val (.int (Int32.ofNat xs.length))]) rfl (XS.iloadN X3.here hx rfl (hb hby d25_15) rfl (XS.iloadN X3.here hx rfl (hb hby d25_16) rfl k))) ?_
  by_cases hc17 : (0 : Int32) < (Int32.ofNat xs.length)
  · refine own_go (x' := T3.setTop (mkF m 23 #[.val (.ref ao0), .val (.int 58), .val (.int 0), .val (.int (Int32.ofNat xs.length))] [(.int 58)])) (fun _ k => XS.icmpYes X3.here hx rfl (pc0 := 17) (pc' := 22) rfl (hb hby d25_17) rfl (tlt hc17).1 (by decide) (by decide) (XS.iloadN X3.here hx rfl (hb hby d25_22) rfl k)) ?_
    refine own_go (x' := T3.setTop (mkF m 25 #[.val (.ref ao0), .val (.int 58), .val (.int 0), .val (.int (Int32.ofNat xs.length))] [(.int 65536), (.int 58)])) (fun t k => X3.ldcInt hx hown (mvT hZ (own_w hw 112 rfl)) (g := (mkF m 23 #[.val (.ref ao0), .val (.int 58), .val (.int 0), .val (.int (Int32.ofNat xs.length))] [(.int 58)])) rfl (hb hby d25_23) t k) ?_
    refine own_go (x' := T3.setTop (mkF m 32 #[.val (.ref ao0), .val (.int 58), .val (.int 0), .val (.int (Int32.ofNat xs.length))] [(.int (Int32.ofNat xs.length)), (.int 0), (.int 58), (.ref ao0)])) (fun _ k => XS.icmpNo X3.here hx rfl (hb hby d25_25) rfl (tlt (by decide +kernel : ((58 : Int32) < (65536 : Int32)))).2.1 (XS.aloadN X3.here hx rfl (hb hby d25_28) rfl rfl (XS.iloadN X3.here hx rfl (hb hby d25_29) rfl (XS.iloadN X3.here hx rfl (hb hby d25_30) rfl (XS.iloadN X3.here hx rfl (hb hby d25_31) rfl k))))) ?_
    obtain ⟨_, _, ⟨T4, L4, k4, n4⟩, -, X4, ⟨Lc4, hQ4, l4, y4, z4⟩, st4⟩ := Jvm.LawKit.callS X3 hx (y := (⟨"java/lang/StringUTF16", "indexOfChar", "([BIII)I"⟩ : MethodName)) hown (mvT hZ (own_w hw 113 rfl)) (mvT hZ (own_w hw 114 rfl)) (mvT hZ (own_w hw 77 rfl)) (mvT hZ (own_w hw 115 rfl)) (by decide) (backOf (W := 0) (rm26 l Z a0 hw [] ao0 kd xs G1 sf h0 n0 Zs V_ao0 hxs hlen Od hst) hZ (own_w hw 115 rfl) (own_w hw 77 rfl) (by decide) (by decide)) (g := (mkF m 32 #[.val (.ref ao0), .val (.int 58), .val (.int 0), .val (.int (Int32.ofNat xs.length))] [(.int (Int32.ofNat xs.length)), (.int 0), (.int 58), (.ref ao0)])) rfl (by rw [hml]; rfl) (argsL := [(.ref ao0), (.int 58), (.int 0), (.int (Int32.ofNat xs.length))]) (rest := []) (lenOf pd_9 rfl) rfl (by show 2 * 0 + _ ≤ _; exact Nat.le_of_eq rfl) (hb hby d25_32) (fun _ _ => ⟨rfl, eq3, (by decide : 0 + 0 ≤ _), (by decide : 0 + 0 ≤ _)⟩)
    dsimp only [Pt.U, Pt.locs, Pt.cells, Pt.slots] at X4 l4 y4 z4 st4 hQ4
    subst l4 y4 z4
    obtain ⟨hv4, Nq4, eq4⟩ := hQ4
    subst hv4
    replace Nf := Fr.app Nf Nq4
    refine own_go (x' := T4.setTop (mkF m 35 #[.val (.ref ao0), .val (.int 58), .val (.int 0), .val (.int (Int32.ofNat xs.length))] [(.int (own_ix xs))])) st4 ?_
    refine own_retI X4 hx hlk hret (hb hby d25_35) ?_ (by decide) (by decide)
    rw [eq4]
    exact ⟨rfl, Nf, rfl⟩
  · refine own_go (x' := T3.setTop (mkF m 21 #[.val (.ref ao0), .val (.int 58), .val (.int 0), .val (.int (Int32.ofNat xs.length))] [(.int (-1))])) (fun _ k => XS.icmpNo X3.here hx rfl (hb hby d25_17) rfl (flt hc17).1 (XS.iconst X3.here hx rfl (hb hby d25_20) k)) ?_
    refine own_retI X3 hx hlk hret (hb hby d25_21) ?_ (by decide) (by decide)
    rw [eq3]
    exact ⟨by rw [own_ix0 hlen hc17], Nf, rfl⟩
def Q_rm7_0 (Z : State) (ao0 dd : Addr) (kd : ClassId) (xs : List Int32) (G1 : Int32) (sf : Value) (h0 : Heap) (n0 : Nat) (v : Option Value) (h : Heap) (L : List Loc) : Prop := v = some (.int (own_ix xs)) ∧ Fr n0 L ∧ h = h0
theorem pn_rm7_0 : plainName "java/lang/String" = true := by first | (simp [plainName, overriddenIn]; done) | decide +kernel
theorem ef_rm7_0 (m : MethodId) (x0 : Addr) (x1 : Int32) (x2 : Int32) : entryFrame m #[(.ref x0), (.int x1), (.int x2)] 3 = mkF m 0 #[.val (.ref x0), .val (.int x1), .val (.int x2)] [] := by first | (simp [entryFrame, mkF, argsToLocals, Value.category]; done) | rfl
set_option maxRecDepth 65536 in
set_option maxHeartbeats 40000000 in
theorem rm7_0 (l : Launch) (Z : State) (a0 : Array Value) (hw : ∀ d ∈ tables_1, d.before a0 Z = true) (ws : List Jvm.Cond) (ao0 dd : Addr) (kd : ClassId) (xs : List Int32) (G1 : Int32) (sf : Value) (h0 : Heap) (n0 : Nat) (Z0 : n0 ≤ h0.size) (E_ao0 : Exa Z h0 ao0 "java/lang/String") (F_ao0_coder : Fld Z h0 ao0 "java/lang/String" "coder" "B" (.int (0 : Int32))) (F_ao0_value : Fld Z h0 ao0 "java/lang/String" "value" "[B" (.ref dd)) (V_dd : Arv Z h0 dd kd .byte (Int32.ofNat xs.length) (own_lat xs) (.int (0 : Int32))) (hxs : ∀ x ∈ xs, own_ch x) (hlat : ∀ x ∈ xs, ¬ (255 : Int32) < x) (hlen : xs.length ≤ 6) (Od : Old Z n0 h0) (hst : own_St Z G1 sf) :
    MetFree l (⟨"java/lang/String", "indexOf", "(II)I"⟩ : MethodName) (head1 (Jvm.Cond.code (⟨"java/lang/String", "indexOf", "(II)I"⟩ : MethodName) jdk_42_method_80_code 3 (some .int) :: ws) ({ frames := 5, cells := 0, slots := 0, locals := 73 } : Room)) (fun a U => a = #[(.ref ao0), (.int 58), (.int 0)] ∧ Z.Warmed39 U.vm ∧ U.heap = h0) (fun _ _ _ _ _ => True) (fun _ U o U' => ∃ v L, o = .returned v ∧ (Q_rm7_0 Z ao0 dd kd xs G1 sf h0 n0) v U'.heap L ∧ FrameEnd U o U' L ({ frames := 5, cells := 0, slots := 0, locals := 73 } : Room).cells ({ frames := 5, cells := 0, slots := 0, locals := 73 } : Room).slots) := by
  refine MetFree.of_bodySF (plainFor_of_name pn_rm7_0) hisR ?_
  intro p e s m args below meth c s₁ Bd hml0 hP hK
  obtain ⟨rfl, hZ, hh⟩ := hP
  have hx := Bd.exec
  have hby := Bd.bytes
  have hlk := BodyLoose.notSynchronized Bd
  have hret := Bd.returns
  have hml : c.maxLocals = 3 := hml0
  have hown : s.vm.findClass "java/lang/String" = some m.cls := findClass_of_methodNamed Bd.named
  have hnm := (name_of_methodNamed Bd.named Bd.method).1
  have X0 : Stand p l e ({ frames := 5, cells := 0, slots := 0, locals := 73 } : Room) s m #[(.ref ao0), (.int 58), (.int 0)] below meth c s₁ [] 0 0 := Stand.of_body Bd
  have e0 : s₁.heap = h0 := by rw [← hh, Bd.state]; rfl
  have Nf := Fr.nil n0
  have Zs := Z0
  have Kp : Keep h0 h0 [] := Keep.refl _ _
  obtain ⟨S_COMPACT_STRINGS, hG, S__assertionsDisabled, S_HI_BYTE_SHIFT, S_LO_BYTE_SHIFT, S_SIOOBE_FORMATTER, r_sf, c_sf⟩ := id hst
  show own_End p e below s (Q_rm7_0 Z ao0 dd kd xs G1 sf h0 n0) ({ frames := 5, cells := 0, slots := 0, locals := 73 } : Room).cells ({ frames := 5, cells := 0, slots := 0, locals := 73 } : Room).slots (s₁.setTop (entryFrame m #[(.ref ao0), (.int 58), (.int 0)] 3))
  refine own_go (x' := s₁.setTop (mkF m 0 #[.val (.ref ao0), .val (.int 58), .val (.int 0)] [])) (fun t k => castTop (ef_rm7_0 m ao0 (58 : Int32) (0 : Int32)) k) ?_
  refine own_go (x' := s₁.setTop (mkF m 1 #[.val (.ref ao0), .val (.int 58), .val (.int 0)] [(.ref ao0)])) (fun _ k => XS.aloadN X0.here hx rfl (hb hby d7_0) rfl rfl k) ?_
  obtain ⟨cq1, kq1, q1a, q1b, q1c⟩ := isOf hZ e0 E_ao0
  obtain ⟨_, _, ⟨T1, L1, k1, n1⟩, -, X1, ⟨Lc1, hQ1, l1, y1, z1⟩, st1⟩ := X0.virtualBack hx (y := (⟨"java/lang/String", "isLatin1", "()Z"⟩ : MethodName)) (z := (⟨"java/lang/String", "isLatin1", "()Z"⟩ : MethodName)) hown (mvT hZ (own_w hw 41 rfl)) (mvT hZ (own_w hw 42 rfl)) (notFace_of_selects (args := #[]) (mvT hZ (own_w hw 44 rfl))) (mvT hZ (own_w hw 44 rfl)) (mvT hZ (own_w hw 43 rfl)) (by decide) (backOf (W := 0) (rm8_0 l Z a0 hw [] ao0 G1 sf h0 n0 Zs F_ao0_coder Od hst) hZ (own_w hw 45 rfl) (own_w hw 8 rfl) (by decide) (by decide)) q1a q1c (g := (mkF m 1 #[.val (.ref ao0), .val (.int 58), .val (.int 0)] [(.ref ao0)])) rfl (by rw [hml]; rfl) (Steps.refl _) (argsL := []) (rest := []) (lenOf pd_5 rfl) rfl (by show 2 * 0 + _ ≤ _; exact Nat.le_of_eq rfl) (hb hby d7_1) (fun _ _ => ⟨rfl, e0, (by decide : 0 + 0 ≤ _), (by decide : 0 + 0 ≤ _)⟩)
  dsimp only [Pt.U, Pt.locs, Pt.cells, Pt.slots] at X1 l1 y1 z1 st1 hQ1
  subst l1 y1 z1
  obtain ⟨hv1, Nq1, eq1⟩ := hQ1
  subst hv1
  replace Nf := Fr.app Nf Nq1
  refine own_go (x' := T1.setTop (mkF m 4 #[.val (.ref ao0), .val (.int 58), .val (.int 0)] [(.int 1)])) (fun _ k => st1.trans k) ?_
  refine own_go (x' := T1.setTop (mkF m 8 #[.val (.ref ao0), .val (.int 58), .val (.int 0)] [(.ref ao0)])) (fun _ k => XS.ifNo X1.here hx rfl (hb hby d7_4) rfl ((if0 _ _).trans (feq (by decide +kernel : ¬ ((1 : Int32) = (0 : Int32)))).1) (XS.aloadN X1.here hx rfl (hb hby d7_7) rfl rfl k)) ?_
  obtain ⟨T2, X2, e2, st2⟩ := getF X1 hx hZ hown (host := "") (Or.inl (own_w hw 25 rfl)) Via.refl eq1 F_ao0_value (g := (mkF m 8 #[.val (.ref ao0), .val (.int 58), .val (.int 0)] [(.ref ao0)])) rfl rfl (hb hby d7_8)
  refine own_go (x' := T2.setTop (mkF m 11 #[.val (.ref ao0), .val (.int 58), .val (.int 0)] [(.ref dd)])) st2 ?_
  refine own_go (x' := T2.setTop (mkF m 14 #[.val (.ref ao0), .val (.int 58), .val (.int 0)] [(.ref ao0), (.int 0), (.int 58), (.ref dd)])) (fun _ k => XS.iloadN X2.here hx rfl (hb hby d7_11) rfl (XS.iloadN X2.here hx rfl (hb hby d7_12) rfl (XS.aloadN X2.here hx rfl (hb hby d7_13) rfl rfl k))) ?_
  obtain ⟨cq3, kq3, q3a, q3b, q3c⟩ := isOf hZ e2 E_ao0
  obtain ⟨_, _, ⟨T3, L3, k3, n3⟩, -, X3, ⟨Lc3, hQ3, l3, y3, z3⟩, st3⟩ := X2.virtualBack hx (y := (⟨"java/lang/String", "length", "()I"⟩ : MethodName)) (z := (⟨"java/lang/String", "length", "()I"⟩ : MethodName)) hown (mvT hZ (own_w hw 47 rfl)) (mvT hZ (own_w hw 48 rfl)) (notFace_of_selects (args := #[]) (mvT hZ (own_w hw 50 rfl))) (mvT hZ (own_w hw 50 rfl)) (mvT hZ (own_w hw 49 rfl)) (by decide) (backOf (W := 3) (rm9_0 l Z a0 hw [] ao0 dd kd _ _ (Int32.ofNat xs.length) G1 sf h0 n0 Zs E_ao0 F_ao0_coder F_ao0_value V_dd (own_oshz _ (by omega)) Od hst) hZ (own_w hw 51 rfl) (own_w hw 8 rfl) (by decide) (by decide)) q3a q3c (g := (mkF m 14 #[.val (.ref ao0), .val (.int 58), .val (.int 0)] [(.ref ao0), (.int 0), (.int 58), (.ref dd)])) rfl (by rw [hml]; rfl) (Steps.refl _) (argsL := []) (rest := [(.int 0), (.int 58), (.ref dd)]) (lenOf pd_10 rfl) rfl (by show 2 * 0 + _ ≤ _; exact Nat.le_of_eq rfl) (hb hby d7_14) (fun _ _ => ⟨rfl, e2, (by decide : 0 + 0 ≤ _), (by decide : 0 + 0 ≤ _)⟩)
  dsimp only [Pt.U, Pt.locs, Pt.cells, Pt.slots] at X3 l3 y3 z3 st3 hQ3
  subst l3 y3 z3
  obtain ⟨hv3, Nq3, eq3⟩ := hQ3
  subst hv3
  replace Nf := Fr.app Nf Nq3
  refine own_go (x' := T3.setTop (mkF m 17 #[.val (.ref ao0), .val (.int 58), .val (.int 0)] [(.int (Int32.ofNat xs.length)), (.int 0), (.int 58), (.ref dd)])) (fun _ k => st3.trans k) ?_
  obtain ⟨_, _, ⟨T4, L4, k4, n4⟩, -, X4, ⟨Lc4, hQ4, l4, y4, z4⟩, st4⟩ := Jvm.LawKit.callS X3 hx (y := (⟨"java/lang/StringLatin1", "indexOf", "([BIII)I"⟩ : MethodName)) hown (mvT hZ (own_w hw 57 rfl)) (mvT hZ (own_w hw 58 rfl)) (mvT hZ (own_w hw 59 rfl)) (mvT hZ (own_w hw 60 rfl)) (by decide) (backOf (W := 0) (rm11 l Z a0 hw [] dd kd xs  h0 n0 Zs V_dd hxs hlat hlen ) hZ (own_w hw 60 rfl) (own_w hw 59 rfl) (by decide) (by decide)) (g := (mkF m 17 #[.val (.ref ao0), .val (.int 58), .val (.int 0)] [(.int (Int32.ofNat xs.length)), (.int 0), (.int 58), (.ref dd)])) rfl (by rw [hml]; rfl) (argsL := [(.ref dd), (.int 58), (.int 0), (.int (Int32.ofNat xs.length))]) (rest := []) (lenOf pd_9 rfl) rfl (by show 2 * 0 + _ ≤ _; exact Nat.le_of_eq rfl) (hb hby d7_17) (fun _ _ => ⟨rfl, eq3, (by decide : 0 + 0 ≤ _), (by decide : 0 + 0 ≤ _)⟩)
  dsimp only [Pt.U, Pt.locs, Pt.cells, Pt.slots] at X4 l4 y4 z4 st4 hQ4
  subst l4 y4 z4
  obtain ⟨hv4, Nq4, eq4⟩ := hQ4
  subst hv4
  replace Nf := Fr.app Nf Nq4
  refine own_go (x' := T4.setTop (mkF m 20 #[.val (.ref ao0), .val (.int 58), .val (.int 0)] [(.int (own_ix xs))])) st4 ?_
  refine own_go (x' := T4.setTop (mkF m 36 #[.val (.ref ao0), .val (.int 58), .val (.int 0)] [(.int (own_ix xs))])) (fun _ k => XS.goto X4.here hx rfl (pc0 := 20) (pc' := 36) rfl (hb hby d7_20) (by decide) (by decide) k) ?_
  refine own_retI X4 hx hlk hret (hb hby d7_36) ?_ (by decide) (by decide)
  rw [eq4]
  exact ⟨rfl, Nf, rfl⟩
theorem d7_23 : decode jdk_42_method_80_code 23 = .ok (.aload_n 0, 1) := by decide +kernel
theorem d7_24 : decode jdk_42_method_80_code 24 = .ok (.getfield 9, 3) := by decide +kernel
theorem d7_27 : decode jdk_42_method_80_code 27 = .ok (.iload_n 1, 1) := by decide +kernel
theorem d7_28 : decode jdk_42_method_80_code 28 = .ok (.iload_n 2, 1) := by decide +kernel
theorem d7_29 : decode jdk_42_method_80_code 29 = .ok (.aload_n 0, 1) := by decide +kernel
theorem d7_30 : decode jdk_42_method_80_code 30 = .ok (.invokevirtual 505, 3) := by decide +kernel
theorem d7_33 : decode jdk_42_method_80_code 33 = .ok (.invokestatic 640, 3) := by decide +kernel
def Q_rm7_1 (Z : State) (ao0 dd : Addr) (kd : ClassId) (xs : List Int32) (G1 : Int32) (sf : Value) (h0 : Heap) (n0 : Nat) (v : Option Value) (h : Heap) (L : List Loc) : Prop := v = some (.int (own_ix xs)) ∧ Fr n0 L ∧ h = h0
theorem pn_rm7_1 : plainName "java/lang/String" = true := by first | (simp [plainName, overriddenIn]; done) | decide +kernel
theorem ef_rm7_1 (m : MethodId) (x0 : Addr) (x1 : Int32) (x2 : Int32) : entryFrame m #[(.ref x0), (.int x1), (.int x2)] 3 = mkF m 0 #[.val (.ref x0), .val (.int x1), .val (.int x2)] [] := by first | (simp [entryFrame, mkF, argsToLocals, Value.category]; done) | rfl
set_option maxRecDepth 65536 in
set_option maxHeartbeats 40000000 in
theorem rm7_1 (l : Launch) (Z : State) (a0 : Array Value) (hw : ∀ d ∈ tables_1, d.before a0 Z = true) (ws : List Jvm.Cond) (ao0 dd : Addr) (kd : ClassId) (xs : List Int32) (G1 : Int32) (sf : Value) (h0 : Heap) (n0 : Nat) (Z0 : n0 ≤ h0.size) (E_ao0 : Exa Z h0 ao0 "java/lang/String") (F_ao0_coder : Fld Z h0 ao0 "java/lang/String" "coder" "B" (.int (1 : Int32))) (F_ao0_value : Fld Z h0 ao0 "java/lang/String" "value" "[B" (.ref dd)) (V_dd : Arv Z h0 dd kd .byte (Int32.ofNat (2 * xs.length)) (own_utf xs) (.int (0 : Int32))) (hxs : ∀ x ∈ xs, own_ch x) (hlen : xs.length ≤ 6) (Od : Old Z n0 h0) (hst : own_St Z G1 sf) :
    MetFree l (⟨"java/lang/String", "indexOf", "(II)I"⟩ : MethodName) (head1 (Jvm.Cond.code (⟨"java/lang/String", "indexOf", "(II)I"⟩ : MethodName) jdk_42_method_80_code 3 (some .int) :: ws) ({ frames := 5, cells := 0, slots := 0, locals := 73 } : Room)) (fun a U => a = #[(.ref ao0), (.int 58), (.int 0)] ∧ Z.Warmed39 U.vm ∧ U.heap = h0) (fun _ _ _ _ _ => True) (fun _ U o U' => ∃ v L, o = .returned v ∧ (Q_rm7_1 Z ao0 dd kd xs G1 sf h0 n0) v U'.heap L ∧ FrameEnd U o U' L ({ frames := 5, cells := 0, slots := 0, locals := 73 } : Room).cells ({ frames := 5, cells := 0, slots := 0, locals := 73 } : Room).slots) := by
  refine MetFree.of_bodySF (plainFor_of_name pn_rm7_1) hisR ?_
  intro p e s m args below meth c s₁ Bd hml0 hP hK
  obtain ⟨rfl, hZ, hh⟩ := hP
  have hx := Bd.exec
  have hby := Bd.bytes
  have hlk := BodyLoose.notSynchronized Bd
  have hret := Bd.returns
  have hml : c.maxLocals = 3 := hml0
  have hown : s.vm.findClass "java/lang/String" = some m.cls := findClass_of_methodNamed Bd.named
  have hnm := (name_of_methodNamed Bd.named Bd.method).1
  have X0 : Stand p l e ({ frames := 5, cells := 0, slots := 0, locals := 73 } : Room) s m #[(.ref ao0), (.int 58), (.int 0)] below meth c s₁ [] 0 0 := Stand.of_body Bd
  have e0 : s₁.heap = h0 := by rw [← hh, Bd.state]; rfl
  have Nf := Fr.nil n0
  have Zs := Z0
  have Kp : Keep h0 h0 [] := Keep.refl _ _
  obtain ⟨S_COMPACT_STRINGS, hG, S__assertionsDisabled, S_HI_BYTE_SHIFT, S_LO_BYTE_SHIFT, S_SIOOBE_FORMATTER, r_sf, c_sf⟩ := id hst
  show own_End p e below s (Q_rm7_1 Z ao0 dd kd xs G1 sf h0 n0) ({ frames := 5, cells := 0, slots := 0, locals := 73 } : Room).cells ({ frames := 5, cells := 0, slots := 0, locals := 73 } : Room).slots (s₁.setTop (entryFrame m #[(.ref ao0), (.int 58), (.int 0)] 3))
  refine own_go (x' := s₁.setTop (mkF m 0 #[.val (.ref ao0), .val (.int 58), .val (.int 0)] [])) (fun t k => castTop (ef_rm7_1 m ao0 (58 : Int32) (0 : Int32)) k) ?_
  refine own_go (x' := s₁.setTop (mkF m 1 #[.val (.ref ao0), .val (.int 58), .val (.int 0)] [(.ref ao0)])) (fun _ k => XS.aloadN X0.here hx rfl (hb hby d7_0) rfl rfl k) ?_
  obtain ⟨cq1, kq1, q1a, q1b, q1c⟩ := isOf hZ e0 E_ao0
  obtain ⟨_, _, ⟨T1, L1, k1, n1⟩, -, X1, ⟨Lc1, hQ1, l1, y1, z1⟩, st1⟩ := X0.virtualBack hx (y := (⟨"java/lang/String", "isLatin1", "()Z"⟩ : MethodName)) (z := (⟨"java/lang/String", "isLatin1", "()Z"⟩ : MethodName)) hown (mvT hZ (own_w hw 41 rfl)) (mvT hZ (own_w hw 42 rfl)) (notFace_of_selects (args := #[]) (mvT hZ (own_w hw 44 rfl))) (mvT hZ (own_w hw 44 rfl)) (mvT hZ (own_w hw 43 rfl)) (by decide) (backOf (W := 0) (rm8_1 l Z a0 hw [] ao0 G1 sf h0 n0 Zs F_ao0_coder Od hst) hZ (own_w hw 45 rfl) (own_w hw 8 rfl) (by decide) (by decide)) q1a q1c (g := (mkF m 1 #[.val (.ref ao0), .val (.int 58), .val (.int 0)] [(.ref ao0)])) rfl (by rw [hml]; rfl) (Steps.refl _) (argsL := []) (rest := []) (lenOf pd_5 rfl) rfl (by show 2 * 0 + _ ≤ _; exact Nat.le_of_eq rfl) (hb hby d7_1) (fun _ _ => ⟨rfl, e0, (by decide : 0 + 0 ≤ _), (by decide : 0 + 0 ≤ _)⟩)
  dsimp only [Pt.U, Pt.locs, Pt.cells, Pt.slots] at X1 l1 y1 z1 st1 hQ1
  subst l1 y1 z1
  obtain ⟨hv1, Nq1, eq1⟩ := hQ1
  subst hv1
  replace Nf := Fr.app Nf Nq1
  refine own_go (x' := T1.setTop (mkF m 4 #[.val (.ref ao0), .val (.int 58), .val (.int 0)] [(.int 0)])) (fun _ k => st1.trans k) ?_
  refine own_go (x' := T1.setTop (mkF m 24 #[.val (.ref ao0), .val (.int 58), .val (.int 0)] [(.ref ao0)])) (fun _ k => XS.ifYes X1.here hx rfl (pc0 := 4) (pc' := 23) rfl (hb hby d7_4) rfl ((if0 _ _).trans (teq rfl).1) (by decide) (by decide) (XS.aloadN X1.here hx rfl (hb hby d7_23) rfl rfl k)) ?_
  obtain ⟨T2, X2, e2, st2⟩ := getF X1 hx hZ hown (host := "") (Or.inl (own_w hw 25 rfl)) Via.refl eq1 F_ao0_value (g := (mkF m 24 #[.val (.ref ao0), .val (.int 58), .val (.int 0)] [(.ref ao0)])) rfl rfl (hb hby d7_24)
  refine own_go (x' := T2.setTop (mkF m 27 #[.val (.ref ao0), .val (.int 58), .val (.int 0)] [(.ref dd)])) st2 ?_
  refine own_go (x' := T2.setTop (mkF m 30 #[.val (.ref ao0), .val (.int 58), .val (.int 0)] [(.ref ao0), (.int 0), (.int 58), (.ref dd)])) (fun _ k => XS.iloadN X2.here hx rfl (hb hby d7_27) rfl (XS.iloadN X2.here hx rfl (hb hby d7_28) rfl (XS.aloadN X2.here hx rfl (hb hby d7_29) rfl rfl k))) ?_
  obtain ⟨cq3, kq3, q3a, q3b, q3c⟩ := isOf hZ e2 E_ao0
  obtain ⟨_, _, ⟨T3, L3, k3, n3⟩, -, X3, ⟨Lc3, hQ3, l3, y3, z3⟩, st3⟩ := X2.virtualBack hx (y := (⟨"java/lang/String", "length", "()I"⟩ : MethodName)) (z := (⟨"java/lang/String", "length", "()I"⟩ : MethodName)) hown (mvT hZ (own_w hw 47 rfl)) (mvT hZ (own_w hw 48 rfl)) (notFace_of_selects (args := #[]) (mvT hZ (own_w hw 50 rfl))) (mvT hZ (own_w hw 50 rfl)) (mvT hZ (own_w hw 49 rfl)) (by decide) (backOf (W := 3) (rm9_1 l Z a0 hw [] ao0 dd kd _ _ (Int32.ofNat xs.length) G1 sf h0 n0 Zs E_ao0 F_ao0_coder F_ao0_value V_dd (own_oshr _ (by omega)) Od hst) hZ (own_w hw 51 rfl) (own_w hw 8 rfl) (by decide) (by decide)) q3a q3c (g := (mkF m 30 #[.val (.ref ao0), .val (.int 58), .val (.int 0)] [(.ref ao0), (.int 0), (.int 58), (.ref dd)])) rfl (by rw [hml]; rfl) (Steps.refl _) (argsL := []) (rest := [(.int 0), (.int 58), (.ref dd)]) (lenOf pd_10 rfl) rfl (by show 2 * 0 + _ ≤ _; exact Nat.le_of_eq rfl) (hb hby d7_30) (fun _ _ => ⟨rfl, e2, (by decide : 0 + 0 ≤ _), (by decide : 0 + 0 ≤ _)⟩)
  dsimp only [Pt.U, Pt.locs, Pt.cells, Pt.slots] at X3 l3 y3 z3 st3 hQ3
  subst l3 y3 z3
  obtain ⟨hv3, Nq3, eq3⟩ := hQ3
  subst hv3
  replace Nf := Fr.app Nf Nq3
  refine own_go (x' := T3.setTop (mkF m 33 #[.val (.ref ao0), .val (.int 58), .val (.int 0)] [(.int (Int32.ofNat xs.length)), (.int 0), (.int 58), (.ref dd)])) (fun _ k => st3.trans k) ?_
  obtain ⟨_, _, ⟨T4, L4, k4, n4⟩, -, X4, ⟨Lc4, hQ4, l4, y4, z4⟩, st4⟩ := Jvm.LawKit.callS X3 hx (y := (⟨"java/lang/StringUTF16", "indexOf", "([BIII)I"⟩ : MethodName)) hown (mvT hZ (own_w hw 107 rfl)) (mvT hZ (own_w hw 108 rfl)) (mvT hZ (own_w hw 77 rfl)) (mvT hZ (own_w hw 109 rfl)) (by decide) (backOf (W := 0) (rm25 l Z a0 hw [] dd kd xs G1 sf h0 n0 Zs V_dd hxs hlen Od hst) hZ (own_w hw 109 rfl) (own_w hw 77 rfl) (by decide) (by decide)) (g := (mkF m 33 #[.val (.ref ao0), .val (.int 58), .val (.int 0)] [(.int (Int32.ofNat xs.length)), (.int 0), (.int 58), (.ref dd)])) rfl (by rw [hml]; rfl) (argsL := [(.ref dd), (.int 58), (.int 0), (.int (Int32.ofNat xs.length))]) (rest := []) (lenOf pd_9 rfl) rfl (by show 2 * 0 + _ ≤ _; exact Nat.le_of_eq rfl) (hb hby d7_33) (fun _ _ => ⟨rfl, eq3, (by decide : 0 + 0 ≤ _), (by decide : 0 + 0 ≤ _)⟩)
  dsimp only [Pt.U, Pt.locs, Pt.cells, Pt.slots] at X4 l4 y4 z4 st4 hQ4
  subst l4 y4 z4
  obtain ⟨hv4, Nq4, eq4⟩ := hQ4
  subst hv4
  replace Nf := Fr.app Nf Nq4
  refine own_go (x' := T4.setTop (mkF m 36 #[.val (.ref ao0), .val (.int 58), .val (.int 0)] [(.int (own_ix xs))])) st4 ?_
  refine own_retI X4 hx hlk hret (hb hby d7_36) ?_ (by decide) (by decide)
  rw [eq4]
  exact ⟨rfl, Nf, rfl⟩
def Q_rm6_0 (Z : State) (ao0 dd : Addr) (kd : ClassId) (xs : List Int32) (G1 : Int32) (sf : Value) (h0 : Heap) (n0 : Nat) (v : Option Value) (h : Heap) (L : List Loc) : Prop := v = some (.int (own_ix xs)) ∧ Fr n0 L ∧ h = h0
theorem pn_rm6_0 : plainName "java/lang/String" = true := by first | (simp [plainName, overriddenIn]; done) | decide +kernel
theorem ef_rm6_0 (m : MethodId) (x0 : Addr) (x1 : Int32) : entryFrame m #[(.ref x0), (.int x1)] 2 = mkF m 0 #[.val (.ref x0), .val (.int x1)] [] := by first | (simp [entryFrame, mkF, argsToLocals, Value.category]; done) | rfl
set_option maxRecDepth 65536 in
set_option maxHeartbeats 40000000 in
theorem rm6_0 (l : Launch) (Z : State) (a0 : Array Value) (hw : ∀ d ∈ tables_1, d.before a0 Z = true) (ws : List Jvm.Cond) (ao0 dd : Addr) (kd : ClassId) (xs : List Int32) (G1 : Int32) (sf : Value) (h0 : Heap) (n0 : Nat) (Z0 : n0 ≤ h0.size) (E_ao0 : Exa Z h0 ao0 "java/lang/String") (F_ao0_coder : Fld Z h0 ao0 "java/lang/String" "coder" "B" (.int (0 : Int32))) (F_ao0_value : Fld Z h0 ao0 "java/lang/String" "value" "[B" (.ref dd)) (V_dd : Arv Z h0 dd kd .byte (Int32.ofNat xs.length) (own_lat xs) (.int (0 : Int32))) (hxs : ∀ x ∈ xs, own_ch x) (hlat : ∀ x ∈ xs, ¬ (255 : Int32) < x) (hlen : xs.length ≤ 6) (Od : Old Z n0 h0) (hst : own_St Z G1 sf) :
    MetFree l (⟨"java/lang/String", "indexOf", "(I)I"⟩ : MethodName) (head1 (Jvm.Cond.code (⟨"java/lang/String", "indexOf", "(I)I"⟩ : MethodName) jdk_42_method_79_code 2 (some .int) :: ws) ({ frames := 6, cells := 0, slots := 0, locals := 87 } : Room)) (fun a U => a = #[(.ref ao0), (.int 58)] ∧ Z.Warmed39 U.vm ∧ U.heap = h0) (fun _ _ _ _ _ => True) (fun _ U o U' => ∃ v L, o = .returned v ∧ (Q_rm6_0 Z ao0 dd kd xs G1 sf h0 n0) v U'.heap L ∧ FrameEnd U o U' L ({ frames := 6, cells := 0, slots := 0, locals := 87 } : Room).cells ({ frames := 6, cells := 0, slots := 0, locals := 87 } : Room).slots) := by
  refine MetFree.of_bodySF (plainFor_of_name pn_rm6_0) hisR ?_
  intro p e s m args below meth c s₁ Bd hml0 hP hK
  obtain ⟨rfl, hZ, hh⟩ := hP
  have hx := Bd.exec
  have hby := Bd.bytes
  have hlk := BodyLoose.notSynchronized Bd
  have hret := Bd.returns
  have hml : c.maxLocals = 2 := hml0
  have hown : s.vm.findClass "java/lang/String" = some m.cls := findClass_of_methodNamed Bd.named
  have hnm := (name_of_methodNamed Bd.named Bd.method).1
  have X0 : Stand p l e ({ frames := 6, cells := 0, slots := 0, locals := 87 } : Room) s m #[(.ref ao0), (.int 58)] below meth c s₁ [] 0 0 := Stand.of_body Bd
  have e0 : s₁.heap = h0 := by rw [← hh, Bd.state]; rfl
  have Nf := Fr.nil n0
  have Zs := Z0
  have Kp : Keep h0 h0 [] := Keep.refl _ _
  obtain ⟨S_COMPACT_STRINGS, hG, S__assertionsDisabled, S_HI_BYTE_SHIFT, S_LO_BYTE_SHIFT, S_SIOOBE_FORMATTER, r_sf, c_sf⟩ := id hst
  show own_End p e below s (Q_rm6_0 Z ao0 dd kd xs G1 sf h0 n0) ({ frames := 6, cells := 0, slots := 0, locals := 87 } : Room).cells ({ frames := 6, cells := 0, slots := 0, locals := 87 } : Room).slots (s₁.setTop (entryFrame m #[(.ref ao0), (.int 58)] 2))
  refine own_go (x' := s₁.setTop (mkF m 0 #[.val (.ref ao0), .val (.int 58)] [])) (fun t k => castTop (ef_rm6_0 m ao0 (58 : Int32)) k) ?_
  refine own_go (x' := s₁.setTop (mkF m 3 #[.val (.ref ao0), .val (.int 58)] [(.int 0), (.int 58), (.ref ao0)])) (fun _ k => XS.aloadN X0.here hx rfl (hb hby d6_0) rfl rfl (XS.iloadN X0.here hx rfl (hb hby d6_1) rfl (XS.iconst X0.here hx rfl (hb hby d6_2) k))) ?_
  obtain ⟨cq1, kq1, q1a, q1b, q1c⟩ := isOf hZ e0 E_ao0
  obtain ⟨_, _, ⟨T1, L1, k1, n1⟩, -, X1, ⟨Lc1, hQ1, l1, y1, z1⟩, st1⟩ := X0.virtualBack hx (y := (⟨"java/lang/String", "indexOf", "(II)I"⟩ : MethodName)) (z := (⟨"java/lang/String", "indexOf", "(II)I"⟩ : MethodName)) hown (mvT hZ (own_w hw 36 rfl)) (mvT hZ (own_w hw 37 rfl)) (notFace_of_selects (args := #[]) (mvT hZ (own_w hw 39 rfl))) (mvT hZ (own_w hw 39 rfl)) (mvT hZ (own_w hw 38 rfl)) (by decide) (backOf (W := 0) (rm7_0 l Z a0 hw [] ao0 dd kd xs G1 sf h0 n0 Zs E_ao0 F_ao0_coder F_ao0_value V_dd hxs hlat hlen Od hst) hZ (own_w hw 40 rfl) (own_w hw 8 rfl) (by decide) (by decide)) q1a q1c (g := (mkF m 3 #[.val (.ref ao0), .val (.int 58)] [(.int 0), (.int 58), (.ref ao0)])) rfl (by rw [hml]; rfl) (Steps.refl _) (argsL := [(.int 58), (.int 0)]) (rest := []) (lenOf pd_8 rfl) rfl (by show 2 * 0 + _ ≤ _; exact Nat.le_of_eq rfl) (hb hby d6_3) (fun _ _ => ⟨rfl, e0, (by decide : 0 + 0 ≤ _), (by decide : 0 + 0 ≤ _)⟩)
  dsimp only [Pt.U, Pt.locs, Pt.cells, Pt.slots] at X1 l1 y1 z1 st1 hQ1
  subst l1 y1 z1
  obtain ⟨hv1, Nq1, eq1⟩ := hQ1
  subst hv1
  replace Nf := Fr.app Nf Nq1
  refine own_go (x' := T1.setTop (mkF m 6 #[.val (.ref ao0), .val (.int 58)] [(.int (own_ix xs))])) (fun _ k => st1.trans k) ?_
  refine own_retI X1 hx hlk hret (hb hby d6_6) ?_ (by decide) (by decide)
  rw [eq1]
  exact ⟨rfl, Nf, rfl⟩
def Q_rm6_1 (Z : State) (ao0 dd : Addr) (kd : ClassId) (xs : List Int32) (G1 : Int32) (sf : Value) (h0 : Heap) (n0 : Nat) (v : Option Value) (h : Heap) (L : List Loc) : Prop := v = some (.int (own_ix xs)) ∧ Fr n0 L ∧ h = h0
theorem pn_rm6_1 : plainName "java/lang/String" = true := by first | (simp [plainName, overriddenIn]; done) | decide +kernel
theorem ef_rm6_1 (m : MethodId) (x0 : Addr) (x1 : Int32) : entryFrame m #[(.ref x0), (.int x1)] 2 = mkF m 0 #[.val (.ref x0), .val (.int x1)] [] := by first | (simp [entryFrame, mkF, argsToLocals, Value.category]; done) | rfl
set_option maxRecDepth 65536 in
set_option maxHeartbeats 40000000 in
theorem rm6_1 (l : Launch) (Z : State) (a0 : Array Value) (hw : ∀ d ∈ tables_1, d.before a0 Z = true) (ws : List Jvm.Cond) (ao0 dd : Addr) (kd : ClassId) (xs : List Int32) (G1 : Int32) (sf : Value) (h0 : Heap) (n0 : Nat) (Z0 : n0 ≤ h0.size) (E_ao0 : Exa Z h0 ao0 "java/lang/String") (F_ao0_coder : Fld Z h0 ao0 "java/lang/String" "coder" "B" (.int (1 : Int32))) (F_ao0_value : Fld Z h0 ao0 "java/lang/String" "value" "[B" (.ref dd)) (V_dd : Arv Z h0 dd kd .byte (Int32.ofNat (2 * xs.length)) (own_utf xs) (.int (0 : Int32))) (hxs : ∀ x ∈ xs, own_ch x) (hlen : xs.length ≤ 6) (Od : Old Z n0 h0) (hst : own_St Z G1 sf) :
    MetFree l (⟨"java/lang/String", "indexOf", "(I)I"⟩ : MethodName) (head1 (Jvm.Cond.code (⟨"java/lang/String", "indexOf", "(I)I"⟩ : MethodName) jdk_42_method_79_code 2 (some .int) :: ws) ({ frames := 6, cells := 0, slots := 0, locals := 87 } : Room)) (fun a U => a = #[(.ref ao0), (.int 58)] ∧ Z.Warmed39 U.vm ∧ U.heap = h0) (fun _ _ _ _ _ => True) (fun _ U o U' => ∃ v L, o = .returned v ∧ (Q_rm6_1 Z ao0 dd kd xs G1 sf h0 n0) v U'.heap L ∧ FrameEnd U o U' L ({ frames := 6, cells := 0, slots := 0, locals := 87 } : Room).cells ({ frames := 6, cells := 0, slots := 0, locals := 87 } : Room).slots) := by
  refine MetFree.of_bodySF (plainFor_of_name pn_rm6_1) hisR ?_
  intro p e s m args below meth c s₁ Bd hml0 hP hK
  obtain ⟨rfl, hZ, hh⟩ := hP
  have hx := Bd.exec
  have hby := Bd.bytes
  have hlk := BodyLoose.notSynchronized Bd
  have hret := Bd.returns
  have hml : c.maxLocals = 2 := hml0
  have hown : s.vm.findClass "java/lang/String" = some m.cls := findClass_of_methodNamed Bd.named
  have hnm := (name_of_methodNamed Bd.named Bd.method).1
  have X0 : Stand p l e ({ frames := 6, cells := 0, slots := 0, locals := 87 } : Room) s m #[(.ref ao0), (.int 58)] below meth c s₁ [] 0 0 := Stand.of_body Bd
  have e0 : s₁.heap = h0 := by rw [← hh, Bd.state]; rfl
  have Nf := Fr.nil n0
  have Zs := Z0
  have Kp : Keep h0 h0 [] := Keep.refl _ _
  obtain ⟨S_COMPACT_STRINGS, hG, S__assertionsDisabled, S_HI_BYTE_SHIFT, S_LO_BYTE_SHIFT, S_SIOOBE_FORMATTER, r_sf, c_sf⟩ := id hst
  show own_End p e below s (Q_rm6_1 Z ao0 dd kd xs G1 sf h0 n0) ({ frames := 6, cells := 0, slots := 0, locals := 87 } : Room).cells ({ frames := 6, cells := 0, slots := 0, locals := 87 } : Room).slots (s₁.setTop (entryFrame m #[(.ref ao0), (.int 58)] 2))
  refine own_go (x' := s₁.setTop (mkF m 0 #[.val (.ref ao0), .val (.int 58)] [])) (fun t k => castTop (ef_rm6_1 m ao0 (58 : Int32)) k) ?_
  refine own_go (x' := s₁.setTop (mkF m 3 #[.val (.ref ao0), .val (.int 58)] [(.int 0), (.int 58), (.ref ao0)])) (fun _ k => XS.aloadN X0.here hx rfl (hb hby d6_0) rfl rfl (XS.iloadN X0.here hx rfl (hb hby d6_1) rfl (XS.iconst X0.here hx rfl (hb hby d6_2) k))) ?_
  obtain ⟨cq1, kq1, q1a, q1b, q1c⟩ := isOf hZ e0 E_ao0
  obtain ⟨_, _, ⟨T1, L1, k1, n1⟩, -, X1, ⟨Lc1, hQ1, l1, y1, z1⟩, st1⟩ := X0.virtualBack hx (y := (⟨"java/lang/String", "indexOf", "(II)I"⟩ : MethodName)) (z := (⟨"java/lang/String", "indexOf", "(II)I"⟩ : MethodName)) hown (mvT hZ (own_w hw 36 rfl)) (mvT hZ (own_w hw 37 rfl)) (notFace_of_selects (args := #[]) (mvT hZ (own_w hw 39 rfl))) (mvT hZ (own_w hw 39 rfl)) (mvT hZ (own_w hw 38 rfl)) (by decide) (backOf (W := 0) (rm7_1 l Z a0 hw [] ao0 dd kd xs G1 sf h0 n0 Zs E_ao0 F_ao0_coder F_ao0_value V_dd hxs hlen Od hst) hZ (own_w hw 40 rfl) (own_w hw 8 rfl) (by decide) (by decide)) q1a q1c (g := (mkF m 3 #[.val (.ref ao0), .val (.int 58)] [(.int 0), (.int 58), (.ref ao0)])) rfl (by rw [hml]; rfl) (Steps.refl _) (argsL := [(.int 58), (.int 0)]) (rest := []) (lenOf pd_8 rfl) rfl (by show 2 * 0 + _ ≤ _; exact Nat.le_of_eq rfl) (hb hby d6_3) (fun _ _ => ⟨rfl, e0, (by decide : 0 + 0 ≤ _), (by decide : 0 + 0 ≤ _)⟩)
  dsimp only [Pt.U, Pt.locs, Pt.cells, Pt.slots] at X1 l1 y1 z1 st1 hQ1
  subst l1 y1 z1
  obtain ⟨hv1, Nq1, eq1⟩ := hQ1
  subst hv1
  replace Nf := Fr.app Nf Nq1
  refine own_go (x' := T1.setTop (mkF m 6 #[.val (.ref ao0), .val (.int 58)] [(.int (own_ix xs))])) (fun _ k => st1.trans k) ?_
  refine own_retI X1 hx hlk hret (hb hby d6_6) ?_ (by decide) (by decide)
  rw [eq1]
  exact ⟨rfl, Nf, rfl⟩
def Q_rm9S (Z : State) (ao0 : Addr) (xs : List Int32) (G1 : Int32) (sf : Value) (h0 : Heap) (n0 : Nat) (v : Option Value) (h : Heap) (L : List Loc) : Prop := v = some (.int (Int32.ofNat xs.length)) ∧ Fr n0 L ∧ h = h0
theorem rm9S (l : Launch) (Z : State) (a0 : Array Value) (hw : ∀ d ∈ tables_1, d.before a0 Z = true) (ws : List Jvm.Cond) (ao0 : Addr) (xs : List Int32) (G1 : Int32) (sf : Value) (h0 : Heap) (n0 : Nat) (Z0 : n0 ≤ h0.size) (S_ao0 : own_S Z h0 ao0 xs) (hlen : xs.length ≤ 6) (Od : Old Z n0 h0) (hst : own_St Z G1 sf) :
    MetFree l (⟨"java/lang/String", "length", "()I"⟩ : MethodName) (head1 (Jvm.Cond.code (⟨"java/lang/String", "length", "()I"⟩ : MethodName) jdk_42_method_54_code 1 (some .int) :: ws) ({ frames := 1, cells := 0, slots := 0, locals := 13 } : Room)) (fun a U => a = #[(.ref ao0)] ∧ Z.Warmed39 U.vm ∧ U.heap = h0) (fun _ _ _ _ _ => True) (fun _ U o U' => ∃ v L, o = .returned v ∧ Q_rm9S Z ao0 xs G1 sf h0 n0 v U'.heap L ∧ FrameEnd U o U' L ({ frames := 1, cells := 0, slots := 0, locals := 13 } : Room).cells ({ frames := 1, cells := 0, slots := 0, locals := 13 } : Room).slots) := by
  obtain ⟨dd, kd, E_ao0, F_ao0_value, hxs, H⟩ := S_ao0
  rcases H with ⟨F_ao0_coder, hlat, V_dd⟩ | ⟨F_ao0_coder, V_dd⟩
  · exact rm9_0 l Z a0 hw ws ao0 dd kd _ _ _ G1 sf h0 n0 Z0 E_ao0 F_ao0_coder F_ao0_value V_dd (own_oshz _ (by omega)) Od hst
  · exact rm9_1 l Z a0 hw ws ao0 dd kd _ _ _ G1 sf h0 n0 Z0 E_ao0 F_ao0_coder F_ao0_value V_dd (own_oshr _ (by omega)) Od hst
def Q_rm6S (Z : State) (ao0 : Addr) (xs : List Int32) (G1 : Int32) (sf : Value) (h0 : Heap) (n0 : Nat) (v : Option Value) (h : Heap) (L : List Loc) : Prop := v = some (.int (own_ix xs)) ∧ Fr n0 L ∧ h = h0
theorem rm6S (l : Launch) (Z : State) (a0 : Array Value) (hw : ∀ d ∈ tables_1, d.before a0 Z = true) (ws : List Jvm.Cond) (ao0 : Addr) (xs : List Int32) (G1 : Int32) (sf : Value) (h0 : Heap) (n0 : Nat) (Z0 : n0 ≤ h0.size) (S_ao0 : own_S Z h0 ao0 xs) (hlen : xs.length ≤ 6) (Od : Old Z n0 h0) (hst : own_St Z G1 sf) :
    MetFree l (⟨"java/lang/String", "indexOf", "(I)I"⟩ : MethodName) (head1 (Jvm.Cond.code (⟨"java/lang/String", "indexOf", "(I)I"⟩ : MethodName) jdk_42_method_79_code 2 (some .int) :: ws) ({ frames := 6, cells := 0, slots := 0, locals := 87 } : Room)) (fun a U => a = #[(.ref ao0), (.int 58)] ∧ Z.Warmed39 U.vm ∧ U.heap = h0) (fun _ _ _ _ _ => True) (fun _ U o U' => ∃ v L, o = .returned v ∧ Q_rm6S Z ao0 xs G1 sf h0 n0 v U'.heap L ∧ FrameEnd U o U' L ({ frames := 6, cells := 0, slots := 0, locals := 87 } : Room).cells ({ frames := 6, cells := 0, slots := 0, locals := 87 } : Room).slots) := by
  obtain ⟨dd, kd, E_ao0, F_ao0_value, hxs, H⟩ := S_ao0
  rcases H with ⟨F_ao0_coder, hlat, V_dd⟩ | ⟨F_ao0_coder, V_dd⟩
  · exact rm6_0 l Z a0 hw ws ao0 dd kd xs G1 sf h0 n0 Z0 E_ao0 F_ao0_coder F_ao0_value V_dd hxs hlat hlen Od hst
  · exact rm6_1 l Z a0 hw ws ao0 dd kd xs G1 sf h0 n0 Z0 E_ao0 F_ao0_coder F_ao0_value V_dd hxs hlen Od hst
def Q_rm32S (Z : State) (ao0 : Addr) (xs : List Int32) (j : Nat) (x : Int32) (G1 : Int32) (sf : Value) (h0 : Heap) (n0 : Nat) (v : Option Value) (h : Heap) (L : List Loc) : Prop := v = some (.int x) ∧ Fr n0 L ∧ h = h0
theorem rm32S (l : Launch) (Z : State) (a0 : Array Value) (hw : ∀ d ∈ tables_1, d.before a0 Z = true) (ws : List Jvm.Cond) (ao0 : Addr) (xs : List Int32) (j : Nat) (x : Int32) (G1 : Int32) (sf : Value) (h0 : Heap) (n0 : Nat) (Z0 : n0 ≤ h0.size) (S_ao0 : own_S Z h0 ao0 xs) (hlen : xs.length ≤ 6) (hj1 : j < xs.length) (hj2 : xs[j]? = some x) (Od : Old Z n0 h0) (hst : own_St Z G1 sf) :
    MetFree l (⟨"java/lang/String", "charAt", "(I)C"⟩ : MethodName) (head1 (Jvm.Cond.code (⟨"java/lang/String", "charAt", "(I)C"⟩ : MethodName) jdk_42_method_56_code 2 (some .char) :: ws) ({ frames := 4, cells := 0, slots := 0, locals := 53 } : Room)) (fun a U => a = #[(.ref ao0), (.int (Int32.ofNat j))] ∧ Z.Warmed39 U.vm ∧ U.heap = h0) (fun _ _ _ _ _ => True) (fun _ U o U' => ∃ v L, o = .returned v ∧ Q_rm32S Z ao0 xs j x G1 sf h0 n0 v U'.heap L ∧ FrameEnd U o U' L ({ frames := 4, cells := 0, slots := 0, locals := 53 } : Room).cells ({ frames := 4, cells := 0, slots := 0, locals := 53 } : Room).slots) := by
  obtain ⟨dd, kd, E_ao0, F_ao0_value, hxs, H⟩ := S_ao0
  rcases H with ⟨F_ao0_coder, hlat, V_dd⟩ | ⟨F_ao0_coder, V_dd⟩
  · exact rm32L l Z a0 hw ws ao0 dd kd _ _ (Int32.ofNat j) _ x G1 sf h0 n0 Z0 E_ao0 F_ao0_coder F_ao0_value V_dd ⟨own_onn _ (by omega), (own_olt (by omega) (by omega)).mpr hj1⟩ (by rw [own_onc j (by omega)]; exact own_latD hj2 _) (own_latc (hxs _ (own_mem hj2)) (hlat _ (own_mem hj2))) (own_nc (hxs _ (own_mem hj2))) Od hst
  · exact rm32U l Z a0 hw ws ao0 dd kd _ _ _ (Int32.ofNat j) _ _ x G1 sf h0 n0 Z0 E_ao0 F_ao0_coder F_ao0_value V_dd (own_oshr _ (by omega)) ⟨own_onn _ (by omega), (own_olt (by omega) (by omega)).mpr hj1⟩ (own_gc hlen hj1 hj2).1 (own_gc hlen hj1 hj2).2.1 (own_gc hlen hj1 hj2).2.2.1 (own_gc hlen hj1 hj2).2.2.2 (own_utfc (hxs _ (own_mem hj2))) (own_nc (hxs _ (own_mem hj2))) Od hst
theorem own_n0 : nar .byte (0 : Int32) = 0 := by decide
theorem own_n1 : nar .byte (1 : Int32) = 1 := by decide
theorem own_cf0 : ∀ k, k ≤ 6 → nar .byte ((((Int32.ofNat k - Int32.ofNat k).toUInt32 >>> ((31 : Int32) &&& 31).toUInt32).toInt32).toInt8.toInt32) = (0 : Int32) := by decide
theorem own_cf1 : ∀ k, k ≤ 6 → 1 ≤ k → nar .byte ((((Int32.ofNat k - Int32.ofNat (2 * k)).toUInt32 >>> ((31 : Int32) &&& 31).toUInt32).toInt32).toInt8.toInt32) = (1 : Int32) := by decide
theorem own_chD {xs : List Int32} {j : Nat} {x : Int32} (h : xs[j]? = some x) (d : Value) : (xs.map Value.int).getD j d = .int x := by
  simp [List.getD_eq_getElem?_getD, h]
theorem own_len1 (ps : List Int32) (x : Int32) : (ps ++ [x]).length = ps.length + 1 := by simp
theorem own_latL (ps : List Int32) : (own_lat ps).length = ps.length := by simp [own_lat]
theorem own_lset (ps : List Int32) (x : Int32) (r : List Int32) : (own_lat ps ++ List.replicate (x :: r).length (Value.int (0 : Int32))).set ps.length (Value.int (nar .byte (x.toInt8.toInt32))) = own_lat (ps ++ [x]) ++ List.replicate r.length (Value.int (0 : Int32)) := by
  rw [List.set_append_right _ _ (by rw [own_latL]; exact Nat.le_refl _), own_latL, Nat.sub_self]
  simp [own_lat, List.replicate_succ]
theorem own_utfA : ∀ (ps : List Int32) (x : Int32), own_utf (ps ++ [x]) = own_utf ps ++ [.int (nar .byte ((x >>> ((0 : Int32) &&& 31)).toInt8.toInt32)), .int (nar .byte ((x >>> ((8 : Int32) &&& 31)).toInt8.toInt32))]
  | [], x => rfl
  | y :: r, x => by
    show _ :: _ :: own_utf (r ++ [x]) = _
    rw [own_utfA r x]; rfl
theorem own_uset (ps : List Int32) (x : Int32) (r : List Int32) : ((own_utf ps ++ List.replicate (2 * (x :: r).length) (Value.int (0 : Int32))).set (2 * ps.length) (Value.int (nar .byte ((x >>> ((0 : Int32) &&& 31)).toInt8.toInt32)))).set (2 * ps.length + 1) (Value.int (nar .byte ((x >>> ((8 : Int32) &&& 31)).toInt8.toInt32))) = own_utf (ps ++ [x]) ++ List.replicate (2 * r.length) (Value.int (0 : Int32)) := by
  rw [show 2 * (x :: r).length = 2 * r.length + 1 + 1 from by simp; omega, List.replicate_succ, List.replicate_succ]
  rw [List.set_append_right _ _ (by rw [own_utfL]; exact Nat.le_refl _), own_utfL, Nat.sub_self, List.set_cons_zero, List.set_append_right _ _ (by rw [own_utfL]; omega), own_utfL, Nat.add_sub_cancel_left, List.set_cons_succ, List.set_cons_zero, own_utfA]
  simp
theorem d17_3 : decode jdk_52_method_21_code 3 = .ok (.iload 5, 2) := by decide +kernel
theorem d17_5 : decode jdk_52_method_21_code 5 = .ok (.iload 4, 2) := by decide +kernel
theorem d17_7 : decode jdk_52_method_21_code 7 = .ok (.if_icmp .ge 37, 3) := by decide +kernel
theorem d17_44 : decode jdk_52_method_21_code 44 = .ok (.iload 4, 2) := by decide +kernel
theorem d17_46 : decode jdk_52_method_21_code 46 = .ok (.ireturn, 1) := by decide +kernel
theorem d17_10 : decode jdk_52_method_21_code 10 = .ok (.aload_n 0, 1) := by decide +kernel
theorem d17_11 : decode jdk_52_method_21_code 11 = .ok (.iload_n 1, 1) := by decide +kernel
theorem d17_12 : decode jdk_52_method_21_code 12 = .ok (.caload, 1) := by decide +kernel
theorem d17_13 : decode jdk_52_method_21_code 13 = .ok (.istore 6, 2) := by decide +kernel
theorem d17_15 : decode jdk_52_method_21_code 15 = .ok (.iload 6, 2) := by decide +kernel
theorem d17_17 : decode jdk_52_method_21_code 17 = .ok (.sipush 255, 3) := by decide +kernel
theorem d17_20 : decode jdk_52_method_21_code 20 = .ok (.if_icmp .le 6, 3) := by decide +kernel
theorem d17_23 : decode jdk_52_method_21_code 23 = .ok (.iload 5, 2) := by decide +kernel
theorem d17_25 : decode jdk_52_method_21_code 25 = .ok (.ireturn, 1) := by decide +kernel
theorem d17_26 : decode jdk_52_method_21_code 26 = .ok (.aload_n 2, 1) := by decide +kernel
theorem d17_27 : decode jdk_52_method_21_code 27 = .ok (.iload_n 3, 1) := by decide +kernel
theorem d17_28 : decode jdk_52_method_21_code 28 = .ok (.iload 6, 2) := by decide +kernel
theorem d17_30 : decode jdk_52_method_21_code 30 = .ok (.i2b, 1) := by decide +kernel
theorem d17_31 : decode jdk_52_method_21_code 31 = .ok (.bastore, 1) := by decide +kernel
theorem d17_32 : decode jdk_52_method_21_code 32 = .ok (.iinc 1 1, 3) := by decide +kernel
theorem d17_35 : decode jdk_52_method_21_code 35 = .ok (.iinc 3 1, 3) := by decide +kernel
theorem d17_38 : decode jdk_52_method_21_code 38 = .ok (.iinc 5 1, 3) := by decide +kernel
theorem d17_41 : decode jdk_52_method_21_code 41 = .ok (.goto (-38), 3) := by decide +kernel
set_option maxRecDepth 65536 in
set_option maxHeartbeats 40000000 in
theorem seg17 {p : Program} {l : Launch} {e : Env} {s : State} {m : MethodId} {args : Array Value} {below : List Frame} {meth : Method} {c : Code} {Z : State} {a0 : Array Value} (hx : p.tables.exec = Jvm.exec) (hlk : meth.locks = false) (hret : meth.sig.returnType = some .int) (hZ : Z.Warmed39 s.vm) (hw : ∀ d ∈ tables_1, d.before a0 Z = true) (hby : c.code = jdk_52_method_21_code) (hml : c.maxLocals = 7) (hown : s.vm.findClass "java/lang/StringUTF16" = some m.cls) (hnm : meth.name = "compress") (ao0 ao2 : Addr) (kx ky : ClassId) (xs : List Int32) (n0 : Nat) (hlen : xs.length ≤ 6) (ne_ao0_ao2 : ao0 ≠ ao2) (g_ao2 : n0 ≤ ao2) : ∀ (ys : List Int32) (ps : List Int32) (sl : Slot) (h0 : Heap) (s₁ : State) (LL : List Loc) (_ : Stand p l e ({ frames := 0, cells := 0, slots := 0, locals := 0 } : Room) s m args below meth c s₁ LL 0 0) (_ : s₁.heap = h0) (_ : Fr n0 LL) (_ : n0 ≤ h0.size) (_ : Arv Z h0 ao0 kx .char (Int32.ofNat xs.length) (xs.map Value.int) (.int (0 : Int32))) (_ : Arv Z h0 ao2 ky .byte (Int32.ofNat xs.length) (own_lat ps ++ List.replicate ys.length (.int (0 : Int32))) (.int (0 : Int32))) (_ : xs = ps ++ ys) (_ : sl = .unset ∨ ∃ z, sl = .val (.int z)),
    own_End p e below s (fun v h L => ∃ rr : Int32, v = some (.int rr) ∧ Fr n0 L ∧ Keep h0 h [ao2] ∧ ((rr = Int32.ofNat xs.length ∧ (∀ x ∈ ys, ¬ (255 : Int32) < x) ∧ Arv Z h ao2 ky .byte (Int32.ofNat xs.length) (own_lat xs) (.int (0 : Int32))) ∨ (∃ (j : Nat) (x : Int32), rr = Int32.ofNat j ∧ j < xs.length ∧ xs[j]? = some x ∧ (255 : Int32) < x))) ({ frames := 0, cells := 0, slots := 0, locals := 0 } : Room).cells ({ frames := 0, cells := 0, slots := 0, locals := 0 } : Room).slots (s₁.setTop (mkF m 3 #[.val (.ref ao0), .val (.int (Int32.ofNat ps.length)), .val (.ref ao2), .val (.int (Int32.ofNat ps.length)), .val (.int (Int32.ofNat xs.length)), .val (.int (Int32.ofNat ps.length)), sl] [])) := by
  intro ys
  induction ys with
  | nil =>
    intro ps sl h0 s₁ LL X0 e0 Nf Zs V_ao0 V_ao2 hps hsl
    have Kp : Keep h0 h0 [ao2] := Keep.refl _ _
    have hps' : xs = ps := by rw [hps]; simp
    have hbr : ¬ Int32.ofNat ps.length < Int32.ofNat xs.length := by rw [hps']; exact Int32.lt_irrefl
    refine own_go (x' := s₁.setTop (mkF m 46 #[.val (.ref ao0), .val (.int (Int32.ofNat ps.length)), .val (.ref ao2), .val (.int (Int32.ofNat ps.length)), .val (.int (Int32.ofNat xs.length)), .val (.int (Int32.ofNat ps.length)), sl] [(.int (Int32.ofNat xs.length))])) (fun _ k => XS.iload X0.here hx rfl (hb hby d17_3) rfl (XS.iload X0.here hx rfl (hb hby d17_5) rfl (XS.icmpYes X0.here hx rfl (pc0 := 7) (pc' := 44) rfl (hb hby d17_7) rfl (flt hbr).2.1 (by decide) (by decide) (XS.iload X0.here hx rfl (hb hby d17_44) rfl k)))) ?_
    refine own_retI X0 hx hlk hret (hb hby d17_46) ?_ (by decide) (by decide)
    rw [e0]
    exact ⟨_, rfl, Nf, Kp, Or.inl ⟨rfl, fun z hz => absurd hz (by simp), by have q := V_ao2; rw [show own_lat ps ++ List.replicate ([] : List Int32).length (Value.int (0 : Int32)) = own_lat xs from by rw [hps']; simp] at q; exact q⟩⟩
  | cons x r ih =>
    intro ps sl h0 s₁ LL X0 e0 Nf Zs V_ao0 V_ao2 hps hsl
    have Kp : Keep h0 h0 [ao2] := Keep.refl _ _
    have hj1 : ps.length < xs.length := by rw [hps]; simp
    have hj2 : xs[ps.length]? = some x := by rw [hps]; simp
    have hbr : Int32.ofNat ps.length < Int32.ofNat xs.length := (own_olt (by omega) (by omega)).mpr hj1
    refine own_go (x' := s₁.setTop (mkF m 12 #[.val (.ref ao0), .val (.int (Int32.ofNat ps.length)), .val (.ref ao2), .val (.int (Int32.ofNat ps.length)), .val (.int (Int32.ofNat xs.length)), .val (.int (Int32.ofNat ps.length)), sl] [(.int (Int32.ofNat ps.length)), (.ref ao0)])) (fun _ k => XS.iload X0.here hx rfl (hb hby d17_3) rfl (XS.iload X0.here hx rfl (hb hby d17_5) rfl (XS.icmpNo X0.here hx rfl (hb hby d17_7) rfl (tlt hbr).2.1 (XS.aloadN X0.here hx rfl (hb hby d17_10) rfl rfl (XS.iloadN X0.here hx rfl (hb hby d17_11) rfl k))))) ?_
    obtain ⟨cl1, Ar1, q1, Sz1, Nn1, Hh1, Gg1⟩ := id V_ao0
    have hin1 : ¬ ((Int32.ofNat ps.length) < 0 ∨ cl1.slots.size ≤ ((Int32.ofNat ps.length)).toNatClampNeg) := inb_of Sz1 ⟨own_onn _ (by omega), hbr⟩
    refine own_go (x' := s₁.setTop (mkF m 13 #[.val (.ref ao0), .val (.int (Int32.ofNat ps.length)), .val (.ref ao2), .val (.int (Int32.ofNat ps.length)), .val (.int (Int32.ofNat xs.length)), .val (.int (Int32.ofNat ps.length)), sl] [(.int x)])) (X0.caload hx (j := (Int32.ofNat ps.length)) (v := (.int x)) (Eq.trans (congrArg (fun h_ => h_[_]?) e0) Ar1.1) (State.isArrayOf_alike hZ.alike Ar1.2.1) Ar1.2.2 hin1 (Hh1.at hin1 (by rw [own_onc ps.length (by omega)]; exact own_chD hj2 _)) (g := (mkF m 12 #[.val (.ref ao0), .val (.int (Int32.ofNat ps.length)), .val (.ref ao2), .val (.int (Int32.ofNat ps.length)), .val (.int (Int32.ofNat xs.length)), .val (.int (Int32.ofNat ps.length)), sl] [(.int (Int32.ofNat ps.length)), (.ref ao0)])) rfl rfl (hb hby d17_12)) ?_
    refine own_go (x' := s₁.setTop (mkF m 15 #[.val (.ref ao0), .val (.int (Int32.ofNat ps.length)), .val (.ref ao2), .val (.int (Int32.ofNat ps.length)), .val (.int (Int32.ofNat xs.length)), .val (.int (Int32.ofNat ps.length)), .val (.int x)] [])) (fun t k => by rcases hsl with rfl | ⟨z0, rfl⟩ <;> exact XS.istore X0.here hx rfl (hb hby d17_13) rfl (l' := #[.val (.ref ao0), .val (.int (Int32.ofNat ps.length)), .val (.ref ao2), .val (.int (Int32.ofNat ps.length)), .val (.int (Int32.ofNat xs.length)), .val (.int (Int32.ofNat ps.length)), .val (.int x)]) rfl k) ?_
    refine own_go (x' := s₁.setTop (mkF m 20 #[.val (.ref ao0), .val (.int (Int32.ofNat ps.length)), .val (.ref ao2), .val (.int (Int32.ofNat ps.length)), .val (.int (Int32.ofNat xs.length)), .val (.int (Int32.ofNat ps.length)), .val (.int x)] [(.int 255), (.int x)])) (fun _ k => XS.iload X0.here hx rfl (hb hby d17_15) rfl (XS.sipush X0.here hx rfl (hb hby d17_17) k)) ?_
    by_cases hc20 : (255 : Int32) < x
    · refine own_go (x' := s₁.setTop (mkF m 25 #[.val (.ref ao0), .val (.int (Int32.ofNat ps.length)), .val (.ref ao2), .val (.int (Int32.ofNat ps.length)), .val (.int (Int32.ofNat xs.length)), .val (.int (Int32.ofNat ps.length)), .val (.int x)] [(.int (Int32.ofNat ps.length))])) (fun _ k => XS.icmpNo X0.here hx rfl (hb hby d17_20) rfl (tlt hc20).2.2.2 (XS.iload X0.here hx rfl (hb hby d17_23) rfl k)) ?_
      refine own_retI X0 hx hlk hret (hb hby d17_25) ?_ (by decide) (by decide)
      rw [e0]
      exact ⟨_, rfl, Nf, Kp, Or.inr ⟨ps.length, x, rfl, hj1, hj2, hc20⟩⟩
    · refine own_go (x' := s₁.setTop (mkF m 31 #[.val (.ref ao0), .val (.int (Int32.ofNat ps.length)), .val (.ref ao2), .val (.int (Int32.ofNat ps.length)), .val (.int (Int32.ofNat xs.length)), .val (.int (Int32.ofNat ps.length)), .val (.int x)] [(.int (x.toInt8.toInt32)), (.int (Int32.ofNat ps.length)), (.ref ao2)])) (fun _ k => XS.icmpYes X0.here hx rfl (pc0 := 20) (pc' := 26) rfl (hb hby d17_20) rfl (flt hc20).2.2.2 (by decide) (by decide) (XS.aloadN X0.here hx rfl (hb hby d17_26) rfl rfl (XS.iloadN X0.here hx rfl (hb hby d17_27) rfl (XS.iload X0.here hx rfl (hb hby d17_28) rfl (XS.i2b X0.here hx rfl (hb hby d17_30) rfl k))))) ?_
      obtain ⟨cl2, Ar2, q2, Sz2, Nn2, Hh2, Gg2⟩ := V_ao2
      have hin2 : ¬ ((Int32.ofNat ps.length) < 0 ∨ cl2.slots.size ≤ ((Int32.ofNat ps.length)).toNatClampNeg) := inb_of Sz2 ⟨own_onn _ (by omega), hbr⟩
      obtain ⟨T2, h2, X2, e2, W2, st2⟩ := stB X0 hx hZ e0 Ar2 (j := (Int32.ofNat ps.length)) hin2 (g := (mkF m 31 #[.val (.ref ao0), .val (.int (Int32.ofNat ps.length)), .val (.ref ao2), .val (.int (Int32.ofNat ps.length)), .val (.int (Int32.ofNat xs.length)), .val (.int (Int32.ofNat ps.length)), .val (.int x)] [(.int (x.toInt8.toInt32)), (.int (Int32.ofNat ps.length)), (.ref ao2)])) rfl rfl (hb hby d17_31)
      refine own_go (x' := T2.setTop (mkF m 32 #[.val (.ref ao0), .val (.int (Int32.ofNat ps.length)), .val (.ref ao2), .val (.int (Int32.ofNat ps.length)), .val (.int (Int32.ofNat xs.length)), .val (.int (Int32.ofNat ps.length)), .val (.int x)] [])) st2 ?_
      replace V_ao0 := V_ao0.other W2 ne_ao0_ao2
      replace Zs := Nat.le_trans Zs (Keep.of_wr W2).1
      replace Nf := Fr.snoc X2 Nf g_ao2
      replace Kp := Kp.wr W2 (Or.inl (by simp))
      have V_ao2 : Arv Z h2 ao2 ky .byte (Int32.ofNat xs.length) ((own_lat ps ++ List.replicate (x :: r).length (Value.int (0 : Int32))).set ps.length (Value.int (nar .byte (x.toInt8.toInt32)))) (.int (0 : Int32)) := Arv.set Ar2 q2 Sz2 Nn2 Hh2 Gg2 (fits_nar_byte _) W2 ps.length (own_onc ps.length (by omega)) (by simp [own_latL])
      rw [own_lset] at V_ao2
      refine own_go (x' := T2.setTop (mkF m 3 #[.val (.ref ao0), .val (.int ((Int32.ofNat ps.length) + (1 : Int32))), .val (.ref ao2), .val (.int ((Int32.ofNat ps.length) + (1 : Int32))), .val (.int (Int32.ofNat xs.length)), .val (.int ((Int32.ofNat ps.length) + (1 : Int32))), .val (.int x)] [])) (fun _ k => XS.iinc X2.here hx rfl (hb hby d17_32) rfl (l' := #[.val (.ref ao0), .val (.int ((Int32.ofNat ps.length) + (1 : Int32))), .val (.ref ao2), .val (.int (Int32.ofNat ps.length)), .val (.int (Int32.ofNat xs.length)), .val (.int (Int32.ofNat ps.length)), .val (.int x)]) rfl (XS.iinc X2.here hx rfl (hb hby d17_35) rfl (l' := #[.val (.ref ao0), .val (.int ((Int32.ofNat ps.length) + (1 : Int32))), .val (.ref ao2), .val (.int ((Int32.ofNat ps.length) + (1 : Int32))), .val (.int (Int32.ofNat xs.length)), .val (.int (Int32.ofNat ps.length)), .val (.int x)]) rfl (XS.iinc X2.here hx rfl (hb hby d17_38) rfl (l' := #[.val (.ref ao0), .val (.int ((Int32.ofNat ps.length) + (1 : Int32))), .val (.ref ao2), .val (.int ((Int32.ofNat ps.length) + (1 : Int32))), .val (.int (Int32.ofNat xs.length)), .val (.int ((Int32.ofNat ps.length) + (1 : Int32))), .val (.int x)]) rfl (XS.goto X2.here hx rfl (pc0 := 41) (pc' := 3) rfl (hb hby d17_41) (by decide) (by decide) k)))) ?_
      rw [own_oinc ps.length (by omega), ← own_len1 ps x]
      refine own_mono (fun v h L q => ?_) (ih (ps ++ [x]) _ h2 _ _ X2 e2 Nf Zs V_ao0 V_ao2 (by rw [hps]; simp) (Or.inr ⟨x, rfl⟩))
      obtain ⟨rr, q1, q2, q3, q4⟩ := q
      exact ⟨rr, q1, q2, Kp.trans q3 (allS (Or.inl (by simp)) all0), q4.imp (fun u => ⟨u.1, fun z hz => (List.mem_cons.mp hz).elim (fun e_ => e_ ▸ hc20) (u.2.1 z), u.2.2⟩) id⟩
theorem d17_0 : decode jdk_52_method_21_code 0 = .ok (.iconst 0, 1) := by decide +kernel
theorem d17_1 : decode jdk_52_method_21_code 1 = .ok (.istore 5, 2) := by decide +kernel
def Q_rm17 (Z : State) (ao0 ao2 : Addr) (kx ky : ClassId) (xs : List Int32) (h0 : Heap) (n0 : Nat) (v : Option Value) (h : Heap) (L : List Loc) : Prop := ∃ rr : Int32, v = some (.int rr) ∧ Fr n0 L ∧ Keep h0 h [ao2] ∧ ((rr = Int32.ofNat xs.length ∧ (∀ x ∈ xs, ¬ (255 : Int32) < x) ∧ Arv Z h ao2 ky .byte (Int32.ofNat xs.length) (own_lat xs) (.int (0 : Int32))) ∨ (∃ (j : Nat) (x : Int32), rr = Int32.ofNat j ∧ j < xs.length ∧ xs[j]? = some x ∧ (255 : Int32) < x))
theorem pn_rm17 : plainName "java/lang/StringUTF16" = true := by first | (simp [plainName, overriddenIn]; done) | decide +kernel
theorem ef_rm17 (m : MethodId) (x0 : Addr) (x1 : Int32) (x2 : Addr) (x3 : Int32) (x4 : Int32) : entryFrame m #[(.ref x0), (.int x1), (.ref x2), (.int x3), (.int x4)] 7 = mkF m 0 #[.val (.ref x0), .val (.int x1), .val (.ref x2), .val (.int x3), .val (.int x4), .unset, .unset] [] := by first | (simp [entryFrame, mkF, argsToLocals, Value.category]; done) | rfl
set_option maxRecDepth 65536 in
set_option maxHeartbeats 40000000 in
theorem rm17 (l : Launch) (Z : State) (a0 : Array Value) (hw : ∀ d ∈ tables_1, d.before a0 Z = true) (ws : List Jvm.Cond) (ao0 ao2 : Addr) (kx ky : ClassId) (xs : List Int32) (h0 : Heap) (n0 : Nat) (Z0 : n0 ≤ h0.size) (V_ao0 : Arv Z h0 ao0 kx .char (Int32.ofNat xs.length) (xs.map Value.int) (.int (0 : Int32))) (V_ao2 : Arv Z h0 ao2 ky .byte (Int32.ofNat xs.length) (List.replicate xs.length (.int (0 : Int32))) (.int (0 : Int32))) (hlen : xs.length ≤ 6) (ne_ao0_ao2 : ao0 ≠ ao2) (g_ao2 : n0 ≤ ao2) :
    MetFree l (⟨"java/lang/StringUTF16", "compress", "([CI[BII)I"⟩ : MethodName) (head1 (Jvm.Cond.code (⟨"java/lang/StringUTF16", "compress", "([CI[BII)I"⟩ : MethodName) jdk_52_method_21_code 7 (some .int) :: ws) ({ frames := 0, cells := 0, slots := 0, locals := 0 } : Room)) (fun a U => a = #[(.ref ao0), (.int 0), (.ref ao2), (.int 0), (.int (Int32.ofNat xs.length))] ∧ Z.Warmed39 U.vm ∧ U.heap = h0) (fun _ _ _ _ _ => True) (fun _ U o U' => ∃ v L, o = .returned v ∧ (Q_rm17 Z ao0 ao2 kx ky xs h0 n0) v U'.heap L ∧ FrameEnd U o U' L ({ frames := 0, cells := 0, slots := 0, locals := 0 } : Room).cells ({ frames := 0, cells := 0, slots := 0, locals := 0 } : Room).slots) := by
  refine MetFree.of_bodySF (plainFor_of_name pn_rm17) hisR ?_
  intro p e s m args below meth c s₁ Bd hml0 hP hK
  obtain ⟨rfl, hZ, hh⟩ := hP
  have hx := Bd.exec
  have hby := Bd.bytes
  have hlk := BodyLoose.notSynchronized Bd
  have hret := Bd.returns
  have hml : c.maxLocals = 7 := hml0
  have hown : s.vm.findClass "java/lang/StringUTF16" = some m.cls := findClass_of_methodNamed Bd.named
  have hnm := (name_of_methodNamed Bd.named Bd.method).1
  have X0 : Stand p l e ({ frames := 0, cells := 0, slots := 0, locals := 0 } : Room) s m #[(.ref ao0), (.int 0), (.ref ao2), (.int 0), (.int (Int32.ofNat xs.length))] below meth c s₁ [] 0 0 := Stand.of_body Bd
  have e0 : s₁.heap = h0 := by rw [← hh, Bd.state]; rfl
  have Nf := Fr.nil n0
  have Zs := Z0
  have Kp : Keep h0 h0 [ao2] := Keep.refl _ _
  show own_End p e below s (Q_rm17 Z ao0 ao2 kx ky xs h0 n0) ({ frames := 0, cells := 0, slots := 0, locals := 0 } : Room).cells ({ frames := 0, cells := 0, slots := 0, locals := 0 } : Room).slots (s₁.setTop (entryFrame m #[(.ref ao0), (.int 0), (.ref ao2), (.int 0), (.int (Int32.ofNat xs.length))] 7))
  refine own_go (x' := s₁.setTop (mkF m 0 #[.val (.ref ao0), .val (.int 0), .val (.ref ao2), .val (.int 0), .val (.int (Int32.ofNat xs.length)), .unset, .unset] [])) (fun t k => castTop (ef_rm17 m ao0 (0 : Int32) ao2 (0 : Int32) (Int32.ofNat xs.length)) k) ?_
  refine own_go (x' := s₁.setTop (mkF m 3 #[.val (.ref ao0), .val (.int 0), .val (.ref ao2), .val (.int 0), .val (.int (Int32.ofNat xs.length)), .val (.int 0), .unset] [])) (fun _ k => XS.iconst X0.here hx rfl (hb hby d17_0) (XS.istore X0.here hx rfl (hb hby d17_1) rfl (l' := #[.val (.ref ao0), .val (.int 0), .val (.ref ao2), .val (.int 0), .val (.int (Int32.ofNat xs.length)), .val (.int 0), .unset]) rfl k)) ?_
  exact seg17 hx hlk hret hZ hw hby hml hown hnm ao0 ao2 kx ky xs n0 hlen ne_ao0_ao2 g_ao2 xs [] .unset h0 _ _ X0 e0 Nf Zs V_ao0 V_ao2 rfl (Or.inl rfl)
theorem d22_0 : decode jdk_52_method_3_code 0 = .ok (.iload_n 0, 1) := by decide +kernel
theorem d22_1 : decode jdk_52_method_3_code 1 = .ok (.ifCond .ge 11, 3) := by decide +kernel
theorem d22_12 : decode jdk_52_method_3_code 12 = .ok (.iload_n 0, 1) := by decide +kernel
theorem d22_13 : decode jdk_52_method_3_code 13 = .ok (.ldc 20, 2) := by decide +kernel
theorem d22_15 : decode jdk_52_method_3_code 15 = .ok (.if_icmp .lt 40, 3) := by decide +kernel
theorem d22_55 : decode jdk_52_method_3_code 55 = .ok (.iload_n 0, 1) := by decide +kernel
theorem d22_56 : decode jdk_52_method_3_code 56 = .ok (.iconst 1, 1) := by decide +kernel
theorem d22_57 : decode jdk_52_method_3_code 57 = .ok (.ishl, 1) := by decide +kernel
theorem d22_58 : decode jdk_52_method_3_code 58 = .ok (.ireturn, 1) := by decide +kernel
def Q_rm22 (Z : State) (p0 mm : Int32) (h0 : Heap) (n0 : Nat) (v : Option Value) (h : Heap) (L : List Loc) : Prop := v = some (.int mm) ∧ Fr n0 L ∧ h = h0
theorem pn_rm22 : plainName "java/lang/StringUTF16" = true := by first | (simp [plainName, overriddenIn]; done) | decide +kernel
theorem ef_rm22 (m : MethodId) (x0 : Int32) : entryFrame m #[(.int x0)] 1 = mkF m 0 #[.val (.int x0)] [] := by first | (simp [entryFrame, mkF, argsToLocals, Value.category]; done) | rfl
set_option maxRecDepth 65536 in
set_option maxHeartbeats 40000000 in
theorem rm22 (l : Launch) (Z : State) (a0 : Array Value) (hw : ∀ d ∈ tables_1, d.before a0 Z = true) (ws : List Jvm.Cond) (p0 mm : Int32) (h0 : Heap) (n0 : Nat) (Z0 : n0 ≤ h0.size) (ha : ¬ p0 < 0) (hb_ : p0 < (1073741823 : Int32)) (hq : (p0 <<< ((1 : Int32) &&& 31)) = mm) :
    MetFree l (⟨"java/lang/StringUTF16", "newBytesLength", "(I)I"⟩ : MethodName) (head1 (Jvm.Cond.code (⟨"java/lang/StringUTF16", "newBytesLength", "(I)I"⟩ : MethodName) jdk_52_method_3_code 1 (some .int) :: ws) ({ frames := 0, cells := 0, slots := 0, locals := 0 } : Room)) (fun a U => a = #[(.int p0)] ∧ Z.Warmed39 U.vm ∧ U.heap = h0) (fun _ _ _ _ _ => True) (fun _ U o U' => ∃ v L, o = .returned v ∧ (Q_rm22 Z p0 mm h0 n0) v U'.heap L ∧ FrameEnd U o U' L ({ frames := 0, cells := 0, slots := 0, locals := 0 } : Room).cells ({ frames := 0, cells := 0, slots := 0, locals := 0 } : Room).slots) := by
  refine MetFree.of_bodySF (plainFor_of_name pn_rm22) hisR ?_
  intro p e s m args below meth c s₁ Bd hml0 hP hK
  obtain ⟨rfl, hZ, hh⟩ := hP
  have hx := Bd.exec
  have hby := Bd.bytes
  have hlk := BodyLoose.notSynchronized Bd
  have hret := Bd.returns
  have hml : c.maxLocals = 1 := hml0
  have hown : s.vm.findClass "java/lang/StringUTF16" = some m.cls := findClass_of_methodNamed Bd.named
  have hnm := (name_of_methodNamed Bd.named Bd.method).1
  have X0 : Stand p l e ({ frames := 0, cells := 0, slots := 0, locals := 0 } : Room) s m #[(.int p0)] below meth c s₁ [] 0 0 := Stand.of_body Bd
  have e0 : s₁.heap = h0 := by rw [← hh, Bd.state]; rfl
  have Nf := Fr.nil n0
  have Zs := Z0
  have Kp : Keep h0 h0 [] := Keep.refl _ _
  show own_End p e below s (Q_rm22 Z p0 mm h0 n0) ({ frames := 0, cells := 0, slots := 0, locals := 0 } : Room).cells ({ frames := 0, cells := 0, slots := 0, locals := 0 } : Room).slots (s₁.setTop (entryFrame m #[(.int p0)] 1))
  refine own_go (x' := s₁.setTop (mkF m 0 #[.val (.int p0)] [])) (fun t k => castTop (ef_rm22 m p0) k) ?_
  refine own_go (x' := s₁.setTop (mkF m 13 #[.val (.int p0)] [(.int p0)])) (fun _ k => XS.iloadN X0.here hx rfl (hb hby d22_0) rfl (XS.ifYes X0.here hx rfl (pc0 := 1) (pc' := 12) rfl (hb hby d22_1) rfl ((if0 _ _).trans (flt ha).2.1) (by decide) (by decide) (XS.iloadN X0.here hx rfl (hb hby d22_12) rfl k))) ?_
  refine own_go (x' := s₁.setTop (mkF m 15 #[.val (.int p0)] [(.int 1073741823), (.int p0)])) (fun t k => X0.ldcInt hx hown (mvT hZ (own_w hw 97 rfl)) (g := (mkF m 13 #[.val (.int p0)] [(.int p0)])) rfl (hb hby d22_13) t k) ?_
  refine own_go (x' := s₁.setTop (mkF m 58 #[.val (.int p0)] [(.int (p0 <<< ((1 : Int32) &&& 31)))])) (fun _ k => XS.icmpYes X0.here hx rfl (pc0 := 15) (pc' := 55) rfl (hb hby d22_15) rfl (tlt hb_).1 (by decide) (by decide) (XS.iloadN X0.here hx rfl (hb hby d22_55) rfl (XS.iconst X0.here hx rfl (hb hby d22_56) (XS.ishl X0.here hx rfl (hb hby d22_57) rfl k)))) ?_
  refine own_retI X0 hx hlk hret (hb hby d22_58) ?_ (by decide) (by decide)
  rw [e0]
  exact ⟨by rw [hq], Nf, rfl⟩
theorem own_obig : ∀ k, k ≤ 20 → Int32.ofNat k < (1073741823 : Int32) := by decide
theorem pd_14 : parseMethodDescriptor "(I)I" = some ⟨[.int], some .int⟩ := by decide +kernel
theorem d21_0 : decode jdk_52_method_2_code 0 = .ok (.iload_n 0, 1) := by decide +kernel
theorem d21_1 : decode jdk_52_method_2_code 1 = .ok (.invokestatic 11, 3) := by decide +kernel
theorem d21_4 : decode jdk_52_method_2_code 4 = .ok (.newarray .byte, 2) := by decide +kernel
theorem d21_6 : decode jdk_52_method_2_code 6 = .ok (.areturn, 1) := by decide +kernel
def Q_rm21 (Z : State) (xs : List Int32) (h0 : Heap) (n0 : Nat) (v : Option Value) (h : Heap) (L : List Loc) : Prop := ∃ (b : Addr) (kb : ClassId), v = some (.ref b) ∧ Fr n0 L ∧ Keep h0 h [] ∧ h0.size ≤ b ∧ n0 ≤ b ∧ Arv Z h b kb .byte (Int32.ofNat (2 * xs.length)) (List.replicate (2 * xs.length) (.int (0 : Int32))) (.int (0 : Int32))
theorem pn_rm21 : plainName "java/lang/StringUTF16" = true := by first | (simp [plainName, overriddenIn]; done) | decide +kernel
theorem ef_rm21 (m : MethodId) (x0 : Int32) : entryFrame m #[(.int x0)] 1 = mkF m 0 #[.val (.int x0)] [] := by first | (simp [entryFrame, mkF, argsToLocals, Value.category]; done) | rfl
set_option maxRecDepth 65536 in
set_option maxHeartbeats 40000000 in
theorem rm21 (l : Launch) (Z : State) (a0 : Array Value) (hw : ∀ d ∈ tables_1, d.before a0 Z = true) (ws : List Jvm.Cond) (xs : List Int32) (h0 : Heap) (n0 : Nat) (Z0 : n0 ≤ h0.size) (hlen : xs.length ≤ 6) :
    MetFree l (⟨"java/lang/StringUTF16", "newBytesFor", "(I)[B"⟩ : MethodName) (head1 (Jvm.Cond.code (⟨"java/lang/StringUTF16", "newBytesFor", "(I)[B"⟩ : MethodName) jdk_52_method_2_code 1 (some (.array .byte)) :: ws) ({ frames := 1, cells := 1, slots := 12, locals := 12 } : Room)) (fun a U => a = #[(.int (Int32.ofNat xs.length))] ∧ Z.Warmed39 U.vm ∧ U.heap = h0) (fun _ _ _ _ _ => True) (fun _ U o U' => ∃ v L, o = .returned v ∧ (Q_rm21 Z xs h0 n0) v U'.heap L ∧ FrameEnd U o U' L ({ frames := 1, cells := 1, slots := 12, locals := 12 } : Room).cells ({ frames := 1, cells := 1, slots := 12, locals := 12 } : Room).slots) := by
  refine MetFree.of_bodySF (plainFor_of_name pn_rm21) hisR ?_
  intro p e s m args below meth c s₁ Bd hml0 hP hK
  obtain ⟨rfl, hZ, hh⟩ := hP
  have hx := Bd.exec
  have hby := Bd.bytes
  have hlk := BodyLoose.notSynchronized Bd
  have hret := Bd.returns
  have hml : c.maxLocals = 1 := hml0
  have hown : s.vm.findClass "java/lang/StringUTF16" = some m.cls := findClass_of_methodNamed Bd.named
  have hnm := (name_of_methodNamed Bd.named Bd.method).1
  have X0 : Stand p l e ({ frames := 1, cells := 1, slots := 12, locals := 12 } : Room) s m #[(.int (Int32.ofNat xs.length))] below meth c s₁ [] 0 0 := Stand.of_body Bd
  have e0 : s₁.heap = h0 := by rw [← hh, Bd.state]; rfl
  have Nf := Fr.nil n0
  have Zs := Z0
  have Kp : Keep h0 h0 [] := Keep.refl _ _
  show own_End p e below s (Q_rm21 Z xs h0 n0) ({ frames := 1, cells := 1, slots := 12, locals := 12 } : Room).cells ({ frames := 1, cells := 1, slots := 12, locals := 12 } : Room).slots (s₁.setTop (entryFrame m #[(.int (Int32.ofNat xs.length))] 1))
  refine own_go (x' := s₁.setTop (mkF m 0 #[.val (.int (Int32.ofNat xs.length))] [])) (fun t k => castTop (ef_rm21 m (Int32.ofNat xs.length)) k) ?_
  refine own_go (x' := s₁.setTop (mkF m 1 #[.val (.int (Int32.ofNat xs.length))] [(.int (Int32.ofNat xs.length))])) (fun _ k => XS.iloadN X0.here hx rfl (hb hby d21_0) rfl k) ?_
  obtain ⟨_, _, ⟨T1, L1, k1, n1⟩, -, X1, ⟨Lc1, hQ1, l1, y1, z1⟩, st1⟩ := Jvm.LawKit.callS X0 hx (y := (⟨"java/lang/StringUTF16", "newBytesLength", "(I)I"⟩ : MethodName)) hown (mvT hZ (own_w hw 94 rfl)) (mvT hZ (own_w hw 95 rfl)) (mvT hZ (own_w hw 77 rfl)) (mvT hZ (own_w hw 96 rfl)) (by decide) (backOf (W := 0) (rm22 l Z a0 hw [] (Int32.ofNat xs.length) (Int32.ofNat (2 * xs.length))  h0 n0 Zs (own_ilen hlen) (own_obig _ (by omega)) (own_osh _ (by omega)) ) hZ (own_w hw 96 rfl) (own_w hw 77 rfl) (by decide) (by decide)) (g := (mkF m 1 #[.val (.int (Int32.ofNat xs.length))] [(.int (Int32.ofNat xs.length))])) rfl (by rw [hml]; rfl) (argsL := [(.int (Int32.ofNat xs.length))]) (rest := []) (lenOf pd_14 rfl) rfl (by show 2 * 0 + _ ≤ _; exact Nat.le_of_eq rfl) (hb hby d21_1) (fun _ _ => ⟨rfl, e0, (by decide : 0 + 0 ≤ _), (by decide : 0 + 0 ≤ _)⟩)
  dsimp only [Pt.U, Pt.locs, Pt.cells, Pt.slots] at X1 l1 y1 z1 st1 hQ1
  subst l1 y1 z1
  obtain ⟨hv1, Nq1, eq1⟩ := hQ1
  subst hv1
  replace Nf := Fr.app Nf Nq1
  refine own_go (x' := T1.setTop (mkF m 4 #[.val (.int (Int32.ofNat xs.length))] [(.int (Int32.ofNat (2 * xs.length)))])) st1 ?_
  obtain ⟨T2, h2, k2, X2, e2, E2, A2, st2⟩ := newP X1 hx hZ (own_w hw 20 rfl) eq1 (g := (mkF m 4 #[.val (.int (Int32.ofNat xs.length))] [(.int (Int32.ofNat (2 * xs.length)))])) rfl (hb hby d21_4) rfl (own_onn _ (by omega)) (cap := 12) (by rw [own_onc _ (by omega)]; omega) (by decide) (by decide) (by decide)
  obtain ⟨b2, g2⟩ : ∃ z, z = h0.size := ⟨_, rfl⟩
  rw [← g2] at A2 st2
  have g_b2 : n0 ≤ b2 := Nat.le_trans Zs (Nat.le_of_eq g2.symm)
  have sz_b2 : h0.size ≤ b2 := Nat.le_trans Kp.1 (Nat.le_of_eq g2.symm)
  replace Zs := Nat.le_trans Zs E2.1
  replace Kp := Kp.ext E2
  have V_b2 : Arv Z h2 b2 k2 .byte (Int32.ofNat (2 * xs.length)) [] (.int 0) := Arv.new A2 (own_onn _ (by omega))
  refine own_go (x' := T2.setTop (mkF m 6 #[.val (.int (Int32.ofNat xs.length))] [(.ref b2)])) st2 ?_
  refine own_retR X2 hx hlk hret rfl rfl (hb hby d21_6) ?_ (by decide) (by decide)
  rw [e2]
  exact ⟨b2, k2, rfl, Nf, Kp, sz_b2, g_b2, V_b2.pad (pad_rep [] _ (2 * xs.length))⟩
theorem d23_0 : decode jdk_52_method_4_code 0 = .ok (.getstatic 44, 3) := by decide +kernel
theorem d23_3 : decode jdk_52_method_4_code 3 = .ok (.ifCond .ne 25, 3) := by decide +kernel
theorem d23_28 : decode jdk_52_method_4_code 28 = .ok (.iload_n 1, 1) := by decide +kernel
theorem d23_29 : decode jdk_52_method_4_code 29 = .ok (.iconst 1, 1) := by decide +kernel
theorem d23_30 : decode jdk_52_method_4_code 30 = .ok (.ishl, 1) := by decide +kernel
theorem d23_31 : decode jdk_52_method_4_code 31 = .ok (.istore_n 1, 1) := by decide +kernel
theorem d23_32 : decode jdk_52_method_4_code 32 = .ok (.aload_n 0, 1) := by decide +kernel
theorem d23_33 : decode jdk_52_method_4_code 33 = .ok (.iload_n 1, 1) := by decide +kernel
theorem d23_34 : decode jdk_52_method_4_code 34 = .ok (.iinc 1 1, 3) := by decide +kernel
theorem d23_37 : decode jdk_52_method_4_code 37 = .ok (.iload_n 2, 1) := by decide +kernel
theorem d23_38 : decode jdk_52_method_4_code 38 = .ok (.getstatic 59, 3) := by decide +kernel
theorem d23_41 : decode jdk_52_method_4_code 41 = .ok (.ishr, 1) := by decide +kernel
theorem d23_42 : decode jdk_52_method_4_code 42 = .ok (.i2b, 1) := by decide +kernel
theorem d23_43 : decode jdk_52_method_4_code 43 = .ok (.bastore, 1) := by decide +kernel
theorem d23_44 : decode jdk_52_method_4_code 44 = .ok (.aload_n 0, 1) := by decide +kernel
theorem d23_45 : decode jdk_52_method_4_code 45 = .ok (.iload_n 1, 1) := by decide +kernel
theorem d23_46 : decode jdk_52_method_4_code 46 = .ok (.iload_n 2, 1) := by decide +kernel
theorem d23_47 : decode jdk_52_method_4_code 47 = .ok (.getstatic 63, 3) := by decide +kernel
theorem d23_50 : decode jdk_52_method_4_code 50 = .ok (.ishr, 1) := by decide +kernel
theorem d23_51 : decode jdk_52_method_4_code 51 = .ok (.i2b, 1) := by decide +kernel
theorem d23_52 : decode jdk_52_method_4_code 52 = .ok (.bastore, 1) := by decide +kernel
theorem d23_53 : decode jdk_52_method_4_code 53 = .ok (.return_, 1) := by decide +kernel
def Q_rm23 (Z : State) (ao0 : Addr) (kd : ClassId) (mm : Int32) (vs : List Value) (p1 xc : Int32) (k0 : Nat) (G1 : Int32) (sf : Value) (h0 : Heap) (n0 : Nat) (v : Option Value) (h : Heap) (L : List Loc) : Prop := v = none ∧ Fr n0 L ∧ Keep h0 h [ao0] ∧ Arv Z h ao0 kd .byte mm ((vs.set k0 (.int (nar .byte ((xc >>> ((0 : Int32) &&& 31)).toInt8.toInt32)))).set (k0 + 1) (.int (nar .byte ((xc >>> ((8 : Int32) &&& 31)).toInt8.toInt32)))) (.int (0 : Int32))
theorem pn_rm23 : plainName "java/lang/StringUTF16" = true := by first | (simp [plainName, overriddenIn]; done) | decide +kernel
theorem ef_rm23 (m : MethodId) (x0 : Addr) (x1 : Int32) (x2 : Int32) : entryFrame m #[(.ref x0), (.int x1), (.int x2)] 3 = mkF m 0 #[.val (.ref x0), .val (.int x1), .val (.int x2)] [] := by first | (simp [entryFrame, mkF, argsToLocals, Value.category]; done) | rfl
set_option maxRecDepth 65536 in
set_option maxHeartbeats 40000000 in
theorem rm23 (l : Launch) (Z : State) (a0 : Array Value) (hw : ∀ d ∈ tables_1, d.before a0 Z = true) (ws : List Jvm.Cond) (ao0 : Addr) (kd : ClassId) (mm : Int32) (vs : List Value) (p1 xc : Int32) (k0 : Nat) (G1 : Int32) (sf : Value) (h0 : Heap) (n0 : Nat) (Z0 : n0 ≤ h0.size) (V_ao0 : Arv Z h0 ao0 kd .byte mm vs (.int (0 : Int32))) (i0 : ¬ (p1 <<< ((1 : Int32) &&& 31)) < 0 ∧ (p1 <<< ((1 : Int32) &&& 31)) < mm) (i1 : ¬ ((p1 <<< ((1 : Int32) &&& 31)) + (1 : Int32)) < 0 ∧ ((p1 <<< ((1 : Int32) &&& 31)) + (1 : Int32)) < mm) (ck0 : (p1 <<< ((1 : Int32) &&& 31)).toNatClampNeg = k0) (ck1 : ((p1 <<< ((1 : Int32) &&& 31)) + (1 : Int32)).toNatClampNeg = k0 + 1) (lk : k0 + 1 < vs.length) (g_ao0 : n0 ≤ ao0) (Od : Old Z n0 h0) (hst : own_St Z G1 sf) :
    MetFree l (⟨"java/lang/StringUTF16", "putChar", "([BII)V"⟩ : MethodName) (head1 (Jvm.Cond.code (⟨"java/lang/StringUTF16", "putChar", "([BII)V"⟩ : MethodName) jdk_52_method_4_code 3 none :: ws) ({ frames := 0, cells := 0, slots := 0, locals := 0 } : Room)) (fun a U => a = #[(.ref ao0), (.int p1), (.int xc)] ∧ Z.Warmed39 U.vm ∧ U.heap = h0) (fun _ _ _ _ _ => True) (fun _ U o U' => ∃ v L, o = .returned v ∧ (Q_rm23 Z ao0 kd mm vs p1 xc k0 G1 sf h0 n0) v U'.heap L ∧ FrameEnd U o U' L ({ frames := 0, cells := 0, slots := 0, locals := 0 } : Room).cells ({ frames := 0, cells := 0, slots := 0, locals := 0 } : Room).slots) := by
  refine MetFree.of_bodySF (plainFor_of_name pn_rm23) hisR ?_
  intro p e s m args below meth c s₁ Bd hml0 hP hK
  obtain ⟨rfl, hZ, hh⟩ := hP
  have hx := Bd.exec
  have hby := Bd.bytes
  have hlk := BodyLoose.notSynchronized Bd
  have hret := Bd.returns
  have hml : c.maxLocals = 3 := hml0
  have hown : s.vm.findClass "java/lang/StringUTF16" = some m.cls := findClass_of_methodNamed Bd.named
  have hnm := (name_of_methodNamed Bd.named Bd.method).1
  have X0 : Stand p l e ({ frames := 0, cells := 0, slots := 0, locals := 0 } : Room) s m #[(.ref ao0), (.int p1), (.int xc)] below meth c s₁ [] 0 0 := Stand.of_body Bd
  have e0 : s₁.heap = h0 := by rw [← hh, Bd.state]; rfl
  have Nf := Fr.nil n0
  have Zs := Z0
  have Kp : Keep h0 h0 [ao0] := Keep.refl _ _
  obtain ⟨S_COMPACT_STRINGS, hG, S__assertionsDisabled, S_HI_BYTE_SHIFT, S_LO_BYTE_SHIFT, S_SIOOBE_FORMATTER, r_sf, c_sf⟩ := id hst
  show own_End p e below s (Q_rm23 Z ao0 kd mm vs p1 xc k0 G1 sf h0 n0) ({ frames := 0, cells := 0, slots := 0, locals := 0 } : Room).cells ({ frames := 0, cells := 0, slots := 0, locals := 0 } : Room).slots (s₁.setTop (entryFrame m #[(.ref ao0), (.int p1), (.int xc)] 3))
  refine own_go (x' := s₁.setTop (mkF m 0 #[.val (.ref ao0), .val (.int p1), .val (.int xc)] [])) (fun t k => castTop (ef_rm23 m ao0 p1 xc) k) ?_
  obtain ⟨T1, X1, e1, st1⟩ := getS2 X0 hx hZ hown (host := "") (Or.inl (own_w hw 101 rfl)) Via.refl e0 (Sta.ext Od.2 S__assertionsDisabled) (g := (mkF m 0 #[.val (.ref ao0), .val (.int p1), .val (.int xc)] [])) rfl (hb hby d23_0)
  refine own_go (x' := T1.setTop (mkF m 3 #[.val (.ref ao0), .val (.int p1), .val (.int xc)] [(.int 1)])) st1 ?_
  refine own_go (x' := T1.setTop (mkF m 33 #[.val (.ref ao0), .val (.int (p1 <<< ((1 : Int32) &&& 31))), .val (.int xc)] [(.ref ao0)])) (fun _ k => XS.ifYes X1.here hx rfl (pc0 := 3) (pc' := 28) rfl (hb hby d23_3) rfl ((if0 _ _).trans (feq (by decide +kernel : ¬ ((1 : Int32) = (0 : Int32)))).2) (by decide) (by decide) (XS.iloadN X1.here hx rfl (hb hby d23_28) rfl (XS.iconst X1.here hx rfl (hb hby d23_29) (XS.ishl X1.here hx rfl (hb hby d23_30) rfl (XS.istoreN X1.here hx rfl (hb hby d23_31) rfl (l' := #[.val (.ref ao0), .val (.int (p1 <<< ((1 : Int32) &&& 31))), .val (.int xc)]) rfl (XS.aloadN X1.here hx rfl (hb hby d23_32) rfl rfl k)))))) ?_
  refine own_go (x' := T1.setTop (mkF m 38 #[.val (.ref ao0), .val (.int ((p1 <<< ((1 : Int32) &&& 31)) + (1 : Int32))), .val (.int xc)] [(.int xc), (.int (p1 <<< ((1 : Int32) &&& 31))), (.ref ao0)])) (fun _ k => XS.iloadN X1.here hx rfl (hb hby d23_33) rfl (XS.iinc X1.here hx rfl (hb hby d23_34) rfl (l' := #[.val (.ref ao0), .val (.int ((p1 <<< ((1 : Int32) &&& 31)) + (1 : Int32))), .val (.int xc)]) rfl (XS.iloadN X1.here hx rfl (hb hby d23_37) rfl k))) ?_
  obtain ⟨T2, X2, e2, st2⟩ := getS2 X1 hx hZ hown (host := "") (Or.inl (own_w hw 102 rfl)) Via.refl e1 (Sta.ext Od.2 S_HI_BYTE_SHIFT) (g := (mkF m 38 #[.val (.ref ao0), .val (.int ((p1 <<< ((1 : Int32) &&& 31)) + (1 : Int32))), .val (.int xc)] [(.int xc), (.int (p1 <<< ((1 : Int32) &&& 31))), (.ref ao0)])) rfl (hb hby d23_38)
  refine own_go (x' := T2.setTop (mkF m 41 #[.val (.ref ao0), .val (.int ((p1 <<< ((1 : Int32) &&& 31)) + (1 : Int32))), .val (.int xc)] [(.int 0), (.int xc), (.int (p1 <<< ((1 : Int32) &&& 31))), (.ref ao0)])) st2 ?_
  refine own_go (x' := T2.setTop (mkF m 43 #[.val (.ref ao0), .val (.int ((p1 <<< ((1 : Int32) &&& 31)) + (1 : Int32))), .val (.int xc)] [(.int ((xc >>> ((0 : Int32) &&& 31)).toInt8.toInt32)), (.int (p1 <<< ((1 : Int32) &&& 31))), (.ref ao0)])) (fun _ k => XS.ishr X2.here hx rfl (hb hby d23_41) rfl (XS.i2b X2.here hx rfl (hb hby d23_42) rfl k)) ?_
  obtain ⟨cl3, Ar3, q3, Sz3, Nn3, Hh3, Gg3⟩ := V_ao0
  have hin3 : ¬ ((p1 <<< ((1 : Int32) &&& 31)) < 0 ∨ cl3.slots.size ≤ ((p1 <<< ((1 : Int32) &&& 31))).toNatClampNeg) := inb_of Sz3 i0
  obtain ⟨T3, h3, X3, e3, W3, st3⟩ := stB X2 hx hZ e2 Ar3 (j := (p1 <<< ((1 : Int32) &&& 31))) hin3 (g := (mkF m 43 #[.val (.ref ao0), .val (.int ((p1 <<< ((1 : Int32) &&& 31)) + (1 : Int32))), .val (.int xc)] [(.int ((xc >>> ((0 : Int32) &&& 31)).toInt8.toInt32)), (.int (p1 <<< ((1 : Int32) &&& 31))), (.ref ao0)])) rfl rfl (hb hby d23_43)
  refine own_go (x' := T3.setTop (mkF m 44 #[.val (.ref ao0), .val (.int ((p1 <<< ((1 : Int32) &&& 31)) + (1 : Int32))), .val (.int xc)] [])) st3 ?_
  replace Od := Od.wr W3 g_ao0
  replace Zs := Nat.le_trans Zs (Keep.of_wr W3).1
  replace Nf := Fr.snoc X3 Nf g_ao0
  replace Kp := Kp.wr W3 (Or.inl (by simp))
  have V_ao0 : Arv Z h3 ao0 kd .byte mm (vs.set k0 (.int (nar .byte ((xc >>> ((0 : Int32) &&& 31)).toInt8.toInt32)))) (.int (0 : Int32)) := Arv.set Ar3 q3 Sz3 Nn3 Hh3 Gg3 (fits_nar_byte _) W3 k0 ck0 (by omega)
  refine own_go (x' := T3.setTop (mkF m 47 #[.val (.ref ao0), .val (.int ((p1 <<< ((1 : Int32) &&& 31)) + (1 : Int32))), .val (.int xc)] [(.int xc), (.int ((p1 <<< ((1 : Int32) &&& 31)) + (1 : Int32))), (.ref ao0)])) (fun _ k => XS.aloadN X3.here hx rfl (hb hby d23_44) rfl rfl (XS.iloadN X3.here hx rfl (hb hby d23_45) rfl (XS.iloadN X3.here hx rfl (hb hby d23_46) rfl k))) ?_
  obtain ⟨T4, X4, e4, st4⟩ := getS2 X3 hx hZ hown (host := "") (Or.inl (own_w hw 103 rfl)) Via.refl e3 (Sta.ext Od.2 S_LO_BYTE_SHIFT) (g := (mkF m 47 #[.val (.ref ao0), .val (.int ((p1 <<< ((1 : Int32) &&& 31)) + (1 : Int32))), .val (.int xc)] [(.int xc), (.int ((p1 <<< ((1 : Int32) &&& 31)) + (1 : Int32))), (.ref ao0)])) rfl (hb hby d23_47)
  refine own_go (x' := T4.setTop (mkF m 50 #[.val (.ref ao0), .val (.int ((p1 <<< ((1 : Int32) &&& 31)) + (1 : Int32))), .val (.int xc)] [(.int 8), (.int xc), (.int ((p1 <<< ((1 : Int32) &&& 31)) + (1 : Int32))), (.ref ao0)])) st4 ?_
  refine own_go (x' := T4.setTop (mkF m 52 #[.val (.ref ao0), .val (.int ((p1 <<< ((1 : Int32) &&& 31)) + (1 : Int32))), .val (.int xc)] [(.int ((xc >>> ((8 : Int32) &&& 31)).toInt8.toInt32)), (.int ((p1 <<< ((1 : Int32) &&& 31)) + (1 : Int32))), (.ref ao0)])) (fun _ k => XS.ishr X4.here hx rfl (hb hby d23_50) rfl (XS.i2b X4.here hx rfl (hb hby d23_51) rfl k)) ?_
  obtain ⟨cl5, Ar5, q5, Sz5, Nn5, Hh5, Gg5⟩ := V_ao0
  have hin5 : ¬ (((p1 <<< ((1 : Int32) &&& 31)) + (1 : Int32)) < 0 ∨ cl5.slots.size ≤ (((p1 <<< ((1 : Int32) &&& 31)) + (1 : Int32))).toNatClampNeg) := inb_of Sz5 i1
  obtain ⟨T5, h5, X5, e5, W5, st5⟩ := stB X4 hx hZ e4 Ar5 (j := ((p1 <<< ((1 : Int32) &&& 31)) + (1 : Int32))) hin5 (g := (mkF m 52 #[.val (.ref ao0), .val (.int ((p1 <<< ((1 : Int32) &&& 31)) + (1 : Int32))), .val (.int xc)] [(.int ((xc >>> ((8 : Int32) &&& 31)).toInt8.toInt32)), (.int ((p1 <<< ((1 : Int32) &&& 31)) + (1 : Int32))), (.ref ao0)])) rfl rfl (hb hby d23_52)
  refine own_go (x' := T5.setTop (mkF m 53 #[.val (.ref ao0), .val (.int ((p1 <<< ((1 : Int32) &&& 31)) + (1 : Int32))), .val (.int xc)] [])) st5 ?_
  replace Od := Od.wr W5 g_ao0
  replace Zs := Nat.le_trans Zs (Keep.of_wr W5).1
  replace Nf := Fr.snoc X5 Nf g_ao0
  replace Kp := Kp.wr W5 (Or.inl (by simp))
  have V_ao0 : Arv Z h5 ao0 kd .byte mm ((vs.set k0 (.int (nar .byte ((xc >>> ((0 : Int32) &&& 31)).toInt8.toInt32)))).set (k0 + 1) (.int (nar .byte ((xc >>> ((8 : Int32) &&& 31)).toInt8.toInt32)))) (.int (0 : Int32)) := Arv.set Ar5 q5 Sz5 Nn5 Hh5 Gg5 (fits_nar_byte _) W5 (k0 + 1) ck1 (by rw [List.length_set]; exact lk)
  refine own_retV X5 hx hlk hret (hb hby d23_53) ?_ (by decide) (by decide)
  rw [e5]
  exact ⟨rfl, Nf, Kp, V_ao0⟩
theorem own_ck {j : Nat} (hj : j ≤ 6) : (Int32.ofNat j <<< ((1 : Int32) &&& 31)).toNatClampNeg = 2 * j ∧ ((Int32.ofNat j <<< ((1 : Int32) &&& 31)) + (1 : Int32)).toNatClampNeg = 2 * j + 1 := by
  rw [own_osh j (by omega), own_oinc (2 * j) (by omega), own_onc _ (by omega), own_onc _ (by omega)]
  exact ⟨rfl, rfl⟩
theorem pd_15 : parseMethodDescriptor "([BII)V" = some ⟨[(.array .byte), .int, .int], none⟩ := by decide +kernel
theorem d20_8 : decode jdk_52_method_14_code 8 = .ok (.iload 4, 2) := by decide +kernel
theorem d20_10 : decode jdk_52_method_14_code 10 = .ok (.iload_n 2, 1) := by decide +kernel
theorem d20_11 : decode jdk_52_method_14_code 11 = .ok (.if_icmp .ge 21, 3) := by decide +kernel
theorem d20_32 : decode jdk_52_method_14_code 32 = .ok (.aload_n 3, 1) := by decide +kernel
theorem d20_33 : decode jdk_52_method_14_code 33 = .ok (.areturn, 1) := by decide +kernel
theorem d20_14 : decode jdk_52_method_14_code 14 = .ok (.aload_n 3, 1) := by decide +kernel
theorem d20_15 : decode jdk_52_method_14_code 15 = .ok (.iload 4, 2) := by decide +kernel
theorem d20_17 : decode jdk_52_method_14_code 17 = .ok (.aload_n 0, 1) := by decide +kernel
theorem d20_18 : decode jdk_52_method_14_code 18 = .ok (.iload_n 1, 1) := by decide +kernel
theorem d20_19 : decode jdk_52_method_14_code 19 = .ok (.caload, 1) := by decide +kernel
theorem d20_20 : decode jdk_52_method_14_code 20 = .ok (.invokestatic 111, 3) := by decide +kernel
theorem d20_23 : decode jdk_52_method_14_code 23 = .ok (.iinc 1 1, 3) := by decide +kernel
theorem d20_26 : decode jdk_52_method_14_code 26 = .ok (.iinc 4 1, 3) := by decide +kernel
theorem d20_29 : decode jdk_52_method_14_code 29 = .ok (.goto (-21), 3) := by decide +kernel
set_option maxRecDepth 65536 in
set_option maxHeartbeats 40000000 in
theorem seg20 {p : Program} {l : Launch} {e : Env} {s : State} {m : MethodId} {args : Array Value} {below : List Frame} {meth : Method} {c : Code} {Z : State} {a0 : Array Value} (hx : p.tables.exec = Jvm.exec) (hlk : meth.locks = false) (hret : meth.sig.returnType = some (.array .byte)) (hZ : Z.Warmed39 s.vm) (hw : ∀ d ∈ tables_1, d.before a0 Z = true) (hby : c.code = jdk_52_method_14_code) (hml : c.maxLocals = 5) (hown : s.vm.findClass "java/lang/StringUTF16" = some m.cls) (hnm : meth.name = "toBytes") (ao0 bb : Addr) (kx kb : ClassId) (xs : List Int32) (G1 : Int32) (sf : Value) (n0 : Nat) (hlen : xs.length ≤ 6) (ne_ao0_bb : ao0 ≠ bb) (g_bb : n0 ≤ bb) (hst : own_St Z G1 sf) : ∀ (ys : List Int32) (ps : List Int32) (h0 : Heap) (s₁ : State) (LL : List Loc) (_ : Stand p l e ({ frames := 2, cells := 1, slots := 12, locals := 26 } : Room) s m args below meth c s₁ LL 1 12) (_ : s₁.heap = h0) (_ : Fr n0 LL) (_ : n0 ≤ h0.size) (_ : Old Z n0 h0) (_ : Arv Z h0 ao0 kx .char (Int32.ofNat xs.length) (xs.map Value.int) (.int (0 : Int32))) (_ : Arv Z h0 bb kb .byte (Int32.ofNat (2 * xs.length)) (own_utf ps ++ List.replicate (2 * ys.length) (.int (0 : Int32))) (.int (0 : Int32))) (_ : xs = ps ++ ys),
    own_End p e below s (fun v h L => v = some (.ref bb) ∧ Fr n0 L ∧ Keep h0 h [bb] ∧ Arv Z h bb kb .byte (Int32.ofNat (2 * xs.length)) (own_utf xs) (.int (0 : Int32))) ({ frames := 2, cells := 1, slots := 12, locals := 26 } : Room).cells ({ frames := 2, cells := 1, slots := 12, locals := 26 } : Room).slots (s₁.setTop (mkF m 8 #[.val (.ref ao0), .val (.int (Int32.ofNat ps.length)), .val (.int (Int32.ofNat xs.length)), .val (.ref bb), .val (.int (Int32.ofNat ps.length))] [])) := by
  intro ys
  induction ys with
  | nil =>
    intro ps h0 s₁ LL X0 e0 Nf Zs Od V_ao0 V_bb hps
    obtain ⟨S_COMPACT_STRINGS, hG, S__assertionsDisabled, S_HI_BYTE_SHIFT, S_LO_BYTE_SHIFT, S_SIOOBE_FORMATTER, r_sf, c_sf⟩ := id hst
    have Kp : Keep h0 h0 [bb] := Keep.refl _ _
    have hps' : xs = ps := by rw [hps]; simp
    have hbr : ¬ Int32.ofNat ps.length < Int32.ofNat xs.length := by rw [hps']; exact Int32.lt_irrefl
    refine own_go (x' := s₁.setTop (mkF m 33 #[.val (.ref ao0), .val (.int (Int32.ofNat ps.length)), .val (.int (Int32.ofNat xs.length)), .val (.ref bb), .val (.int (Int32.ofNat ps.length))] [(.ref bb)])) (fun _ k => XS.iload X0.here hx rfl (hb hby d20_8) rfl (XS.iloadN X0.here hx rfl (hb hby d20_10) rfl (XS.icmpYes X0.here hx rfl (pc0 := 11) (pc' := 32) rfl (hb hby d20_11) rfl (flt hbr).2.1 (by decide) (by decide) (XS.aloadN X0.here hx rfl (hb hby d20_32) rfl rfl k)))) ?_
    refine own_retR X0 hx hlk hret rfl rfl (hb hby d20_33) ?_ (by decide) (by decide)
    rw [e0]
    exact ⟨rfl, Nf, Kp, by have q := V_bb; rw [show own_utf ps ++ List.replicate (2 * ([] : List Int32).length) (Value.int (0 : Int32)) = own_utf xs from by rw [hps']; simp] at q; exact q⟩
  | cons x r ih =>
    intro ps h0 s₁ LL X0 e0 Nf Zs Od V_ao0 V_bb hps
    obtain ⟨S_COMPACT_STRINGS, hG, S__assertionsDisabled, S_HI_BYTE_SHIFT, S_LO_BYTE_SHIFT, S_SIOOBE_FORMATTER, r_sf, c_sf⟩ := id hst
    have Kp : Keep h0 h0 [bb] := Keep.refl _ _
    have hj1 : ps.length < xs.length := by rw [hps]; simp
    have hj2 : xs[ps.length]? = some x := by rw [hps]; simp
    have hbr : Int32.ofNat ps.length < Int32.ofNat xs.length := (own_olt (by omega) (by omega)).mpr hj1
    refine own_go (x' := s₁.setTop (mkF m 18 #[.val (.ref ao0), .val (.int (Int32.ofNat ps.length)), .val (.int (Int32.ofNat xs.length)), .val (.ref bb), .val (.int (Int32.ofNat ps.length))] [(.ref ao0), (.int (Int32.ofNat ps.length)), (.ref bb)])) (fun _ k => XS.iload X0.here hx rfl (hb hby d20_8) rfl (XS.iloadN X0.here hx rfl (hb hby d20_10) rfl (XS.icmpNo X0.here hx rfl (hb hby d20_11) rfl (tlt hbr).2.1 (XS.aloadN X0.here hx rfl (hb hby d20_14) rfl rfl (XS.iload X0.here hx rfl (hb hby d20_15) rfl (XS.aloadN X0.here hx rfl (hb hby d20_17) rfl rfl k)))))) ?_
    refine own_go (x' := s₁.setTop (mkF m 19 #[.val (.ref ao0), .val (.int (Int32.ofNat ps.length)), .val (.int (Int32.ofNat xs.length)), .val (.ref bb), .val (.int (Int32.ofNat ps.length))] [(.int (Int32.ofNat ps.length)), (.ref ao0), (.int (Int32.ofNat ps.length)), (.ref bb)])) (fun _ k => XS.iloadN X0.here hx rfl (hb hby d20_18) rfl k) ?_
    obtain ⟨cl1, Ar1, q1, Sz1, Nn1, Hh1, Gg1⟩ := id V_ao0
    have hin1 : ¬ ((Int32.ofNat ps.length) < 0 ∨ cl1.slots.size ≤ ((Int32.ofNat ps.length)).toNatClampNeg) := inb_of Sz1 ⟨own_onn _ (by omega), hbr⟩
    refine own_go (x' := s₁.setTop (mkF m 20 #[.val (.ref ao0), .val (.int (Int32.ofNat ps.length)), .val (.int (Int32.ofNat xs.length)), .val (.ref bb), .val (.int (Int32.ofNat ps.length))] [(.int x), (.int (Int32.ofNat ps.length)), (.ref bb)])) (X0.caload hx (j := (Int32.ofNat ps.length)) (v := (.int x)) (Eq.trans (congrArg (fun h_ => h_[_]?) e0) Ar1.1) (State.isArrayOf_alike hZ.alike Ar1.2.1) Ar1.2.2 hin1 (Hh1.at hin1 (by rw [own_onc ps.length (by omega)]; exact own_chD hj2 _)) (g := (mkF m 19 #[.val (.ref ao0), .val (.int (Int32.ofNat ps.length)), .val (.int (Int32.ofNat xs.length)), .val (.ref bb), .val (.int (Int32.ofNat ps.length))] [(.int (Int32.ofNat ps.length)), (.ref ao0), (.int (Int32.ofNat ps.length)), (.ref bb)])) rfl rfl (hb hby d20_19)) ?_
    obtain ⟨_, _, ⟨T2, L2, k2, n2⟩, -, X2, ⟨Lc2, hQ2, l2, y2, z2⟩, st2⟩ := Jvm.LawKit.callS X0 hx (y := (⟨"java/lang/StringUTF16", "putChar", "([BII)V"⟩ : MethodName)) hown (mvT hZ (own_w hw 98 rfl)) (mvT hZ (own_w hw 99 rfl)) (mvT hZ (own_w hw 77 rfl)) (mvT hZ (own_w hw 100 rfl)) (by decide) (backOf (W := 0) (rm23 l Z a0 hw [] bb kb _ _ (Int32.ofNat ps.length) x (2 * ps.length) G1 sf h0 n0 Zs V_bb (own_gc hlen hj1 hj2).1 (own_gc hlen hj1 hj2).2.1 (own_ck (by omega)).1 (own_ck (by omega)).2 (by rw [List.length_append, own_utfL, List.length_replicate, List.length_cons]; omega) g_bb Od hst) hZ (own_w hw 100 rfl) (own_w hw 77 rfl) (by decide) (by decide)) (g := (mkF m 20 #[.val (.ref ao0), .val (.int (Int32.ofNat ps.length)), .val (.int (Int32.ofNat xs.length)), .val (.ref bb), .val (.int (Int32.ofNat ps.length))] [(.int x), (.int (Int32.ofNat ps.length)), (.ref bb)])) rfl (by rw [hml]; rfl) (argsL := [(.ref bb), (.int (Int32.ofNat ps.length)), (.int x)]) (rest := []) (lenOf pd_15 rfl) rfl (by show 2 * 0 + _ ≤ _; exact Nat.le_of_eq rfl) (hb hby d20_20) (fun _ _ => ⟨rfl, e0, (by decide : 1 + 0 ≤ _), (by decide : 12 + 0 ≤ _)⟩)
    dsimp only [Pt.U, Pt.locs, Pt.cells, Pt.slots] at X2 l2 y2 z2 st2 hQ2
    subst l2 y2 z2
    obtain ⟨hv2, Nq2, K2, Vb2⟩ := hQ2
    subst hv2
    replace Nf := Fr.app Nf Nq2
    replace Od := Od.keep K2 (allS g_bb all0)
    replace V_ao0 := V_ao0.keep K2 (ninS ne_ao0_bb nin0)
    replace Zs := Nat.le_trans Zs K2.1
    replace Kp := Kp.trans K2 (allS (Or.inl (by simp)) all0)
    have V_bb := Vb2
    rw [own_uset] at V_bb
    refine own_go (x' := T2.setTop (mkF m 23 #[.val (.ref ao0), .val (.int (Int32.ofNat ps.length)), .val (.int (Int32.ofNat xs.length)), .val (.ref bb), .val (.int (Int32.ofNat ps.length))] [])) st2 ?_
    refine own_go (x' := T2.setTop (mkF m 8 #[.val (.ref ao0), .val (.int ((Int32.ofNat ps.length) + (1 : Int32))), .val (.int (Int32.ofNat xs.length)), .val (.ref bb), .val (.int ((Int32.ofNat ps.length) + (1 : Int32)))] [])) (fun _ k => XS.iinc X2.here hx rfl (hb hby d20_23) rfl (l' := #[.val (.ref ao0), .val (.int ((Int32.ofNat ps.length) + (1 : Int32))), .val (.int (Int32.ofNat xs.length)), .val (.ref bb), .val (.int (Int32.ofNat ps.length))]) rfl (XS.iinc X2.here hx rfl (hb hby d20_26) rfl (l' := #[.val (.ref ao0), .val (.int ((Int32.ofNat ps.length) + (1 : Int32))), .val (.int (Int32.ofNat xs.length)), .val (.ref bb), .val (.int ((Int32.ofNat ps.length) + (1 : Int32)))]) rfl (XS.goto X2.here hx rfl (pc0 := 29) (pc' := 8) rfl (hb hby d20_29) (by decide) (by decide) k))) ?_
    rw [own_oinc ps.length (by omega), ← own_len1 ps x]
    refine own_mono (fun v h L q => ?_) (ih (ps ++ [x]) T2.heap _ _ (X2) rfl Nf Zs Od V_ao0 V_bb (by rw [hps]; simp))
    exact ⟨q.1, q.2.1, Kp.trans q.2.2.1 (allS (Or.inl (by simp)) all0), q.2.2.2⟩
theorem pd_16 : parseMethodDescriptor "(I)[B" = some ⟨[.int], some (.array .byte)⟩ := by decide +kernel
theorem d20_0 : decode jdk_52_method_14_code 0 = .ok (.iload_n 2, 1) := by decide +kernel
theorem d20_1 : decode jdk_52_method_14_code 1 = .ok (.invokestatic 107, 3) := by decide +kernel
theorem d20_4 : decode jdk_52_method_14_code 4 = .ok (.astore_n 3, 1) := by decide +kernel
theorem d20_5 : decode jdk_52_method_14_code 5 = .ok (.iconst 0, 1) := by decide +kernel
theorem d20_6 : decode jdk_52_method_14_code 6 = .ok (.istore 4, 2) := by decide +kernel
def Q_rm20 (Z : State) (ao0 : Addr) (kx : ClassId) (xs : List Int32) (G1 : Int32) (sf : Value) (h0 : Heap) (n0 : Nat) (v : Option Value) (h : Heap) (L : List Loc) : Prop := ∃ (b : Addr) (kb : ClassId), v = some (.ref b) ∧ Fr n0 L ∧ Keep h0 h [] ∧ h0.size ≤ b ∧ n0 ≤ b ∧ Arv Z h b kb .byte (Int32.ofNat (2 * xs.length)) (own_utf xs) (.int (0 : Int32))
theorem pn_rm20 : plainName "java/lang/StringUTF16" = true := by first | (simp [plainName, overriddenIn]; done) | decide +kernel
theorem ef_rm20 (m : MethodId) (x0 : Addr) (x1 : Int32) (x2 : Int32) : entryFrame m #[(.ref x0), (.int x1), (.int x2)] 5 = mkF m 0 #[.val (.ref x0), .val (.int x1), .val (.int x2), .unset, .unset] [] := by first | (simp [entryFrame, mkF, argsToLocals, Value.category]; done) | rfl
set_option maxRecDepth 65536 in
set_option maxHeartbeats 40000000 in
theorem rm20 (l : Launch) (Z : State) (a0 : Array Value) (hw : ∀ d ∈ tables_1, d.before a0 Z = true) (ws : List Jvm.Cond) (ao0 : Addr) (kx : ClassId) (xs : List Int32) (G1 : Int32) (sf : Value) (h0 : Heap) (n0 : Nat) (Z0 : n0 ≤ h0.size) (V_ao0 : Arv Z h0 ao0 kx .char (Int32.ofNat xs.length) (xs.map Value.int) (.int (0 : Int32))) (hlen : xs.length ≤ 6) (Od : Old Z n0 h0) (hst : own_St Z G1 sf) :
    MetFree l (⟨"java/lang/StringUTF16", "toBytes", "([CII)[B"⟩ : MethodName) (head1 (Jvm.Cond.code (⟨"java/lang/StringUTF16", "toBytes", "([CII)[B"⟩ : MethodName) jdk_52_method_14_code 5 (some (.array .byte)) :: ws) ({ frames := 2, cells := 1, slots := 12, locals := 26 } : Room)) (fun a U => a = #[(.ref ao0), (.int 0), (.int (Int32.ofNat xs.length))] ∧ Z.Warmed39 U.vm ∧ U.heap = h0) (fun _ _ _ _ _ => True) (fun _ U o U' => ∃ v L, o = .returned v ∧ (Q_rm20 Z ao0 kx xs G1 sf h0 n0) v U'.heap L ∧ FrameEnd U o U' L ({ frames := 2, cells := 1, slots := 12, locals := 26 } : Room).cells ({ frames := 2, cells := 1, slots := 12, locals := 26 } : Room).slots) := by
  refine MetFree.of_bodySF (plainFor_of_name pn_rm20) hisR ?_
  intro p e s m args below meth c s₁ Bd hml0 hP hK
  obtain ⟨rfl, hZ, hh⟩ := hP
  have hx := Bd.exec
  have hby := Bd.bytes
  have hlk := BodyLoose.notSynchronized Bd
  have hret := Bd.returns
  have hml : c.maxLocals = 5 := hml0
  have hown : s.vm.findClass "java/lang/StringUTF16" = some m.cls := findClass_of_methodNamed Bd.named
  have hnm := (name_of_methodNamed Bd.named Bd.method).1
  have X0 : Stand p l e ({ frames := 2, cells := 1, slots := 12, locals := 26 } : Room) s m #[(.ref ao0), (.int 0), (.int (Int32.ofNat xs.length))] below meth c s₁ [] 0 0 := Stand.of_body Bd
  have e0 : s₁.heap = h0 := by rw [← hh, Bd.state]; rfl
  have Nf := Fr.nil n0
  have Zs := Z0
  have Kp : Keep h0 h0 [] := Keep.refl _ _
  obtain ⟨S_COMPACT_STRINGS, hG, S__assertionsDisabled, S_HI_BYTE_SHIFT, S_LO_BYTE_SHIFT, S_SIOOBE_FORMATTER, r_sf, c_sf⟩ := id hst
  show own_End p e below s (Q_rm20 Z ao0 kx xs G1 sf h0 n0) ({ frames := 2, cells := 1, slots := 12, locals := 26 } : Room).cells ({ frames := 2, cells := 1, slots := 12, locals := 26 } : Room).slots (s₁.setTop (entryFrame m #[(.ref ao0), (.int 0), (.int (Int32.ofNat xs.length))] 5))
  refine own_go (x' := s₁.setTop (mkF m 0 #[.val (.ref ao0), .val (.int 0), .val (.int (Int32.ofNat xs.length)), .unset, .unset] [])) (fun t k => castTop (ef_rm20 m ao0 (0 : Int32) (Int32.ofNat xs.length)) k) ?_
  refine own_go (x' := s₁.setTop (mkF m 1 #[.val (.ref ao0), .val (.int 0), .val (.int (Int32.ofNat xs.length)), .unset, .unset] [(.int (Int32.ofNat xs.length))])) (fun _ k => XS.iloadN X0.here hx rfl (hb hby d20_0) rfl k) ?_
  obtain ⟨_, _, ⟨T1, L1, k1, n1⟩, -, X1, ⟨Lc1, hQ1, l1, y1, z1⟩, st1⟩ := Jvm.LawKit.callS X0 hx (y := (⟨"java/lang/StringUTF16", "newBytesFor", "(I)[B"⟩ : MethodName)) hown (mvT hZ (own_w hw 91 rfl)) (mvT hZ (own_w hw 92 rfl)) (mvT hZ (own_w hw 77 rfl)) (mvT hZ (own_w hw 93 rfl)) (by decide) (backOf (W := 0) (rm21 l Z a0 hw [] xs h0 n0 Zs hlen) hZ (own_w hw 93 rfl) (own_w hw 77 rfl) (by decide) (by decide)) (g := (mkF m 1 #[.val (.ref ao0), .val (.int 0), .val (.int (Int32.ofNat xs.length)), .unset, .unset] [(.int (Int32.ofNat xs.length))])) rfl (by rw [hml]; rfl) (argsL := [(.int (Int32.ofNat xs.length))]) (rest := []) (lenOf pd_16 rfl) rfl (by show 2 * 0 + _ ≤ _; exact Nat.le_of_eq rfl) (hb hby d20_1) (fun _ _ => ⟨rfl, e0, (by decide : 0 + 1 ≤ _), (by decide : 0 + 12 ≤ _)⟩)
  dsimp only [Pt.U, Pt.locs, Pt.cells, Pt.slots] at X1 l1 y1 z1 st1 hQ1
  subst l1 y1 z1
  obtain ⟨b1, kb1, hv1, Nq1, K1, sq1, g_b1, V_b1⟩ := hQ1
  subst hv1
  replace Nf := Fr.app Nf Nq1
  have ne_ao0_b1 : ao0 ≠ b1 := Nat.ne_of_lt (Nat.lt_of_lt_of_le V_ao0.lt sq1)
  have sz_b1 : h0.size ≤ b1 := Nat.le_trans Kp.1 sq1
  replace Od := Od.keep K1 all0
  replace V_ao0 := V_ao0.keep K1 nin0
  replace Zs := Nat.le_trans Zs K1.1
  replace Kp := Kp.trans K1 all0
  refine own_go (x' := T1.setTop (mkF m 4 #[.val (.ref ao0), .val (.int 0), .val (.int (Int32.ofNat xs.length)), .unset, .unset] [(.ref b1)])) st1 ?_
  refine own_go (x' := T1.setTop (mkF m 8 #[.val (.ref ao0), .val (.int 0), .val (.int (Int32.ofNat xs.length)), .val (.ref b1), .val (.int 0)] [])) (fun _ k => XS.astoreN X1.here hx rfl (hb hby d20_4) rfl rfl (l' := #[.val (.ref ao0), .val (.int 0), .val (.int (Int32.ofNat xs.length)), .val (.ref b1), .unset]) rfl (XS.iconst X1.here hx rfl (hb hby d20_5) (XS.istore X1.here hx rfl (hb hby d20_6) rfl (l' := #[.val (.ref ao0), .val (.int 0), .val (.int (Int32.ofNat xs.length)), .val (.ref b1), .val (.int 0)]) rfl k))) ?_
  obtain ⟨LL2, X2, Nf⟩ : ∃ LL : List Loc, Stand p l e _ s m _ below meth c T1 LL 1 12 ∧ Fr n0 LL := ⟨_, X1, Nf⟩
  refine own_mono (fun v h L q => ?_) (seg20 hx hlk hret hZ hw hby hml hown hnm ao0 b1 kx kb1 xs G1 sf n0 hlen ne_ao0_b1 g_b1 hst xs [] _ _ _ X2 rfl Nf Zs Od V_ao0 V_b1 rfl)
  exact ⟨b1, kb1, q.1, q.2.1, Kp.trans q.2.2.1 (allS (Or.inr sz_b1) all0), sz_b1, g_b1, q.2.2.2⟩
theorem pd_17 : parseMethodDescriptor "([CI[BII)I" = some ⟨[(.array .char), .int, (.array .byte), .int, .int], some .int⟩ := by decide +kernel
theorem pd_18 : parseMethodDescriptor "([CII)[B" = some ⟨[(.array .char), .int, .int], some (.array .byte)⟩ := by decide +kernel
theorem d16_0 : decode jdk_52_method_16_code 0 = .ok (.iload_n 2, 1) := by decide +kernel
theorem d16_1 : decode jdk_52_method_16_code 1 = .ok (.newarray .byte, 2) := by decide +kernel
theorem d16_3 : decode jdk_52_method_16_code 3 = .ok (.astore_n 3, 1) := by decide +kernel
theorem d16_4 : decode jdk_52_method_16_code 4 = .ok (.aload_n 0, 1) := by decide +kernel
theorem d16_5 : decode jdk_52_method_16_code 5 = .ok (.iload_n 1, 1) := by decide +kernel
theorem d16_6 : decode jdk_52_method_16_code 6 = .ok (.aload_n 3, 1) := by decide +kernel
theorem d16_7 : decode jdk_52_method_16_code 7 = .ok (.iconst 0, 1) := by decide +kernel
theorem d16_8 : decode jdk_52_method_16_code 8 = .ok (.iload_n 2, 1) := by decide +kernel
theorem d16_9 : decode jdk_52_method_16_code 9 = .ok (.invokestatic 115, 3) := by decide +kernel
theorem d16_12 : decode jdk_52_method_16_code 12 = .ok (.istore 4, 2) := by decide +kernel
theorem d16_14 : decode jdk_52_method_16_code 14 = .ok (.iload 4, 2) := by decide +kernel
theorem d16_16 : decode jdk_52_method_16_code 16 = .ok (.iload_n 2, 1) := by decide +kernel
theorem d16_17 : decode jdk_52_method_16_code 17 = .ok (.if_icmp .eq 40, 3) := by decide +kernel
theorem d16_20 : decode jdk_52_method_16_code 20 = .ok (.aload_n 0, 1) := by decide +kernel
theorem d16_21 : decode jdk_52_method_16_code 21 = .ok (.iload_n 1, 1) := by decide +kernel
theorem d16_22 : decode jdk_52_method_16_code 22 = .ok (.iload_n 2, 1) := by decide +kernel
theorem d16_23 : decode jdk_52_method_16_code 23 = .ok (.invokestatic 119, 3) := by decide +kernel
theorem d16_26 : decode jdk_52_method_16_code 26 = .ok (.astore 5, 2) := by decide +kernel
theorem d16_28 : decode jdk_52_method_16_code 28 = .ok (.aload 5, 2) := by decide +kernel
theorem d16_30 : decode jdk_52_method_16_code 30 = .ok (.iload 4, 2) := by decide +kernel
theorem d16_32 : decode jdk_52_method_16_code 32 = .ok (.invokestatic 71, 3) := by decide +kernel
theorem d16_35 : decode jdk_52_method_16_code 35 = .ok (.sipush 255, 3) := by decide +kernel
theorem d16_38 : decode jdk_52_method_16_code 38 = .ok (.if_icmp .gt 16, 3) := by decide +kernel
theorem d16_54 : decode jdk_52_method_16_code 54 = .ok (.aload 5, 2) := by decide +kernel
theorem d16_56 : decode jdk_52_method_16_code 56 = .ok (.areturn, 1) := by decide +kernel
theorem d16_57 : decode jdk_52_method_16_code 57 = .ok (.aload_n 3, 1) := by decide +kernel
theorem d16_58 : decode jdk_52_method_16_code 58 = .ok (.areturn, 1) := by decide +kernel
def Q_rm16 (Z : State) (ao0 : Addr) (kx : ClassId) (xs : List Int32) (G1 : Int32) (sf : Value) (h0 : Heap) (n0 : Nat) (v : Option Value) (h : Heap) (L : List Loc) : Prop := ∃ (b : Addr) (kb : ClassId), v = some (.ref b) ∧ Fr n0 L ∧ Keep h0 h [] ∧ h0.size ≤ b ∧ n0 ≤ b ∧ (((∀ x ∈ xs, ¬ (255 : Int32) < x) ∧ Arv Z h b kb .byte (Int32.ofNat xs.length) (own_lat xs) (.int (0 : Int32))) ∨ (1 ≤ xs.length ∧ Arv Z h b kb .byte (Int32.ofNat (2 * xs.length)) (own_utf xs) (.int (0 : Int32))))
theorem pn_rm16 : plainName "java/lang/StringUTF16" = true := by first | (simp [plainName, overriddenIn]; done) | decide +kernel
theorem ef_rm16 (m : MethodId) (x0 : Addr) (x1 : Int32) (x2 : Int32) : entryFrame m #[(.ref x0), (.int x1), (.int x2)] 6 = mkF m 0 #[.val (.ref x0), .val (.int x1), .val (.int x2), .unset, .unset, .unset] [] := by first | (simp [entryFrame, mkF, argsToLocals, Value.category]; done) | rfl
set_option maxRecDepth 65536 in
set_option maxHeartbeats 40000000 in
theorem rm16 (l : Launch) (Z : State) (a0 : Array Value) (hw : ∀ d ∈ tables_1, d.before a0 Z = true) (ws : List Jvm.Cond) (ao0 : Addr) (kx : ClassId) (xs : List Int32) (G1 : Int32) (sf : Value) (h0 : Heap) (n0 : Nat) (Z0 : n0 ≤ h0.size) (V_ao0 : Arv Z h0 ao0 kx .char (Int32.ofNat xs.length) (xs.map Value.int) (.int (0 : Int32))) (hxs : ∀ x ∈ xs, own_ch x) (hlen : xs.length ≤ 6) (Od : Old Z n0 h0) (hst : own_St Z G1 sf) :
    MetFree l (⟨"java/lang/StringUTF16", "compress", "([CII)[B"⟩ : MethodName) (head1 (Jvm.Cond.code (⟨"java/lang/StringUTF16", "compress", "([CII)[B"⟩ : MethodName) jdk_52_method_16_code 6 (some (.array .byte)) :: ws) ({ frames := 3, cells := 2, slots := 18, locals := 42 } : Room)) (fun a U => a = #[(.ref ao0), (.int 0), (.int (Int32.ofNat xs.length))] ∧ Z.Warmed39 U.vm ∧ U.heap = h0) (fun _ _ _ _ _ => True) (fun _ U o U' => ∃ v L, o = .returned v ∧ (Q_rm16 Z ao0 kx xs G1 sf h0 n0) v U'.heap L ∧ FrameEnd U o U' L ({ frames := 3, cells := 2, slots := 18, locals := 42 } : Room).cells ({ frames := 3, cells := 2, slots := 18, locals := 42 } : Room).slots) := by
  refine MetFree.of_bodySF (plainFor_of_name pn_rm16) hisR ?_
  intro p e s m args below meth c s₁ Bd hml0 hP hK
  obtain ⟨rfl, hZ, hh⟩ := hP
  have hx := Bd.exec
  have hby := Bd.bytes
  have hlk := BodyLoose.notSynchronized Bd
  have hret := Bd.returns
  have hml : c.maxLocals = 6 := hml0
  have hown : s.vm.findClass "java/lang/StringUTF16" = some m.cls := findClass_of_methodNamed Bd.named
  have hnm := (name_of_methodNamed Bd.named Bd.method).1
  have X0 : Stand p l e ({ frames := 3, cells := 2, slots := 18, locals := 42 } : Room) s m #[(.ref ao0), (.int 0), (.int (Int32.ofNat xs.length))] below meth c s₁ [] 0 0 := Stand.of_body Bd
  have e0 : s₁.heap = h0 := by rw [← hh, Bd.state]; rfl
  have Nf := Fr.nil n0
  have Zs := Z0
  have Kp : Keep h0 h0 [] := Keep.refl _ _
  obtain ⟨S_COMPACT_STRINGS, hG, S__assertionsDisabled, S_HI_BYTE_SHIFT, S_LO_BYTE_SHIFT, S_SIOOBE_FORMATTER, r_sf, c_sf⟩ := id hst
  show own_End p e below s (Q_rm16 Z ao0 kx xs G1 sf h0 n0) ({ frames := 3, cells := 2, slots := 18, locals := 42 } : Room).cells ({ frames := 3, cells := 2, slots := 18, locals := 42 } : Room).slots (s₁.setTop (entryFrame m #[(.ref ao0), (.int 0), (.int (Int32.ofNat xs.length))] 6))
  refine own_go (x' := s₁.setTop (mkF m 0 #[.val (.ref ao0), .val (.int 0), .val (.int (Int32.ofNat xs.length)), .unset, .unset, .unset] [])) (fun t k => castTop (ef_rm16 m ao0 (0 : Int32) (Int32.ofNat xs.length)) k) ?_
  refine own_go (x' := s₁.setTop (mkF m 1 #[.val (.ref ao0), .val (.int 0), .val (.int (Int32.ofNat xs.length)), .unset, .unset, .unset] [(.int (Int32.ofNat xs.length))])) (fun _ k => XS.iloadN X0.here hx rfl (hb hby d16_0) rfl k) ?_
  obtain ⟨T1, h1, k1, X1, e1, E1, A1, st1⟩ := newP X0 hx hZ (own_w hw 20 rfl) e0 (g := (mkF m 1 #[.val (.ref ao0), .val (.int 0), .val (.int (Int32.ofNat xs.length)), .unset, .unset, .unset] [(.int (Int32.ofNat xs.length))])) rfl (hb hby d16_1) rfl (own_onn _ (by omega)) (cap := 6) (by rw [own_onc _ (by omega)]; omega) (by decide) (by decide) (by decide)
  obtain ⟨b1, g1⟩ : ∃ z, z = h0.size := ⟨_, rfl⟩
  rw [← g1] at A1 st1
  have ne_ao0_b1 : ao0 ≠ b1 := Nat.ne_of_lt (Nat.lt_of_lt_of_le V_ao0.lt (Nat.le_of_eq g1.symm))
  have g_b1 : n0 ≤ b1 := Nat.le_trans Zs (Nat.le_of_eq g1.symm)
  have sz_b1 : h0.size ≤ b1 := Nat.le_trans Kp.1 (Nat.le_of_eq g1.symm)
  replace Od := Od.ext E1
  replace V_ao0 := V_ao0.ext E1
  replace Zs := Nat.le_trans Zs E1.1
  replace Kp := Kp.ext E1
  have V_b1 : Arv Z h1 b1 k1 .byte (Int32.ofNat xs.length) [] (.int 0) := Arv.new A1 (own_onn _ (by omega))
  refine own_go (x' := T1.setTop (mkF m 3 #[.val (.ref ao0), .val (.int 0), .val (.int (Int32.ofNat xs.length)), .unset, .unset, .unset] [(.ref b1)])) st1 ?_
  refine own_go (x' := T1.setTop (mkF m 4 #[.val (.ref ao0), .val (.int 0), .val (.int (Int32.ofNat xs.length)), .val (.ref b1), .unset, .unset] [])) (fun _ k => XS.astoreN X1.here hx rfl (hb hby d16_3) rfl rfl (l' := #[.val (.ref ao0), .val (.int 0), .val (.int (Int32.ofNat xs.length)), .val (.ref b1), .unset, .unset]) rfl k) ?_
  replace V_b1 := V_b1.pad (pad_rep [] _ xs.length)
  refine own_go (x' := T1.setTop (mkF m 9 #[.val (.ref ao0), .val (.int 0), .val (.int (Int32.ofNat xs.length)), .val (.ref b1), .unset, .unset] [(.int (Int32.ofNat xs.length)), (.int 0), (.ref b1), (.int 0), (.ref ao0)])) (fun _ k => XS.aloadN X1.here hx rfl (hb hby d16_4) rfl rfl (XS.iloadN X1.here hx rfl (hb hby d16_5) rfl (XS.aloadN X1.here hx rfl (hb hby d16_6) rfl rfl (XS.iconst X1.here hx rfl (hb hby d16_7) (XS.iloadN X1.here hx rfl (hb hby d16_8) rfl k))))) ?_
  obtain ⟨_, _, ⟨T2, L2, k2, n2⟩, -, X2, ⟨Lc2, hQ2, l2, y2, z2⟩, st2⟩ := Jvm.LawKit.callS X1 hx (y := (⟨"java/lang/StringUTF16", "compress", "([CI[BII)I"⟩ : MethodName)) hown (mvT hZ (own_w hw 79 rfl)) (mvT hZ (own_w hw 80 rfl)) (mvT hZ (own_w hw 77 rfl)) (mvT hZ (own_w hw 81 rfl)) (by decide) (backOf (W := 0) (rm17 l Z a0 hw [] ao0 b1 kx k1 xs h1 n0 Zs V_ao0 V_b1 hlen ne_ao0_b1 g_b1) hZ (own_w hw 81 rfl) (own_w hw 77 rfl) (by decide) (by decide)) (g := (mkF m 9 #[.val (.ref ao0), .val (.int 0), .val (.int (Int32.ofNat xs.length)), .val (.ref b1), .unset, .unset] [(.int (Int32.ofNat xs.length)), (.int 0), (.ref b1), (.int 0), (.ref ao0)])) rfl (by rw [hml]; rfl) (argsL := [(.ref ao0), (.int 0), (.ref b1), (.int 0), (.int (Int32.ofNat xs.length))]) (rest := []) (lenOf pd_17 rfl) rfl (by show 2 * 0 + _ ≤ _; exact Nat.le_of_eq rfl) (hb hby d16_9) (fun _ _ => ⟨rfl, e1, (by decide : 1 + 0 ≤ _), (by decide : 6 + 0 ≤ _)⟩)
  dsimp only [Pt.U, Pt.locs, Pt.cells, Pt.slots] at X2 l2 y2 z2 st2 hQ2
  subst l2 y2 z2
  obtain ⟨rr2, hv2, Nq2, K2, hd2⟩ := hQ2
  subst hv2
  replace Nf := Fr.app Nf Nq2
  replace Od := Od.keep K2 (allS g_b1 all0)
  replace V_ao0 := V_ao0.keep K2 (ninS ne_ao0_b1 nin0)
  replace Zs := Nat.le_trans Zs K2.1
  replace Kp := Kp.trans K2 (allS (Or.inr sz_b1) all0)
  refine own_go (x' := T2.setTop (mkF m 12 #[.val (.ref ao0), .val (.int 0), .val (.int (Int32.ofNat xs.length)), .val (.ref b1), .unset, .unset] [(.int rr2)])) st2 ?_
  rcases hd2 with ⟨rfl, hlat, V_b1⟩ | ⟨j, xj, rfl, hj1, hj2, h255⟩
  · skip
    refine own_go (x' := T2.setTop (mkF m 58 #[.val (.ref ao0), .val (.int 0), .val (.int (Int32.ofNat xs.length)), .val (.ref b1), .val (.int (Int32.ofNat xs.length)), .unset] [(.ref b1)])) (fun _ k => XS.istore X2.here hx rfl (hb hby d16_12) rfl (l' := #[.val (.ref ao0), .val (.int 0), .val (.int (Int32.ofNat xs.length)), .val (.ref b1), .val (.int (Int32.ofNat xs.length)), .unset]) rfl (XS.iload X2.here hx rfl (hb hby d16_14) rfl (XS.iloadN X2.here hx rfl (hb hby d16_16) rfl (XS.icmpYes X2.here hx rfl (pc0 := 17) (pc' := 57) rfl (hb hby d16_17) rfl (teq rfl).1 (by decide) (by decide) (XS.aloadN X2.here hx rfl (hb hby d16_57) rfl rfl k))))) ?_
    refine own_retR X2 hx hlk hret rfl rfl (hb hby d16_58) ?_ (by decide) (by decide)
    exact ⟨b1, k1, rfl, Nf, Kp, sz_b1, g_b1, Or.inl ⟨hlat, V_b1⟩⟩
  · have hne : ¬ Int32.ofNat j = Int32.ofNat xs.length := fun q_ => absurd ((own_olt (by omega) (by omega)).mpr hj1) (by rw [q_]; exact Int32.lt_irrefl)
    refine own_go (x' := T2.setTop (mkF m 22 #[.val (.ref ao0), .val (.int 0), .val (.int (Int32.ofNat xs.length)), .val (.ref b1), .val (.int (Int32.ofNat j)), .unset] [(.int 0), (.ref ao0)])) (fun _ k => XS.istore X2.here hx rfl (hb hby d16_12) rfl (l' := #[.val (.ref ao0), .val (.int 0), .val (.int (Int32.ofNat xs.length)), .val (.ref b1), .val (.int (Int32.ofNat j)), .unset]) rfl (XS.iload X2.here hx rfl (hb hby d16_14) rfl (XS.iloadN X2.here hx rfl (hb hby d16_16) rfl (XS.icmpNo X2.here hx rfl (hb hby d16_17) rfl (feq hne).1 (XS.aloadN X2.here hx rfl (hb hby d16_20) rfl rfl (XS.iloadN X2.here hx rfl (hb hby d16_21) rfl k)))))) ?_
    refine own_go (x' := T2.setTop (mkF m 23 #[.val (.ref ao0), .val (.int 0), .val (.int (Int32.ofNat xs.length)), .val (.ref b1), .val (.int (Int32.ofNat j)), .unset] [(.int (Int32.ofNat xs.length)), (.int 0), (.ref ao0)])) (fun _ k => XS.iloadN X2.here hx rfl (hb hby d16_22) rfl k) ?_
    obtain ⟨_, _, ⟨T3, L3, k3, n3⟩, -, X3, ⟨Lc3, hQ3, l3, y3, z3⟩, st3⟩ := Jvm.LawKit.callS X2 hx (y := (⟨"java/lang/StringUTF16", "toBytes", "([CII)[B"⟩ : MethodName)) hown (mvT hZ (own_w hw 88 rfl)) (mvT hZ (own_w hw 89 rfl)) (mvT hZ (own_w hw 77 rfl)) (mvT hZ (own_w hw 90 rfl)) (by decide) (backOf (W := 0) (rm20 l Z a0 hw [] ao0 kx xs G1 sf T2.heap n0 Zs V_ao0 hlen Od hst) hZ (own_w hw 90 rfl) (own_w hw 77 rfl) (by decide) (by decide)) (g := (mkF m 23 #[.val (.ref ao0), .val (.int 0), .val (.int (Int32.ofNat xs.length)), .val (.ref b1), .val (.int (Int32.ofNat j)), .unset] [(.int (Int32.ofNat xs.length)), (.int 0), (.ref ao0)])) rfl (by rw [hml]; rfl) (argsL := [(.ref ao0), (.int 0), (.int (Int32.ofNat xs.length))]) (rest := []) (lenOf pd_18 rfl) rfl (by show 2 * 0 + _ ≤ _; exact Nat.le_of_eq rfl) (hb hby d16_23) (fun _ _ => ⟨rfl, rfl, (by decide : 1 + 1 ≤ _), (by decide : 6 + 12 ≤ _)⟩)
    dsimp only [Pt.U, Pt.locs, Pt.cells, Pt.slots] at X3 l3 y3 z3 st3 hQ3
    subst l3 y3 z3
    obtain ⟨b3, kb3, hv3, Nq3, K3, sq3, g_b3, V_b3⟩ := hQ3
    subst hv3
    replace Nf := Fr.app Nf Nq3
    have ne_ao0_b3 : ao0 ≠ b3 := Nat.ne_of_lt (Nat.lt_of_lt_of_le V_ao0.lt sq3)
    have sz_b3 : h0.size ≤ b3 := Nat.le_trans Kp.1 sq3
    replace Od := Od.keep K3 all0
    replace V_ao0 := V_ao0.keep K3 nin0
    replace Zs := Nat.le_trans Zs K3.1
    replace Kp := Kp.trans K3 all0
    refine own_go (x' := T3.setTop (mkF m 26 #[.val (.ref ao0), .val (.int 0), .val (.int (Int32.ofNat xs.length)), .val (.ref b1), .val (.int (Int32.ofNat j)), .unset] [(.ref b3)])) st3 ?_
    refine own_go (x' := T3.setTop (mkF m 32 #[.val (.ref ao0), .val (.int 0), .val (.int (Int32.ofNat xs.length)), .val (.ref b1), .val (.int (Int32.ofNat j)), .val (.ref b3)] [(.int (Int32.ofNat j)), (.ref b3)])) (fun _ k => XS.astore X3.here hx rfl (hb hby d16_26) rfl rfl (l' := #[.val (.ref ao0), .val (.int 0), .val (.int (Int32.ofNat xs.length)), .val (.ref b1), .val (.int (Int32.ofNat j)), .val (.ref b3)]) rfl (XS.aload X3.here hx rfl (hb hby d16_28) rfl rfl (XS.iload X3.here hx rfl (hb hby d16_30) rfl k))) ?_
    obtain ⟨_, _, ⟨T4, L4, k4, n4⟩, -, X4, ⟨Lc4, hQ4, l4, y4, z4⟩, st4⟩ := Jvm.LawKit.callS X3 hx (y := (⟨"java/lang/StringUTF16", "getChar", "([BI)C"⟩ : MethodName)) hown (mvT hZ (own_w hw 104 rfl)) (mvT hZ (own_w hw 105 rfl)) (mvT hZ (own_w hw 77 rfl)) (mvT hZ (own_w hw 106 rfl)) (by decide) (backOf (W := 0) (rm24 l Z a0 hw [] b3 kb3 _ _ (Int32.ofNat j) _ _ xj G1 sf T3.heap n0 Zs V_b3 (own_gc hlen hj1 hj2).1 (own_gc hlen hj1 hj2).2.1 (own_gc hlen hj1 hj2).2.2.1 (own_gc hlen hj1 hj2).2.2.2 (own_utfc (hxs _ (own_mem hj2))) Od hst) hZ (own_w hw 106 rfl) (own_w hw 77 rfl) (by decide) (by decide)) (g := (mkF m 32 #[.val (.ref ao0), .val (.int 0), .val (.int (Int32.ofNat xs.length)), .val (.ref b1), .val (.int (Int32.ofNat j)), .val (.ref b3)] [(.int (Int32.ofNat j)), (.ref b3)])) rfl (by rw [hml]; rfl) (argsL := [(.ref b3), (.int (Int32.ofNat j))]) (rest := []) (lenOf pd_4 rfl) rfl (by show 2 * 0 + _ ≤ _; exact Nat.le_of_eq rfl) (hb hby d16_32) (fun _ _ => ⟨rfl, rfl, (by decide : 2 + 0 ≤ _), (by decide : 18 + 0 ≤ _)⟩)
    dsimp only [Pt.U, Pt.locs, Pt.cells, Pt.slots] at X4 l4 y4 z4 st4 hQ4
    subst l4 y4 z4
    obtain ⟨hv4, Nq4, eq4⟩ := hQ4
    subst hv4
    replace Nf := Fr.app Nf Nq4
    refine own_go (x' := T4.setTop (mkF m 35 #[.val (.ref ao0), .val (.int 0), .val (.int (Int32.ofNat xs.length)), .val (.ref b1), .val (.int (Int32.ofNat j)), .val (.ref b3)] [(.int xj)])) st4 ?_
    refine own_go (x' := T4.setTop (mkF m 56 #[.val (.ref ao0), .val (.int 0), .val (.int (Int32.ofNat xs.length)), .val (.ref b1), .val (.int (Int32.ofNat j)), .val (.ref b3)] [(.ref b3)])) (fun _ k => XS.sipush X4.here hx rfl (hb hby d16_35) (XS.icmpYes X4.here hx rfl (pc0 := 38) (pc' := 54) rfl (hb hby d16_38) rfl (tlt h255).2.2.1 (by decide) (by decide) (XS.aload X4.here hx rfl (hb hby d16_54) rfl rfl k))) ?_
    refine own_retR X4 hx hlk hret rfl rfl (hb hby d16_56) ?_ (by decide) (by decide)
    rw [eq4]
    exact ⟨b3, kb3, rfl, Nf, Kp, sz_b3, g_b3, Or.inr ⟨by omega, V_b3⟩⟩
theorem d18_0 : decode jdk_52_method_15_code 0 = .ok (.iload_n 1, 1) := by decide +kernel
theorem d18_1 : decode jdk_52_method_15_code 1 = .ok (.aload_n 0, 1) := by decide +kernel
theorem d18_2 : decode jdk_52_method_15_code 2 = .ok (.arraylength, 1) := by decide +kernel
theorem d18_3 : decode jdk_52_method_15_code 3 = .ok (.isub, 1) := by decide +kernel
theorem d18_4 : decode jdk_52_method_15_code 4 = .ok (.bipush 31, 2) := by decide +kernel
theorem d18_6 : decode jdk_52_method_15_code 6 = .ok (.iushr, 1) := by decide +kernel
theorem d18_7 : decode jdk_52_method_15_code 7 = .ok (.i2b, 1) := by decide +kernel
theorem d18_8 : decode jdk_52_method_15_code 8 = .ok (.ireturn, 1) := by decide +kernel
def Q_rm18 (Z : State) (ao0 : Addr) (kd : ClassId) (mm : Int32) (vs : List Value) (p1 cc : Int32) (h0 : Heap) (n0 : Nat) (v : Option Value) (h : Heap) (L : List Loc) : Prop := v = some (.int cc) ∧ Fr n0 L ∧ h = h0
theorem pn_rm18 : plainName "java/lang/StringUTF16" = true := by first | (simp [plainName, overriddenIn]; done) | decide +kernel
theorem ef_rm18 (m : MethodId) (x0 : Addr) (x1 : Int32) : entryFrame m #[(.ref x0), (.int x1)] 2 = mkF m 0 #[.val (.ref x0), .val (.int x1)] [] := by first | (simp [entryFrame, mkF, argsToLocals, Value.category]; done) | rfl
set_option maxRecDepth 65536 in
set_option maxHeartbeats 40000000 in
theorem rm18 (l : Launch) (Z : State) (a0 : Array Value) (hw : ∀ d ∈ tables_1, d.before a0 Z = true) (ws : List Jvm.Cond) (ao0 : Addr) (kd : ClassId) (mm : Int32) (vs : List Value) (p1 cc : Int32) (h0 : Heap) (n0 : Nat) (Z0 : n0 ≤ h0.size) (V_ao0 : Arv Z h0 ao0 kd .byte mm vs (.int (0 : Int32))) (hk_ : nar .byte ((((p1 - mm).toUInt32 >>> ((31 : Int32) &&& 31).toUInt32).toInt32).toInt8.toInt32) = cc) :
    MetFree l (⟨"java/lang/StringUTF16", "coderFromArrayLen", "([BI)B"⟩ : MethodName) (head1 (Jvm.Cond.code (⟨"java/lang/StringUTF16", "coderFromArrayLen", "([BI)B"⟩ : MethodName) jdk_52_method_15_code 2 (some .byte) :: ws) ({ frames := 0, cells := 0, slots := 0, locals := 0 } : Room)) (fun a U => a = #[(.ref ao0), (.int p1)] ∧ Z.Warmed39 U.vm ∧ U.heap = h0) (fun _ _ _ _ _ => True) (fun _ U o U' => ∃ v L, o = .returned v ∧ (Q_rm18 Z ao0 kd mm vs p1 cc h0 n0) v U'.heap L ∧ FrameEnd U o U' L ({ frames := 0, cells := 0, slots := 0, locals := 0 } : Room).cells ({ frames := 0, cells := 0, slots := 0, locals := 0 } : Room).slots) := by
  refine MetFree.of_bodySF (plainFor_of_name pn_rm18) hisR ?_
  intro p e s m args below meth c s₁ Bd hml0 hP hK
  obtain ⟨rfl, hZ, hh⟩ := hP
  have hx := Bd.exec
  have hby := Bd.bytes
  have hlk := BodyLoose.notSynchronized Bd
  have hret := Bd.returns
  have hml : c.maxLocals = 2 := hml0
  have hown : s.vm.findClass "java/lang/StringUTF16" = some m.cls := findClass_of_methodNamed Bd.named
  have hnm := (name_of_methodNamed Bd.named Bd.method).1
  have X0 : Stand p l e ({ frames := 0, cells := 0, slots := 0, locals := 0 } : Room) s m #[(.ref ao0), (.int p1)] below meth c s₁ [] 0 0 := Stand.of_body Bd
  have e0 : s₁.heap = h0 := by rw [← hh, Bd.state]; rfl
  have Nf := Fr.nil n0
  have Zs := Z0
  have Kp : Keep h0 h0 [] := Keep.refl _ _
  show own_End p e below s (Q_rm18 Z ao0 kd mm vs p1 cc h0 n0) ({ frames := 0, cells := 0, slots := 0, locals := 0 } : Room).cells ({ frames := 0, cells := 0, slots := 0, locals := 0 } : Room).slots (s₁.setTop (entryFrame m #[(.ref ao0), (.int p1)] 2))
  refine own_go (x' := s₁.setTop (mkF m 0 #[.val (.ref ao0), .val (.int p1)] [])) (fun t k => castTop (ef_rm18 m ao0 p1) k) ?_
  refine own_go (x' := s₁.setTop (mkF m 2 #[.val (.ref ao0), .val (.int p1)] [(.ref ao0), (.int p1)])) (fun _ k => XS.iloadN X0.here hx rfl (hb hby d18_0) rfl (XS.aloadN X0.here hx rfl (hb hby d18_1) rfl rfl k)) ?_
  obtain ⟨cl1, Ar1, -, Sz1, Nn1, -, -⟩ := id V_ao0
  refine own_go (x' := s₁.setTop (mkF m 3 #[.val (.ref ao0), .val (.int p1)] [(.int mm), (.int p1)])) (fun t k => X0.arraylength hx (Eq.trans (congrArg (fun h_ => h_[_]?) e0) Ar1.1) (State.isArrayOf_alike hZ.alike Ar1.2.1) (g := (mkF m 2 #[.val (.ref ao0), .val (.int p1)] [(.ref ao0), (.int p1)])) rfl rfl (hb hby d18_2) t (by rw [len_of Sz1 Nn1]; exact k)) ?_
  refine own_go (x' := s₁.setTop (mkF m 8 #[.val (.ref ao0), .val (.int p1)] [(.int ((((p1 - mm).toUInt32 >>> ((31 : Int32) &&& 31).toUInt32).toInt32).toInt8.toInt32))])) (fun _ k => XS.isub X0.here hx rfl (hb hby d18_3) rfl (XS.bipush X0.here hx rfl (hb hby d18_4) (XS.iushr X0.here hx rfl (hb hby d18_6) rfl (XS.i2b X0.here hx rfl (hb hby d18_7) rfl k)))) ?_
  refine own_retN X0 hx hlk (t := .byte) hret (by simp) (hb hby d18_8) (w := cc) hk_ ?_ (by decide) (by decide)
  rw [e0]
  exact ⟨rfl, Nf, rfl⟩
theorem own_nz {k : Nat} (h : k ≤ 6) (h1 : 1 ≤ k) : ¬ Int32.ofNat k = (0 : Int32) := by
  have := own_on k (by omega)
  intro q
  rw [q] at this
  rw [own_k0] at this
  omega
theorem pd_19 : parseMethodDescriptor "([BI)B" = some ⟨[(.array .byte), .int], some .byte⟩ := by decide +kernel
theorem d3_0 : decode jdk_42_method_149_code 0 = .ok (.aload_n 0, 1) := by decide +kernel
theorem d3_1 : decode jdk_42_method_149_code 1 = .ok (.invokespecial 1, 3) := by decide +kernel
theorem d3_4 : decode jdk_42_method_149_code 4 = .ok (.iload_n 3, 1) := by decide +kernel
theorem d3_5 : decode jdk_42_method_149_code 5 = .ok (.ifCond .ne 22, 3) := by decide +kernel
theorem d3_27 : decode jdk_42_method_149_code 27 = .ok (.getstatic 38, 3) := by decide +kernel
theorem d3_30 : decode jdk_42_method_149_code 30 = .ok (.ifCond .eq 28, 3) := by decide +kernel
theorem d3_33 : decode jdk_42_method_149_code 33 = .ok (.aload_n 1, 1) := by decide +kernel
theorem d3_34 : decode jdk_42_method_149_code 34 = .ok (.iload_n 2, 1) := by decide +kernel
theorem d3_35 : decode jdk_42_method_149_code 35 = .ok (.iload_n 3, 1) := by decide +kernel
theorem d3_36 : decode jdk_42_method_149_code 36 = .ok (.invokestatic 177, 3) := by decide +kernel
theorem d3_39 : decode jdk_42_method_149_code 39 = .ok (.astore 5, 2) := by decide +kernel
theorem d3_41 : decode jdk_42_method_149_code 41 = .ok (.aload_n 0, 1) := by decide +kernel
theorem d3_42 : decode jdk_42_method_149_code 42 = .ok (.aload 5, 2) := by decide +kernel
theorem d3_44 : decode jdk_42_method_149_code 44 = .ok (.iload_n 3, 1) := by decide +kernel
theorem d3_45 : decode jdk_42_method_149_code 45 = .ok (.invokestatic 47, 3) := by decide +kernel
theorem d3_48 : decode jdk_42_method_149_code 48 = .ok (.putfield 15, 3) := by decide +kernel
theorem d3_51 : decode jdk_42_method_149_code 51 = .ok (.aload_n 0, 1) := by decide +kernel
theorem d3_52 : decode jdk_42_method_149_code 52 = .ok (.aload 5, 2) := by decide +kernel
theorem d3_54 : decode jdk_42_method_149_code 54 = .ok (.putfield 9, 3) := by decide +kernel
theorem d3_57 : decode jdk_42_method_149_code 57 = .ok (.return_, 1) := by decide +kernel
def Q_rm3 (Z : State) (ao0 ao1 : Addr) (kx : ClassId) (xs : List Int32) (G1 : Int32) (sf : Value) (h0 : Heap) (n0 : Nat) (v : Option Value) (h : Heap) (L : List Loc) : Prop := v = none ∧ Fr n0 L ∧ Keep h0 h [ao0] ∧ own_S Z h ao0 xs
theorem pn_rm3 : plainName "java/lang/String" = true := by first | (simp [plainName, overriddenIn]; done) | decide +kernel
theorem ef_rm3 (m : MethodId) (x0 : Addr) (x1 : Addr) (x2 : Int32) (x3 : Int32) : entryFrame m #[(.ref x0), (.ref x1), (.int x2), (.int x3), .null] 6 = mkF m 0 #[.val (.ref x0), .val (.ref x1), .val (.int x2), .val (.int x3), .val .null, .unset] [] := by first | (simp [entryFrame, mkF, argsToLocals, Value.category]; done) | rfl
set_option maxRecDepth 65536 in
set_option maxHeartbeats 40000000 in
theorem rm3 (l : Launch) (Z : State) (a0 : Array Value) (hw : ∀ d ∈ tables_1, d.before a0 Z = true) (ws : List Jvm.Cond) (ao0 ao1 : Addr) (kx : ClassId) (xs : List Int32) (G1 : Int32) (sf : Value) (h0 : Heap) (n0 : Nat) (Z0 : n0 ≤ h0.size) (E_ao0 : Exa Z h0 ao0 "java/lang/String") (F_ao0_value : Fld Z h0 ao0 "java/lang/String" "value" "[B" .null) (F_ao0_coder : Fld Z h0 ao0 "java/lang/String" "coder" "B" (.int 0)) (V_ao1 : Arv Z h0 ao1 kx .char (Int32.ofNat xs.length) (xs.map Value.int) (.int (0 : Int32))) (hxs : ∀ x ∈ xs, own_ch x) (hlen : xs.length ≤ 6) (h1 : 1 ≤ xs.length) (ne_ao0_ao1 : ao0 ≠ ao1) (g_ao0 : n0 ≤ ao0) (Od : Old Z n0 h0) (hst : own_St Z G1 sf) :
    MetFree l (⟨"java/lang/String", "<init>", "([CIILjava/lang/Void;)V"⟩ : MethodName) (head1 (Jvm.Cond.code (⟨"java/lang/String", "<init>", "([CIILjava/lang/Void;)V"⟩ : MethodName) jdk_42_method_149_code 6 none :: ws) ({ frames := 4, cells := 2, slots := 18, locals := 59 } : Room)) (fun a U => a = #[(.ref ao0), (.ref ao1), (.int 0), (.int (Int32.ofNat xs.length)), .null] ∧ Z.Warmed39 U.vm ∧ U.heap = h0) (fun _ _ _ _ _ => True) (fun _ U o U' => ∃ v L, o = .returned v ∧ (Q_rm3 Z ao0 ao1 kx xs G1 sf h0 n0) v U'.heap L ∧ FrameEnd U o U' L ({ frames := 4, cells := 2, slots := 18, locals := 59 } : Room).cells ({ frames := 4, cells := 2, slots := 18, locals := 59 } : Room).slots) := by
  refine MetFree.of_bodySF (plainFor_of_name pn_rm3) hisR ?_
  intro p e s m args below meth c s₁ Bd hml0 hP hK
  obtain ⟨rfl, hZ, hh⟩ := hP
  have hx := Bd.exec
  have hby := Bd.bytes
  have hlk := BodyLoose.notSynchronized Bd
  have hret := Bd.returns
  have hml : c.maxLocals = 6 := hml0
  have hown : s.vm.findClass "java/lang/String" = some m.cls := findClass_of_methodNamed Bd.named
  have hnm := (name_of_methodNamed Bd.named Bd.method).1
  have X0 : Stand p l e ({ frames := 4, cells := 2, slots := 18, locals := 59 } : Room) s m #[(.ref ao0), (.ref ao1), (.int 0), (.int (Int32.ofNat xs.length)), .null] below meth c s₁ [] 0 0 := Stand.of_body Bd
  have e0 : s₁.heap = h0 := by rw [← hh, Bd.state]; rfl
  have Nf := Fr.nil n0
  have Zs := Z0
  have Kp : Keep h0 h0 [ao0] := Keep.refl _ _
  obtain ⟨S_COMPACT_STRINGS, hG, S__assertionsDisabled, S_HI_BYTE_SHIFT, S_LO_BYTE_SHIFT, S_SIOOBE_FORMATTER, r_sf, c_sf⟩ := id hst
  show own_End p e below s (Q_rm3 Z ao0 ao1 kx xs G1 sf h0 n0) ({ frames := 4, cells := 2, slots := 18, locals := 59 } : Room).cells ({ frames := 4, cells := 2, slots := 18, locals := 59 } : Room).slots (s₁.setTop (entryFrame m #[(.ref ao0), (.ref ao1), (.int 0), (.int (Int32.ofNat xs.length)), .null] 6))
  refine own_go (x' := s₁.setTop (mkF m 0 #[.val (.ref ao0), .val (.ref ao1), .val (.int 0), .val (.int (Int32.ofNat xs.length)), .val .null, .unset] [])) (fun t k => castTop (ef_rm3 m ao0 ao1 (0 : Int32) (Int32.ofNat xs.length)) k) ?_
  refine own_go (x' := s₁.setTop (mkF m 1 #[.val (.ref ao0), .val (.ref ao1), .val (.int 0), .val (.int (Int32.ofNat xs.length)), .val .null, .unset] [(.ref ao0)])) (fun _ k => XS.aloadN X0.here hx rfl (hb hby d3_0) rfl rfl k) ?_
  obtain ⟨T1, X1, e1, st1⟩ := initO X0 hx hZ hown (own_w hw 16 rfl) (own_w hw 17 rfl) (own_w hw 18 rfl) e0 (g := (mkF m 1 #[.val (.ref ao0), .val (.ref ao1), .val (.int 0), .val (.int (Int32.ofNat xs.length)), .val .null, .unset] [(.ref ao0)])) rfl (by rw [hml]; rfl) rfl (hb hby d3_1) (by decide) (W := 0) (by show 2 * 0 + _ ≤ _; exact Nat.le_of_eq rfl) (by decide)
  refine own_go (x' := T1.setTop (mkF m 4 #[.val (.ref ao0), .val (.ref ao1), .val (.int 0), .val (.int (Int32.ofNat xs.length)), .val .null, .unset] [])) st1 ?_
  refine own_go (x' := T1.setTop (mkF m 27 #[.val (.ref ao0), .val (.ref ao1), .val (.int 0), .val (.int (Int32.ofNat xs.length)), .val .null, .unset] [])) (fun _ k => XS.iloadN X1.here hx rfl (hb hby d3_4) rfl (XS.ifYes X1.here hx rfl (pc0 := 5) (pc' := 27) rfl (hb hby d3_5) rfl ((if0 _ _).trans (feq (own_nz hlen h1)).2) (by decide) (by decide) k)) ?_
  obtain ⟨T2, X2, e2, st2⟩ := getS2 X1 hx hZ hown (host := "") (Or.inl (own_w hw 46 rfl)) Via.refl e1 (Sta.ext Od.2 S_COMPACT_STRINGS) (g := (mkF m 27 #[.val (.ref ao0), .val (.ref ao1), .val (.int 0), .val (.int (Int32.ofNat xs.length)), .val .null, .unset] [])) rfl (hb hby d3_27)
  refine own_go (x' := T2.setTop (mkF m 30 #[.val (.ref ao0), .val (.ref ao1), .val (.int 0), .val (.int (Int32.ofNat xs.length)), .val .null, .unset] [(.int G1)])) st2 ?_
  refine own_go (x' := T2.setTop (mkF m 36 #[.val (.ref ao0), .val (.ref ao1), .val (.int 0), .val (.int (Int32.ofNat xs.length)), .val .null, .unset] [(.int (Int32.ofNat xs.length)), (.int 0), (.ref ao1)])) (fun _ k => XS.ifNo X2.here hx rfl (hb hby d3_30) rfl ((if0 _ _).trans (feq hG).1) (XS.aloadN X2.here hx rfl (hb hby d3_33) rfl rfl (XS.iloadN X2.here hx rfl (hb hby d3_34) rfl (XS.iloadN X2.here hx rfl (hb hby d3_35) rfl k)))) ?_
  obtain ⟨_, _, ⟨T3, L3, k3, n3⟩, -, X3, ⟨Lc3, hQ3, l3, y3, z3⟩, st3⟩ := Jvm.LawKit.callS X2 hx (y := (⟨"java/lang/StringUTF16", "compress", "([CII)[B"⟩ : MethodName)) hown (mvT hZ (own_w hw 75 rfl)) (mvT hZ (own_w hw 76 rfl)) (mvT hZ (own_w hw 77 rfl)) (mvT hZ (own_w hw 78 rfl)) (by decide) (backOf (W := 0) (rm16 l Z a0 hw [] ao1 kx xs G1 sf h0 n0 Zs V_ao1 hxs hlen Od hst) hZ (own_w hw 78 rfl) (own_w hw 77 rfl) (by decide) (by decide)) (g := (mkF m 36 #[.val (.ref ao0), .val (.ref ao1), .val (.int 0), .val (.int (Int32.ofNat xs.length)), .val .null, .unset] [(.int (Int32.ofNat xs.length)), (.int 0), (.ref ao1)])) rfl (by rw [hml]; rfl) (argsL := [(.ref ao1), (.int 0), (.int (Int32.ofNat xs.length))]) (rest := []) (lenOf pd_18 rfl) rfl (by show 2 * 0 + _ ≤ _; exact Nat.le_of_eq rfl) (hb hby d3_36) (fun _ _ => ⟨rfl, e2, (by decide : 0 + 2 ≤ _), (by decide : 0 + 18 ≤ _)⟩)
  dsimp only [Pt.U, Pt.locs, Pt.cells, Pt.slots] at X3 l3 y3 z3 st3 hQ3
  subst l3 y3 z3
  obtain ⟨b3, kb3, hv3, Nq3, K3, sq3, g_b3, hd3⟩ := hQ3
  subst hv3
  replace Nf := Fr.app Nf Nq3
  have ne_ao0_b3 : ao0 ≠ b3 := Nat.ne_of_lt (Nat.lt_of_lt_of_le E_ao0.lt sq3)
  have ne_ao1_b3 : ao1 ≠ b3 := Nat.ne_of_lt (Nat.lt_of_lt_of_le V_ao1.lt sq3)
  have sz_b3 : h0.size ≤ b3 := Nat.le_trans Kp.1 sq3
  replace E_ao0 := E_ao0.keep K3
  replace F_ao0_value := F_ao0_value.keep K3 nin0
  replace F_ao0_coder := F_ao0_coder.keep K3 nin0
  replace Od := Od.keep K3 all0
  replace V_ao1 := V_ao1.keep K3 nin0
  replace Zs := Nat.le_trans Zs K3.1
  replace Kp := Kp.trans K3 all0
  refine own_go (x' := T3.setTop (mkF m 39 #[.val (.ref ao0), .val (.ref ao1), .val (.int 0), .val (.int (Int32.ofNat xs.length)), .val .null, .unset] [(.ref b3)])) st3 ?_
  rcases hd3 with ⟨hlat, V_b3⟩ | ⟨-, V_b3⟩
  · skip
    refine own_go (x' := T3.setTop (mkF m 45 #[.val (.ref ao0), .val (.ref ao1), .val (.int 0), .val (.int (Int32.ofNat xs.length)), .val .null, .val (.ref b3)] [(.int (Int32.ofNat xs.length)), (.ref b3), (.ref ao0)])) (fun _ k => XS.astore X3.here hx rfl (hb hby d3_39) rfl rfl (l' := #[.val (.ref ao0), .val (.ref ao1), .val (.int 0), .val (.int (Int32.ofNat xs.length)), .val .null, .val (.ref b3)]) rfl (XS.aloadN X3.here hx rfl (hb hby d3_41) rfl rfl (XS.aload X3.here hx rfl (hb hby d3_42) rfl rfl (XS.iloadN X3.here hx rfl (hb hby d3_44) rfl k)))) ?_
    obtain ⟨_, _, ⟨T4, L4, k4, n4⟩, -, X4, ⟨Lc4, hQ4, l4, y4, z4⟩, st4⟩ := Jvm.LawKit.callS X3 hx (y := (⟨"java/lang/StringUTF16", "coderFromArrayLen", "([BI)B"⟩ : MethodName)) hown (mvT hZ (own_w hw 82 rfl)) (mvT hZ (own_w hw 83 rfl)) (mvT hZ (own_w hw 77 rfl)) (mvT hZ (own_w hw 84 rfl)) (by decide) (backOf (W := 1) (rm18 l Z a0 hw [] b3 kb3 _ _ (Int32.ofNat xs.length) (0 : Int32)  T3.heap n0 Zs V_b3 (own_cf0 _ hlen) ) hZ (own_w hw 84 rfl) (own_w hw 77 rfl) (by decide) (by decide)) (g := (mkF m 45 #[.val (.ref ao0), .val (.ref ao1), .val (.int 0), .val (.int (Int32.ofNat xs.length)), .val .null, .val (.ref b3)] [(.int (Int32.ofNat xs.length)), (.ref b3), (.ref ao0)])) rfl (by rw [hml]; rfl) (argsL := [(.ref b3), (.int (Int32.ofNat xs.length))]) (rest := [(.ref ao0)]) (lenOf pd_19 rfl) rfl (by show 2 * 0 + _ ≤ _; exact Nat.le_of_eq rfl) (hb hby d3_45) (fun _ _ => ⟨rfl, rfl, (by decide : 2 + 0 ≤ _), (by decide : 18 + 0 ≤ _)⟩)
    dsimp only [Pt.U, Pt.locs, Pt.cells, Pt.slots] at X4 l4 y4 z4 st4 hQ4
    subst l4 y4 z4
    obtain ⟨hv4, Nq4, eq4⟩ := hQ4
    subst hv4
    replace Nf := Fr.app Nf Nq4
    refine own_go (x' := T4.setTop (mkF m 48 #[.val (.ref ao0), .val (.ref ao1), .val (.int 0), .val (.int (Int32.ofNat xs.length)), .val .null, .val (.ref b3)] [(.int 0), (.ref ao0)])) st4 ?_
    obtain ⟨T5, h5, X5, e5, W5, st5⟩ := putFN X4 hx hZ hown (own_w hw 26 rfl) Via.refl eq4 F_ao0_coder E_ao0 (Or.inr ⟨(own_w hw 22 rfl), rfl, hnm⟩) (own_w hw 7 rfl) (ty := .byte) (v' := (.int (nar .byte (0 : Int32)))) (by decide) rfl (fits_nar_byte _) (g := (mkF m 48 #[.val (.ref ao0), .val (.ref ao1), .val (.int 0), .val (.int (Int32.ofNat xs.length)), .val .null, .val (.ref b3)] [(.int 0), (.ref ao0)])) rfl rfl (hb hby d3_48)
    refine own_go (x' := T5.setTop (mkF m 51 #[.val (.ref ao0), .val (.ref ao1), .val (.int 0), .val (.int (Int32.ofNat xs.length)), .val .null, .val (.ref b3)] [])) st5 ?_
    replace E_ao0 := Exa.wr W5 E_ao0
    replace F_ao0_value := Fld.other W5 F_ao0_value (Or.inr (slot_ne (Or.inr (own_w hw 21 rfl)) (Or.inr (own_w hw 22 rfl)) (by decide) (t := (.array .byte)) (t' := .byte) (by decide) (by decide)))
    replace F_ao0_coder := Fld.same W5 F_ao0_coder
    replace Od := Od.wr W5 g_ao0
    replace V_ao1 := V_ao1.other W5 (Ne.symm ne_ao0_ao1)
    replace V_b3 := V_b3.other W5 (Ne.symm ne_ao0_b3)
    replace Zs := Nat.le_trans Zs (Keep.of_wr W5).1
    replace Nf := Fr.snoc X5 Nf g_ao0
    replace Kp := Kp.wr W5 (Or.inl (by simp))
    refine own_go (x' := T5.setTop (mkF m 54 #[.val (.ref ao0), .val (.ref ao1), .val (.int 0), .val (.int (Int32.ofNat xs.length)), .val .null, .val (.ref b3)] [(.ref b3), (.ref ao0)])) (fun _ k => XS.aloadN X5.here hx rfl (hb hby d3_51) rfl rfl (XS.aload X5.here hx rfl (hb hby d3_52) rfl rfl k)) ?_
    obtain ⟨T6, h6, X6, e6, W6, st6⟩ := putF X5 hx hZ hown (host := "") (Or.inl (own_w hw 25 rfl)) Via.refl e5 F_ao0_value E_ao0 (Or.inr ⟨(own_w hw 21 rfl), rfl, hnm⟩) (own_w hw 7 rfl) (ty := (.array .byte)) (by decide) rfl rfl (g := (mkF m 54 #[.val (.ref ao0), .val (.ref ao1), .val (.int 0), .val (.int (Int32.ofNat xs.length)), .val .null, .val (.ref b3)] [(.ref b3), (.ref ao0)])) rfl rfl (hb hby d3_54)
    refine own_go (x' := T6.setTop (mkF m 57 #[.val (.ref ao0), .val (.ref ao1), .val (.int 0), .val (.int (Int32.ofNat xs.length)), .val .null, .val (.ref b3)] [])) st6 ?_
    replace E_ao0 := Exa.wr W6 E_ao0
    replace F_ao0_value := Fld.same W6 F_ao0_value
    replace F_ao0_coder := Fld.other W6 F_ao0_coder (Or.inr (slot_ne (Or.inr (own_w hw 22 rfl)) (Or.inr (own_w hw 21 rfl)) (by decide) (t := .byte) (t' := (.array .byte)) (by decide) (by decide)))
    replace Od := Od.wr W6 g_ao0
    replace V_ao1 := V_ao1.other W6 (Ne.symm ne_ao0_ao1)
    replace V_b3 := V_b3.other W6 (Ne.symm ne_ao0_b3)
    replace Zs := Nat.le_trans Zs (Keep.of_wr W6).1
    replace Nf := Fr.snoc X6 Nf g_ao0
    replace Kp := Kp.wr W6 (Or.inl (by simp))
    refine own_retV X6 hx hlk hret (hb hby d3_57) ?_ (by decide) (by decide)
    rw [e6]
    rw [own_n0] at F_ao0_coder
    exact ⟨rfl, Nf, Kp, b3, kb3, E_ao0, F_ao0_value, hxs, Or.inl ⟨F_ao0_coder, hlat, V_b3⟩⟩
  · skip
    refine own_go (x' := T3.setTop (mkF m 45 #[.val (.ref ao0), .val (.ref ao1), .val (.int 0), .val (.int (Int32.ofNat xs.length)), .val .null, .val (.ref b3)] [(.int (Int32.ofNat xs.length)), (.ref b3), (.ref ao0)])) (fun _ k => XS.astore X3.here hx rfl (hb hby d3_39) rfl rfl (l' := #[.val (.ref ao0), .val (.ref ao1), .val (.int 0), .val (.int (Int32.ofNat xs.length)), .val .null, .val (.ref b3)]) rfl (XS.aloadN X3.here hx rfl (hb hby d3_41) rfl rfl (XS.aload X3.here hx rfl (hb hby d3_42) rfl rfl (XS.iloadN X3.here hx rfl (hb hby d3_44) rfl k)))) ?_
    obtain ⟨_, _, ⟨T7, L7, k7, n7⟩, -, X7, ⟨Lc7, hQ7, l7, y7, z7⟩, st7⟩ := Jvm.LawKit.callS X3 hx (y := (⟨"java/lang/StringUTF16", "coderFromArrayLen", "([BI)B"⟩ : MethodName)) hown (mvT hZ (own_w hw 82 rfl)) (mvT hZ (own_w hw 83 rfl)) (mvT hZ (own_w hw 77 rfl)) (mvT hZ (own_w hw 84 rfl)) (by decide) (backOf (W := 1) (rm18 l Z a0 hw [] b3 kb3 _ _ (Int32.ofNat xs.length) (1 : Int32)  T3.heap n0 Zs V_b3 (own_cf1 _ hlen h1) ) hZ (own_w hw 84 rfl) (own_w hw 77 rfl) (by decide) (by decide)) (g := (mkF m 45 #[.val (.ref ao0), .val (.ref ao1), .val (.int 0), .val (.int (Int32.ofNat xs.length)), .val .null, .val (.ref b3)] [(.int (Int32.ofNat xs.length)), (.ref b3), (.ref ao0)])) rfl (by rw [hml]; rfl) (argsL := [(.ref b3), (.int (Int32.ofNat xs.length))]) (rest := [(.ref ao0)]) (lenOf pd_19 rfl) rfl (by show 2 * 0 + _ ≤ _; exact Nat.le_of_eq rfl) (hb hby d3_45) (fun _ _ => ⟨rfl, rfl, (by decide : 2 + 0 ≤ _), (by decide : 18 + 0 ≤ _)⟩)
    dsimp only [Pt.U, Pt.locs, Pt.cells, Pt.slots] at X7 l7 y7 z7 st7 hQ7
    subst l7 y7 z7
    obtain ⟨hv7, Nq7, eq7⟩ := hQ7
    subst hv7
    replace Nf := Fr.app Nf Nq7
    refine own_go (x' := T7.setTop (mkF m 48 #[.val (.ref ao0), .val (.ref ao1), .val (.int 0), .val (.int (Int32.ofNat xs.length)), .val .null, .val (.ref b3)] [(.int 1), (.ref ao0)])) st7 ?_
    obtain ⟨T8, h8, X8, e8, W8, st8⟩ := putFN X7 hx hZ hown (own_w hw 26 rfl) Via.refl eq7 F_ao0_coder E_ao0 (Or.inr ⟨(own_w hw 22 rfl), rfl, hnm⟩) (own_w hw 7 rfl) (ty := .byte) (v' := (.int (nar .byte (1 : Int32)))) (by decide) rfl (fits_nar_byte _) (g := (mkF m 48 #[.val (.ref ao0), .val (.ref ao1), .val (.int 0), .val (.int (Int32.ofNat xs.length)), .val .null, .val (.ref b3)] [(.int 1), (.ref ao0)])) rfl rfl (hb hby d3_48)
    refine own_go (x' := T8.setTop (mkF m 51 #[.val (.ref ao0), .val (.ref ao1), .val (.int 0), .val (.int (Int32.ofNat xs.length)), .val .null, .val (.ref b3)] [])) st8 ?_
    replace E_ao0 := Exa.wr W8 E_ao0
    replace F_ao0_value := Fld.other W8 F_ao0_value (Or.inr (slot_ne (Or.inr (own_w hw 21 rfl)) (Or.inr (own_w hw 22 rfl)) (by decide) (t := (.array .byte)) (t' := .byte) (by decide) (by decide)))
    replace F_ao0_coder := Fld.same W8 F_ao0_coder
    replace Od := Od.wr W8 g_ao0
    replace V_ao1 := V_ao1.other W8 (Ne.symm ne_ao0_ao1)
    replace V_b3 := V_b3.other W8 (Ne.symm ne_ao0_b3)
    replace Zs := Nat.le_trans Zs (Keep.of_wr W8).1
    replace Nf := Fr.snoc X8 Nf g_ao0
    replace Kp := Kp.wr W8 (Or.inl (by simp))
    refine own_go (x' := T8.setTop (mkF m 54 #[.val (.ref ao0), .val (.ref ao1), .val (.int 0), .val (.int (Int32.ofNat xs.length)), .val .null, .val (.ref b3)] [(.ref b3), (.ref ao0)])) (fun _ k => XS.aloadN X8.here hx rfl (hb hby d3_51) rfl rfl (XS.aload X8.here hx rfl (hb hby d3_52) rfl rfl k)) ?_
    obtain ⟨T9, h9, X9, e9, W9, st9⟩ := putF X8 hx hZ hown (host := "") (Or.inl (own_w hw 25 rfl)) Via.refl e8 F_ao0_value E_ao0 (Or.inr ⟨(own_w hw 21 rfl), rfl, hnm⟩) (own_w hw 7 rfl) (ty := (.array .byte)) (by decide) rfl rfl (g := (mkF m 54 #[.val (.ref ao0), .val (.ref ao1), .val (.int 0), .val (.int (Int32.ofNat xs.length)), .val .null, .val (.ref b3)] [(.ref b3), (.ref ao0)])) rfl rfl (hb hby d3_54)
    refine own_go (x' := T9.setTop (mkF m 57 #[.val (.ref ao0), .val (.ref ao1), .val (.int 0), .val (.int (Int32.ofNat xs.length)), .val .null, .val (.ref b3)] [])) st9 ?_
    replace E_ao0 := Exa.wr W9 E_ao0
    replace F_ao0_value := Fld.same W9 F_ao0_value
    replace F_ao0_coder := Fld.other W9 F_ao0_coder (Or.inr (slot_ne (Or.inr (own_w hw 22 rfl)) (Or.inr (own_w hw 21 rfl)) (by decide) (t := .byte) (t' := (.array .byte)) (by decide) (by decide)))
    replace Od := Od.wr W9 g_ao0
    replace V_ao1 := V_ao1.other W9 (Ne.symm ne_ao0_ao1)
    replace V_b3 := V_b3.other W9 (Ne.symm ne_ao0_b3)
    replace Zs := Nat.le_trans Zs (Keep.of_wr W9).1
    replace Nf := Fr.snoc X9 Nf g_ao0
    replace Kp := Kp.wr W9 (Or.inl (by simp))
    refine own_retV X9 hx hlk hret (hb hby d3_57) ?_ (by decide) (by decide)
    rw [e9]
    rw [own_n1] at F_ao0_coder
    exact ⟨rfl, Nf, Kp, b3, kb3, E_ao0, F_ao0_value, hxs, Or.inr ⟨F_ao0_coder, V_b3⟩⟩
theorem pd_20 : parseMethodDescriptor "([CIILjava/lang/Void;)V" = some ⟨[(.array .char), .int, .int, (.object "java/lang/Void")], none⟩ := by decide +kernel
theorem d2_0 : decode jdk_42_method_3_code 0 = .ok (.aload_n 0, 1) := by decide +kernel
theorem d2_1 : decode jdk_42_method_3_code 1 = .ok (.aload_n 1, 1) := by decide +kernel
theorem d2_2 : decode jdk_42_method_3_code 2 = .ok (.iconst 0, 1) := by decide +kernel
theorem d2_3 : decode jdk_42_method_3_code 3 = .ok (.aload_n 1, 1) := by decide +kernel
theorem d2_4 : decode jdk_42_method_3_code 4 = .ok (.arraylength, 1) := by decide +kernel
theorem d2_5 : decode jdk_42_method_3_code 5 = .ok (.aconst_null, 1) := by decide +kernel
theorem d2_6 : decode jdk_42_method_3_code 6 = .ok (.invokespecial 27, 3) := by decide +kernel
theorem d2_9 : decode jdk_42_method_3_code 9 = .ok (.return_, 1) := by decide +kernel
def Q_rm2 (Z : State) (ao0 ao1 : Addr) (kx : ClassId) (xs : List Int32) (G1 : Int32) (sf : Value) (h0 : Heap) (n0 : Nat) (v : Option Value) (h : Heap) (L : List Loc) : Prop := v = none ∧ Fr n0 L ∧ Keep h0 h [ao0] ∧ own_S Z h ao0 xs
theorem pn_rm2 : plainName "java/lang/String" = true := by first | (simp [plainName, overriddenIn]; done) | decide +kernel
theorem ef_rm2 (m : MethodId) (x0 : Addr) (x1 : Addr) : entryFrame m #[(.ref x0), (.ref x1)] 2 = mkF m 0 #[.val (.ref x0), .val (.ref x1)] [] := by first | (simp [entryFrame, mkF, argsToLocals, Value.category]; done) | rfl
set_option maxRecDepth 65536 in
set_option maxHeartbeats 40000000 in
theorem rm2 (l : Launch) (Z : State) (a0 : Array Value) (hw : ∀ d ∈ tables_1, d.before a0 Z = true) (ws : List Jvm.Cond) (ao0 ao1 : Addr) (kx : ClassId) (xs : List Int32) (G1 : Int32) (sf : Value) (h0 : Heap) (n0 : Nat) (Z0 : n0 ≤ h0.size) (E_ao0 : Exa Z h0 ao0 "java/lang/String") (F_ao0_value : Fld Z h0 ao0 "java/lang/String" "value" "[B" .null) (F_ao0_coder : Fld Z h0 ao0 "java/lang/String" "coder" "B" (.int 0)) (V_ao1 : Arv Z h0 ao1 kx .char (Int32.ofNat xs.length) (xs.map Value.int) (.int (0 : Int32))) (hxs : ∀ x ∈ xs, own_ch x) (hlen : xs.length ≤ 6) (h1 : 1 ≤ xs.length) (ne_ao0_ao1 : ao0 ≠ ao1) (g_ao0 : n0 ≤ ao0) (Od : Old Z n0 h0) (hst : own_St Z G1 sf) :
    MetFree l (⟨"java/lang/String", "<init>", "([C)V"⟩ : MethodName) (head1 (Jvm.Cond.code (⟨"java/lang/String", "<init>", "([C)V"⟩ : MethodName) jdk_42_method_3_code 2 none :: ws) ({ frames := 5, cells := 2, slots := 18, locals := 76 } : Room)) (fun a U => a = #[(.ref ao0), (.ref ao1)] ∧ Z.Warmed39 U.vm ∧ U.heap = h0) (fun _ _ _ _ _ => True) (fun _ U o U' => ∃ v L, o = .returned v ∧ (Q_rm2 Z ao0 ao1 kx xs G1 sf h0 n0) v U'.heap L ∧ FrameEnd U o U' L ({ frames := 5, cells := 2, slots := 18, locals := 76 } : Room).cells ({ frames := 5, cells := 2, slots := 18, locals := 76 } : Room).slots) := by
  refine MetFree.of_bodySF (plainFor_of_name pn_rm2) hisR ?_
  intro p e s m args below meth c s₁ Bd hml0 hP hK
  obtain ⟨rfl, hZ, hh⟩ := hP
  have hx := Bd.exec
  have hby := Bd.bytes
  have hlk := BodyLoose.notSynchronized Bd
  have hret := Bd.returns
  have hml : c.maxLocals = 2 := hml0
  have hown : s.vm.findClass "java/lang/String" = some m.cls := findClass_of_methodNamed Bd.named
  have hnm := (name_of_methodNamed Bd.named Bd.method).1
  have X0 : Stand p l e ({ frames := 5, cells := 2, slots := 18, locals := 76 } : Room) s m #[(.ref ao0), (.ref ao1)] below meth c s₁ [] 0 0 := Stand.of_body Bd
  have e0 : s₁.heap = h0 := by rw [← hh, Bd.state]; rfl
  have Nf := Fr.nil n0
  have Zs := Z0
  have Kp : Keep h0 h0 [ao0] := Keep.refl _ _
  obtain ⟨S_COMPACT_STRINGS, hG, S__assertionsDisabled, S_HI_BYTE_SHIFT, S_LO_BYTE_SHIFT, S_SIOOBE_FORMATTER, r_sf, c_sf⟩ := id hst
  show own_End p e below s (Q_rm2 Z ao0 ao1 kx xs G1 sf h0 n0) ({ frames := 5, cells := 2, slots := 18, locals := 76 } : Room).cells ({ frames := 5, cells := 2, slots := 18, locals := 76 } : Room).slots (s₁.setTop (entryFrame m #[(.ref ao0), (.ref ao1)] 2))
  refine own_go (x' := s₁.setTop (mkF m 0 #[.val (.ref ao0), .val (.ref ao1)] [])) (fun t k => castTop (ef_rm2 m ao0 ao1) k) ?_
  refine own_go (x' := s₁.setTop (mkF m 4 #[.val (.ref ao0), .val (.ref ao1)] [(.ref ao1), (.int 0), (.ref ao1), (.ref ao0)])) (fun _ k => XS.aloadN X0.here hx rfl (hb hby d2_0) rfl rfl (XS.aloadN X0.here hx rfl (hb hby d2_1) rfl rfl (XS.iconst X0.here hx rfl (hb hby d2_2) (XS.aloadN X0.here hx rfl (hb hby d2_3) rfl rfl k)))) ?_
  obtain ⟨cl1, Ar1, -, Sz1, Nn1, -, -⟩ := id V_ao1
  refine own_go (x' := s₁.setTop (mkF m 5 #[.val (.ref ao0), .val (.ref ao1)] [(.int (Int32.ofNat xs.length)), (.int 0), (.ref ao1), (.ref ao0)])) (fun t k => X0.arraylength hx (Eq.trans (congrArg (fun h_ => h_[_]?) e0) Ar1.1) (State.isArrayOf_alike hZ.alike Ar1.2.1) (g := (mkF m 4 #[.val (.ref ao0), .val (.ref ao1)] [(.ref ao1), (.int 0), (.ref ao1), (.ref ao0)])) rfl rfl (hb hby d2_4) t (by rw [len_of Sz1 Nn1]; exact k)) ?_
  refine own_go (x' := s₁.setTop (mkF m 6 #[.val (.ref ao0), .val (.ref ao1)] [.null, (.int (Int32.ofNat xs.length)), (.int 0), (.ref ao1), (.ref ao0)])) (fun _ k => XS.aconstNull X0.here hx rfl (hb hby d2_5) k) ?_
  obtain ⟨_, _, ⟨T2, L2, k2, n2⟩, -, X2, ⟨Lc2, hQ2, l2, y2, z2⟩, st2⟩ := X0.specialBack hx (y := (⟨"java/lang/String", "<init>", "([CIILjava/lang/Void;)V"⟩ : MethodName)) rfl hown (mvT hZ (own_w hw 12 rfl)) (mvT hZ (own_w hw 13 rfl)) (mvT hZ (own_w hw 15 rfl)) (by decide) (backOf (W := 0) (rm3 l Z a0 hw [] ao0 ao1 kx xs G1 sf h0 n0 Zs E_ao0 F_ao0_value F_ao0_coder V_ao1 hxs hlen h1 ne_ao0_ao1 g_ao0 Od hst) hZ (own_w hw 15 rfl) (own_w hw 8 rfl) (by decide) (by decide)) (g := (mkF m 6 #[.val (.ref ao0), .val (.ref ao1)] [.null, (.int (Int32.ofNat xs.length)), (.int 0), (.ref ao1), (.ref ao0)])) rfl (by rw [hml]; rfl) (Steps.refl _) (a := ao0) (argsL := [(.ref ao1), (.int 0), (.int (Int32.ofNat xs.length)), .null]) (rest := []) (lenOf pd_20 rfl) rfl (by show 2 * 0 + _ ≤ _; exact Nat.le_of_eq rfl) (hb hby d2_6) (fun _ _ => ⟨rfl, e0, (by decide : 0 + 2 ≤ _), (by decide : 0 + 18 ≤ _)⟩)
  dsimp only [Pt.U, Pt.locs, Pt.cells, Pt.slots] at X2 l2 y2 z2 st2 hQ2
  subst l2 y2 z2
  obtain ⟨hv2, Nq2, K2, S_ao0⟩ := hQ2
  subst hv2
  replace Nf := Fr.app Nf Nq2
  replace Od := Od.keep K2 (allS g_ao0 all0)
  replace V_ao1 := V_ao1.keep K2 (ninS (Ne.symm ne_ao0_ao1) nin0)
  replace Zs := Nat.le_trans Zs K2.1
  replace Kp := Kp.trans K2 (allS (Or.inl (by simp)) all0)
  refine own_go (x' := T2.setTop (mkF m 9 #[.val (.ref ao0), .val (.ref ao1)] [])) (fun _ k => st2.trans k) ?_
  refine own_retV X2 hx hlk hret (hb hby d2_9) ?_ (by decide) (by decide)
  exact ⟨rfl, Nf, Kp, S_ao0⟩
theorem d3_8 : decode jdk_42_method_149_code 8 = .ok (.aload_n 0, 1) := by decide +kernel
theorem d3_9 : decode jdk_42_method_149_code 9 = .ok (.ldc 7, 2) := by decide +kernel
theorem d3_11 : decode jdk_42_method_149_code 11 = .ok (.getfield 9, 3) := by decide +kernel
theorem d3_14 : decode jdk_42_method_149_code 14 = .ok (.putfield 9, 3) := by decide +kernel
theorem d3_17 : decode jdk_42_method_149_code 17 = .ok (.aload_n 0, 1) := by decide +kernel
theorem d3_18 : decode jdk_42_method_149_code 18 = .ok (.ldc 7, 2) := by decide +kernel
theorem d3_20 : decode jdk_42_method_149_code 20 = .ok (.getfield 15, 3) := by decide +kernel
theorem d3_23 : decode jdk_42_method_149_code 23 = .ok (.putfield 15, 3) := by decide +kernel
theorem d3_26 : decode jdk_42_method_149_code 26 = .ok (.return_, 1) := by decide +kernel
def Q_rm3e (Z : State) (ao0 ao1 : Addr) (h0 : Heap) (n0 : Nat) (v : Option Value) (h : Heap) (L : List Loc) : Prop := v = none ∧ Fr n0 L ∧ Keep h0 h [ao0] ∧ own_S Z h ao0 []
theorem pn_rm3e : plainName "java/lang/String" = true := by first | (simp [plainName, overriddenIn]; done) | decide +kernel
theorem ef_rm3e (m : MethodId) (x0 : Addr) (x1 : Addr) (x2 : Int32) (x3 : Int32) : entryFrame m #[(.ref x0), (.ref x1), (.int x2), (.int x3), .null] 6 = mkF m 0 #[.val (.ref x0), .val (.ref x1), .val (.int x2), .val (.int x3), .val .null, .unset] [] := by first | (simp [entryFrame, mkF, argsToLocals, Value.category]; done) | rfl
set_option maxRecDepth 65536 in
set_option maxHeartbeats 40000000 in
theorem rm3e (l : Launch) (Z : State) (a0 : Array Value) (hw : ∀ d ∈ tables_1, d.before a0 Z = true) (ws : List Jvm.Cond) (ao0 ao1 : Addr) (h0 : Heap) (n0 : Nat) (Z0 : n0 ≤ h0.size) (E_ao0 : Exa Z h0 ao0 "java/lang/String") (F_ao0_value : Fld Z h0 ao0 "java/lang/String" "value" "[B" .null) (F_ao0_coder : Fld Z h0 ao0 "java/lang/String" "coder" "B" (.int 0)) (g_ao0 : n0 ≤ ao0) :
    MetFree l (⟨"java/lang/String", "<init>", "([CIILjava/lang/Void;)V"⟩ : MethodName) (head1 (Jvm.Cond.code (⟨"java/lang/String", "<init>", "([CIILjava/lang/Void;)V"⟩ : MethodName) jdk_42_method_149_code 6 none :: ws) ({ frames := 1, cells := 4, slots := 8, locals := 12 } : Room)) (fun a U => a = #[(.ref ao0), (.ref ao1), (.int 0), (.int 0), .null] ∧ Z.Warmed39 U.vm ∧ U.heap = h0 ∧ CHv Z own_EL U.vm h0) (fun _ _ _ _ _ => True) (fun _ U o U' => ∃ v L, o = .returned v ∧ (Q_rm3e Z ao0 ao1 h0 n0) v U'.heap L ∧ CHr Z own_EL U.vm U.heap U'.vm U'.heap ∧ ReturnedEndW U o U' L ({ frames := 1, cells := 4, slots := 8, locals := 12 } : Room).cells ({ frames := 1, cells := 4, slots := 8, locals := 12 } : Room).slots) := by
  refine MetFree.of_bodySF (plainFor_of_name pn_rm3e) hisR ?_
  intro p e s m args below meth c s₁ Bd hml0 hP hK
  obtain ⟨rfl, hZ, hh, hC⟩ := hP
  have hx := Bd.exec
  have hby := Bd.bytes
  have hlk := BodyLoose.notSynchronized Bd
  have hret := Bd.returns
  have hml : c.maxLocals = 6 := hml0
  have hown : s.vm.findClass "java/lang/String" = some m.cls := findClass_of_methodNamed Bd.named
  have hnm := (name_of_methodNamed Bd.named Bd.method).1
  have X0 : Stand p l e ({ frames := 1, cells := 4, slots := 8, locals := 12 } : Room) s m #[(.ref ao0), (.ref ao1), (.int 0), (.int 0), .null] below meth c s₁ [] 0 0 := Stand.of_body Bd
  have e0 : s₁.heap = h0 := by rw [← hh, Bd.state]; rfl
  have Nf := Fr.nil n0
  have Zs := Z0
  have Kp : Keep h0 h0 [ao0] := Keep.refl _ _
  obtain ⟨vm0, k0, X0, hS, hk, hZ, hown, hR⟩ : ∃ (vm0 : Vm) (k0 : Nat), Stand p l e ({ frames := 1, cells := 4, slots := 8, locals := 12 } : Room) (s.setVm vm0) m #[(.ref ao0), (.ref ao1), (.int 0), (.int 0), .null] below meth c s₁ [] 0 0 ∧ s.Since vm0 k0 ∧ k0 ≤ h0.size ∧ Z.Warmed39 (s.setVm vm0).vm ∧ (s.setVm vm0).vm.findClass "java/lang/String" = some m.cls ∧ CHr Z own_EL s.vm s.heap vm0 h0 := ⟨s.vm, s.heap.size, X0, (State.WarmedH.refl s).since _, Nat.le_of_eq (congrArg Array.size hh), hZ, hown, by rw [hh]; exact CHr.refl hC⟩
  have Sf_ao0 := own_sfN (EL := own_EL) (vm := vm0) hZ.alike E_ao0 F_ao0_value
  show own_EndH Z own_EL p e below s (Q_rm3e Z ao0 ao1 h0 n0) ({ frames := 1, cells := 4, slots := 8, locals := 12 } : Room).cells ({ frames := 1, cells := 4, slots := 8, locals := 12 } : Room).slots (s₁.setTop (entryFrame m #[(.ref ao0), (.ref ao1), (.int 0), (.int 0), .null] 6))
  refine own_goH (x' := s₁.setTop (mkF m 0 #[.val (.ref ao0), .val (.ref ao1), .val (.int 0), .val (.int 0), .val .null, .unset] [])) (fun t k => castTop (ef_rm3e m ao0 ao1 (0 : Int32) (0 : Int32)) k) ?_
  refine own_goH (x' := s₁.setTop (mkF m 1 #[.val (.ref ao0), .val (.ref ao1), .val (.int 0), .val (.int 0), .val .null, .unset] [(.ref ao0)])) (fun _ k => XS.aloadN X0.here hx rfl (hb hby d3_0) rfl rfl k) ?_
  obtain ⟨T1, X1, e1, st1⟩ := initO X0 hx hZ hown (own_w hw 16 rfl) (own_w hw 17 rfl) (own_w hw 18 rfl) e0 (g := (mkF m 1 #[.val (.ref ao0), .val (.ref ao1), .val (.int 0), .val (.int 0), .val .null, .unset] [(.ref ao0)])) rfl (by rw [hml]; rfl) rfl (hb hby d3_1) (by decide) (W := 0) (by show 2 * 0 + _ ≤ _; exact Nat.le_of_eq rfl) (by decide)
  refine own_goH (x' := T1.setTop (mkF m 4 #[.val (.ref ao0), .val (.ref ao1), .val (.int 0), .val (.int 0), .val .null, .unset] [])) st1 ?_
  refine own_goH (x' := T1.setTop (mkF m 9 #[.val (.ref ao0), .val (.ref ao1), .val (.int 0), .val (.int 0), .val .null, .unset] [(.ref ao0)])) (fun _ k => XS.iloadN X1.here hx rfl (hb hby d3_4) rfl (XS.ifNo X1.here hx rfl (hb hby d3_5) rfl ((if0 _ _).trans (teq rfl).2) (XS.aloadN X1.here hx rfl (hb hby d3_8) rfl rfl k))) ?_
  obtain ⟨c2, T2, h2, kk2, d2, kd2, X2, e2, E2, hS, hk', hZ, hown, E_c2, F_c2_coder, F_c2_value, V_d2, -, -, C2, -, sf2, st2⟩ := ldcCH X1 hx hZ hown (own_w hw 19 rfl) (own_wS hw) e1 hS hk (own_EW hw) (by decide) hR.1 (vs := []) (z := (0 : Int32)) ⟨by decide, by decide⟩ (by decide) (by decide) (g := (mkF m 9 #[.val (.ref ao0), .val (.ref ao1), .val (.int 0), .val (.int 0), .val .null, .unset] [(.ref ao0)])) rfl (hb hby d3_9) (n := 0) (by decide) (by decide) (by decide) (by decide)
  replace Sf_ao0 := C2.safe E_ao0.lt Sf_ao0
  replace hR := hR.trans C2
  replace E_ao0 := Exa.ext E2 E_ao0
  replace F_ao0_value := Fld.ext E2 F_ao0_value
  replace F_ao0_coder := Fld.ext E2 F_ao0_coder
  replace Zs := Nat.le_trans Zs E2.1
  replace hk := Nat.le_trans hk E2.1
  replace Kp := Kp.ext E2
  replace hk := hk'
  have ne_ao0_c2 := (sf2 _ Sf_ao0).1
  have ne_ao0_d2 := (sf2 _ Sf_ao0).2
  refine own_goH (x' := T2.setTop (mkF m 11 #[.val (.ref ao0), .val (.ref ao1), .val (.int 0), .val (.int 0), .val .null, .unset] [(.ref c2), (.ref ao0)])) st2 ?_
  obtain ⟨T3, X3, e3, st3⟩ := getF X2 hx hZ hown (host := "") (Or.inl (own_w hw 25 rfl)) Via.refl e2 F_c2_value (g := (mkF m 11 #[.val (.ref ao0), .val (.ref ao1), .val (.int 0), .val (.int 0), .val .null, .unset] [(.ref c2), (.ref ao0)])) rfl rfl (hb hby d3_11)
  refine own_goH (x' := T3.setTop (mkF m 14 #[.val (.ref ao0), .val (.ref ao1), .val (.int 0), .val (.int 0), .val .null, .unset] [(.ref d2), (.ref ao0)])) st3 ?_
  obtain ⟨T4, h4, X4, e4, W4, st4⟩ := putF X3 hx hZ hown (host := "") (Or.inl (own_w hw 25 rfl)) Via.refl e3 F_ao0_value E_ao0 (Or.inr ⟨(own_w hw 21 rfl), rfl, hnm⟩) (own_w hw 7 rfl) (ty := (.array .byte)) (by decide) rfl rfl (g := (mkF m 14 #[.val (.ref ao0), .val (.ref ao1), .val (.int 0), .val (.int 0), .val .null, .unset] [(.ref d2), (.ref ao0)])) rfl rfl (hb hby d3_14)
  refine own_goH (x' := T4.setTop (mkF m 17 #[.val (.ref ao0), .val (.ref ao1), .val (.int 0), .val (.int 0), .val .null, .unset] [])) st4 ?_
  replace E_ao0 := Exa.wr W4 E_ao0
  replace F_ao0_value := Fld.same W4 F_ao0_value
  replace F_ao0_coder := Fld.other W4 F_ao0_coder (Or.inr (slot_ne (Or.inr (own_w hw 22 rfl)) (Or.inr (own_w hw 21 rfl)) (by decide) (t := .byte) (t' := (.array .byte)) (by decide) (by decide)))
  replace E_c2 := Exa.wr W4 E_c2
  replace F_c2_coder := Fld.other W4 F_c2_coder (Or.inl (Ne.symm ne_ao0_c2))
  replace F_c2_value := Fld.other W4 F_c2_value (Or.inl (Ne.symm ne_ao0_c2))
  replace V_d2 := V_d2.other W4 (Ne.symm ne_ao0_d2)
  replace Zs := Nat.le_trans Zs (Keep.of_wr W4).1
  replace hk := Nat.le_trans hk (Keep.of_wr W4).1
  have Sq_ao0 := Safe.wr W4 Sf_ao0 hR.1 Sf_ao0
  replace hR := hR.trans (CHr.wr W4 Sf_ao0 hR.1)
  replace Sf_ao0 := Sq_ao0
  replace Nf := Fr.snoc X4 Nf g_ao0
  replace Kp := Kp.wr W4 (Or.inl (by simp))
  refine own_goH (x' := T4.setTop (mkF m 18 #[.val (.ref ao0), .val (.ref ao1), .val (.int 0), .val (.int 0), .val .null, .unset] [(.ref ao0)])) (fun _ k => XS.aloadN X4.here hx rfl (hb hby d3_17) rfl rfl k) ?_
  obtain ⟨c5, T5, h5, kk5, d5, kd5, X5, e5, E5, hS, hk', hZ, hown, E_c5, F_c5_coder, F_c5_value, V_d5, -, -, C5, -, sf5, st5⟩ := ldcCH X4 hx hZ hown (own_w hw 19 rfl) (own_wS hw) e4 hS hk (own_EW hw) (by decide) hR.1 (vs := []) (z := (0 : Int32)) ⟨by decide, by decide⟩ (by decide) (by decide) (g := (mkF m 18 #[.val (.ref ao0), .val (.ref ao1), .val (.int 0), .val (.int 0), .val .null, .unset] [(.ref ao0)])) rfl (hb hby d3_18) (n := 0) (by decide) (by decide) (by decide) (by decide)
  replace Sf_ao0 := C5.safe E_ao0.lt Sf_ao0
  replace hR := hR.trans C5
  replace E_ao0 := Exa.ext E5 E_ao0
  replace F_ao0_value := Fld.ext E5 F_ao0_value
  replace F_ao0_coder := Fld.ext E5 F_ao0_coder
  replace E_c2 := Exa.ext E5 E_c2
  replace F_c2_coder := Fld.ext E5 F_c2_coder
  replace F_c2_value := Fld.ext E5 F_c2_value
  replace V_d2 := V_d2.ext E5
  replace Zs := Nat.le_trans Zs E5.1
  replace hk := Nat.le_trans hk E5.1
  replace Kp := Kp.ext E5
  replace hk := hk'
  have ne_ao0_c5 := (sf5 _ Sf_ao0).1
  have ne_ao0_d5 := (sf5 _ Sf_ao0).2
  refine own_goH (x' := T5.setTop (mkF m 20 #[.val (.ref ao0), .val (.ref ao1), .val (.int 0), .val (.int 0), .val .null, .unset] [(.ref c5), (.ref ao0)])) st5 ?_
  obtain ⟨T6, X6, e6, st6⟩ := getF X5 hx hZ hown (host := "") (Or.inl (own_w hw 26 rfl)) Via.refl e5 F_c5_coder (g := (mkF m 20 #[.val (.ref ao0), .val (.ref ao1), .val (.int 0), .val (.int 0), .val .null, .unset] [(.ref c5), (.ref ao0)])) rfl rfl (hb hby d3_20)
  refine own_goH (x' := T6.setTop (mkF m 23 #[.val (.ref ao0), .val (.ref ao1), .val (.int 0), .val (.int 0), .val .null, .unset] [(.int 0), (.ref ao0)])) st6 ?_
  obtain ⟨T7, h7, X7, e7, W7, st7⟩ := putFN X6 hx hZ hown (own_w hw 26 rfl) Via.refl e6 F_ao0_coder E_ao0 (Or.inr ⟨(own_w hw 22 rfl), rfl, hnm⟩) (own_w hw 7 rfl) (ty := .byte) (v' := (.int (nar .byte 0))) (by decide) rfl (fits_nar_byte _) (g := (mkF m 23 #[.val (.ref ao0), .val (.ref ao1), .val (.int 0), .val (.int 0), .val .null, .unset] [(.int 0), (.ref ao0)])) rfl rfl (hb hby d3_23)
  refine own_goH (x' := T7.setTop (mkF m 26 #[.val (.ref ao0), .val (.ref ao1), .val (.int 0), .val (.int 0), .val .null, .unset] [])) st7 ?_
  replace E_ao0 := Exa.wr W7 E_ao0
  replace F_ao0_value := Fld.other W7 F_ao0_value (Or.inr (slot_ne (Or.inr (own_w hw 21 rfl)) (Or.inr (own_w hw 22 rfl)) (by decide) (t := (.array .byte)) (t' := .byte) (by decide) (by decide)))
  replace F_ao0_coder := Fld.same W7 F_ao0_coder
  replace E_c2 := Exa.wr W7 E_c2
  replace F_c2_coder := Fld.other W7 F_c2_coder (Or.inl (Ne.symm ne_ao0_c2))
  replace F_c2_value := Fld.other W7 F_c2_value (Or.inl (Ne.symm ne_ao0_c2))
  replace V_d2 := V_d2.other W7 (Ne.symm ne_ao0_d2)
  replace E_c5 := Exa.wr W7 E_c5
  replace F_c5_coder := Fld.other W7 F_c5_coder (Or.inl (Ne.symm ne_ao0_c5))
  replace F_c5_value := Fld.other W7 F_c5_value (Or.inl (Ne.symm ne_ao0_c5))
  replace V_d5 := V_d5.other W7 (Ne.symm ne_ao0_d5)
  replace Zs := Nat.le_trans Zs (Keep.of_wr W7).1
  replace hk := Nat.le_trans hk (Keep.of_wr W7).1
  have Sq_ao0 := Safe.wr W7 Sf_ao0 hR.1 Sf_ao0
  replace hR := hR.trans (CHr.wr W7 Sf_ao0 hR.1)
  replace Sf_ao0 := Sq_ao0
  replace Nf := Fr.snoc X7 Nf g_ao0
  replace Kp := Kp.wr W7 (Or.inl (by simp))
  refine own_retVH X7 hS (own_hk e7 hk) (own_hr e7 hR) hZ (own_EW hw) hx hlk hret (hb hby d3_26) ?_ (by decide) (by decide)
  rw [e7]
  rw [own_n0] at F_ao0_coder
  exact ⟨rfl, Nf, Kp, d2, kd2, E_ao0, F_ao0_value, fun z hz => absurd hz (by simp), Or.inl ⟨F_ao0_coder, fun z hz => absurd hz (by simp), V_d2⟩⟩
def Q_rm2e (Z : State) (ao0 ao1 : Addr) (kx : ClassId) (h0 : Heap) (n0 : Nat) (v : Option Value) (h : Heap) (L : List Loc) : Prop := v = none ∧ Fr n0 L ∧ Keep h0 h [ao0] ∧ own_S Z h ao0 []
theorem pn_rm2e : plainName "java/lang/String" = true := by first | (simp [plainName, overriddenIn]; done) | decide +kernel
theorem ef_rm2e (m : MethodId) (x0 : Addr) (x1 : Addr) : entryFrame m #[(.ref x0), (.ref x1)] 2 = mkF m 0 #[.val (.ref x0), .val (.ref x1)] [] := by first | (simp [entryFrame, mkF, argsToLocals, Value.category]; done) | rfl
set_option maxRecDepth 65536 in
set_option maxHeartbeats 40000000 in
theorem rm2e (l : Launch) (Z : State) (a0 : Array Value) (hw : ∀ d ∈ tables_1, d.before a0 Z = true) (ws : List Jvm.Cond) (ao0 ao1 : Addr) (kx : ClassId) (h0 : Heap) (n0 : Nat) (Z0 : n0 ≤ h0.size) (E_ao0 : Exa Z h0 ao0 "java/lang/String") (F_ao0_value : Fld Z h0 ao0 "java/lang/String" "value" "[B" .null) (F_ao0_coder : Fld Z h0 ao0 "java/lang/String" "coder" "B" (.int 0)) (V_ao1 : Arv Z h0 ao1 kx .char (0 : Int32) [] (.int (0 : Int32))) (ne_ao0_ao1 : ao0 ≠ ao1) (g_ao0 : n0 ≤ ao0) :
    MetFree l (⟨"java/lang/String", "<init>", "([C)V"⟩ : MethodName) (head1 (Jvm.Cond.code (⟨"java/lang/String", "<init>", "([C)V"⟩ : MethodName) jdk_42_method_3_code 2 none :: ws) ({ frames := 2, cells := 4, slots := 8, locals := 29 } : Room)) (fun a U => a = #[(.ref ao0), (.ref ao1)] ∧ Z.Warmed39 U.vm ∧ U.heap = h0 ∧ CHv Z own_EL U.vm h0) (fun _ _ _ _ _ => True) (fun _ U o U' => ∃ v L, o = .returned v ∧ (Q_rm2e Z ao0 ao1 kx h0 n0) v U'.heap L ∧ CHr Z own_EL U.vm U.heap U'.vm U'.heap ∧ ReturnedEndW U o U' L ({ frames := 2, cells := 4, slots := 8, locals := 29 } : Room).cells ({ frames := 2, cells := 4, slots := 8, locals := 29 } : Room).slots) := by
  refine MetFree.of_bodySF (plainFor_of_name pn_rm2e) hisR ?_
  intro p e s m args below meth c s₁ Bd hml0 hP hK
  obtain ⟨rfl, hZ, hh, hC⟩ := hP
  have hx := Bd.exec
  have hby := Bd.bytes
  have hlk := BodyLoose.notSynchronized Bd
  have hret := Bd.returns
  have hml : c.maxLocals = 2 := hml0
  have hown : s.vm.findClass "java/lang/String" = some m.cls := findClass_of_methodNamed Bd.named
  have hnm := (name_of_methodNamed Bd.named Bd.method).1
  have X0 : Stand p l e ({ frames := 2, cells := 4, slots := 8, locals := 29 } : Room) s m #[(.ref ao0), (.ref ao1)] below meth c s₁ [] 0 0 := Stand.of_body Bd
  have e0 : s₁.heap = h0 := by rw [← hh, Bd.state]; rfl
  have Nf := Fr.nil n0
  have Zs := Z0
  have Kp : Keep h0 h0 [ao0] := Keep.refl _ _
  obtain ⟨vm0, k0, X0, hS, hk, hZ, hown, hR⟩ : ∃ (vm0 : Vm) (k0 : Nat), Stand p l e ({ frames := 2, cells := 4, slots := 8, locals := 29 } : Room) (s.setVm vm0) m #[(.ref ao0), (.ref ao1)] below meth c s₁ [] 0 0 ∧ s.Since vm0 k0 ∧ k0 ≤ h0.size ∧ Z.Warmed39 (s.setVm vm0).vm ∧ (s.setVm vm0).vm.findClass "java/lang/String" = some m.cls ∧ CHr Z own_EL s.vm s.heap vm0 h0 := ⟨s.vm, s.heap.size, X0, (State.WarmedH.refl s).since _, Nat.le_of_eq (congrArg Array.size hh), hZ, hown, by rw [hh]; exact CHr.refl hC⟩
  show own_EndH Z own_EL p e below s (Q_rm2e Z ao0 ao1 kx h0 n0) ({ frames := 2, cells := 4, slots := 8, locals := 29 } : Room).cells ({ frames := 2, cells := 4, slots := 8, locals := 29 } : Room).slots (s₁.setTop (entryFrame m #[(.ref ao0), (.ref ao1)] 2))
  refine own_goH (x' := s₁.setTop (mkF m 0 #[.val (.ref ao0), .val (.ref ao1)] [])) (fun t k => castTop (ef_rm2e m ao0 ao1) k) ?_
  refine own_goH (x' := s₁.setTop (mkF m 4 #[.val (.ref ao0), .val (.ref ao1)] [(.ref ao1), (.int 0), (.ref ao1), (.ref ao0)])) (fun _ k => XS.aloadN X0.here hx rfl (hb hby d2_0) rfl rfl (XS.aloadN X0.here hx rfl (hb hby d2_1) rfl rfl (XS.iconst X0.here hx rfl (hb hby d2_2) (XS.aloadN X0.here hx rfl (hb hby d2_3) rfl rfl k)))) ?_
  obtain ⟨cl1, Ar1, -, Sz1, Nn1, -, -⟩ := id V_ao1
  refine own_goH (x' := s₁.setTop (mkF m 5 #[.val (.ref ao0), .val (.ref ao1)] [(.int 0), (.int 0), (.ref ao1), (.ref ao0)])) (fun t k => X0.arraylength hx (Eq.trans (congrArg (fun h_ => h_[_]?) e0) Ar1.1) (State.isArrayOf_alike hZ.alike Ar1.2.1) (g := (mkF m 4 #[.val (.ref ao0), .val (.ref ao1)] [(.ref ao1), (.int 0), (.ref ao1), (.ref ao0)])) rfl rfl (hb hby d2_4) t (by rw [len_of Sz1 Nn1]; exact k)) ?_
  refine own_goH (x' := s₁.setTop (mkF m 6 #[.val (.ref ao0), .val (.ref ao1)] [.null, (.int 0), (.int 0), (.ref ao1), (.ref ao0)])) (fun _ k => XS.aconstNull X0.here hx rfl (hb hby d2_5) k) ?_
  obtain ⟨_, _, ⟨T2, L2, k2, n2⟩, -, X2, Sw2, Gw2, ⟨Lc2, hQ2, l2, y2, z2, Cw2⟩, st2⟩ := X0.specialBackS hx (y := (⟨"java/lang/String", "<init>", "([CIILjava/lang/Void;)V"⟩ : MethodName)) rfl hown (mvT hZ (own_w hw 12 rfl)) (mvT hZ (own_w hw 13 rfl)) (mvT hZ (own_w hw 15 rfl)) (by decide) (backOfSH (W := 0) (rm3e l Z a0 hw [] ao0 ao1 h0 n0 Zs E_ao0 F_ao0_value F_ao0_coder g_ao0) hZ (own_w hw 15 rfl) (own_w hw 8 rfl) (by decide) (by decide) (own_EW hw) hR.1) (g := (mkF m 6 #[.val (.ref ao0), .val (.ref ao1)] [.null, (.int 0), (.int 0), (.ref ao1), (.ref ao0)])) rfl (by rw [hml]; rfl) (Steps.refl _) (a := ao0) (argsL := [(.ref ao1), (.int 0), (.int 0), .null]) (rest := []) (lenOf pd_20 rfl) rfl (by show 2 * 0 + _ ≤ _; exact Nat.le_of_eq rfl) (hb hby d2_6) (fun _ _ => ⟨rfl, e0, (by decide : 0 + 4 ≤ _), (by decide : 0 + 8 ≤ _)⟩)
  dsimp only [Pt.U, Pt.locs, Pt.cells, Pt.slots] at X2 l2 y2 z2 st2 hQ2 Sw2 Gw2 Cw2
  subst l2 y2 z2
  obtain ⟨X2, Sw2, hZ, hown⟩ := rebS hS (own_hk e0 hk) X2 Sw2 Gw2 hZ hown
  replace hR := hR.trans Cw2
  obtain ⟨hv2, Nq2, K2, S_ao0⟩ := hQ2
  subst hv2
  replace Nf := Fr.app Nf Nq2
  replace V_ao1 := V_ao1.keep K2 (ninS (Ne.symm ne_ao0_ao1) nin0)
  replace Zs := Nat.le_trans Zs K2.1
  replace hk := Nat.le_trans hk K2.1
  replace Kp := Kp.trans K2 (allS (Or.inl (by simp)) all0)
  replace hS := Sw2
  replace hk := Nat.le_refl (Array.size T2.heap)
  refine own_goH (x' := T2.setTop (mkF m 9 #[.val (.ref ao0), .val (.ref ao1)] [])) (fun _ k => st2.trans k) ?_
  refine own_retVH X2 hS (own_hk rfl hk) (own_hr rfl hR) hZ (own_EW hw) hx hlk hret (hb hby d2_9) ?_ (by decide) (by decide)
  exact ⟨rfl, Nf, Kp, S_ao0⟩
theorem own_nrm (ys : List Int32) : ∀ x ∈ ys.map (nar .char), own_ch x := fun x hx => by
  obtain ⟨y, -, rfl⟩ := List.mem_map.mp hx
  exact own_nr y
theorem own_six {p : Int32} (h : ¬ p < 0 ∧ ¬ (6 : Int32) < p) (h0 : ¬ p = 0) (h1 : ¬ p = 1) (h2 : ¬ p = 2) (h3 : ¬ p = 3) (h4 : ¬ p = 4) (h5 : ¬ p = 5) : p = 6 := by
  have a := mt own_lt.mpr h.1
  have b := mt own_lt.mpr h.2
  have c0 := mt Int32.toInt_inj.mp h0
  have c1 := mt Int32.toInt_inj.mp h1
  have c2 := mt Int32.toInt_inj.mp h2
  have c3 := mt Int32.toInt_inj.mp h3
  have c4 := mt Int32.toInt_inj.mp h4
  have c5 := mt Int32.toInt_inj.mp h5
  simp only [show (0 : Int32).toInt = 0 from by decide, show (1 : Int32).toInt = 1 from by decide, show (2 : Int32).toInt = 2 from by decide, show (3 : Int32).toInt = 3 from by decide, show (4 : Int32).toInt = 4 from by decide, show (5 : Int32).toInt = 5 from by decide, show (6 : Int32).toInt = 6 from by decide] at a b c0 c1 c2 c3 c4 c5
  exact Int32.toInt_inj.mp (by rw [show (6 : Int32).toInt = 6 from by decide]; omega)
theorem pd_21 : parseMethodDescriptor "([C)V" = some ⟨[(.array .char)], none⟩ := by decide +kernel
theorem d1_0 : decode method_3_code 0 = .ok (.iload_n 0, 1) := by decide +kernel
theorem d1_1 : decode method_3_code 1 = .ok (.ifCond .ne 14, 3) := by decide +kernel
theorem d1_4 : decode method_3_code 4 = .ok (.new 31, 3) := by decide +kernel
theorem d1_7 : decode method_3_code 7 = .ok (.dup, 1) := by decide +kernel
theorem d1_8 : decode method_3_code 8 = .ok (.iconst 0, 1) := by decide +kernel
theorem d1_9 : decode method_3_code 9 = .ok (.newarray .char, 2) := by decide +kernel
theorem d1_11 : decode method_3_code 11 = .ok (.invokespecial 33, 3) := by decide +kernel
theorem d1_14 : decode method_3_code 14 = .ok (.areturn, 1) := by decide +kernel
theorem d1_15 : decode method_3_code 15 = .ok (.iload_n 0, 1) := by decide +kernel
theorem d1_16 : decode method_3_code 16 = .ok (.iconst 1, 1) := by decide +kernel
theorem d1_17 : decode method_3_code 17 = .ok (.if_icmp .ne 20, 3) := by decide +kernel
theorem d1_20 : decode method_3_code 20 = .ok (.new 31, 3) := by decide +kernel
theorem d1_23 : decode method_3_code 23 = .ok (.dup, 1) := by decide +kernel
theorem d1_24 : decode method_3_code 24 = .ok (.iconst 1, 1) := by decide +kernel
theorem d1_25 : decode method_3_code 25 = .ok (.newarray .char, 2) := by decide +kernel
theorem d1_27 : decode method_3_code 27 = .ok (.dup, 1) := by decide +kernel
theorem d1_28 : decode method_3_code 28 = .ok (.iconst 0, 1) := by decide +kernel
theorem d1_29 : decode method_3_code 29 = .ok (.aload_n 1, 1) := by decide +kernel
theorem d1_30 : decode method_3_code 30 = .ok (.iconst 0, 1) := by decide +kernel
theorem d1_31 : decode method_3_code 31 = .ok (.caload, 1) := by decide +kernel
theorem d1_32 : decode method_3_code 32 = .ok (.castore, 1) := by decide +kernel
theorem d1_33 : decode method_3_code 33 = .ok (.invokespecial 33, 3) := by decide +kernel
theorem d1_36 : decode method_3_code 36 = .ok (.areturn, 1) := by decide +kernel
theorem d1_37 : decode method_3_code 37 = .ok (.iload_n 0, 1) := by decide +kernel
theorem d1_38 : decode method_3_code 38 = .ok (.iconst 2, 1) := by decide +kernel
theorem d1_39 : decode method_3_code 39 = .ok (.if_icmp .ne 26, 3) := by decide +kernel
theorem d1_42 : decode method_3_code 42 = .ok (.new 31, 3) := by decide +kernel
theorem d1_45 : decode method_3_code 45 = .ok (.dup, 1) := by decide +kernel
theorem d1_46 : decode method_3_code 46 = .ok (.iconst 2, 1) := by decide +kernel
theorem d1_47 : decode method_3_code 47 = .ok (.newarray .char, 2) := by decide +kernel
theorem d1_49 : decode method_3_code 49 = .ok (.dup, 1) := by decide +kernel
theorem d1_50 : decode method_3_code 50 = .ok (.iconst 0, 1) := by decide +kernel
theorem d1_51 : decode method_3_code 51 = .ok (.aload_n 1, 1) := by decide +kernel
theorem d1_52 : decode method_3_code 52 = .ok (.iconst 0, 1) := by decide +kernel
theorem d1_53 : decode method_3_code 53 = .ok (.caload, 1) := by decide +kernel
theorem d1_54 : decode method_3_code 54 = .ok (.castore, 1) := by decide +kernel
theorem d1_55 : decode method_3_code 55 = .ok (.dup, 1) := by decide +kernel
theorem d1_56 : decode method_3_code 56 = .ok (.iconst 1, 1) := by decide +kernel
theorem d1_57 : decode method_3_code 57 = .ok (.aload_n 1, 1) := by decide +kernel
theorem d1_58 : decode method_3_code 58 = .ok (.iconst 1, 1) := by decide +kernel
theorem d1_59 : decode method_3_code 59 = .ok (.caload, 1) := by decide +kernel
theorem d1_60 : decode method_3_code 60 = .ok (.castore, 1) := by decide +kernel
theorem d1_61 : decode method_3_code 61 = .ok (.invokespecial 33, 3) := by decide +kernel
theorem d1_64 : decode method_3_code 64 = .ok (.areturn, 1) := by decide +kernel
theorem d1_65 : decode method_3_code 65 = .ok (.iload_n 0, 1) := by decide +kernel
theorem d1_66 : decode method_3_code 66 = .ok (.iconst 3, 1) := by decide +kernel
theorem d1_67 : decode method_3_code 67 = .ok (.if_icmp .ne 32, 3) := by decide +kernel
theorem d1_70 : decode method_3_code 70 = .ok (.new 31, 3) := by decide +kernel
theorem d1_73 : decode method_3_code 73 = .ok (.dup, 1) := by decide +kernel
theorem d1_74 : decode method_3_code 74 = .ok (.iconst 3, 1) := by decide +kernel
theorem d1_75 : decode method_3_code 75 = .ok (.newarray .char, 2) := by decide +kernel
theorem d1_77 : decode method_3_code 77 = .ok (.dup, 1) := by decide +kernel
theorem d1_78 : decode method_3_code 78 = .ok (.iconst 0, 1) := by decide +kernel
theorem d1_79 : decode method_3_code 79 = .ok (.aload_n 1, 1) := by decide +kernel
theorem d1_80 : decode method_3_code 80 = .ok (.iconst 0, 1) := by decide +kernel
theorem d1_81 : decode method_3_code 81 = .ok (.caload, 1) := by decide +kernel
theorem d1_82 : decode method_3_code 82 = .ok (.castore, 1) := by decide +kernel
theorem d1_83 : decode method_3_code 83 = .ok (.dup, 1) := by decide +kernel
theorem d1_84 : decode method_3_code 84 = .ok (.iconst 1, 1) := by decide +kernel
theorem d1_85 : decode method_3_code 85 = .ok (.aload_n 1, 1) := by decide +kernel
theorem d1_86 : decode method_3_code 86 = .ok (.iconst 1, 1) := by decide +kernel
theorem d1_87 : decode method_3_code 87 = .ok (.caload, 1) := by decide +kernel
theorem d1_88 : decode method_3_code 88 = .ok (.castore, 1) := by decide +kernel
theorem d1_89 : decode method_3_code 89 = .ok (.dup, 1) := by decide +kernel
theorem d1_90 : decode method_3_code 90 = .ok (.iconst 2, 1) := by decide +kernel
theorem d1_91 : decode method_3_code 91 = .ok (.aload_n 1, 1) := by decide +kernel
theorem d1_92 : decode method_3_code 92 = .ok (.iconst 2, 1) := by decide +kernel
theorem d1_93 : decode method_3_code 93 = .ok (.caload, 1) := by decide +kernel
theorem d1_94 : decode method_3_code 94 = .ok (.castore, 1) := by decide +kernel
theorem d1_95 : decode method_3_code 95 = .ok (.invokespecial 33, 3) := by decide +kernel
theorem d1_98 : decode method_3_code 98 = .ok (.areturn, 1) := by decide +kernel
theorem d1_99 : decode method_3_code 99 = .ok (.iload_n 0, 1) := by decide +kernel
theorem d1_100 : decode method_3_code 100 = .ok (.iconst 4, 1) := by decide +kernel
theorem d1_101 : decode method_3_code 101 = .ok (.if_icmp .ne 38, 3) := by decide +kernel
theorem d1_104 : decode method_3_code 104 = .ok (.new 31, 3) := by decide +kernel
theorem d1_107 : decode method_3_code 107 = .ok (.dup, 1) := by decide +kernel
theorem d1_108 : decode method_3_code 108 = .ok (.iconst 4, 1) := by decide +kernel
theorem d1_109 : decode method_3_code 109 = .ok (.newarray .char, 2) := by decide +kernel
theorem d1_111 : decode method_3_code 111 = .ok (.dup, 1) := by decide +kernel
theorem d1_112 : decode method_3_code 112 = .ok (.iconst 0, 1) := by decide +kernel
theorem d1_113 : decode method_3_code 113 = .ok (.aload_n 1, 1) := by decide +kernel
theorem d1_114 : decode method_3_code 114 = .ok (.iconst 0, 1) := by decide +kernel
theorem d1_115 : decode method_3_code 115 = .ok (.caload, 1) := by decide +kernel
theorem d1_116 : decode method_3_code 116 = .ok (.castore, 1) := by decide +kernel
theorem d1_117 : decode method_3_code 117 = .ok (.dup, 1) := by decide +kernel
theorem d1_118 : decode method_3_code 118 = .ok (.iconst 1, 1) := by decide +kernel
theorem d1_119 : decode method_3_code 119 = .ok (.aload_n 1, 1) := by decide +kernel
theorem d1_120 : decode method_3_code 120 = .ok (.iconst 1, 1) := by decide +kernel
theorem d1_121 : decode method_3_code 121 = .ok (.caload, 1) := by decide +kernel
theorem d1_122 : decode method_3_code 122 = .ok (.castore, 1) := by decide +kernel
theorem d1_123 : decode method_3_code 123 = .ok (.dup, 1) := by decide +kernel
theorem d1_124 : decode method_3_code 124 = .ok (.iconst 2, 1) := by decide +kernel
theorem d1_125 : decode method_3_code 125 = .ok (.aload_n 1, 1) := by decide +kernel
theorem d1_126 : decode method_3_code 126 = .ok (.iconst 2, 1) := by decide +kernel
theorem d1_127 : decode method_3_code 127 = .ok (.caload, 1) := by decide +kernel
theorem d1_128 : decode method_3_code 128 = .ok (.castore, 1) := by decide +kernel
theorem d1_129 : decode method_3_code 129 = .ok (.dup, 1) := by decide +kernel
theorem d1_130 : decode method_3_code 130 = .ok (.iconst 3, 1) := by decide +kernel
theorem d1_131 : decode method_3_code 131 = .ok (.aload_n 1, 1) := by decide +kernel
theorem d1_132 : decode method_3_code 132 = .ok (.iconst 3, 1) := by decide +kernel
theorem d1_133 : decode method_3_code 133 = .ok (.caload, 1) := by decide +kernel
theorem d1_134 : decode method_3_code 134 = .ok (.castore, 1) := by decide +kernel
theorem d1_135 : decode method_3_code 135 = .ok (.invokespecial 33, 3) := by decide +kernel
theorem d1_138 : decode method_3_code 138 = .ok (.areturn, 1) := by decide +kernel
theorem d1_139 : decode method_3_code 139 = .ok (.iload_n 0, 1) := by decide +kernel
theorem d1_140 : decode method_3_code 140 = .ok (.iconst 5, 1) := by decide +kernel
theorem d1_141 : decode method_3_code 141 = .ok (.if_icmp .ne 44, 3) := by decide +kernel
theorem d1_144 : decode method_3_code 144 = .ok (.new 31, 3) := by decide +kernel
theorem d1_147 : decode method_3_code 147 = .ok (.dup, 1) := by decide +kernel
theorem d1_148 : decode method_3_code 148 = .ok (.iconst 5, 1) := by decide +kernel
theorem d1_149 : decode method_3_code 149 = .ok (.newarray .char, 2) := by decide +kernel
theorem d1_151 : decode method_3_code 151 = .ok (.dup, 1) := by decide +kernel
theorem d1_152 : decode method_3_code 152 = .ok (.iconst 0, 1) := by decide +kernel
theorem d1_153 : decode method_3_code 153 = .ok (.aload_n 1, 1) := by decide +kernel
theorem d1_154 : decode method_3_code 154 = .ok (.iconst 0, 1) := by decide +kernel
theorem d1_155 : decode method_3_code 155 = .ok (.caload, 1) := by decide +kernel
theorem d1_156 : decode method_3_code 156 = .ok (.castore, 1) := by decide +kernel
theorem d1_157 : decode method_3_code 157 = .ok (.dup, 1) := by decide +kernel
theorem d1_158 : decode method_3_code 158 = .ok (.iconst 1, 1) := by decide +kernel
theorem d1_159 : decode method_3_code 159 = .ok (.aload_n 1, 1) := by decide +kernel
theorem d1_160 : decode method_3_code 160 = .ok (.iconst 1, 1) := by decide +kernel
theorem d1_161 : decode method_3_code 161 = .ok (.caload, 1) := by decide +kernel
theorem d1_162 : decode method_3_code 162 = .ok (.castore, 1) := by decide +kernel
theorem d1_163 : decode method_3_code 163 = .ok (.dup, 1) := by decide +kernel
theorem d1_164 : decode method_3_code 164 = .ok (.iconst 2, 1) := by decide +kernel
theorem d1_165 : decode method_3_code 165 = .ok (.aload_n 1, 1) := by decide +kernel
theorem d1_166 : decode method_3_code 166 = .ok (.iconst 2, 1) := by decide +kernel
theorem d1_167 : decode method_3_code 167 = .ok (.caload, 1) := by decide +kernel
theorem d1_168 : decode method_3_code 168 = .ok (.castore, 1) := by decide +kernel
theorem d1_169 : decode method_3_code 169 = .ok (.dup, 1) := by decide +kernel
theorem d1_170 : decode method_3_code 170 = .ok (.iconst 3, 1) := by decide +kernel
theorem d1_171 : decode method_3_code 171 = .ok (.aload_n 1, 1) := by decide +kernel
theorem d1_172 : decode method_3_code 172 = .ok (.iconst 3, 1) := by decide +kernel
theorem d1_173 : decode method_3_code 173 = .ok (.caload, 1) := by decide +kernel
theorem d1_174 : decode method_3_code 174 = .ok (.castore, 1) := by decide +kernel
theorem d1_175 : decode method_3_code 175 = .ok (.dup, 1) := by decide +kernel
theorem d1_176 : decode method_3_code 176 = .ok (.iconst 4, 1) := by decide +kernel
theorem d1_177 : decode method_3_code 177 = .ok (.aload_n 1, 1) := by decide +kernel
theorem d1_178 : decode method_3_code 178 = .ok (.iconst 4, 1) := by decide +kernel
theorem d1_179 : decode method_3_code 179 = .ok (.caload, 1) := by decide +kernel
theorem d1_180 : decode method_3_code 180 = .ok (.castore, 1) := by decide +kernel
theorem d1_181 : decode method_3_code 181 = .ok (.invokespecial 33, 3) := by decide +kernel
theorem d1_184 : decode method_3_code 184 = .ok (.areturn, 1) := by decide +kernel
theorem d1_185 : decode method_3_code 185 = .ok (.new 31, 3) := by decide +kernel
theorem d1_188 : decode method_3_code 188 = .ok (.dup, 1) := by decide +kernel
theorem d1_189 : decode method_3_code 189 = .ok (.bipush 6, 2) := by decide +kernel
theorem d1_191 : decode method_3_code 191 = .ok (.newarray .char, 2) := by decide +kernel
theorem d1_193 : decode method_3_code 193 = .ok (.dup, 1) := by decide +kernel
theorem d1_194 : decode method_3_code 194 = .ok (.iconst 0, 1) := by decide +kernel
theorem d1_195 : decode method_3_code 195 = .ok (.aload_n 1, 1) := by decide +kernel
theorem d1_196 : decode method_3_code 196 = .ok (.iconst 0, 1) := by decide +kernel
theorem d1_197 : decode method_3_code 197 = .ok (.caload, 1) := by decide +kernel
theorem d1_198 : decode method_3_code 198 = .ok (.castore, 1) := by decide +kernel
theorem d1_199 : decode method_3_code 199 = .ok (.dup, 1) := by decide +kernel
theorem d1_200 : decode method_3_code 200 = .ok (.iconst 1, 1) := by decide +kernel
theorem d1_201 : decode method_3_code 201 = .ok (.aload_n 1, 1) := by decide +kernel
theorem d1_202 : decode method_3_code 202 = .ok (.iconst 1, 1) := by decide +kernel
theorem d1_203 : decode method_3_code 203 = .ok (.caload, 1) := by decide +kernel
theorem d1_204 : decode method_3_code 204 = .ok (.castore, 1) := by decide +kernel
theorem d1_205 : decode method_3_code 205 = .ok (.dup, 1) := by decide +kernel
theorem d1_206 : decode method_3_code 206 = .ok (.iconst 2, 1) := by decide +kernel
theorem d1_207 : decode method_3_code 207 = .ok (.aload_n 1, 1) := by decide +kernel
theorem d1_208 : decode method_3_code 208 = .ok (.iconst 2, 1) := by decide +kernel
theorem d1_209 : decode method_3_code 209 = .ok (.caload, 1) := by decide +kernel
theorem d1_210 : decode method_3_code 210 = .ok (.castore, 1) := by decide +kernel
theorem d1_211 : decode method_3_code 211 = .ok (.dup, 1) := by decide +kernel
theorem d1_212 : decode method_3_code 212 = .ok (.iconst 3, 1) := by decide +kernel
theorem d1_213 : decode method_3_code 213 = .ok (.aload_n 1, 1) := by decide +kernel
theorem d1_214 : decode method_3_code 214 = .ok (.iconst 3, 1) := by decide +kernel
theorem d1_215 : decode method_3_code 215 = .ok (.caload, 1) := by decide +kernel
theorem d1_216 : decode method_3_code 216 = .ok (.castore, 1) := by decide +kernel
theorem d1_217 : decode method_3_code 217 = .ok (.dup, 1) := by decide +kernel
theorem d1_218 : decode method_3_code 218 = .ok (.iconst 4, 1) := by decide +kernel
theorem d1_219 : decode method_3_code 219 = .ok (.aload_n 1, 1) := by decide +kernel
theorem d1_220 : decode method_3_code 220 = .ok (.iconst 4, 1) := by decide +kernel
theorem d1_221 : decode method_3_code 221 = .ok (.caload, 1) := by decide +kernel
theorem d1_222 : decode method_3_code 222 = .ok (.castore, 1) := by decide +kernel
theorem d1_223 : decode method_3_code 223 = .ok (.dup, 1) := by decide +kernel
theorem d1_224 : decode method_3_code 224 = .ok (.iconst 5, 1) := by decide +kernel
theorem d1_225 : decode method_3_code 225 = .ok (.aload_n 1, 1) := by decide +kernel
theorem d1_226 : decode method_3_code 226 = .ok (.iconst 5, 1) := by decide +kernel
theorem d1_227 : decode method_3_code 227 = .ok (.caload, 1) := by decide +kernel
theorem d1_228 : decode method_3_code 228 = .ok (.castore, 1) := by decide +kernel
theorem d1_229 : decode method_3_code 229 = .ok (.invokespecial 33, 3) := by decide +kernel
theorem d1_232 : decode method_3_code 232 = .ok (.areturn, 1) := by decide +kernel
def Q_rm1 (Z : State) (p0 : Int32) (ao1 : Addr) (kc : ClassId) (x0 x1 x2 x3 x4 x5 : Int32) (G1 : Int32) (sf : Value) (h0 : Heap) (n0 : Nat) (v : Option Value) (h : Heap) (L : List Loc) : Prop := ∃ b : Addr, v = some (.ref b) ∧ Fr n0 L ∧ Keep h0 h [] ∧ own_S Z h b (List.take p0.toNatClampNeg [x0, x1, x2, x3, x4, x5])
theorem pn_rm1 : plainName "com/example/triplewright/triplewright/IriIsAbsolutePinLaw" = true := by first | (simp [plainName, overriddenIn]; done) | decide +kernel
theorem ef_rm1 (m : MethodId) (x0 : Int32) (x1 : Addr) : entryFrame m #[(.int x0), (.ref x1)] 2 = mkF m 0 #[.val (.int x0), .val (.ref x1)] [] := by first | (simp [entryFrame, mkF, argsToLocals, Value.category]; done) | rfl
set_option maxRecDepth 65536 in
set_option maxHeartbeats 40000000 in
theorem rm1 (l : Launch) (Z : State) (a0 : Array Value) (hw : ∀ d ∈ tables_1, d.before a0 Z = true) (ws : List Jvm.Cond) (p0 : Int32) (ao1 : Addr) (kc : ClassId) (x0 x1 x2 x3 x4 x5 : Int32) (G1 : Int32) (sf : Value) (h0 : Heap) (n0 : Nat) (Z0 : n0 ≤ h0.size) (V_ao1 : Arv Z h0 ao1 kc .char (6 : Int32) [(.int x0), (.int x1), (.int x2), (.int x3), (.int x4), (.int x5)] (.int (0 : Int32))) (hp : ¬ p0 < 0 ∧ ¬ (6 : Int32) < p0) (hx0 : own_ch x0) (hx1 : own_ch x1) (hx2 : own_ch x2) (hx3 : own_ch x3) (hx4 : own_ch x4) (hx5 : own_ch x5) (Od : Old Z n0 h0) (hst : own_St Z G1 sf) :
    MetFree l (⟨"com/example/triplewright/triplewright/IriIsAbsolutePinLaw", "make", "(I[C)Ljava/lang/String;"⟩ : MethodName) (head1 (Jvm.Cond.code (⟨"com/example/triplewright/triplewright/IriIsAbsolutePinLaw", "make", "(I[C)Ljava/lang/String;"⟩ : MethodName) method_3_code 2 (some (.object "java/lang/String")) :: ws) ({ frames := 6, cells := 6, slots := 28, locals := 90 } : Room)) (fun a U => a = #[(.int p0), (.ref ao1)] ∧ Z.Warmed39 U.vm ∧ U.heap = h0 ∧ CHv Z own_EL U.vm h0) (fun _ _ _ _ _ => True) (fun _ U o U' => ∃ v L, o = .returned v ∧ (Q_rm1 Z p0 ao1 kc x0 x1 x2 x3 x4 x5 G1 sf h0 n0) v U'.heap L ∧ CHr Z own_EL U.vm U.heap U'.vm U'.heap ∧ ReturnedEndW U o U' L ({ frames := 6, cells := 6, slots := 28, locals := 90 } : Room).cells ({ frames := 6, cells := 6, slots := 28, locals := 90 } : Room).slots) := by
  refine MetFree.of_bodySF (plainFor_of_name pn_rm1) hisR ?_
  intro p e s m args below meth c s₁ Bd hml0 hP hK
  obtain ⟨rfl, hZ, hh, hC⟩ := hP
  have hx := Bd.exec
  have hby := Bd.bytes
  have hlk := BodyLoose.notSynchronized Bd
  have hret := Bd.returns
  have hml : c.maxLocals = 2 := hml0
  have hown : s.vm.findClass "com/example/triplewright/triplewright/IriIsAbsolutePinLaw" = some m.cls := findClass_of_methodNamed Bd.named
  have hnm := (name_of_methodNamed Bd.named Bd.method).1
  have X0 : Stand p l e ({ frames := 6, cells := 6, slots := 28, locals := 90 } : Room) s m #[(.int p0), (.ref ao1)] below meth c s₁ [] 0 0 := Stand.of_body Bd
  have e0 : s₁.heap = h0 := by rw [← hh, Bd.state]; rfl
  have Nf := Fr.nil n0
  have Zs := Z0
  have Kp : Keep h0 h0 [] := Keep.refl _ _
  obtain ⟨vm0, k0, X0, hS, hk, hZ, hown, hR⟩ : ∃ (vm0 : Vm) (k0 : Nat), Stand p l e ({ frames := 6, cells := 6, slots := 28, locals := 90 } : Room) (s.setVm vm0) m #[(.int p0), (.ref ao1)] below meth c s₁ [] 0 0 ∧ s.Since vm0 k0 ∧ k0 ≤ h0.size ∧ Z.Warmed39 (s.setVm vm0).vm ∧ (s.setVm vm0).vm.findClass "com/example/triplewright/triplewright/IriIsAbsolutePinLaw" = some m.cls ∧ CHr Z own_EL s.vm s.heap vm0 h0 := ⟨s.vm, s.heap.size, X0, (State.WarmedH.refl s).since _, Nat.le_of_eq (congrArg Array.size hh), hZ, hown, by rw [hh]; exact CHr.refl hC⟩
  obtain ⟨S_COMPACT_STRINGS, hG, S__assertionsDisabled, S_HI_BYTE_SHIFT, S_LO_BYTE_SHIFT, S_SIOOBE_FORMATTER, r_sf, c_sf⟩ := id hst
  show own_EndH Z own_EL p e below s (Q_rm1 Z p0 ao1 kc x0 x1 x2 x3 x4 x5 G1 sf h0 n0) ({ frames := 6, cells := 6, slots := 28, locals := 90 } : Room).cells ({ frames := 6, cells := 6, slots := 28, locals := 90 } : Room).slots (s₁.setTop (entryFrame m #[(.int p0), (.ref ao1)] 2))
  refine own_goH (x' := s₁.setTop (mkF m 0 #[.val (.int p0), .val (.ref ao1)] [])) (fun t k => castTop (ef_rm1 m p0 ao1) k) ?_
  refine own_goH (x' := s₁.setTop (mkF m 1 #[.val (.int p0), .val (.ref ao1)] [(.int p0)])) (fun _ k => XS.iloadN X0.here hx rfl (hb hby d1_0) rfl k) ?_
  by_cases hc1 : p0 = (0 : Int32)
  · refine own_goH (x' := s₁.setTop (mkF m 4 #[.val (.int p0), .val (.ref ao1)] [])) (fun _ k => XS.ifNo X0.here hx rfl (hb hby d1_1) rfl ((if0 _ _).trans (teq hc1).2) k) ?_
    obtain ⟨T1, h1, X1, e1, E1, A1, D1, -, st1⟩ := newO X0 hx hZ hown (own_w hw 6 rfl) (own_w hw 7 rfl) (own_w hw 8 rfl) e0 (g := (mkF m 4 #[.val (.int p0), .val (.ref ao1)] [])) rfl (hb hby d1_4) (by decide) (by decide)
    obtain ⟨b1, g1⟩ : ∃ z, z = h0.size := ⟨_, rfl⟩
    rw [← g1] at A1 D1 st1
    have ne_ao1_b1 : ao1 ≠ b1 := Nat.ne_of_lt (Nat.lt_of_lt_of_le V_ao1.lt (Nat.le_of_eq g1.symm))
    have g_b1 : n0 ≤ b1 := Nat.le_trans Zs (Nat.le_of_eq g1.symm)
    have Sf_b1 := own_sfn hR (Nat.le_of_eq g1.symm)
    have sz_b1 : h0.size ≤ b1 := Nat.le_trans Kp.1 (Nat.le_of_eq g1.symm)
    replace Od := Od.ext E1
    replace V_ao1 := V_ao1.ext E1
    replace Zs := Nat.le_trans Zs E1.1
    replace hk := Nat.le_trans hk E1.1
    have Sq_b1 := Safe.ext E1 hR.1 Sf_b1
    replace hR := hR.trans (CHr.ext E1 hR.1)
    replace Sf_b1 := Sq_b1
    replace Kp := Kp.ext E1
    have E_b1 := A1
    have F_b1_value : Fld Z h1 b1 "java/lang/String" "value" "[B" .null := D1 (Or.inr (own_w hw 21 rfl)) (ty := (.array .byte)) (by decide)
    have F_b1_coder : Fld Z h1 b1 "java/lang/String" "coder" "B" (.int 0) := D1 (Or.inr (own_w hw 22 rfl)) (ty := .byte) (by decide)
    refine own_goH (x' := T1.setTop (mkF m 7 #[.val (.int p0), .val (.ref ao1)] [(.ref b1)])) st1 ?_
    refine own_goH (x' := T1.setTop (mkF m 9 #[.val (.int p0), .val (.ref ao1)] [(.int 0), (.ref b1), (.ref b1)])) (fun _ k => XS.dup X1.here hx rfl (hb hby d1_7) rfl rfl (XS.iconst X1.here hx rfl (hb hby d1_8) k)) ?_
    obtain ⟨T2, h2, k2, X2, e2, E2, A2, st2⟩ := newP X1 hx hZ (own_w hw 1 rfl) e1 (g := (mkF m 9 #[.val (.int p0), .val (.ref ao1)] [(.int 0), (.ref b1), (.ref b1)])) rfl (hb hby d1_9) rfl (by decide) (cap := 0) (by decide) (by decide) (by decide) (by decide)
    obtain ⟨b2, g2⟩ : ∃ z, z = h1.size := ⟨_, rfl⟩
    rw [← g2] at A2 st2
    have ne_ao1_b2 : ao1 ≠ b2 := Nat.ne_of_lt (Nat.lt_of_lt_of_le V_ao1.lt (Nat.le_of_eq g2.symm))
    have ne_b1_b2 : b1 ≠ b2 := Nat.ne_of_lt (Nat.lt_of_lt_of_le E_b1.lt (Nat.le_of_eq g2.symm))
    have g_b2 : n0 ≤ b2 := Nat.le_trans Zs (Nat.le_of_eq g2.symm)
    have Sf_b2 := own_sfn hR (Nat.le_of_eq g2.symm)
    have sz_b2 : h0.size ≤ b2 := Nat.le_trans Kp.1 (Nat.le_of_eq g2.symm)
    replace Od := Od.ext E2
    replace V_ao1 := V_ao1.ext E2
    replace E_b1 := Exa.ext E2 E_b1
    replace F_b1_value := Fld.ext E2 F_b1_value
    replace F_b1_coder := Fld.ext E2 F_b1_coder
    replace Zs := Nat.le_trans Zs E2.1
    replace hk := Nat.le_trans hk E2.1
    have Sq_b1 := Safe.ext E2 hR.1 Sf_b1
    have Sq_b2 := Safe.ext E2 hR.1 Sf_b2
    replace hR := hR.trans (CHr.ext E2 hR.1)
    replace Sf_b1 := Sq_b1
    replace Sf_b2 := Sq_b2
    replace Kp := Kp.ext E2
    have V_b2 : Arv Z h2 b2 k2 .char (0 : Int32) [] (.int 0) := (Arv.new A2 (by decide)).pad (pad_rep [] (.int 0) 0)
    refine own_goH (x' := T2.setTop (mkF m 11 #[.val (.int p0), .val (.ref ao1)] [(.ref b2), (.ref b1), (.ref b1)])) st2 ?_
    obtain ⟨_, _, ⟨T3, L3, k3, n3⟩, -, X3, Sw3, Gw3, ⟨Lc3, hQ3, l3, y3, z3, Cw3⟩, st3⟩ := X2.specialBackS hx (y := (⟨"java/lang/String", "<init>", "([C)V"⟩ : MethodName)) rfl hown (mvT hZ (own_w hw 9 rfl)) (mvT hZ (own_w hw 10 rfl)) (mvT hZ (own_w hw 11 rfl)) (by decide) (backOfSH (W := 1) (rm2e l Z a0 hw [] b1 b2 k2 h2 n0 Zs E_b1 F_b1_value F_b1_coder V_b2 ne_b1_b2 g_b1) hZ (own_w hw 11 rfl) (own_w hw 8 rfl) (by decide) (by decide) (own_EW hw) hR.1) (g := (mkF m 11 #[.val (.int p0), .val (.ref ao1)] [(.ref b2), (.ref b1), (.ref b1)])) rfl (by rw [hml]; rfl) (Steps.refl _) (a := b1) (argsL := [(.ref b2)]) (rest := [(.ref b1)]) (lenOf pd_21 rfl) rfl (by show 2 * 0 + _ ≤ _; exact Nat.le_of_eq rfl) (hb hby d1_11) (fun _ _ => ⟨rfl, e2, (by decide : 2 + 4 ≤ _), (by decide : 4 + 8 ≤ _)⟩)
    dsimp only [Pt.U, Pt.locs, Pt.cells, Pt.slots] at X3 l3 y3 z3 st3 hQ3 Sw3 Gw3 Cw3
    subst l3 y3 z3
    obtain ⟨X3, Sw3, hZ, hown⟩ := rebS hS (own_hk e2 hk) X3 Sw3 Gw3 hZ hown
    replace Sf_b1 := Cw3.safe E_b1.lt Sf_b1
    replace Sf_b2 := Cw3.safe V_b2.lt Sf_b2
    replace hR := hR.trans Cw3
    obtain ⟨hv3, Nq3, K3, S_b1⟩ := hQ3
    subst hv3
    replace Nf := Fr.app Nf Nq3
    replace Od := Od.keep K3 (allS g_b1 all0)
    replace V_ao1 := V_ao1.keep K3 (ninS ne_ao1_b1 nin0)
    replace V_b2 := V_b2.keep K3 (ninS (Ne.symm ne_b1_b2) nin0)
    replace Zs := Nat.le_trans Zs K3.1
    replace hk := Nat.le_trans hk K3.1
    replace Kp := Kp.trans K3 (allS (Or.inr sz_b1) all0)
    replace hS := Sw3
    replace hk := Nat.le_refl (Array.size T3.heap)
    refine own_goH (x' := T3.setTop (mkF m 14 #[.val (.int p0), .val (.ref ao1)] [(.ref b1)])) (fun _ k => st3.trans k) ?_
    refine own_retRH X3 hS (own_hk rfl hk) (own_hr rfl hR) hZ (own_EW hw) hx hlk hret rfl rfl (hb hby d1_14) ?_ (by decide) (by decide)
    exact ⟨b1, rfl, Nf, Kp, by rw [hc1, show (0 : Int32).toNatClampNeg = 0 from by decide]; exact S_b1⟩
  · refine own_goH (x' := s₁.setTop (mkF m 17 #[.val (.int p0), .val (.ref ao1)] [(.int 1), (.int p0)])) (fun _ k => XS.ifYes X0.here hx rfl (pc0 := 1) (pc' := 15) rfl (hb hby d1_1) rfl ((if0 _ _).trans (feq hc1).2) (by decide) (by decide) (XS.iloadN X0.here hx rfl (hb hby d1_15) rfl (XS.iconst X0.here hx rfl (hb hby d1_16) k))) ?_
    by_cases hc17 : p0 = (1 : Int32)
    · refine own_goH (x' := s₁.setTop (mkF m 20 #[.val (.int p0), .val (.ref ao1)] [])) (fun _ k => XS.icmpNo X0.here hx rfl (hb hby d1_17) rfl (teq hc17).2 k) ?_
      obtain ⟨T4, h4, X4, e4, E4, A4, D4, -, st4⟩ := newO X0 hx hZ hown (own_w hw 6 rfl) (own_w hw 7 rfl) (own_w hw 8 rfl) e0 (g := (mkF m 20 #[.val (.int p0), .val (.ref ao1)] [])) rfl (hb hby d1_20) (by decide) (by decide)
      obtain ⟨b4, g4⟩ : ∃ z, z = h0.size := ⟨_, rfl⟩
      rw [← g4] at A4 D4 st4
      have ne_ao1_b4 : ao1 ≠ b4 := Nat.ne_of_lt (Nat.lt_of_lt_of_le V_ao1.lt (Nat.le_of_eq g4.symm))
      have g_b4 : n0 ≤ b4 := Nat.le_trans Zs (Nat.le_of_eq g4.symm)
      have Sf_b4 := own_sfn hR (Nat.le_of_eq g4.symm)
      have sz_b4 : h0.size ≤ b4 := Nat.le_trans Kp.1 (Nat.le_of_eq g4.symm)
      replace Od := Od.ext E4
      replace V_ao1 := V_ao1.ext E4
      replace Zs := Nat.le_trans Zs E4.1
      replace hk := Nat.le_trans hk E4.1
      have Sq_b4 := Safe.ext E4 hR.1 Sf_b4
      replace hR := hR.trans (CHr.ext E4 hR.1)
      replace Sf_b4 := Sq_b4
      replace Kp := Kp.ext E4
      have E_b4 := A4
      have F_b4_value : Fld Z h4 b4 "java/lang/String" "value" "[B" .null := D4 (Or.inr (own_w hw 21 rfl)) (ty := (.array .byte)) (by decide)
      have F_b4_coder : Fld Z h4 b4 "java/lang/String" "coder" "B" (.int 0) := D4 (Or.inr (own_w hw 22 rfl)) (ty := .byte) (by decide)
      refine own_goH (x' := T4.setTop (mkF m 23 #[.val (.int p0), .val (.ref ao1)] [(.ref b4)])) st4 ?_
      refine own_goH (x' := T4.setTop (mkF m 25 #[.val (.int p0), .val (.ref ao1)] [(.int 1), (.ref b4), (.ref b4)])) (fun _ k => XS.dup X4.here hx rfl (hb hby d1_23) rfl rfl (XS.iconst X4.here hx rfl (hb hby d1_24) k)) ?_
      obtain ⟨T5, h5, k5, X5, e5, E5, A5, st5⟩ := newP X4 hx hZ (own_w hw 1 rfl) e4 (g := (mkF m 25 #[.val (.int p0), .val (.ref ao1)] [(.int 1), (.ref b4), (.ref b4)])) rfl (hb hby d1_25) rfl (by decide) (cap := 1) (by decide) (by decide) (by decide) (by decide)
      obtain ⟨b5, g5⟩ : ∃ z, z = h4.size := ⟨_, rfl⟩
      rw [← g5] at A5 st5
      have ne_ao1_b5 : ao1 ≠ b5 := Nat.ne_of_lt (Nat.lt_of_lt_of_le V_ao1.lt (Nat.le_of_eq g5.symm))
      have ne_b4_b5 : b4 ≠ b5 := Nat.ne_of_lt (Nat.lt_of_lt_of_le E_b4.lt (Nat.le_of_eq g5.symm))
      have g_b5 : n0 ≤ b5 := Nat.le_trans Zs (Nat.le_of_eq g5.symm)
      have Sf_b5 := own_sfn hR (Nat.le_of_eq g5.symm)
      have sz_b5 : h0.size ≤ b5 := Nat.le_trans Kp.1 (Nat.le_of_eq g5.symm)
      replace Od := Od.ext E5
      replace V_ao1 := V_ao1.ext E5
      replace E_b4 := Exa.ext E5 E_b4
      replace F_b4_value := Fld.ext E5 F_b4_value
      replace F_b4_coder := Fld.ext E5 F_b4_coder
      replace Zs := Nat.le_trans Zs E5.1
      replace hk := Nat.le_trans hk E5.1
      have Sq_b4 := Safe.ext E5 hR.1 Sf_b4
      have Sq_b5 := Safe.ext E5 hR.1 Sf_b5
      replace hR := hR.trans (CHr.ext E5 hR.1)
      replace Sf_b4 := Sq_b4
      replace Sf_b5 := Sq_b5
      replace Kp := Kp.ext E5
      have V_b5 : Arv Z h5 b5 k5 .char (1 : Int32) [(.int 0)] (.int 0) := (Arv.new A5 (by decide)).pad (pad_rep [] (.int 0) 1)
      refine own_goH (x' := T5.setTop (mkF m 27 #[.val (.int p0), .val (.ref ao1)] [(.ref b5), (.ref b4), (.ref b4)])) st5 ?_
      refine own_goH (x' := T5.setTop (mkF m 31 #[.val (.int p0), .val (.ref ao1)] [(.int 0), (.ref ao1), (.int 0), (.ref b5), (.ref b5), (.ref b4), (.ref b4)])) (fun _ k => XS.dup X5.here hx rfl (hb hby d1_27) rfl rfl (XS.iconst X5.here hx rfl (hb hby d1_28) (XS.aloadN X5.here hx rfl (hb hby d1_29) rfl rfl (XS.iconst X5.here hx rfl (hb hby d1_30) k)))) ?_
      obtain ⟨cl6, Ar6, q6, Sz6, Nn6, Hh6, Gg6⟩ := id V_ao1
      have hin6 : ¬ ((0 : Int32) < 0 ∨ cl6.slots.size ≤ ((0 : Int32)).toNatClampNeg) := inb_of Sz6 ⟨by decide, by decide⟩
      refine own_goH (x' := T5.setTop (mkF m 32 #[.val (.int p0), .val (.ref ao1)] [(.int x0), (.int 0), (.ref b5), (.ref b5), (.ref b4), (.ref b4)])) (X5.caload hx (j := (0 : Int32)) (v := (.int x0)) (Eq.trans (congrArg (fun h_ => h_[_]?) e5) Ar6.1) (State.isArrayOf_alike hZ.alike Ar6.2.1) Ar6.2.2 hin6 (Hh6.at hin6 rfl) (g := (mkF m 31 #[.val (.int p0), .val (.ref ao1)] [(.int 0), (.ref ao1), (.int 0), (.ref b5), (.ref b5), (.ref b4), (.ref b4)])) rfl rfl (hb hby d1_31)) ?_
      obtain ⟨cl7, Ar7, q7, Sz7, Nn7, Hh7, Gg7⟩ := V_b5
      have hin7 : ¬ ((0 : Int32) < 0 ∨ cl7.slots.size ≤ ((0 : Int32)).toNatClampNeg) := inb_of Sz7 ⟨by decide, by decide⟩
      obtain ⟨T7, h7, X7, e7, W7, st7⟩ := stC X5 hx hZ e5 Ar7 (j := (0 : Int32)) hin7 (g := (mkF m 32 #[.val (.int p0), .val (.ref ao1)] [(.int x0), (.int 0), (.ref b5), (.ref b5), (.ref b4), (.ref b4)])) rfl rfl (hb hby d1_32)
      refine own_goH (x' := T7.setTop (mkF m 33 #[.val (.int p0), .val (.ref ao1)] [(.ref b5), (.ref b4), (.ref b4)])) st7 ?_
      replace Od := Od.wr W7 g_b5
      replace V_ao1 := V_ao1.other W7 ne_ao1_b5
      replace E_b4 := Exa.wr W7 E_b4
      replace F_b4_value := Fld.other W7 F_b4_value (Or.inl ne_b4_b5)
      replace F_b4_coder := Fld.other W7 F_b4_coder (Or.inl ne_b4_b5)
      replace Zs := Nat.le_trans Zs (Keep.of_wr W7).1
      replace hk := Nat.le_trans hk (Keep.of_wr W7).1
      have Sq_b4 := Safe.wr W7 Sf_b5 hR.1 Sf_b4
      have Sq_b5 := Safe.wr W7 Sf_b5 hR.1 Sf_b5
      replace hR := hR.trans (CHr.wr W7 Sf_b5 hR.1)
      replace Sf_b4 := Sq_b4
      replace Sf_b5 := Sq_b5
      replace Nf := Fr.snoc X7 Nf g_b5
      replace Kp := Kp.wr W7 (Or.inr sz_b5)
      have V_b5 : Arv Z h7 b5 k5 .char (1 : Int32) [(.int (nar .char x0))] (.int 0) := Arv.set Ar7 q7 Sz7 Nn7 Hh7 Gg7 (fits_nar_char _) W7 0 rfl (Nat.le_of_ble_eq_true rfl)
      obtain ⟨_, _, ⟨T8, L8, k8, n8⟩, -, X8, ⟨Lc8, hQ8, l8, y8, z8⟩, st8⟩ := X7.specialBack hx (y := (⟨"java/lang/String", "<init>", "([C)V"⟩ : MethodName)) rfl hown (mvT hZ (own_w hw 9 rfl)) (mvT hZ (own_w hw 10 rfl)) (mvT hZ (own_w hw 11 rfl)) (by decide) (backOf (W := 1) (rm2 l Z a0 hw [] b4 b5 k5 (List.map (nar .char) [x0]) G1 sf h7 n0 Zs E_b4 F_b4_value F_b4_coder V_b5 (own_nrm _) (Nat.le_of_ble_eq_true rfl) (Nat.le_of_ble_eq_true rfl) ne_b4_b5 g_b4 Od hst) hZ (own_w hw 11 rfl) (own_w hw 8 rfl) (by decide) (by decide)) (g := (mkF m 33 #[.val (.int p0), .val (.ref ao1)] [(.ref b5), (.ref b4), (.ref b4)])) rfl (by rw [hml]; rfl) (Steps.refl _) (a := b4) (argsL := [(.ref b5)]) (rest := [(.ref b4)]) (lenOf pd_21 rfl) rfl (by show 2 * 0 + _ ≤ _; exact Nat.le_of_eq rfl) (hb hby d1_33) (fun _ _ => ⟨rfl, e7, (by decide : 2 + 2 ≤ _), (by decide : 5 + 18 ≤ _)⟩)
      dsimp only [Pt.U, Pt.locs, Pt.cells, Pt.slots] at X8 l8 y8 z8 st8 hQ8
      subst l8 y8 z8
      obtain ⟨hv8, Nq8, K8, S_b4⟩ := hQ8
      subst hv8
      replace Nf := Fr.app Nf Nq8
      replace Od := Od.keep K8 (allS g_b4 all0)
      replace V_ao1 := V_ao1.keep K8 (ninS ne_ao1_b4 nin0)
      replace V_b5 := V_b5.keep K8 (ninS (Ne.symm ne_b4_b5) nin0)
      replace Zs := Nat.le_trans Zs K8.1
      replace hk := Nat.le_trans hk K8.1
      have Sq_b4 := Safe.keep K8 (allS Sf_b4 all0) hR.1 Sf_b4
      have Sq_b5 := Safe.keep K8 (allS Sf_b4 all0) hR.1 Sf_b5
      replace hR := hR.trans (CHr.keep K8 (allS Sf_b4 all0) hR.1)
      replace Sf_b4 := Sq_b4
      replace Sf_b5 := Sq_b5
      replace Kp := Kp.trans K8 (allS (Or.inr sz_b4) all0)
      refine own_goH (x' := T8.setTop (mkF m 36 #[.val (.int p0), .val (.ref ao1)] [(.ref b4)])) (fun _ k => st8.trans k) ?_
      refine own_retRH X8 hS (own_hk rfl hk) (own_hr rfl hR) hZ (own_EW hw) hx hlk hret rfl rfl (hb hby d1_36) ?_ (by decide) (by decide)
      rw [show List.map (nar .char) [x0] = [x0] from by simp only [List.map_cons, List.map_nil, own_nc hx0]] at S_b4
      exact ⟨b4, rfl, Nf, Kp, by rw [hc17, show (1 : Int32).toNatClampNeg = 1 from by decide]; exact S_b4⟩
    · refine own_goH (x' := s₁.setTop (mkF m 39 #[.val (.int p0), .val (.ref ao1)] [(.int 2), (.int p0)])) (fun _ k => XS.icmpYes X0.here hx rfl (pc0 := 17) (pc' := 37) rfl (hb hby d1_17) rfl (feq hc17).2 (by decide) (by decide) (XS.iloadN X0.here hx rfl (hb hby d1_37) rfl (XS.iconst X0.here hx rfl (hb hby d1_38) k))) ?_
      by_cases hc39 : p0 = (2 : Int32)
      · refine own_goH (x' := s₁.setTop (mkF m 42 #[.val (.int p0), .val (.ref ao1)] [])) (fun _ k => XS.icmpNo X0.here hx rfl (hb hby d1_39) rfl (teq hc39).2 k) ?_
        obtain ⟨T9, h9, X9, e9, E9, A9, D9, -, st9⟩ := newO X0 hx hZ hown (own_w hw 6 rfl) (own_w hw 7 rfl) (own_w hw 8 rfl) e0 (g := (mkF m 42 #[.val (.int p0), .val (.ref ao1)] [])) rfl (hb hby d1_42) (by decide) (by decide)
        obtain ⟨b9, g9⟩ : ∃ z, z = h0.size := ⟨_, rfl⟩
        rw [← g9] at A9 D9 st9
        have ne_ao1_b9 : ao1 ≠ b9 := Nat.ne_of_lt (Nat.lt_of_lt_of_le V_ao1.lt (Nat.le_of_eq g9.symm))
        have g_b9 : n0 ≤ b9 := Nat.le_trans Zs (Nat.le_of_eq g9.symm)
        have Sf_b9 := own_sfn hR (Nat.le_of_eq g9.symm)
        have sz_b9 : h0.size ≤ b9 := Nat.le_trans Kp.1 (Nat.le_of_eq g9.symm)
        replace Od := Od.ext E9
        replace V_ao1 := V_ao1.ext E9
        replace Zs := Nat.le_trans Zs E9.1
        replace hk := Nat.le_trans hk E9.1
        have Sq_b9 := Safe.ext E9 hR.1 Sf_b9
        replace hR := hR.trans (CHr.ext E9 hR.1)
        replace Sf_b9 := Sq_b9
        replace Kp := Kp.ext E9
        have E_b9 := A9
        have F_b9_value : Fld Z h9 b9 "java/lang/String" "value" "[B" .null := D9 (Or.inr (own_w hw 21 rfl)) (ty := (.array .byte)) (by decide)
        have F_b9_coder : Fld Z h9 b9 "java/lang/String" "coder" "B" (.int 0) := D9 (Or.inr (own_w hw 22 rfl)) (ty := .byte) (by decide)
        refine own_goH (x' := T9.setTop (mkF m 45 #[.val (.int p0), .val (.ref ao1)] [(.ref b9)])) st9 ?_
        refine own_goH (x' := T9.setTop (mkF m 47 #[.val (.int p0), .val (.ref ao1)] [(.int 2), (.ref b9), (.ref b9)])) (fun _ k => XS.dup X9.here hx rfl (hb hby d1_45) rfl rfl (XS.iconst X9.here hx rfl (hb hby d1_46) k)) ?_
        obtain ⟨T10, h10, k10, X10, e10, E10, A10, st10⟩ := newP X9 hx hZ (own_w hw 1 rfl) e9 (g := (mkF m 47 #[.val (.int p0), .val (.ref ao1)] [(.int 2), (.ref b9), (.ref b9)])) rfl (hb hby d1_47) rfl (by decide) (cap := 2) (by decide) (by decide) (by decide) (by decide)
        obtain ⟨b10, g10⟩ : ∃ z, z = h9.size := ⟨_, rfl⟩
        rw [← g10] at A10 st10
        have ne_ao1_b10 : ao1 ≠ b10 := Nat.ne_of_lt (Nat.lt_of_lt_of_le V_ao1.lt (Nat.le_of_eq g10.symm))
        have ne_b9_b10 : b9 ≠ b10 := Nat.ne_of_lt (Nat.lt_of_lt_of_le E_b9.lt (Nat.le_of_eq g10.symm))
        have g_b10 : n0 ≤ b10 := Nat.le_trans Zs (Nat.le_of_eq g10.symm)
        have Sf_b10 := own_sfn hR (Nat.le_of_eq g10.symm)
        have sz_b10 : h0.size ≤ b10 := Nat.le_trans Kp.1 (Nat.le_of_eq g10.symm)
        replace Od := Od.ext E10
        replace V_ao1 := V_ao1.ext E10
        replace E_b9 := Exa.ext E10 E_b9
        replace F_b9_value := Fld.ext E10 F_b9_value
        replace F_b9_coder := Fld.ext E10 F_b9_coder
        replace Zs := Nat.le_trans Zs E10.1
        replace hk := Nat.le_trans hk E10.1
        have Sq_b9 := Safe.ext E10 hR.1 Sf_b9
        have Sq_b10 := Safe.ext E10 hR.1 Sf_b10
        replace hR := hR.trans (CHr.ext E10 hR.1)
        replace Sf_b9 := Sq_b9
        replace Sf_b10 := Sq_b10
        replace Kp := Kp.ext E10
        have V_b10 : Arv Z h10 b10 k10 .char (2 : Int32) [(.int 0), (.int 0)] (.int 0) := (Arv.new A10 (by decide)).pad (pad_rep [] (.int 0) 2)
        refine own_goH (x' := T10.setTop (mkF m 49 #[.val (.int p0), .val (.ref ao1)] [(.ref b10), (.ref b9), (.ref b9)])) st10 ?_
        refine own_goH (x' := T10.setTop (mkF m 53 #[.val (.int p0), .val (.ref ao1)] [(.int 0), (.ref ao1), (.int 0), (.ref b10), (.ref b10), (.ref b9), (.ref b9)])) (fun _ k => XS.dup X10.here hx rfl (hb hby d1_49) rfl rfl (XS.iconst X10.here hx rfl (hb hby d1_50) (XS.aloadN X10.here hx rfl (hb hby d1_51) rfl rfl (XS.iconst X10.here hx rfl (hb hby d1_52) k)))) ?_
        obtain ⟨cl11, Ar11, q11, Sz11, Nn11, Hh11, Gg11⟩ := id V_ao1
        have hin11 : ¬ ((0 : Int32) < 0 ∨ cl11.slots.size ≤ ((0 : Int32)).toNatClampNeg) := inb_of Sz11 ⟨by decide, by decide⟩
        refine own_goH (x' := T10.setTop (mkF m 54 #[.val (.int p0), .val (.ref ao1)] [(.int x0), (.int 0), (.ref b10), (.ref b10), (.ref b9), (.ref b9)])) (X10.caload hx (j := (0 : Int32)) (v := (.int x0)) (Eq.trans (congrArg (fun h_ => h_[_]?) e10) Ar11.1) (State.isArrayOf_alike hZ.alike Ar11.2.1) Ar11.2.2 hin11 (Hh11.at hin11 rfl) (g := (mkF m 53 #[.val (.int p0), .val (.ref ao1)] [(.int 0), (.ref ao1), (.int 0), (.ref b10), (.ref b10), (.ref b9), (.ref b9)])) rfl rfl (hb hby d1_53)) ?_
        obtain ⟨cl12, Ar12, q12, Sz12, Nn12, Hh12, Gg12⟩ := V_b10
        have hin12 : ¬ ((0 : Int32) < 0 ∨ cl12.slots.size ≤ ((0 : Int32)).toNatClampNeg) := inb_of Sz12 ⟨by decide, by decide⟩
        obtain ⟨T12, h12, X12, e12, W12, st12⟩ := stC X10 hx hZ e10 Ar12 (j := (0 : Int32)) hin12 (g := (mkF m 54 #[.val (.int p0), .val (.ref ao1)] [(.int x0), (.int 0), (.ref b10), (.ref b10), (.ref b9), (.ref b9)])) rfl rfl (hb hby d1_54)
        refine own_goH (x' := T12.setTop (mkF m 55 #[.val (.int p0), .val (.ref ao1)] [(.ref b10), (.ref b9), (.ref b9)])) st12 ?_
        replace Od := Od.wr W12 g_b10
        replace V_ao1 := V_ao1.other W12 ne_ao1_b10
        replace E_b9 := Exa.wr W12 E_b9
        replace F_b9_value := Fld.other W12 F_b9_value (Or.inl ne_b9_b10)
        replace F_b9_coder := Fld.other W12 F_b9_coder (Or.inl ne_b9_b10)
        replace Zs := Nat.le_trans Zs (Keep.of_wr W12).1
        replace hk := Nat.le_trans hk (Keep.of_wr W12).1
        have Sq_b9 := Safe.wr W12 Sf_b10 hR.1 Sf_b9
        have Sq_b10 := Safe.wr W12 Sf_b10 hR.1 Sf_b10
        replace hR := hR.trans (CHr.wr W12 Sf_b10 hR.1)
        replace Sf_b9 := Sq_b9
        replace Sf_b10 := Sq_b10
        replace Nf := Fr.snoc X12 Nf g_b10
        replace Kp := Kp.wr W12 (Or.inr sz_b10)
        have V_b10 : Arv Z h12 b10 k10 .char (2 : Int32) [(.int (nar .char x0)), (.int 0)] (.int 0) := Arv.set Ar12 q12 Sz12 Nn12 Hh12 Gg12 (fits_nar_char _) W12 0 rfl (Nat.le_of_ble_eq_true rfl)
        refine own_goH (x' := T12.setTop (mkF m 59 #[.val (.int p0), .val (.ref ao1)] [(.int 1), (.ref ao1), (.int 1), (.ref b10), (.ref b10), (.ref b9), (.ref b9)])) (fun _ k => XS.dup X12.here hx rfl (hb hby d1_55) rfl rfl (XS.iconst X12.here hx rfl (hb hby d1_56) (XS.aloadN X12.here hx rfl (hb hby d1_57) rfl rfl (XS.iconst X12.here hx rfl (hb hby d1_58) k)))) ?_
        obtain ⟨cl13, Ar13, q13, Sz13, Nn13, Hh13, Gg13⟩ := id V_ao1
        have hin13 : ¬ ((1 : Int32) < 0 ∨ cl13.slots.size ≤ ((1 : Int32)).toNatClampNeg) := inb_of Sz13 ⟨by decide, by decide⟩
        refine own_goH (x' := T12.setTop (mkF m 60 #[.val (.int p0), .val (.ref ao1)] [(.int x1), (.int 1), (.ref b10), (.ref b10), (.ref b9), (.ref b9)])) (X12.caload hx (j := (1 : Int32)) (v := (.int x1)) (Eq.trans (congrArg (fun h_ => h_[_]?) e12) Ar13.1) (State.isArrayOf_alike hZ.alike Ar13.2.1) Ar13.2.2 hin13 (Hh13.at hin13 rfl) (g := (mkF m 59 #[.val (.int p0), .val (.ref ao1)] [(.int 1), (.ref ao1), (.int 1), (.ref b10), (.ref b10), (.ref b9), (.ref b9)])) rfl rfl (hb hby d1_59)) ?_
        obtain ⟨cl14, Ar14, q14, Sz14, Nn14, Hh14, Gg14⟩ := V_b10
        have hin14 : ¬ ((1 : Int32) < 0 ∨ cl14.slots.size ≤ ((1 : Int32)).toNatClampNeg) := inb_of Sz14 ⟨by decide, by decide⟩
        obtain ⟨T14, h14, X14, e14, W14, st14⟩ := stC X12 hx hZ e12 Ar14 (j := (1 : Int32)) hin14 (g := (mkF m 60 #[.val (.int p0), .val (.ref ao1)] [(.int x1), (.int 1), (.ref b10), (.ref b10), (.ref b9), (.ref b9)])) rfl rfl (hb hby d1_60)
        refine own_goH (x' := T14.setTop (mkF m 61 #[.val (.int p0), .val (.ref ao1)] [(.ref b10), (.ref b9), (.ref b9)])) st14 ?_
        replace Od := Od.wr W14 g_b10
        replace V_ao1 := V_ao1.other W14 ne_ao1_b10
        replace E_b9 := Exa.wr W14 E_b9
        replace F_b9_value := Fld.other W14 F_b9_value (Or.inl ne_b9_b10)
        replace F_b9_coder := Fld.other W14 F_b9_coder (Or.inl ne_b9_b10)
        replace Zs := Nat.le_trans Zs (Keep.of_wr W14).1
        replace hk := Nat.le_trans hk (Keep.of_wr W14).1
        have Sq_b9 := Safe.wr W14 Sf_b10 hR.1 Sf_b9
        have Sq_b10 := Safe.wr W14 Sf_b10 hR.1 Sf_b10
        replace hR := hR.trans (CHr.wr W14 Sf_b10 hR.1)
        replace Sf_b9 := Sq_b9
        replace Sf_b10 := Sq_b10
        replace Nf := Fr.snoc X14 Nf g_b10
        replace Kp := Kp.wr W14 (Or.inr sz_b10)
        have V_b10 : Arv Z h14 b10 k10 .char (2 : Int32) [(.int (nar .char x0)), (.int (nar .char x1))] (.int 0) := Arv.set Ar14 q14 Sz14 Nn14 Hh14 Gg14 (fits_nar_char _) W14 1 rfl (Nat.le_of_ble_eq_true rfl)
        obtain ⟨_, _, ⟨T15, L15, k15, n15⟩, -, X15, ⟨Lc15, hQ15, l15, y15, z15⟩, st15⟩ := X14.specialBack hx (y := (⟨"java/lang/String", "<init>", "([C)V"⟩ : MethodName)) rfl hown (mvT hZ (own_w hw 9 rfl)) (mvT hZ (own_w hw 10 rfl)) (mvT hZ (own_w hw 11 rfl)) (by decide) (backOf (W := 1) (rm2 l Z a0 hw [] b9 b10 k10 (List.map (nar .char) [x0, x1]) G1 sf h14 n0 Zs E_b9 F_b9_value F_b9_coder V_b10 (own_nrm _) (Nat.le_of_ble_eq_true rfl) (Nat.le_of_ble_eq_true rfl) ne_b9_b10 g_b9 Od hst) hZ (own_w hw 11 rfl) (own_w hw 8 rfl) (by decide) (by decide)) (g := (mkF m 61 #[.val (.int p0), .val (.ref ao1)] [(.ref b10), (.ref b9), (.ref b9)])) rfl (by rw [hml]; rfl) (Steps.refl _) (a := b9) (argsL := [(.ref b10)]) (rest := [(.ref b9)]) (lenOf pd_21 rfl) rfl (by show 2 * 0 + _ ≤ _; exact Nat.le_of_eq rfl) (hb hby d1_61) (fun _ _ => ⟨rfl, e14, (by decide : 2 + 2 ≤ _), (by decide : 6 + 18 ≤ _)⟩)
        dsimp only [Pt.U, Pt.locs, Pt.cells, Pt.slots] at X15 l15 y15 z15 st15 hQ15
        subst l15 y15 z15
        obtain ⟨hv15, Nq15, K15, S_b9⟩ := hQ15
        subst hv15
        replace Nf := Fr.app Nf Nq15
        replace Od := Od.keep K15 (allS g_b9 all0)
        replace V_ao1 := V_ao1.keep K15 (ninS ne_ao1_b9 nin0)
        replace V_b10 := V_b10.keep K15 (ninS (Ne.symm ne_b9_b10) nin0)
        replace Zs := Nat.le_trans Zs K15.1
        replace hk := Nat.le_trans hk K15.1
        have Sq_b9 := Safe.keep K15 (allS Sf_b9 all0) hR.1 Sf_b9
        have Sq_b10 := Safe.keep K15 (allS Sf_b9 all0) hR.1 Sf_b10
        replace hR := hR.trans (CHr.keep K15 (allS Sf_b9 all0) hR.1)
        replace Sf_b9 := Sq_b9
        replace Sf_b10 := Sq_b10
        replace Kp := Kp.trans K15 (allS (Or.inr sz_b9) all0)
        refine own_goH (x' := T15.setTop (mkF m 64 #[.val (.int p0), .val (.ref ao1)] [(.ref b9)])) (fun _ k => st15.trans k) ?_
        refine own_retRH X15 hS (own_hk rfl hk) (own_hr rfl hR) hZ (own_EW hw) hx hlk hret rfl rfl (hb hby d1_64) ?_ (by decide) (by decide)
        rw [show List.map (nar .char) [x0, x1] = [x0, x1] from by simp only [List.map_cons, List.map_nil, own_nc hx0, own_nc hx1]] at S_b9
        exact ⟨b9, rfl, Nf, Kp, by rw [hc39, show (2 : Int32).toNatClampNeg = 2 from by decide]; exact S_b9⟩
      · refine own_goH (x' := s₁.setTop (mkF m 67 #[.val (.int p0), .val (.ref ao1)] [(.int 3), (.int p0)])) (fun _ k => XS.icmpYes X0.here hx rfl (pc0 := 39) (pc' := 65) rfl (hb hby d1_39) rfl (feq hc39).2 (by decide) (by decide) (XS.iloadN X0.here hx rfl (hb hby d1_65) rfl (XS.iconst X0.here hx rfl (hb hby d1_66) k))) ?_
        by_cases hc67 : p0 = (3 : Int32)
        · refine own_goH (x' := s₁.setTop (mkF m 70 #[.val (.int p0), .val (.ref ao1)] [])) (fun _ k => XS.icmpNo X0.here hx rfl (hb hby d1_67) rfl (teq hc67).2 k) ?_
          obtain ⟨T16, h16, X16, e16, E16, A16, D16, -, st16⟩ := newO X0 hx hZ hown (own_w hw 6 rfl) (own_w hw 7 rfl) (own_w hw 8 rfl) e0 (g := (mkF m 70 #[.val (.int p0), .val (.ref ao1)] [])) rfl (hb hby d1_70) (by decide) (by decide)
          obtain ⟨b16, g16⟩ : ∃ z, z = h0.size := ⟨_, rfl⟩
          rw [← g16] at A16 D16 st16
          have ne_ao1_b16 : ao1 ≠ b16 := Nat.ne_of_lt (Nat.lt_of_lt_of_le V_ao1.lt (Nat.le_of_eq g16.symm))
          have g_b16 : n0 ≤ b16 := Nat.le_trans Zs (Nat.le_of_eq g16.symm)
          have Sf_b16 := own_sfn hR (Nat.le_of_eq g16.symm)
          have sz_b16 : h0.size ≤ b16 := Nat.le_trans Kp.1 (Nat.le_of_eq g16.symm)
          replace Od := Od.ext E16
          replace V_ao1 := V_ao1.ext E16
          replace Zs := Nat.le_trans Zs E16.1
          replace hk := Nat.le_trans hk E16.1
          have Sq_b16 := Safe.ext E16 hR.1 Sf_b16
          replace hR := hR.trans (CHr.ext E16 hR.1)
          replace Sf_b16 := Sq_b16
          replace Kp := Kp.ext E16
          have E_b16 := A16
          have F_b16_value : Fld Z h16 b16 "java/lang/String" "value" "[B" .null := D16 (Or.inr (own_w hw 21 rfl)) (ty := (.array .byte)) (by decide)
          have F_b16_coder : Fld Z h16 b16 "java/lang/String" "coder" "B" (.int 0) := D16 (Or.inr (own_w hw 22 rfl)) (ty := .byte) (by decide)
          refine own_goH (x' := T16.setTop (mkF m 73 #[.val (.int p0), .val (.ref ao1)] [(.ref b16)])) st16 ?_
          refine own_goH (x' := T16.setTop (mkF m 75 #[.val (.int p0), .val (.ref ao1)] [(.int 3), (.ref b16), (.ref b16)])) (fun _ k => XS.dup X16.here hx rfl (hb hby d1_73) rfl rfl (XS.iconst X16.here hx rfl (hb hby d1_74) k)) ?_
          obtain ⟨T17, h17, k17, X17, e17, E17, A17, st17⟩ := newP X16 hx hZ (own_w hw 1 rfl) e16 (g := (mkF m 75 #[.val (.int p0), .val (.ref ao1)] [(.int 3), (.ref b16), (.ref b16)])) rfl (hb hby d1_75) rfl (by decide) (cap := 3) (by decide) (by decide) (by decide) (by decide)
          obtain ⟨b17, g17⟩ : ∃ z, z = h16.size := ⟨_, rfl⟩
          rw [← g17] at A17 st17
          have ne_ao1_b17 : ao1 ≠ b17 := Nat.ne_of_lt (Nat.lt_of_lt_of_le V_ao1.lt (Nat.le_of_eq g17.symm))
          have ne_b16_b17 : b16 ≠ b17 := Nat.ne_of_lt (Nat.lt_of_lt_of_le E_b16.lt (Nat.le_of_eq g17.symm))
          have g_b17 : n0 ≤ b17 := Nat.le_trans Zs (Nat.le_of_eq g17.symm)
          have Sf_b17 := own_sfn hR (Nat.le_of_eq g17.symm)
          have sz_b17 : h0.size ≤ b17 := Nat.le_trans Kp.1 (Nat.le_of_eq g17.symm)
          replace Od := Od.ext E17
          replace V_ao1 := V_ao1.ext E17
          replace E_b16 := Exa.ext E17 E_b16
          replace F_b16_value := Fld.ext E17 F_b16_value
          replace F_b16_coder := Fld.ext E17 F_b16_coder
          replace Zs := Nat.le_trans Zs E17.1
          replace hk := Nat.le_trans hk E17.1
          have Sq_b16 := Safe.ext E17 hR.1 Sf_b16
          have Sq_b17 := Safe.ext E17 hR.1 Sf_b17
          replace hR := hR.trans (CHr.ext E17 hR.1)
          replace Sf_b16 := Sq_b16
          replace Sf_b17 := Sq_b17
          replace Kp := Kp.ext E17
          have V_b17 : Arv Z h17 b17 k17 .char (3 : Int32) [(.int 0), (.int 0), (.int 0)] (.int 0) := (Arv.new A17 (by decide)).pad (pad_rep [] (.int 0) 3)
          refine own_goH (x' := T17.setTop (mkF m 77 #[.val (.int p0), .val (.ref ao1)] [(.ref b17), (.ref b16), (.ref b16)])) st17 ?_
          refine own_goH (x' := T17.setTop (mkF m 81 #[.val (.int p0), .val (.ref ao1)] [(.int 0), (.ref ao1), (.int 0), (.ref b17), (.ref b17), (.ref b16), (.ref b16)])) (fun _ k => XS.dup X17.here hx rfl (hb hby d1_77) rfl rfl (XS.iconst X17.here hx rfl (hb hby d1_78) (XS.aloadN X17.here hx rfl (hb hby d1_79) rfl rfl (XS.iconst X17.here hx rfl (hb hby d1_80) k)))) ?_
          obtain ⟨cl18, Ar18, q18, Sz18, Nn18, Hh18, Gg18⟩ := id V_ao1
          have hin18 : ¬ ((0 : Int32) < 0 ∨ cl18.slots.size ≤ ((0 : Int32)).toNatClampNeg) := inb_of Sz18 ⟨by decide, by decide⟩
          refine own_goH (x' := T17.setTop (mkF m 82 #[.val (.int p0), .val (.ref ao1)] [(.int x0), (.int 0), (.ref b17), (.ref b17), (.ref b16), (.ref b16)])) (X17.caload hx (j := (0 : Int32)) (v := (.int x0)) (Eq.trans (congrArg (fun h_ => h_[_]?) e17) Ar18.1) (State.isArrayOf_alike hZ.alike Ar18.2.1) Ar18.2.2 hin18 (Hh18.at hin18 rfl) (g := (mkF m 81 #[.val (.int p0), .val (.ref ao1)] [(.int 0), (.ref ao1), (.int 0), (.ref b17), (.ref b17), (.ref b16), (.ref b16)])) rfl rfl (hb hby d1_81)) ?_
          obtain ⟨cl19, Ar19, q19, Sz19, Nn19, Hh19, Gg19⟩ := V_b17
          have hin19 : ¬ ((0 : Int32) < 0 ∨ cl19.slots.size ≤ ((0 : Int32)).toNatClampNeg) := inb_of Sz19 ⟨by decide, by decide⟩
          obtain ⟨T19, h19, X19, e19, W19, st19⟩ := stC X17 hx hZ e17 Ar19 (j := (0 : Int32)) hin19 (g := (mkF m 82 #[.val (.int p0), .val (.ref ao1)] [(.int x0), (.int 0), (.ref b17), (.ref b17), (.ref b16), (.ref b16)])) rfl rfl (hb hby d1_82)
          refine own_goH (x' := T19.setTop (mkF m 83 #[.val (.int p0), .val (.ref ao1)] [(.ref b17), (.ref b16), (.ref b16)])) st19 ?_
          replace Od := Od.wr W19 g_b17
          replace V_ao1 := V_ao1.other W19 ne_ao1_b17
          replace E_b16 := Exa.wr W19 E_b16
          replace F_b16_value := Fld.other W19 F_b16_value (Or.inl ne_b16_b17)
          replace F_b16_coder := Fld.other W19 F_b16_coder (Or.inl ne_b16_b17)
          replace Zs := Nat.le_trans Zs (Keep.of_wr W19).1
          replace hk := Nat.le_trans hk (Keep.of_wr W19).1
          have Sq_b16 := Safe.wr W19 Sf_b17 hR.1 Sf_b16
          have Sq_b17 := Safe.wr W19 Sf_b17 hR.1 Sf_b17
          replace hR := hR.trans (CHr.wr W19 Sf_b17 hR.1)
          replace Sf_b16 := Sq_b16
          replace Sf_b17 := Sq_b17
          replace Nf := Fr.snoc X19 Nf g_b17
          replace Kp := Kp.wr W19 (Or.inr sz_b17)
          have V_b17 : Arv Z h19 b17 k17 .char (3 : Int32) [(.int (nar .char x0)), (.int 0), (.int 0)] (.int 0) := Arv.set Ar19 q19 Sz19 Nn19 Hh19 Gg19 (fits_nar_char _) W19 0 rfl (Nat.le_of_ble_eq_true rfl)
          refine own_goH (x' := T19.setTop (mkF m 87 #[.val (.int p0), .val (.ref ao1)] [(.int 1), (.ref ao1), (.int 1), (.ref b17), (.ref b17), (.ref b16), (.ref b16)])) (fun _ k => XS.dup X19.here hx rfl (hb hby d1_83) rfl rfl (XS.iconst X19.here hx rfl (hb hby d1_84) (XS.aloadN X19.here hx rfl (hb hby d1_85) rfl rfl (XS.iconst X19.here hx rfl (hb hby d1_86) k)))) ?_
          obtain ⟨cl20, Ar20, q20, Sz20, Nn20, Hh20, Gg20⟩ := id V_ao1
          have hin20 : ¬ ((1 : Int32) < 0 ∨ cl20.slots.size ≤ ((1 : Int32)).toNatClampNeg) := inb_of Sz20 ⟨by decide, by decide⟩
          refine own_goH (x' := T19.setTop (mkF m 88 #[.val (.int p0), .val (.ref ao1)] [(.int x1), (.int 1), (.ref b17), (.ref b17), (.ref b16), (.ref b16)])) (X19.caload hx (j := (1 : Int32)) (v := (.int x1)) (Eq.trans (congrArg (fun h_ => h_[_]?) e19) Ar20.1) (State.isArrayOf_alike hZ.alike Ar20.2.1) Ar20.2.2 hin20 (Hh20.at hin20 rfl) (g := (mkF m 87 #[.val (.int p0), .val (.ref ao1)] [(.int 1), (.ref ao1), (.int 1), (.ref b17), (.ref b17), (.ref b16), (.ref b16)])) rfl rfl (hb hby d1_87)) ?_
          obtain ⟨cl21, Ar21, q21, Sz21, Nn21, Hh21, Gg21⟩ := V_b17
          have hin21 : ¬ ((1 : Int32) < 0 ∨ cl21.slots.size ≤ ((1 : Int32)).toNatClampNeg) := inb_of Sz21 ⟨by decide, by decide⟩
          obtain ⟨T21, h21, X21, e21, W21, st21⟩ := stC X19 hx hZ e19 Ar21 (j := (1 : Int32)) hin21 (g := (mkF m 88 #[.val (.int p0), .val (.ref ao1)] [(.int x1), (.int 1), (.ref b17), (.ref b17), (.ref b16), (.ref b16)])) rfl rfl (hb hby d1_88)
          refine own_goH (x' := T21.setTop (mkF m 89 #[.val (.int p0), .val (.ref ao1)] [(.ref b17), (.ref b16), (.ref b16)])) st21 ?_
          replace Od := Od.wr W21 g_b17
          replace V_ao1 := V_ao1.other W21 ne_ao1_b17
          replace E_b16 := Exa.wr W21 E_b16
          replace F_b16_value := Fld.other W21 F_b16_value (Or.inl ne_b16_b17)
          replace F_b16_coder := Fld.other W21 F_b16_coder (Or.inl ne_b16_b17)
          replace Zs := Nat.le_trans Zs (Keep.of_wr W21).1
          replace hk := Nat.le_trans hk (Keep.of_wr W21).1
          have Sq_b16 := Safe.wr W21 Sf_b17 hR.1 Sf_b16
          have Sq_b17 := Safe.wr W21 Sf_b17 hR.1 Sf_b17
          replace hR := hR.trans (CHr.wr W21 Sf_b17 hR.1)
          replace Sf_b16 := Sq_b16
          replace Sf_b17 := Sq_b17
          replace Nf := Fr.snoc X21 Nf g_b17
          replace Kp := Kp.wr W21 (Or.inr sz_b17)
          have V_b17 : Arv Z h21 b17 k17 .char (3 : Int32) [(.int (nar .char x0)), (.int (nar .char x1)), (.int 0)] (.int 0) := Arv.set Ar21 q21 Sz21 Nn21 Hh21 Gg21 (fits_nar_char _) W21 1 rfl (Nat.le_of_ble_eq_true rfl)
          refine own_goH (x' := T21.setTop (mkF m 93 #[.val (.int p0), .val (.ref ao1)] [(.int 2), (.ref ao1), (.int 2), (.ref b17), (.ref b17), (.ref b16), (.ref b16)])) (fun _ k => XS.dup X21.here hx rfl (hb hby d1_89) rfl rfl (XS.iconst X21.here hx rfl (hb hby d1_90) (XS.aloadN X21.here hx rfl (hb hby d1_91) rfl rfl (XS.iconst X21.here hx rfl (hb hby d1_92) k)))) ?_
          obtain ⟨cl22, Ar22, q22, Sz22, Nn22, Hh22, Gg22⟩ := id V_ao1
          have hin22 : ¬ ((2 : Int32) < 0 ∨ cl22.slots.size ≤ ((2 : Int32)).toNatClampNeg) := inb_of Sz22 ⟨by decide, by decide⟩
          refine own_goH (x' := T21.setTop (mkF m 94 #[.val (.int p0), .val (.ref ao1)] [(.int x2), (.int 2), (.ref b17), (.ref b17), (.ref b16), (.ref b16)])) (X21.caload hx (j := (2 : Int32)) (v := (.int x2)) (Eq.trans (congrArg (fun h_ => h_[_]?) e21) Ar22.1) (State.isArrayOf_alike hZ.alike Ar22.2.1) Ar22.2.2 hin22 (Hh22.at hin22 rfl) (g := (mkF m 93 #[.val (.int p0), .val (.ref ao1)] [(.int 2), (.ref ao1), (.int 2), (.ref b17), (.ref b17), (.ref b16), (.ref b16)])) rfl rfl (hb hby d1_93)) ?_
          obtain ⟨cl23, Ar23, q23, Sz23, Nn23, Hh23, Gg23⟩ := V_b17
          have hin23 : ¬ ((2 : Int32) < 0 ∨ cl23.slots.size ≤ ((2 : Int32)).toNatClampNeg) := inb_of Sz23 ⟨by decide, by decide⟩
          obtain ⟨T23, h23, X23, e23, W23, st23⟩ := stC X21 hx hZ e21 Ar23 (j := (2 : Int32)) hin23 (g := (mkF m 94 #[.val (.int p0), .val (.ref ao1)] [(.int x2), (.int 2), (.ref b17), (.ref b17), (.ref b16), (.ref b16)])) rfl rfl (hb hby d1_94)
          refine own_goH (x' := T23.setTop (mkF m 95 #[.val (.int p0), .val (.ref ao1)] [(.ref b17), (.ref b16), (.ref b16)])) st23 ?_
          replace Od := Od.wr W23 g_b17
          replace V_ao1 := V_ao1.other W23 ne_ao1_b17
          replace E_b16 := Exa.wr W23 E_b16
          replace F_b16_value := Fld.other W23 F_b16_value (Or.inl ne_b16_b17)
          replace F_b16_coder := Fld.other W23 F_b16_coder (Or.inl ne_b16_b17)
          replace Zs := Nat.le_trans Zs (Keep.of_wr W23).1
          replace hk := Nat.le_trans hk (Keep.of_wr W23).1
          have Sq_b16 := Safe.wr W23 Sf_b17 hR.1 Sf_b16
          have Sq_b17 := Safe.wr W23 Sf_b17 hR.1 Sf_b17
          replace hR := hR.trans (CHr.wr W23 Sf_b17 hR.1)
          replace Sf_b16 := Sq_b16
          replace Sf_b17 := Sq_b17
          replace Nf := Fr.snoc X23 Nf g_b17
          replace Kp := Kp.wr W23 (Or.inr sz_b17)
          have V_b17 : Arv Z h23 b17 k17 .char (3 : Int32) [(.int (nar .char x0)), (.int (nar .char x1)), (.int (nar .char x2))] (.int 0) := Arv.set Ar23 q23 Sz23 Nn23 Hh23 Gg23 (fits_nar_char _) W23 2 rfl (Nat.le_of_ble_eq_true rfl)
          obtain ⟨_, _, ⟨T24, L24, k24, n24⟩, -, X24, ⟨Lc24, hQ24, l24, y24, z24⟩, st24⟩ := X23.specialBack hx (y := (⟨"java/lang/String", "<init>", "([C)V"⟩ : MethodName)) rfl hown (mvT hZ (own_w hw 9 rfl)) (mvT hZ (own_w hw 10 rfl)) (mvT hZ (own_w hw 11 rfl)) (by decide) (backOf (W := 1) (rm2 l Z a0 hw [] b16 b17 k17 (List.map (nar .char) [x0, x1, x2]) G1 sf h23 n0 Zs E_b16 F_b16_value F_b16_coder V_b17 (own_nrm _) (Nat.le_of_ble_eq_true rfl) (Nat.le_of_ble_eq_true rfl) ne_b16_b17 g_b16 Od hst) hZ (own_w hw 11 rfl) (own_w hw 8 rfl) (by decide) (by decide)) (g := (mkF m 95 #[.val (.int p0), .val (.ref ao1)] [(.ref b17), (.ref b16), (.ref b16)])) rfl (by rw [hml]; rfl) (Steps.refl _) (a := b16) (argsL := [(.ref b17)]) (rest := [(.ref b16)]) (lenOf pd_21 rfl) rfl (by show 2 * 0 + _ ≤ _; exact Nat.le_of_eq rfl) (hb hby d1_95) (fun _ _ => ⟨rfl, e23, (by decide : 2 + 2 ≤ _), (by decide : 7 + 18 ≤ _)⟩)
          dsimp only [Pt.U, Pt.locs, Pt.cells, Pt.slots] at X24 l24 y24 z24 st24 hQ24
          subst l24 y24 z24
          obtain ⟨hv24, Nq24, K24, S_b16⟩ := hQ24
          subst hv24
          replace Nf := Fr.app Nf Nq24
          replace Od := Od.keep K24 (allS g_b16 all0)
          replace V_ao1 := V_ao1.keep K24 (ninS ne_ao1_b16 nin0)
          replace V_b17 := V_b17.keep K24 (ninS (Ne.symm ne_b16_b17) nin0)
          replace Zs := Nat.le_trans Zs K24.1
          replace hk := Nat.le_trans hk K24.1
          have Sq_b16 := Safe.keep K24 (allS Sf_b16 all0) hR.1 Sf_b16
          have Sq_b17 := Safe.keep K24 (allS Sf_b16 all0) hR.1 Sf_b17
          replace hR := hR.trans (CHr.keep K24 (allS Sf_b16 all0) hR.1)
          replace Sf_b16 := Sq_b16
          replace Sf_b17 := Sq_b17
          replace Kp := Kp.trans K24 (allS (Or.inr sz_b16) all0)
          refine own_goH (x' := T24.setTop (mkF m 98 #[.val (.int p0), .val (.ref ao1)] [(.ref b16)])) (fun _ k => st24.trans k) ?_
          refine own_retRH X24 hS (own_hk rfl hk) (own_hr rfl hR) hZ (own_EW hw) hx hlk hret rfl rfl (hb hby d1_98) ?_ (by decide) (by decide)
          rw [show List.map (nar .char) [x0, x1, x2] = [x0, x1, x2] from by simp only [List.map_cons, List.map_nil, own_nc hx0, own_nc hx1, own_nc hx2]] at S_b16
          exact ⟨b16, rfl, Nf, Kp, by rw [hc67, show (3 : Int32).toNatClampNeg = 3 from by decide]; exact S_b16⟩
        · refine own_goH (x' := s₁.setTop (mkF m 101 #[.val (.int p0), .val (.ref ao1)] [(.int 4), (.int p0)])) (fun _ k => XS.icmpYes X0.here hx rfl (pc0 := 67) (pc' := 99) rfl (hb hby d1_67) rfl (feq hc67).2 (by decide) (by decide) (XS.iloadN X0.here hx rfl (hb hby d1_99) rfl (XS.iconst X0.here hx rfl (hb hby d1_100) k))) ?_
          by_cases hc101 : p0 = (4 : Int32)
          · refine own_goH (x' := s₁.setTop (mkF m 104 #[.val (.int p0), .val (.ref ao1)] [])) (fun _ k => XS.icmpNo X0.here hx rfl (hb hby d1_101) rfl (teq hc101).2 k) ?_
            obtain ⟨T25, h25, X25, e25, E25, A25, D25, -, st25⟩ := newO X0 hx hZ hown (own_w hw 6 rfl) (own_w hw 7 rfl) (own_w hw 8 rfl) e0 (g := (mkF m 104 #[.val (.int p0), .val (.ref ao1)] [])) rfl (hb hby d1_104) (by decide) (by decide)
            obtain ⟨b25, g25⟩ : ∃ z, z = h0.size := ⟨_, rfl⟩
            rw [← g25] at A25 D25 st25
            have ne_ao1_b25 : ao1 ≠ b25 := Nat.ne_of_lt (Nat.lt_of_lt_of_le V_ao1.lt (Nat.le_of_eq g25.symm))
            have g_b25 : n0 ≤ b25 := Nat.le_trans Zs (Nat.le_of_eq g25.symm)
            have Sf_b25 := own_sfn hR (Nat.le_of_eq g25.symm)
            have sz_b25 : h0.size ≤ b25 := Nat.le_trans Kp.1 (Nat.le_of_eq g25.symm)
            replace Od := Od.ext E25
            replace V_ao1 := V_ao1.ext E25
            replace Zs := Nat.le_trans Zs E25.1
            replace hk := Nat.le_trans hk E25.1
            have Sq_b25 := Safe.ext E25 hR.1 Sf_b25
            replace hR := hR.trans (CHr.ext E25 hR.1)
            replace Sf_b25 := Sq_b25
            replace Kp := Kp.ext E25
            have E_b25 := A25
            have F_b25_value : Fld Z h25 b25 "java/lang/String" "value" "[B" .null := D25 (Or.inr (own_w hw 21 rfl)) (ty := (.array .byte)) (by decide)
            have F_b25_coder : Fld Z h25 b25 "java/lang/String" "coder" "B" (.int 0) := D25 (Or.inr (own_w hw 22 rfl)) (ty := .byte) (by decide)
            refine own_goH (x' := T25.setTop (mkF m 107 #[.val (.int p0), .val (.ref ao1)] [(.ref b25)])) st25 ?_
            refine own_goH (x' := T25.setTop (mkF m 109 #[.val (.int p0), .val (.ref ao1)] [(.int 4), (.ref b25), (.ref b25)])) (fun _ k => XS.dup X25.here hx rfl (hb hby d1_107) rfl rfl (XS.iconst X25.here hx rfl (hb hby d1_108) k)) ?_
            obtain ⟨T26, h26, k26, X26, e26, E26, A26, st26⟩ := newP X25 hx hZ (own_w hw 1 rfl) e25 (g := (mkF m 109 #[.val (.int p0), .val (.ref ao1)] [(.int 4), (.ref b25), (.ref b25)])) rfl (hb hby d1_109) rfl (by decide) (cap := 4) (by decide) (by decide) (by decide) (by decide)
            obtain ⟨b26, g26⟩ : ∃ z, z = h25.size := ⟨_, rfl⟩
            rw [← g26] at A26 st26
            have ne_ao1_b26 : ao1 ≠ b26 := Nat.ne_of_lt (Nat.lt_of_lt_of_le V_ao1.lt (Nat.le_of_eq g26.symm))
            have ne_b25_b26 : b25 ≠ b26 := Nat.ne_of_lt (Nat.lt_of_lt_of_le E_b25.lt (Nat.le_of_eq g26.symm))
            have g_b26 : n0 ≤ b26 := Nat.le_trans Zs (Nat.le_of_eq g26.symm)
            have Sf_b26 := own_sfn hR (Nat.le_of_eq g26.symm)
            have sz_b26 : h0.size ≤ b26 := Nat.le_trans Kp.1 (Nat.le_of_eq g26.symm)
            replace Od := Od.ext E26
            replace V_ao1 := V_ao1.ext E26
            replace E_b25 := Exa.ext E26 E_b25
            replace F_b25_value := Fld.ext E26 F_b25_value
            replace F_b25_coder := Fld.ext E26 F_b25_coder
            replace Zs := Nat.le_trans Zs E26.1
            replace hk := Nat.le_trans hk E26.1
            have Sq_b25 := Safe.ext E26 hR.1 Sf_b25
            have Sq_b26 := Safe.ext E26 hR.1 Sf_b26
            replace hR := hR.trans (CHr.ext E26 hR.1)
            replace Sf_b25 := Sq_b25
            replace Sf_b26 := Sq_b26
            replace Kp := Kp.ext E26
            have V_b26 : Arv Z h26 b26 k26 .char (4 : Int32) [(.int 0), (.int 0), (.int 0), (.int 0)] (.int 0) := (Arv.new A26 (by decide)).pad (pad_rep [] (.int 0) 4)
            refine own_goH (x' := T26.setTop (mkF m 111 #[.val (.int p0), .val (.ref ao1)] [(.ref b26), (.ref b25), (.ref b25)])) st26 ?_
            refine own_goH (x' := T26.setTop (mkF m 115 #[.val (.int p0), .val (.ref ao1)] [(.int 0), (.ref ao1), (.int 0), (.ref b26), (.ref b26), (.ref b25), (.ref b25)])) (fun _ k => XS.dup X26.here hx rfl (hb hby d1_111) rfl rfl (XS.iconst X26.here hx rfl (hb hby d1_112) (XS.aloadN X26.here hx rfl (hb hby d1_113) rfl rfl (XS.iconst X26.here hx rfl (hb hby d1_114) k)))) ?_
            obtain ⟨cl27, Ar27, q27, Sz27, Nn27, Hh27, Gg27⟩ := id V_ao1
            have hin27 : ¬ ((0 : Int32) < 0 ∨ cl27.slots.size ≤ ((0 : Int32)).toNatClampNeg) := inb_of Sz27 ⟨by decide, by decide⟩
            refine own_goH (x' := T26.setTop (mkF m 116 #[.val (.int p0), .val (.ref ao1)] [(.int x0), (.int 0), (.ref b26), (.ref b26), (.ref b25), (.ref b25)])) (X26.caload hx (j := (0 : Int32)) (v := (.int x0)) (Eq.trans (congrArg (fun h_ => h_[_]?) e26) Ar27.1) (State.isArrayOf_alike hZ.alike Ar27.2.1) Ar27.2.2 hin27 (Hh27.at hin27 rfl) (g := (mkF m 115 #[.val (.int p0), .val (.ref ao1)] [(.int 0), (.ref ao1), (.int 0), (.ref b26), (.ref b26), (.ref b25), (.ref b25)])) rfl rfl (hb hby d1_115)) ?_
            obtain ⟨cl28, Ar28, q28, Sz28, Nn28, Hh28, Gg28⟩ := V_b26
            have hin28 : ¬ ((0 : Int32) < 0 ∨ cl28.slots.size ≤ ((0 : Int32)).toNatClampNeg) := inb_of Sz28 ⟨by decide, by decide⟩
            obtain ⟨T28, h28, X28, e28, W28, st28⟩ := stC X26 hx hZ e26 Ar28 (j := (0 : Int32)) hin28 (g := (mkF m 116 #[.val (.int p0), .val (.ref ao1)] [(.int x0), (.int 0), (.ref b26), (.ref b26), (.ref b25), (.ref b25)])) rfl rfl (hb hby d1_116)
            refine own_goH (x' := T28.setTop (mkF m 117 #[.val (.int p0), .val (.ref ao1)] [(.ref b26), (.ref b25), (.ref b25)])) st28 ?_
            replace Od := Od.wr W28 g_b26
            replace V_ao1 := V_ao1.other W28 ne_ao1_b26
            replace E_b25 := Exa.wr W28 E_b25
            replace F_b25_value := Fld.other W28 F_b25_value (Or.inl ne_b25_b26)
            replace F_b25_coder := Fld.other W28 F_b25_coder (Or.inl ne_b25_b26)
            replace Zs := Nat.le_trans Zs (Keep.of_wr W28).1
            replace hk := Nat.le_trans hk (Keep.of_wr W28).1
            have Sq_b25 := Safe.wr W28 Sf_b26 hR.1 Sf_b25
            have Sq_b26 := Safe.wr W28 Sf_b26 hR.1 Sf_b26
            replace hR := hR.trans (CHr.wr W28 Sf_b26 hR.1)
            replace Sf_b25 := Sq_b25
            replace Sf_b26 := Sq_b26
            replace Nf := Fr.snoc X28 Nf g_b26
            replace Kp := Kp.wr W28 (Or.inr sz_b26)
            have V_b26 : Arv Z h28 b26 k26 .char (4 : Int32) [(.int (nar .char x0)), (.int 0), (.int 0), (.int 0)] (.int 0) := Arv.set Ar28 q28 Sz28 Nn28 Hh28 Gg28 (fits_nar_char _) W28 0 rfl (Nat.le_of_ble_eq_true rfl)
            refine own_goH (x' := T28.setTop (mkF m 121 #[.val (.int p0), .val (.ref ao1)] [(.int 1), (.ref ao1), (.int 1), (.ref b26), (.ref b26), (.ref b25), (.ref b25)])) (fun _ k => XS.dup X28.here hx rfl (hb hby d1_117) rfl rfl (XS.iconst X28.here hx rfl (hb hby d1_118) (XS.aloadN X28.here hx rfl (hb hby d1_119) rfl rfl (XS.iconst X28.here hx rfl (hb hby d1_120) k)))) ?_
            obtain ⟨cl29, Ar29, q29, Sz29, Nn29, Hh29, Gg29⟩ := id V_ao1
            have hin29 : ¬ ((1 : Int32) < 0 ∨ cl29.slots.size ≤ ((1 : Int32)).toNatClampNeg) := inb_of Sz29 ⟨by decide, by decide⟩
            refine own_goH (x' := T28.setTop (mkF m 122 #[.val (.int p0), .val (.ref ao1)] [(.int x1), (.int 1), (.ref b26), (.ref b26), (.ref b25), (.ref b25)])) (X28.caload hx (j := (1 : Int32)) (v := (.int x1)) (Eq.trans (congrArg (fun h_ => h_[_]?) e28) Ar29.1) (State.isArrayOf_alike hZ.alike Ar29.2.1) Ar29.2.2 hin29 (Hh29.at hin29 rfl) (g := (mkF m 121 #[.val (.int p0), .val (.ref ao1)] [(.int 1), (.ref ao1), (.int 1), (.ref b26), (.ref b26), (.ref b25), (.ref b25)])) rfl rfl (hb hby d1_121)) ?_
            obtain ⟨cl30, Ar30, q30, Sz30, Nn30, Hh30, Gg30⟩ := V_b26
            have hin30 : ¬ ((1 : Int32) < 0 ∨ cl30.slots.size ≤ ((1 : Int32)).toNatClampNeg) := inb_of Sz30 ⟨by decide, by decide⟩
            obtain ⟨T30, h30, X30, e30, W30, st30⟩ := stC X28 hx hZ e28 Ar30 (j := (1 : Int32)) hin30 (g := (mkF m 122 #[.val (.int p0), .val (.ref ao1)] [(.int x1), (.int 1), (.ref b26), (.ref b26), (.ref b25), (.ref b25)])) rfl rfl (hb hby d1_122)
            refine own_goH (x' := T30.setTop (mkF m 123 #[.val (.int p0), .val (.ref ao1)] [(.ref b26), (.ref b25), (.ref b25)])) st30 ?_
            replace Od := Od.wr W30 g_b26
            replace V_ao1 := V_ao1.other W30 ne_ao1_b26
            replace E_b25 := Exa.wr W30 E_b25
            replace F_b25_value := Fld.other W30 F_b25_value (Or.inl ne_b25_b26)
            replace F_b25_coder := Fld.other W30 F_b25_coder (Or.inl ne_b25_b26)
            replace Zs := Nat.le_trans Zs (Keep.of_wr W30).1
            replace hk := Nat.le_trans hk (Keep.of_wr W30).1
            have Sq_b25 := Safe.wr W30 Sf_b26 hR.1 Sf_b25
            have Sq_b26 := Safe.wr W30 Sf_b26 hR.1 Sf_b26
            replace hR := hR.trans (CHr.wr W30 Sf_b26 hR.1)
            replace Sf_b25 := Sq_b25
            replace Sf_b26 := Sq_b26
            replace Nf := Fr.snoc X30 Nf g_b26
            replace Kp := Kp.wr W30 (Or.inr sz_b26)
            have V_b26 : Arv Z h30 b26 k26 .char (4 : Int32) [(.int (nar .char x0)), (.int (nar .char x1)), (.int 0), (.int 0)] (.int 0) := Arv.set Ar30 q30 Sz30 Nn30 Hh30 Gg30 (fits_nar_char _) W30 1 rfl (Nat.le_of_ble_eq_true rfl)
            refine own_goH (x' := T30.setTop (mkF m 127 #[.val (.int p0), .val (.ref ao1)] [(.int 2), (.ref ao1), (.int 2), (.ref b26), (.ref b26), (.ref b25), (.ref b25)])) (fun _ k => XS.dup X30.here hx rfl (hb hby d1_123) rfl rfl (XS.iconst X30.here hx rfl (hb hby d1_124) (XS.aloadN X30.here hx rfl (hb hby d1_125) rfl rfl (XS.iconst X30.here hx rfl (hb hby d1_126) k)))) ?_
            obtain ⟨cl31, Ar31, q31, Sz31, Nn31, Hh31, Gg31⟩ := id V_ao1
            have hin31 : ¬ ((2 : Int32) < 0 ∨ cl31.slots.size ≤ ((2 : Int32)).toNatClampNeg) := inb_of Sz31 ⟨by decide, by decide⟩
            refine own_goH (x' := T30.setTop (mkF m 128 #[.val (.int p0), .val (.ref ao1)] [(.int x2), (.int 2), (.ref b26), (.ref b26), (.ref b25), (.ref b25)])) (X30.caload hx (j := (2 : Int32)) (v := (.int x2)) (Eq.trans (congrArg (fun h_ => h_[_]?) e30) Ar31.1) (State.isArrayOf_alike hZ.alike Ar31.2.1) Ar31.2.2 hin31 (Hh31.at hin31 rfl) (g := (mkF m 127 #[.val (.int p0), .val (.ref ao1)] [(.int 2), (.ref ao1), (.int 2), (.ref b26), (.ref b26), (.ref b25), (.ref b25)])) rfl rfl (hb hby d1_127)) ?_
            obtain ⟨cl32, Ar32, q32, Sz32, Nn32, Hh32, Gg32⟩ := V_b26
            have hin32 : ¬ ((2 : Int32) < 0 ∨ cl32.slots.size ≤ ((2 : Int32)).toNatClampNeg) := inb_of Sz32 ⟨by decide, by decide⟩
            obtain ⟨T32, h32, X32, e32, W32, st32⟩ := stC X30 hx hZ e30 Ar32 (j := (2 : Int32)) hin32 (g := (mkF m 128 #[.val (.int p0), .val (.ref ao1)] [(.int x2), (.int 2), (.ref b26), (.ref b26), (.ref b25), (.ref b25)])) rfl rfl (hb hby d1_128)
            refine own_goH (x' := T32.setTop (mkF m 129 #[.val (.int p0), .val (.ref ao1)] [(.ref b26), (.ref b25), (.ref b25)])) st32 ?_
            replace Od := Od.wr W32 g_b26
            replace V_ao1 := V_ao1.other W32 ne_ao1_b26
            replace E_b25 := Exa.wr W32 E_b25
            replace F_b25_value := Fld.other W32 F_b25_value (Or.inl ne_b25_b26)
            replace F_b25_coder := Fld.other W32 F_b25_coder (Or.inl ne_b25_b26)
            replace Zs := Nat.le_trans Zs (Keep.of_wr W32).1
            replace hk := Nat.le_trans hk (Keep.of_wr W32).1
            have Sq_b25 := Safe.wr W32 Sf_b26 hR.1 Sf_b25
            have Sq_b26 := Safe.wr W32 Sf_b26 hR.1 Sf_b26
            replace hR := hR.trans (CHr.wr W32 Sf_b26 hR.1)
            replace Sf_b25 := Sq_b25
            replace Sf_b26 := Sq_b26
            replace Nf := Fr.snoc X32 Nf g_b26
            replace Kp := Kp.wr W32 (Or.inr sz_b26)
            have V_b26 : Arv Z h32 b26 k26 .char (4 : Int32) [(.int (nar .char x0)), (.int (nar .char x1)), (.int (nar .char x2)), (.int 0)] (.int 0) := Arv.set Ar32 q32 Sz32 Nn32 Hh32 Gg32 (fits_nar_char _) W32 2 rfl (Nat.le_of_ble_eq_true rfl)
            refine own_goH (x' := T32.setTop (mkF m 133 #[.val (.int p0), .val (.ref ao1)] [(.int 3), (.ref ao1), (.int 3), (.ref b26), (.ref b26), (.ref b25), (.ref b25)])) (fun _ k => XS.dup X32.here hx rfl (hb hby d1_129) rfl rfl (XS.iconst X32.here hx rfl (hb hby d1_130) (XS.aloadN X32.here hx rfl (hb hby d1_131) rfl rfl (XS.iconst X32.here hx rfl (hb hby d1_132) k)))) ?_
            obtain ⟨cl33, Ar33, q33, Sz33, Nn33, Hh33, Gg33⟩ := id V_ao1
            have hin33 : ¬ ((3 : Int32) < 0 ∨ cl33.slots.size ≤ ((3 : Int32)).toNatClampNeg) := inb_of Sz33 ⟨by decide, by decide⟩
            refine own_goH (x' := T32.setTop (mkF m 134 #[.val (.int p0), .val (.ref ao1)] [(.int x3), (.int 3), (.ref b26), (.ref b26), (.ref b25), (.ref b25)])) (X32.caload hx (j := (3 : Int32)) (v := (.int x3)) (Eq.trans (congrArg (fun h_ => h_[_]?) e32) Ar33.1) (State.isArrayOf_alike hZ.alike Ar33.2.1) Ar33.2.2 hin33 (Hh33.at hin33 rfl) (g := (mkF m 133 #[.val (.int p0), .val (.ref ao1)] [(.int 3), (.ref ao1), (.int 3), (.ref b26), (.ref b26), (.ref b25), (.ref b25)])) rfl rfl (hb hby d1_133)) ?_
            obtain ⟨cl34, Ar34, q34, Sz34, Nn34, Hh34, Gg34⟩ := V_b26
            have hin34 : ¬ ((3 : Int32) < 0 ∨ cl34.slots.size ≤ ((3 : Int32)).toNatClampNeg) := inb_of Sz34 ⟨by decide, by decide⟩
            obtain ⟨T34, h34, X34, e34, W34, st34⟩ := stC X32 hx hZ e32 Ar34 (j := (3 : Int32)) hin34 (g := (mkF m 134 #[.val (.int p0), .val (.ref ao1)] [(.int x3), (.int 3), (.ref b26), (.ref b26), (.ref b25), (.ref b25)])) rfl rfl (hb hby d1_134)
            refine own_goH (x' := T34.setTop (mkF m 135 #[.val (.int p0), .val (.ref ao1)] [(.ref b26), (.ref b25), (.ref b25)])) st34 ?_
            replace Od := Od.wr W34 g_b26
            replace V_ao1 := V_ao1.other W34 ne_ao1_b26
            replace E_b25 := Exa.wr W34 E_b25
            replace F_b25_value := Fld.other W34 F_b25_value (Or.inl ne_b25_b26)
            replace F_b25_coder := Fld.other W34 F_b25_coder (Or.inl ne_b25_b26)
            replace Zs := Nat.le_trans Zs (Keep.of_wr W34).1
            replace hk := Nat.le_trans hk (Keep.of_wr W34).1
            have Sq_b25 := Safe.wr W34 Sf_b26 hR.1 Sf_b25
            have Sq_b26 := Safe.wr W34 Sf_b26 hR.1 Sf_b26
            replace hR := hR.trans (CHr.wr W34 Sf_b26 hR.1)
            replace Sf_b25 := Sq_b25
            replace Sf_b26 := Sq_b26
            replace Nf := Fr.snoc X34 Nf g_b26
            replace Kp := Kp.wr W34 (Or.inr sz_b26)
            have V_b26 : Arv Z h34 b26 k26 .char (4 : Int32) [(.int (nar .char x0)), (.int (nar .char x1)), (.int (nar .char x2)), (.int (nar .char x3))] (.int 0) := Arv.set Ar34 q34 Sz34 Nn34 Hh34 Gg34 (fits_nar_char _) W34 3 rfl (Nat.le_of_ble_eq_true rfl)
            obtain ⟨LL35, X35, Nf⟩ : ∃ LL : List Loc, Stand p l e _ (s.setVm _) m _ below meth c T34 LL 2 8 ∧ Fr n0 LL := ⟨_, X34, Nf⟩
            obtain ⟨_, _, ⟨T36, L36, k36, n36⟩, -, X36, ⟨Lc36, hQ36, l36, y36, z36⟩, st36⟩ := X35.specialBack hx (y := (⟨"java/lang/String", "<init>", "([C)V"⟩ : MethodName)) rfl hown (mvT hZ (own_w hw 9 rfl)) (mvT hZ (own_w hw 10 rfl)) (mvT hZ (own_w hw 11 rfl)) (by decide) (backOf (W := 1) (rm2 l Z a0 hw [] b25 b26 k26 (List.map (nar .char) [x0, x1, x2, x3]) G1 sf h34 n0 Zs E_b25 F_b25_value F_b25_coder V_b26 (own_nrm _) (Nat.le_of_ble_eq_true rfl) (Nat.le_of_ble_eq_true rfl) ne_b25_b26 g_b25 Od hst) hZ (own_w hw 11 rfl) (own_w hw 8 rfl) (by decide) (by decide)) (g := (mkF m 135 #[.val (.int p0), .val (.ref ao1)] [(.ref b26), (.ref b25), (.ref b25)])) rfl (by rw [hml]; rfl) (Steps.refl _) (a := b25) (argsL := [(.ref b26)]) (rest := [(.ref b25)]) (lenOf pd_21 rfl) rfl (by show 2 * 0 + _ ≤ _; exact Nat.le_of_eq rfl) (hb hby d1_135) (fun _ _ => ⟨rfl, e34, (by decide : 2 + 2 ≤ _), (by decide : 8 + 18 ≤ _)⟩)
            dsimp only [Pt.U, Pt.locs, Pt.cells, Pt.slots] at X36 l36 y36 z36 st36 hQ36
            subst l36 y36 z36
            obtain ⟨hv36, Nq36, K36, S_b25⟩ := hQ36
            subst hv36
            replace Nf := Fr.app Nf Nq36
            replace Od := Od.keep K36 (allS g_b25 all0)
            replace V_ao1 := V_ao1.keep K36 (ninS ne_ao1_b25 nin0)
            replace V_b26 := V_b26.keep K36 (ninS (Ne.symm ne_b25_b26) nin0)
            replace Zs := Nat.le_trans Zs K36.1
            replace hk := Nat.le_trans hk K36.1
            have Sq_b25 := Safe.keep K36 (allS Sf_b25 all0) hR.1 Sf_b25
            have Sq_b26 := Safe.keep K36 (allS Sf_b25 all0) hR.1 Sf_b26
            replace hR := hR.trans (CHr.keep K36 (allS Sf_b25 all0) hR.1)
            replace Sf_b25 := Sq_b25
            replace Sf_b26 := Sq_b26
            replace Kp := Kp.trans K36 (allS (Or.inr sz_b25) all0)
            refine own_goH (x' := T36.setTop (mkF m 138 #[.val (.int p0), .val (.ref ao1)] [(.ref b25)])) (fun _ k => st36.trans k) ?_
            refine own_retRH X36 hS (own_hk rfl hk) (own_hr rfl hR) hZ (own_EW hw) hx hlk hret rfl rfl (hb hby d1_138) ?_ (by decide) (by decide)
            rw [show List.map (nar .char) [x0, x1, x2, x3] = [x0, x1, x2, x3] from by simp only [List.map_cons, List.map_nil, own_nc hx0, own_nc hx1, own_nc hx2, own_nc hx3]] at S_b25
            exact ⟨b25, rfl, Nf, Kp, by rw [hc101, show (4 : Int32).toNatClampNeg = 4 from by decide]; exact S_b25⟩
          · refine own_goH (x' := s₁.setTop (mkF m 141 #[.val (.int p0), .val (.ref ao1)] [(.int 5), (.int p0)])) (fun _ k => XS.icmpYes X0.here hx rfl (pc0 := 101) (pc' := 139) rfl (hb hby d1_101) rfl (feq hc101).2 (by decide) (by decide) (XS.iloadN X0.here hx rfl (hb hby d1_139) rfl (XS.iconst X0.here hx rfl (hb hby d1_140) k))) ?_
            by_cases hc141 : p0 = (5 : Int32)
            · refine own_goH (x' := s₁.setTop (mkF m 144 #[.val (.int p0), .val (.ref ao1)] [])) (fun _ k => XS.icmpNo X0.here hx rfl (hb hby d1_141) rfl (teq hc141).2 k) ?_
              obtain ⟨T37, h37, X37, e37, E37, A37, D37, -, st37⟩ := newO X0 hx hZ hown (own_w hw 6 rfl) (own_w hw 7 rfl) (own_w hw 8 rfl) e0 (g := (mkF m 144 #[.val (.int p0), .val (.ref ao1)] [])) rfl (hb hby d1_144) (by decide) (by decide)
              obtain ⟨b37, g37⟩ : ∃ z, z = h0.size := ⟨_, rfl⟩
              rw [← g37] at A37 D37 st37
              have ne_ao1_b37 : ao1 ≠ b37 := Nat.ne_of_lt (Nat.lt_of_lt_of_le V_ao1.lt (Nat.le_of_eq g37.symm))
              have g_b37 : n0 ≤ b37 := Nat.le_trans Zs (Nat.le_of_eq g37.symm)
              have Sf_b37 := own_sfn hR (Nat.le_of_eq g37.symm)
              have sz_b37 : h0.size ≤ b37 := Nat.le_trans Kp.1 (Nat.le_of_eq g37.symm)
              replace Od := Od.ext E37
              replace V_ao1 := V_ao1.ext E37
              replace Zs := Nat.le_trans Zs E37.1
              replace hk := Nat.le_trans hk E37.1
              have Sq_b37 := Safe.ext E37 hR.1 Sf_b37
              replace hR := hR.trans (CHr.ext E37 hR.1)
              replace Sf_b37 := Sq_b37
              replace Kp := Kp.ext E37
              have E_b37 := A37
              have F_b37_value : Fld Z h37 b37 "java/lang/String" "value" "[B" .null := D37 (Or.inr (own_w hw 21 rfl)) (ty := (.array .byte)) (by decide)
              have F_b37_coder : Fld Z h37 b37 "java/lang/String" "coder" "B" (.int 0) := D37 (Or.inr (own_w hw 22 rfl)) (ty := .byte) (by decide)
              refine own_goH (x' := T37.setTop (mkF m 147 #[.val (.int p0), .val (.ref ao1)] [(.ref b37)])) st37 ?_
              refine own_goH (x' := T37.setTop (mkF m 149 #[.val (.int p0), .val (.ref ao1)] [(.int 5), (.ref b37), (.ref b37)])) (fun _ k => XS.dup X37.here hx rfl (hb hby d1_147) rfl rfl (XS.iconst X37.here hx rfl (hb hby d1_148) k)) ?_
              obtain ⟨T38, h38, k38, X38, e38, E38, A38, st38⟩ := newP X37 hx hZ (own_w hw 1 rfl) e37 (g := (mkF m 149 #[.val (.int p0), .val (.ref ao1)] [(.int 5), (.ref b37), (.ref b37)])) rfl (hb hby d1_149) rfl (by decide) (cap := 5) (by decide) (by decide) (by decide) (by decide)
              obtain ⟨b38, g38⟩ : ∃ z, z = h37.size := ⟨_, rfl⟩
              rw [← g38] at A38 st38
              have ne_ao1_b38 : ao1 ≠ b38 := Nat.ne_of_lt (Nat.lt_of_lt_of_le V_ao1.lt (Nat.le_of_eq g38.symm))
              have ne_b37_b38 : b37 ≠ b38 := Nat.ne_of_lt (Nat.lt_of_lt_of_le E_b37.lt (Nat.le_of_eq g38.symm))
              have g_b38 : n0 ≤ b38 := Nat.le_trans Zs (Nat.le_of_eq g38.symm)
              have Sf_b38 := own_sfn hR (Nat.le_of_eq g38.symm)
              have sz_b38 : h0.size ≤ b38 := Nat.le_trans Kp.1 (Nat.le_of_eq g38.symm)
              replace Od := Od.ext E38
              replace V_ao1 := V_ao1.ext E38
              replace E_b37 := Exa.ext E38 E_b37
              replace F_b37_value := Fld.ext E38 F_b37_value
              replace F_b37_coder := Fld.ext E38 F_b37_coder
              replace Zs := Nat.le_trans Zs E38.1
              replace hk := Nat.le_trans hk E38.1
              have Sq_b37 := Safe.ext E38 hR.1 Sf_b37
              have Sq_b38 := Safe.ext E38 hR.1 Sf_b38
              replace hR := hR.trans (CHr.ext E38 hR.1)
              replace Sf_b37 := Sq_b37
              replace Sf_b38 := Sq_b38
              replace Kp := Kp.ext E38
              have V_b38 : Arv Z h38 b38 k38 .char (5 : Int32) [(.int 0), (.int 0), (.int 0), (.int 0), (.int 0)] (.int 0) := (Arv.new A38 (by decide)).pad (pad_rep [] (.int 0) 5)
              refine own_goH (x' := T38.setTop (mkF m 151 #[.val (.int p0), .val (.ref ao1)] [(.ref b38), (.ref b37), (.ref b37)])) st38 ?_
              refine own_goH (x' := T38.setTop (mkF m 155 #[.val (.int p0), .val (.ref ao1)] [(.int 0), (.ref ao1), (.int 0), (.ref b38), (.ref b38), (.ref b37), (.ref b37)])) (fun _ k => XS.dup X38.here hx rfl (hb hby d1_151) rfl rfl (XS.iconst X38.here hx rfl (hb hby d1_152) (XS.aloadN X38.here hx rfl (hb hby d1_153) rfl rfl (XS.iconst X38.here hx rfl (hb hby d1_154) k)))) ?_
              obtain ⟨cl39, Ar39, q39, Sz39, Nn39, Hh39, Gg39⟩ := id V_ao1
              have hin39 : ¬ ((0 : Int32) < 0 ∨ cl39.slots.size ≤ ((0 : Int32)).toNatClampNeg) := inb_of Sz39 ⟨by decide, by decide⟩
              refine own_goH (x' := T38.setTop (mkF m 156 #[.val (.int p0), .val (.ref ao1)] [(.int x0), (.int 0), (.ref b38), (.ref b38), (.ref b37), (.ref b37)])) (X38.caload hx (j := (0 : Int32)) (v := (.int x0)) (Eq.trans (congrArg (fun h_ => h_[_]?) e38) Ar39.1) (State.isArrayOf_alike hZ.alike Ar39.2.1) Ar39.2.2 hin39 (Hh39.at hin39 rfl) (g := (mkF m 155 #[.val (.int p0), .val (.ref ao1)] [(.int 0), (.ref ao1), (.int 0), (.ref b38), (.ref b38), (.ref b37), (.ref b37)])) rfl rfl (hb hby d1_155)) ?_
              obtain ⟨cl40, Ar40, q40, Sz40, Nn40, Hh40, Gg40⟩ := V_b38
              have hin40 : ¬ ((0 : Int32) < 0 ∨ cl40.slots.size ≤ ((0 : Int32)).toNatClampNeg) := inb_of Sz40 ⟨by decide, by decide⟩
              obtain ⟨T40, h40, X40, e40, W40, st40⟩ := stC X38 hx hZ e38 Ar40 (j := (0 : Int32)) hin40 (g := (mkF m 156 #[.val (.int p0), .val (.ref ao1)] [(.int x0), (.int 0), (.ref b38), (.ref b38), (.ref b37), (.ref b37)])) rfl rfl (hb hby d1_156)
              refine own_goH (x' := T40.setTop (mkF m 157 #[.val (.int p0), .val (.ref ao1)] [(.ref b38), (.ref b37), (.ref b37)])) st40 ?_
              replace Od := Od.wr W40 g_b38
              replace V_ao1 := V_ao1.other W40 ne_ao1_b38
              replace E_b37 := Exa.wr W40 E_b37
              replace F_b37_value := Fld.other W40 F_b37_value (Or.inl ne_b37_b38)
              replace F_b37_coder := Fld.other W40 F_b37_coder (Or.inl ne_b37_b38)
              replace Zs := Nat.le_trans Zs (Keep.of_wr W40).1
              replace hk := Nat.le_trans hk (Keep.of_wr W40).1
              have Sq_b37 := Safe.wr W40 Sf_b38 hR.1 Sf_b37
              have Sq_b38 := Safe.wr W40 Sf_b38 hR.1 Sf_b38
              replace hR := hR.trans (CHr.wr W40 Sf_b38 hR.1)
              replace Sf_b37 := Sq_b37
              replace Sf_b38 := Sq_b38
              replace Nf := Fr.snoc X40 Nf g_b38
              replace Kp := Kp.wr W40 (Or.inr sz_b38)
              have V_b38 : Arv Z h40 b38 k38 .char (5 : Int32) [(.int (nar .char x0)), (.int 0), (.int 0), (.int 0), (.int 0)] (.int 0) := Arv.set Ar40 q40 Sz40 Nn40 Hh40 Gg40 (fits_nar_char _) W40 0 rfl (Nat.le_of_ble_eq_true rfl)
              refine own_goH (x' := T40.setTop (mkF m 161 #[.val (.int p0), .val (.ref ao1)] [(.int 1), (.ref ao1), (.int 1), (.ref b38), (.ref b38), (.ref b37), (.ref b37)])) (fun _ k => XS.dup X40.here hx rfl (hb hby d1_157) rfl rfl (XS.iconst X40.here hx rfl (hb hby d1_158) (XS.aloadN X40.here hx rfl (hb hby d1_159) rfl rfl (XS.iconst X40.here hx rfl (hb hby d1_160) k)))) ?_
              obtain ⟨cl41, Ar41, q41, Sz41, Nn41, Hh41, Gg41⟩ := id V_ao1
              have hin41 : ¬ ((1 : Int32) < 0 ∨ cl41.slots.size ≤ ((1 : Int32)).toNatClampNeg) := inb_of Sz41 ⟨by decide, by decide⟩
              refine own_goH (x' := T40.setTop (mkF m 162 #[.val (.int p0), .val (.ref ao1)] [(.int x1), (.int 1), (.ref b38), (.ref b38), (.ref b37), (.ref b37)])) (X40.caload hx (j := (1 : Int32)) (v := (.int x1)) (Eq.trans (congrArg (fun h_ => h_[_]?) e40) Ar41.1) (State.isArrayOf_alike hZ.alike Ar41.2.1) Ar41.2.2 hin41 (Hh41.at hin41 rfl) (g := (mkF m 161 #[.val (.int p0), .val (.ref ao1)] [(.int 1), (.ref ao1), (.int 1), (.ref b38), (.ref b38), (.ref b37), (.ref b37)])) rfl rfl (hb hby d1_161)) ?_
              obtain ⟨cl42, Ar42, q42, Sz42, Nn42, Hh42, Gg42⟩ := V_b38
              have hin42 : ¬ ((1 : Int32) < 0 ∨ cl42.slots.size ≤ ((1 : Int32)).toNatClampNeg) := inb_of Sz42 ⟨by decide, by decide⟩
              obtain ⟨T42, h42, X42, e42, W42, st42⟩ := stC X40 hx hZ e40 Ar42 (j := (1 : Int32)) hin42 (g := (mkF m 162 #[.val (.int p0), .val (.ref ao1)] [(.int x1), (.int 1), (.ref b38), (.ref b38), (.ref b37), (.ref b37)])) rfl rfl (hb hby d1_162)
              refine own_goH (x' := T42.setTop (mkF m 163 #[.val (.int p0), .val (.ref ao1)] [(.ref b38), (.ref b37), (.ref b37)])) st42 ?_
              replace Od := Od.wr W42 g_b38
              replace V_ao1 := V_ao1.other W42 ne_ao1_b38
              replace E_b37 := Exa.wr W42 E_b37
              replace F_b37_value := Fld.other W42 F_b37_value (Or.inl ne_b37_b38)
              replace F_b37_coder := Fld.other W42 F_b37_coder (Or.inl ne_b37_b38)
              replace Zs := Nat.le_trans Zs (Keep.of_wr W42).1
              replace hk := Nat.le_trans hk (Keep.of_wr W42).1
              have Sq_b37 := Safe.wr W42 Sf_b38 hR.1 Sf_b37
              have Sq_b38 := Safe.wr W42 Sf_b38 hR.1 Sf_b38
              replace hR := hR.trans (CHr.wr W42 Sf_b38 hR.1)
              replace Sf_b37 := Sq_b37
              replace Sf_b38 := Sq_b38
              replace Nf := Fr.snoc X42 Nf g_b38
              replace Kp := Kp.wr W42 (Or.inr sz_b38)
              have V_b38 : Arv Z h42 b38 k38 .char (5 : Int32) [(.int (nar .char x0)), (.int (nar .char x1)), (.int 0), (.int 0), (.int 0)] (.int 0) := Arv.set Ar42 q42 Sz42 Nn42 Hh42 Gg42 (fits_nar_char _) W42 1 rfl (Nat.le_of_ble_eq_true rfl)
              refine own_goH (x' := T42.setTop (mkF m 167 #[.val (.int p0), .val (.ref ao1)] [(.int 2), (.ref ao1), (.int 2), (.ref b38), (.ref b38), (.ref b37), (.ref b37)])) (fun _ k => XS.dup X42.here hx rfl (hb hby d1_163) rfl rfl (XS.iconst X42.here hx rfl (hb hby d1_164) (XS.aloadN X42.here hx rfl (hb hby d1_165) rfl rfl (XS.iconst X42.here hx rfl (hb hby d1_166) k)))) ?_
              obtain ⟨cl43, Ar43, q43, Sz43, Nn43, Hh43, Gg43⟩ := id V_ao1
              have hin43 : ¬ ((2 : Int32) < 0 ∨ cl43.slots.size ≤ ((2 : Int32)).toNatClampNeg) := inb_of Sz43 ⟨by decide, by decide⟩
              refine own_goH (x' := T42.setTop (mkF m 168 #[.val (.int p0), .val (.ref ao1)] [(.int x2), (.int 2), (.ref b38), (.ref b38), (.ref b37), (.ref b37)])) (X42.caload hx (j := (2 : Int32)) (v := (.int x2)) (Eq.trans (congrArg (fun h_ => h_[_]?) e42) Ar43.1) (State.isArrayOf_alike hZ.alike Ar43.2.1) Ar43.2.2 hin43 (Hh43.at hin43 rfl) (g := (mkF m 167 #[.val (.int p0), .val (.ref ao1)] [(.int 2), (.ref ao1), (.int 2), (.ref b38), (.ref b38), (.ref b37), (.ref b37)])) rfl rfl (hb hby d1_167)) ?_
              obtain ⟨cl44, Ar44, q44, Sz44, Nn44, Hh44, Gg44⟩ := V_b38
              have hin44 : ¬ ((2 : Int32) < 0 ∨ cl44.slots.size ≤ ((2 : Int32)).toNatClampNeg) := inb_of Sz44 ⟨by decide, by decide⟩
              obtain ⟨T44, h44, X44, e44, W44, st44⟩ := stC X42 hx hZ e42 Ar44 (j := (2 : Int32)) hin44 (g := (mkF m 168 #[.val (.int p0), .val (.ref ao1)] [(.int x2), (.int 2), (.ref b38), (.ref b38), (.ref b37), (.ref b37)])) rfl rfl (hb hby d1_168)
              refine own_goH (x' := T44.setTop (mkF m 169 #[.val (.int p0), .val (.ref ao1)] [(.ref b38), (.ref b37), (.ref b37)])) st44 ?_
              replace Od := Od.wr W44 g_b38
              replace V_ao1 := V_ao1.other W44 ne_ao1_b38
              replace E_b37 := Exa.wr W44 E_b37
              replace F_b37_value := Fld.other W44 F_b37_value (Or.inl ne_b37_b38)
              replace F_b37_coder := Fld.other W44 F_b37_coder (Or.inl ne_b37_b38)
              replace Zs := Nat.le_trans Zs (Keep.of_wr W44).1
              replace hk := Nat.le_trans hk (Keep.of_wr W44).1
              have Sq_b37 := Safe.wr W44 Sf_b38 hR.1 Sf_b37
              have Sq_b38 := Safe.wr W44 Sf_b38 hR.1 Sf_b38
              replace hR := hR.trans (CHr.wr W44 Sf_b38 hR.1)
              replace Sf_b37 := Sq_b37
              replace Sf_b38 := Sq_b38
              replace Nf := Fr.snoc X44 Nf g_b38
              replace Kp := Kp.wr W44 (Or.inr sz_b38)
              have V_b38 : Arv Z h44 b38 k38 .char (5 : Int32) [(.int (nar .char x0)), (.int (nar .char x1)), (.int (nar .char x2)), (.int 0), (.int 0)] (.int 0) := Arv.set Ar44 q44 Sz44 Nn44 Hh44 Gg44 (fits_nar_char _) W44 2 rfl (Nat.le_of_ble_eq_true rfl)
              refine own_goH (x' := T44.setTop (mkF m 173 #[.val (.int p0), .val (.ref ao1)] [(.int 3), (.ref ao1), (.int 3), (.ref b38), (.ref b38), (.ref b37), (.ref b37)])) (fun _ k => XS.dup X44.here hx rfl (hb hby d1_169) rfl rfl (XS.iconst X44.here hx rfl (hb hby d1_170) (XS.aloadN X44.here hx rfl (hb hby d1_171) rfl rfl (XS.iconst X44.here hx rfl (hb hby d1_172) k)))) ?_
              obtain ⟨cl45, Ar45, q45, Sz45, Nn45, Hh45, Gg45⟩ := id V_ao1
              have hin45 : ¬ ((3 : Int32) < 0 ∨ cl45.slots.size ≤ ((3 : Int32)).toNatClampNeg) := inb_of Sz45 ⟨by decide, by decide⟩
              refine own_goH (x' := T44.setTop (mkF m 174 #[.val (.int p0), .val (.ref ao1)] [(.int x3), (.int 3), (.ref b38), (.ref b38), (.ref b37), (.ref b37)])) (X44.caload hx (j := (3 : Int32)) (v := (.int x3)) (Eq.trans (congrArg (fun h_ => h_[_]?) e44) Ar45.1) (State.isArrayOf_alike hZ.alike Ar45.2.1) Ar45.2.2 hin45 (Hh45.at hin45 rfl) (g := (mkF m 173 #[.val (.int p0), .val (.ref ao1)] [(.int 3), (.ref ao1), (.int 3), (.ref b38), (.ref b38), (.ref b37), (.ref b37)])) rfl rfl (hb hby d1_173)) ?_
              obtain ⟨cl46, Ar46, q46, Sz46, Nn46, Hh46, Gg46⟩ := V_b38
              have hin46 : ¬ ((3 : Int32) < 0 ∨ cl46.slots.size ≤ ((3 : Int32)).toNatClampNeg) := inb_of Sz46 ⟨by decide, by decide⟩
              obtain ⟨T46, h46, X46, e46, W46, st46⟩ := stC X44 hx hZ e44 Ar46 (j := (3 : Int32)) hin46 (g := (mkF m 174 #[.val (.int p0), .val (.ref ao1)] [(.int x3), (.int 3), (.ref b38), (.ref b38), (.ref b37), (.ref b37)])) rfl rfl (hb hby d1_174)
              refine own_goH (x' := T46.setTop (mkF m 175 #[.val (.int p0), .val (.ref ao1)] [(.ref b38), (.ref b37), (.ref b37)])) st46 ?_
              replace Od := Od.wr W46 g_b38
              replace V_ao1 := V_ao1.other W46 ne_ao1_b38
              replace E_b37 := Exa.wr W46 E_b37
              replace F_b37_value := Fld.other W46 F_b37_value (Or.inl ne_b37_b38)
              replace F_b37_coder := Fld.other W46 F_b37_coder (Or.inl ne_b37_b38)
              replace Zs := Nat.le_trans Zs (Keep.of_wr W46).1
              replace hk := Nat.le_trans hk (Keep.of_wr W46).1
              have Sq_b37 := Safe.wr W46 Sf_b38 hR.1 Sf_b37
              have Sq_b38 := Safe.wr W46 Sf_b38 hR.1 Sf_b38
              replace hR := hR.trans (CHr.wr W46 Sf_b38 hR.1)
              replace Sf_b37 := Sq_b37
              replace Sf_b38 := Sq_b38
              replace Nf := Fr.snoc X46 Nf g_b38
              replace Kp := Kp.wr W46 (Or.inr sz_b38)
              have V_b38 : Arv Z h46 b38 k38 .char (5 : Int32) [(.int (nar .char x0)), (.int (nar .char x1)), (.int (nar .char x2)), (.int (nar .char x3)), (.int 0)] (.int 0) := Arv.set Ar46 q46 Sz46 Nn46 Hh46 Gg46 (fits_nar_char _) W46 3 rfl (Nat.le_of_ble_eq_true rfl)
              refine own_goH (x' := T46.setTop (mkF m 179 #[.val (.int p0), .val (.ref ao1)] [(.int 4), (.ref ao1), (.int 4), (.ref b38), (.ref b38), (.ref b37), (.ref b37)])) (fun _ k => XS.dup X46.here hx rfl (hb hby d1_175) rfl rfl (XS.iconst X46.here hx rfl (hb hby d1_176) (XS.aloadN X46.here hx rfl (hb hby d1_177) rfl rfl (XS.iconst X46.here hx rfl (hb hby d1_178) k)))) ?_
              obtain ⟨cl47, Ar47, q47, Sz47, Nn47, Hh47, Gg47⟩ := id V_ao1
              have hin47 : ¬ ((4 : Int32) < 0 ∨ cl47.slots.size ≤ ((4 : Int32)).toNatClampNeg) := inb_of Sz47 ⟨by decide, by decide⟩
              refine own_goH (x' := T46.setTop (mkF m 180 #[.val (.int p0), .val (.ref ao1)] [(.int x4), (.int 4), (.ref b38), (.ref b38), (.ref b37), (.ref b37)])) (X46.caload hx (j := (4 : Int32)) (v := (.int x4)) (Eq.trans (congrArg (fun h_ => h_[_]?) e46) Ar47.1) (State.isArrayOf_alike hZ.alike Ar47.2.1) Ar47.2.2 hin47 (Hh47.at hin47 rfl) (g := (mkF m 179 #[.val (.int p0), .val (.ref ao1)] [(.int 4), (.ref ao1), (.int 4), (.ref b38), (.ref b38), (.ref b37), (.ref b37)])) rfl rfl (hb hby d1_179)) ?_
              obtain ⟨cl48, Ar48, q48, Sz48, Nn48, Hh48, Gg48⟩ := V_b38
              have hin48 : ¬ ((4 : Int32) < 0 ∨ cl48.slots.size ≤ ((4 : Int32)).toNatClampNeg) := inb_of Sz48 ⟨by decide, by decide⟩
              obtain ⟨T48, h48, X48, e48, W48, st48⟩ := stC X46 hx hZ e46 Ar48 (j := (4 : Int32)) hin48 (g := (mkF m 180 #[.val (.int p0), .val (.ref ao1)] [(.int x4), (.int 4), (.ref b38), (.ref b38), (.ref b37), (.ref b37)])) rfl rfl (hb hby d1_180)
              refine own_goH (x' := T48.setTop (mkF m 181 #[.val (.int p0), .val (.ref ao1)] [(.ref b38), (.ref b37), (.ref b37)])) st48 ?_
              replace Od := Od.wr W48 g_b38
              replace V_ao1 := V_ao1.other W48 ne_ao1_b38
              replace E_b37 := Exa.wr W48 E_b37
              replace F_b37_value := Fld.other W48 F_b37_value (Or.inl ne_b37_b38)
              replace F_b37_coder := Fld.other W48 F_b37_coder (Or.inl ne_b37_b38)
              replace Zs := Nat.le_trans Zs (Keep.of_wr W48).1
              replace hk := Nat.le_trans hk (Keep.of_wr W48).1
              have Sq_b37 := Safe.wr W48 Sf_b38 hR.1 Sf_b37
              have Sq_b38 := Safe.wr W48 Sf_b38 hR.1 Sf_b38
              replace hR := hR.trans (CHr.wr W48 Sf_b38 hR.1)
              replace Sf_b37 := Sq_b37
              replace Sf_b38 := Sq_b38
              replace Nf := Fr.snoc X48 Nf g_b38
              replace Kp := Kp.wr W48 (Or.inr sz_b38)
              have V_b38 : Arv Z h48 b38 k38 .char (5 : Int32) [(.int (nar .char x0)), (.int (nar .char x1)), (.int (nar .char x2)), (.int (nar .char x3)), (.int (nar .char x4))] (.int 0) := Arv.set Ar48 q48 Sz48 Nn48 Hh48 Gg48 (fits_nar_char _) W48 4 rfl (Nat.le_of_ble_eq_true rfl)
              obtain ⟨LL49, X49, Nf⟩ : ∃ LL : List Loc, Stand p l e _ (s.setVm _) m _ below meth c T48 LL 2 9 ∧ Fr n0 LL := ⟨_, X48, Nf⟩
              obtain ⟨_, _, ⟨T50, L50, k50, n50⟩, -, X50, ⟨Lc50, hQ50, l50, y50, z50⟩, st50⟩ := X49.specialBack hx (y := (⟨"java/lang/String", "<init>", "([C)V"⟩ : MethodName)) rfl hown (mvT hZ (own_w hw 9 rfl)) (mvT hZ (own_w hw 10 rfl)) (mvT hZ (own_w hw 11 rfl)) (by decide) (backOf (W := 1) (rm2 l Z a0 hw [] b37 b38 k38 (List.map (nar .char) [x0, x1, x2, x3, x4]) G1 sf h48 n0 Zs E_b37 F_b37_value F_b37_coder V_b38 (own_nrm _) (Nat.le_of_ble_eq_true rfl) (Nat.le_of_ble_eq_true rfl) ne_b37_b38 g_b37 Od hst) hZ (own_w hw 11 rfl) (own_w hw 8 rfl) (by decide) (by decide)) (g := (mkF m 181 #[.val (.int p0), .val (.ref ao1)] [(.ref b38), (.ref b37), (.ref b37)])) rfl (by rw [hml]; rfl) (Steps.refl _) (a := b37) (argsL := [(.ref b38)]) (rest := [(.ref b37)]) (lenOf pd_21 rfl) rfl (by show 2 * 0 + _ ≤ _; exact Nat.le_of_eq rfl) (hb hby d1_181) (fun _ _ => ⟨rfl, e48, (by decide : 2 + 2 ≤ _), (by decide : 9 + 18 ≤ _)⟩)
              dsimp only [Pt.U, Pt.locs, Pt.cells, Pt.slots] at X50 l50 y50 z50 st50 hQ50
              subst l50 y50 z50
              obtain ⟨hv50, Nq50, K50, S_b37⟩ := hQ50
              subst hv50
              replace Nf := Fr.app Nf Nq50
              replace Od := Od.keep K50 (allS g_b37 all0)
              replace V_ao1 := V_ao1.keep K50 (ninS ne_ao1_b37 nin0)
              replace V_b38 := V_b38.keep K50 (ninS (Ne.symm ne_b37_b38) nin0)
              replace Zs := Nat.le_trans Zs K50.1
              replace hk := Nat.le_trans hk K50.1
              have Sq_b37 := Safe.keep K50 (allS Sf_b37 all0) hR.1 Sf_b37
              have Sq_b38 := Safe.keep K50 (allS Sf_b37 all0) hR.1 Sf_b38
              replace hR := hR.trans (CHr.keep K50 (allS Sf_b37 all0) hR.1)
              replace Sf_b37 := Sq_b37
              replace Sf_b38 := Sq_b38
              replace Kp := Kp.trans K50 (allS (Or.inr sz_b37) all0)
              refine own_goH (x' := T50.setTop (mkF m 184 #[.val (.int p0), .val (.ref ao1)] [(.ref b37)])) (fun _ k => st50.trans k) ?_
              refine own_retRH X50 hS (own_hk rfl hk) (own_hr rfl hR) hZ (own_EW hw) hx hlk hret rfl rfl (hb hby d1_184) ?_ (by decide) (by decide)
              rw [show List.map (nar .char) [x0, x1, x2, x3, x4] = [x0, x1, x2, x3, x4] from by simp only [List.map_cons, List.map_nil, own_nc hx0, own_nc hx1, own_nc hx2, own_nc hx3, own_nc hx4]] at S_b37
              exact ⟨b37, rfl, Nf, Kp, by rw [hc141, show (5 : Int32).toNatClampNeg = 5 from by decide]; exact S_b37⟩
            · refine own_goH (x' := s₁.setTop (mkF m 185 #[.val (.int p0), .val (.ref ao1)] [])) (fun _ k => XS.icmpYes X0.here hx rfl (pc0 := 141) (pc' := 185) rfl (hb hby d1_141) rfl (feq hc141).2 (by decide) (by decide) k) ?_
              obtain ⟨T51, h51, X51, e51, E51, A51, D51, -, st51⟩ := newO X0 hx hZ hown (own_w hw 6 rfl) (own_w hw 7 rfl) (own_w hw 8 rfl) e0 (g := (mkF m 185 #[.val (.int p0), .val (.ref ao1)] [])) rfl (hb hby d1_185) (by decide) (by decide)
              obtain ⟨b51, g51⟩ : ∃ z, z = h0.size := ⟨_, rfl⟩
              rw [← g51] at A51 D51 st51
              have ne_ao1_b51 : ao1 ≠ b51 := Nat.ne_of_lt (Nat.lt_of_lt_of_le V_ao1.lt (Nat.le_of_eq g51.symm))
              have g_b51 : n0 ≤ b51 := Nat.le_trans Zs (Nat.le_of_eq g51.symm)
              have Sf_b51 := own_sfn hR (Nat.le_of_eq g51.symm)
              have sz_b51 : h0.size ≤ b51 := Nat.le_trans Kp.1 (Nat.le_of_eq g51.symm)
              replace Od := Od.ext E51
              replace V_ao1 := V_ao1.ext E51
              replace Zs := Nat.le_trans Zs E51.1
              replace hk := Nat.le_trans hk E51.1
              have Sq_b51 := Safe.ext E51 hR.1 Sf_b51
              replace hR := hR.trans (CHr.ext E51 hR.1)
              replace Sf_b51 := Sq_b51
              replace Kp := Kp.ext E51
              have E_b51 := A51
              have F_b51_value : Fld Z h51 b51 "java/lang/String" "value" "[B" .null := D51 (Or.inr (own_w hw 21 rfl)) (ty := (.array .byte)) (by decide)
              have F_b51_coder : Fld Z h51 b51 "java/lang/String" "coder" "B" (.int 0) := D51 (Or.inr (own_w hw 22 rfl)) (ty := .byte) (by decide)
              refine own_goH (x' := T51.setTop (mkF m 188 #[.val (.int p0), .val (.ref ao1)] [(.ref b51)])) st51 ?_
              refine own_goH (x' := T51.setTop (mkF m 191 #[.val (.int p0), .val (.ref ao1)] [(.int 6), (.ref b51), (.ref b51)])) (fun _ k => XS.dup X51.here hx rfl (hb hby d1_188) rfl rfl (XS.bipush X51.here hx rfl (hb hby d1_189) k)) ?_
              obtain ⟨T52, h52, k52, X52, e52, E52, A52, st52⟩ := newP X51 hx hZ (own_w hw 1 rfl) e51 (g := (mkF m 191 #[.val (.int p0), .val (.ref ao1)] [(.int 6), (.ref b51), (.ref b51)])) rfl (hb hby d1_191) rfl (by decide) (cap := 6) (by decide) (by decide) (by decide) (by decide)
              obtain ⟨b52, g52⟩ : ∃ z, z = h51.size := ⟨_, rfl⟩
              rw [← g52] at A52 st52
              have ne_ao1_b52 : ao1 ≠ b52 := Nat.ne_of_lt (Nat.lt_of_lt_of_le V_ao1.lt (Nat.le_of_eq g52.symm))
              have ne_b51_b52 : b51 ≠ b52 := Nat.ne_of_lt (Nat.lt_of_lt_of_le E_b51.lt (Nat.le_of_eq g52.symm))
              have g_b52 : n0 ≤ b52 := Nat.le_trans Zs (Nat.le_of_eq g52.symm)
              have Sf_b52 := own_sfn hR (Nat.le_of_eq g52.symm)
              have sz_b52 : h0.size ≤ b52 := Nat.le_trans Kp.1 (Nat.le_of_eq g52.symm)
              replace Od := Od.ext E52
              replace V_ao1 := V_ao1.ext E52
              replace E_b51 := Exa.ext E52 E_b51
              replace F_b51_value := Fld.ext E52 F_b51_value
              replace F_b51_coder := Fld.ext E52 F_b51_coder
              replace Zs := Nat.le_trans Zs E52.1
              replace hk := Nat.le_trans hk E52.1
              have Sq_b51 := Safe.ext E52 hR.1 Sf_b51
              have Sq_b52 := Safe.ext E52 hR.1 Sf_b52
              replace hR := hR.trans (CHr.ext E52 hR.1)
              replace Sf_b51 := Sq_b51
              replace Sf_b52 := Sq_b52
              replace Kp := Kp.ext E52
              have V_b52 : Arv Z h52 b52 k52 .char (6 : Int32) [(.int 0), (.int 0), (.int 0), (.int 0), (.int 0), (.int 0)] (.int 0) := (Arv.new A52 (by decide)).pad (pad_rep [] (.int 0) 6)
              refine own_goH (x' := T52.setTop (mkF m 193 #[.val (.int p0), .val (.ref ao1)] [(.ref b52), (.ref b51), (.ref b51)])) st52 ?_
              refine own_goH (x' := T52.setTop (mkF m 197 #[.val (.int p0), .val (.ref ao1)] [(.int 0), (.ref ao1), (.int 0), (.ref b52), (.ref b52), (.ref b51), (.ref b51)])) (fun _ k => XS.dup X52.here hx rfl (hb hby d1_193) rfl rfl (XS.iconst X52.here hx rfl (hb hby d1_194) (XS.aloadN X52.here hx rfl (hb hby d1_195) rfl rfl (XS.iconst X52.here hx rfl (hb hby d1_196) k)))) ?_
              obtain ⟨cl53, Ar53, q53, Sz53, Nn53, Hh53, Gg53⟩ := id V_ao1
              have hin53 : ¬ ((0 : Int32) < 0 ∨ cl53.slots.size ≤ ((0 : Int32)).toNatClampNeg) := inb_of Sz53 ⟨by decide, by decide⟩
              refine own_goH (x' := T52.setTop (mkF m 198 #[.val (.int p0), .val (.ref ao1)] [(.int x0), (.int 0), (.ref b52), (.ref b52), (.ref b51), (.ref b51)])) (X52.caload hx (j := (0 : Int32)) (v := (.int x0)) (Eq.trans (congrArg (fun h_ => h_[_]?) e52) Ar53.1) (State.isArrayOf_alike hZ.alike Ar53.2.1) Ar53.2.2 hin53 (Hh53.at hin53 rfl) (g := (mkF m 197 #[.val (.int p0), .val (.ref ao1)] [(.int 0), (.ref ao1), (.int 0), (.ref b52), (.ref b52), (.ref b51), (.ref b51)])) rfl rfl (hb hby d1_197)) ?_
              obtain ⟨cl54, Ar54, q54, Sz54, Nn54, Hh54, Gg54⟩ := V_b52
              have hin54 : ¬ ((0 : Int32) < 0 ∨ cl54.slots.size ≤ ((0 : Int32)).toNatClampNeg) := inb_of Sz54 ⟨by decide, by decide⟩
              obtain ⟨T54, h54, X54, e54, W54, st54⟩ := stC X52 hx hZ e52 Ar54 (j := (0 : Int32)) hin54 (g := (mkF m 198 #[.val (.int p0), .val (.ref ao1)] [(.int x0), (.int 0), (.ref b52), (.ref b52), (.ref b51), (.ref b51)])) rfl rfl (hb hby d1_198)
              refine own_goH (x' := T54.setTop (mkF m 199 #[.val (.int p0), .val (.ref ao1)] [(.ref b52), (.ref b51), (.ref b51)])) st54 ?_
              replace Od := Od.wr W54 g_b52
              replace V_ao1 := V_ao1.other W54 ne_ao1_b52
              replace E_b51 := Exa.wr W54 E_b51
              replace F_b51_value := Fld.other W54 F_b51_value (Or.inl ne_b51_b52)
              replace F_b51_coder := Fld.other W54 F_b51_coder (Or.inl ne_b51_b52)
              replace Zs := Nat.le_trans Zs (Keep.of_wr W54).1
              replace hk := Nat.le_trans hk (Keep.of_wr W54).1
              have Sq_b51 := Safe.wr W54 Sf_b52 hR.1 Sf_b51
              have Sq_b52 := Safe.wr W54 Sf_b52 hR.1 Sf_b52
              replace hR := hR.trans (CHr.wr W54 Sf_b52 hR.1)
              replace Sf_b51 := Sq_b51
              replace Sf_b52 := Sq_b52
              replace Nf := Fr.snoc X54 Nf g_b52
              replace Kp := Kp.wr W54 (Or.inr sz_b52)
              have V_b52 : Arv Z h54 b52 k52 .char (6 : Int32) [(.int (nar .char x0)), (.int 0), (.int 0), (.int 0), (.int 0), (.int 0)] (.int 0) := Arv.set Ar54 q54 Sz54 Nn54 Hh54 Gg54 (fits_nar_char _) W54 0 rfl (Nat.le_of_ble_eq_true rfl)
              refine own_goH (x' := T54.setTop (mkF m 203 #[.val (.int p0), .val (.ref ao1)] [(.int 1), (.ref ao1), (.int 1), (.ref b52), (.ref b52), (.ref b51), (.ref b51)])) (fun _ k => XS.dup X54.here hx rfl (hb hby d1_199) rfl rfl (XS.iconst X54.here hx rfl (hb hby d1_200) (XS.aloadN X54.here hx rfl (hb hby d1_201) rfl rfl (XS.iconst X54.here hx rfl (hb hby d1_202) k)))) ?_
              obtain ⟨cl55, Ar55, q55, Sz55, Nn55, Hh55, Gg55⟩ := id V_ao1
              have hin55 : ¬ ((1 : Int32) < 0 ∨ cl55.slots.size ≤ ((1 : Int32)).toNatClampNeg) := inb_of Sz55 ⟨by decide, by decide⟩
              refine own_goH (x' := T54.setTop (mkF m 204 #[.val (.int p0), .val (.ref ao1)] [(.int x1), (.int 1), (.ref b52), (.ref b52), (.ref b51), (.ref b51)])) (X54.caload hx (j := (1 : Int32)) (v := (.int x1)) (Eq.trans (congrArg (fun h_ => h_[_]?) e54) Ar55.1) (State.isArrayOf_alike hZ.alike Ar55.2.1) Ar55.2.2 hin55 (Hh55.at hin55 rfl) (g := (mkF m 203 #[.val (.int p0), .val (.ref ao1)] [(.int 1), (.ref ao1), (.int 1), (.ref b52), (.ref b52), (.ref b51), (.ref b51)])) rfl rfl (hb hby d1_203)) ?_
              obtain ⟨cl56, Ar56, q56, Sz56, Nn56, Hh56, Gg56⟩ := V_b52
              have hin56 : ¬ ((1 : Int32) < 0 ∨ cl56.slots.size ≤ ((1 : Int32)).toNatClampNeg) := inb_of Sz56 ⟨by decide, by decide⟩
              obtain ⟨T56, h56, X56, e56, W56, st56⟩ := stC X54 hx hZ e54 Ar56 (j := (1 : Int32)) hin56 (g := (mkF m 204 #[.val (.int p0), .val (.ref ao1)] [(.int x1), (.int 1), (.ref b52), (.ref b52), (.ref b51), (.ref b51)])) rfl rfl (hb hby d1_204)
              refine own_goH (x' := T56.setTop (mkF m 205 #[.val (.int p0), .val (.ref ao1)] [(.ref b52), (.ref b51), (.ref b51)])) st56 ?_
              replace Od := Od.wr W56 g_b52
              replace V_ao1 := V_ao1.other W56 ne_ao1_b52
              replace E_b51 := Exa.wr W56 E_b51
              replace F_b51_value := Fld.other W56 F_b51_value (Or.inl ne_b51_b52)
              replace F_b51_coder := Fld.other W56 F_b51_coder (Or.inl ne_b51_b52)
              replace Zs := Nat.le_trans Zs (Keep.of_wr W56).1
              replace hk := Nat.le_trans hk (Keep.of_wr W56).1
              have Sq_b51 := Safe.wr W56 Sf_b52 hR.1 Sf_b51
              have Sq_b52 := Safe.wr W56 Sf_b52 hR.1 Sf_b52
              replace hR := hR.trans (CHr.wr W56 Sf_b52 hR.1)
              replace Sf_b51 := Sq_b51
              replace Sf_b52 := Sq_b52
              replace Nf := Fr.snoc X56 Nf g_b52
              replace Kp := Kp.wr W56 (Or.inr sz_b52)
              have V_b52 : Arv Z h56 b52 k52 .char (6 : Int32) [(.int (nar .char x0)), (.int (nar .char x1)), (.int 0), (.int 0), (.int 0), (.int 0)] (.int 0) := Arv.set Ar56 q56 Sz56 Nn56 Hh56 Gg56 (fits_nar_char _) W56 1 rfl (Nat.le_of_ble_eq_true rfl)
              refine own_goH (x' := T56.setTop (mkF m 209 #[.val (.int p0), .val (.ref ao1)] [(.int 2), (.ref ao1), (.int 2), (.ref b52), (.ref b52), (.ref b51), (.ref b51)])) (fun _ k => XS.dup X56.here hx rfl (hb hby d1_205) rfl rfl (XS.iconst X56.here hx rfl (hb hby d1_206) (XS.aloadN X56.here hx rfl (hb hby d1_207) rfl rfl (XS.iconst X56.here hx rfl (hb hby d1_208) k)))) ?_
              obtain ⟨cl57, Ar57, q57, Sz57, Nn57, Hh57, Gg57⟩ := id V_ao1
              have hin57 : ¬ ((2 : Int32) < 0 ∨ cl57.slots.size ≤ ((2 : Int32)).toNatClampNeg) := inb_of Sz57 ⟨by decide, by decide⟩
              refine own_goH (x' := T56.setTop (mkF m 210 #[.val (.int p0), .val (.ref ao1)] [(.int x2), (.int 2), (.ref b52), (.ref b52), (.ref b51), (.ref b51)])) (X56.caload hx (j := (2 : Int32)) (v := (.int x2)) (Eq.trans (congrArg (fun h_ => h_[_]?) e56) Ar57.1) (State.isArrayOf_alike hZ.alike Ar57.2.1) Ar57.2.2 hin57 (Hh57.at hin57 rfl) (g := (mkF m 209 #[.val (.int p0), .val (.ref ao1)] [(.int 2), (.ref ao1), (.int 2), (.ref b52), (.ref b52), (.ref b51), (.ref b51)])) rfl rfl (hb hby d1_209)) ?_
              obtain ⟨cl58, Ar58, q58, Sz58, Nn58, Hh58, Gg58⟩ := V_b52
              have hin58 : ¬ ((2 : Int32) < 0 ∨ cl58.slots.size ≤ ((2 : Int32)).toNatClampNeg) := inb_of Sz58 ⟨by decide, by decide⟩
              obtain ⟨T58, h58, X58, e58, W58, st58⟩ := stC X56 hx hZ e56 Ar58 (j := (2 : Int32)) hin58 (g := (mkF m 210 #[.val (.int p0), .val (.ref ao1)] [(.int x2), (.int 2), (.ref b52), (.ref b52), (.ref b51), (.ref b51)])) rfl rfl (hb hby d1_210)
              refine own_goH (x' := T58.setTop (mkF m 211 #[.val (.int p0), .val (.ref ao1)] [(.ref b52), (.ref b51), (.ref b51)])) st58 ?_
              replace Od := Od.wr W58 g_b52
              replace V_ao1 := V_ao1.other W58 ne_ao1_b52
              replace E_b51 := Exa.wr W58 E_b51
              replace F_b51_value := Fld.other W58 F_b51_value (Or.inl ne_b51_b52)
              replace F_b51_coder := Fld.other W58 F_b51_coder (Or.inl ne_b51_b52)
              replace Zs := Nat.le_trans Zs (Keep.of_wr W58).1
              replace hk := Nat.le_trans hk (Keep.of_wr W58).1
              have Sq_b51 := Safe.wr W58 Sf_b52 hR.1 Sf_b51
              have Sq_b52 := Safe.wr W58 Sf_b52 hR.1 Sf_b52
              replace hR := hR.trans (CHr.wr W58 Sf_b52 hR.1)
              replace Sf_b51 := Sq_b51
              replace Sf_b52 := Sq_b52
              replace Nf := Fr.snoc X58 Nf g_b52
              replace Kp := Kp.wr W58 (Or.inr sz_b52)
              have V_b52 : Arv Z h58 b52 k52 .char (6 : Int32) [(.int (nar .char x0)), (.int (nar .char x1)), (.int (nar .char x2)), (.int 0), (.int 0), (.int 0)] (.int 0) := Arv.set Ar58 q58 Sz58 Nn58 Hh58 Gg58 (fits_nar_char _) W58 2 rfl (Nat.le_of_ble_eq_true rfl)
              refine own_goH (x' := T58.setTop (mkF m 215 #[.val (.int p0), .val (.ref ao1)] [(.int 3), (.ref ao1), (.int 3), (.ref b52), (.ref b52), (.ref b51), (.ref b51)])) (fun _ k => XS.dup X58.here hx rfl (hb hby d1_211) rfl rfl (XS.iconst X58.here hx rfl (hb hby d1_212) (XS.aloadN X58.here hx rfl (hb hby d1_213) rfl rfl (XS.iconst X58.here hx rfl (hb hby d1_214) k)))) ?_
              obtain ⟨cl59, Ar59, q59, Sz59, Nn59, Hh59, Gg59⟩ := id V_ao1
              have hin59 : ¬ ((3 : Int32) < 0 ∨ cl59.slots.size ≤ ((3 : Int32)).toNatClampNeg) := inb_of Sz59 ⟨by decide, by decide⟩
              refine own_goH (x' := T58.setTop (mkF m 216 #[.val (.int p0), .val (.ref ao1)] [(.int x3), (.int 3), (.ref b52), (.ref b52), (.ref b51), (.ref b51)])) (X58.caload hx (j := (3 : Int32)) (v := (.int x3)) (Eq.trans (congrArg (fun h_ => h_[_]?) e58) Ar59.1) (State.isArrayOf_alike hZ.alike Ar59.2.1) Ar59.2.2 hin59 (Hh59.at hin59 rfl) (g := (mkF m 215 #[.val (.int p0), .val (.ref ao1)] [(.int 3), (.ref ao1), (.int 3), (.ref b52), (.ref b52), (.ref b51), (.ref b51)])) rfl rfl (hb hby d1_215)) ?_
              obtain ⟨cl60, Ar60, q60, Sz60, Nn60, Hh60, Gg60⟩ := V_b52
              have hin60 : ¬ ((3 : Int32) < 0 ∨ cl60.slots.size ≤ ((3 : Int32)).toNatClampNeg) := inb_of Sz60 ⟨by decide, by decide⟩
              obtain ⟨T60, h60, X60, e60, W60, st60⟩ := stC X58 hx hZ e58 Ar60 (j := (3 : Int32)) hin60 (g := (mkF m 216 #[.val (.int p0), .val (.ref ao1)] [(.int x3), (.int 3), (.ref b52), (.ref b52), (.ref b51), (.ref b51)])) rfl rfl (hb hby d1_216)
              refine own_goH (x' := T60.setTop (mkF m 217 #[.val (.int p0), .val (.ref ao1)] [(.ref b52), (.ref b51), (.ref b51)])) st60 ?_
              replace Od := Od.wr W60 g_b52
              replace V_ao1 := V_ao1.other W60 ne_ao1_b52
              replace E_b51 := Exa.wr W60 E_b51
              replace F_b51_value := Fld.other W60 F_b51_value (Or.inl ne_b51_b52)
              replace F_b51_coder := Fld.other W60 F_b51_coder (Or.inl ne_b51_b52)
              replace Zs := Nat.le_trans Zs (Keep.of_wr W60).1
              replace hk := Nat.le_trans hk (Keep.of_wr W60).1
              have Sq_b51 := Safe.wr W60 Sf_b52 hR.1 Sf_b51
              have Sq_b52 := Safe.wr W60 Sf_b52 hR.1 Sf_b52
              replace hR := hR.trans (CHr.wr W60 Sf_b52 hR.1)
              replace Sf_b51 := Sq_b51
              replace Sf_b52 := Sq_b52
              replace Nf := Fr.snoc X60 Nf g_b52
              replace Kp := Kp.wr W60 (Or.inr sz_b52)
              have V_b52 : Arv Z h60 b52 k52 .char (6 : Int32) [(.int (nar .char x0)), (.int (nar .char x1)), (.int (nar .char x2)), (.int (nar .char x3)), (.int 0), (.int 0)] (.int 0) := Arv.set Ar60 q60 Sz60 Nn60 Hh60 Gg60 (fits_nar_char _) W60 3 rfl (Nat.le_of_ble_eq_true rfl)
              refine own_goH (x' := T60.setTop (mkF m 221 #[.val (.int p0), .val (.ref ao1)] [(.int 4), (.ref ao1), (.int 4), (.ref b52), (.ref b52), (.ref b51), (.ref b51)])) (fun _ k => XS.dup X60.here hx rfl (hb hby d1_217) rfl rfl (XS.iconst X60.here hx rfl (hb hby d1_218) (XS.aloadN X60.here hx rfl (hb hby d1_219) rfl rfl (XS.iconst X60.here hx rfl (hb hby d1_220) k)))) ?_
              obtain ⟨cl61, Ar61, q61, Sz61, Nn61, Hh61, Gg61⟩ := id V_ao1
              have hin61 : ¬ ((4 : Int32) < 0 ∨ cl61.slots.size ≤ ((4 : Int32)).toNatClampNeg) := inb_of Sz61 ⟨by decide, by decide⟩
              refine own_goH (x' := T60.setTop (mkF m 222 #[.val (.int p0), .val (.ref ao1)] [(.int x4), (.int 4), (.ref b52), (.ref b52), (.ref b51), (.ref b51)])) (X60.caload hx (j := (4 : Int32)) (v := (.int x4)) (Eq.trans (congrArg (fun h_ => h_[_]?) e60) Ar61.1) (State.isArrayOf_alike hZ.alike Ar61.2.1) Ar61.2.2 hin61 (Hh61.at hin61 rfl) (g := (mkF m 221 #[.val (.int p0), .val (.ref ao1)] [(.int 4), (.ref ao1), (.int 4), (.ref b52), (.ref b52), (.ref b51), (.ref b51)])) rfl rfl (hb hby d1_221)) ?_
              obtain ⟨cl62, Ar62, q62, Sz62, Nn62, Hh62, Gg62⟩ := V_b52
              have hin62 : ¬ ((4 : Int32) < 0 ∨ cl62.slots.size ≤ ((4 : Int32)).toNatClampNeg) := inb_of Sz62 ⟨by decide, by decide⟩
              obtain ⟨T62, h62, X62, e62, W62, st62⟩ := stC X60 hx hZ e60 Ar62 (j := (4 : Int32)) hin62 (g := (mkF m 222 #[.val (.int p0), .val (.ref ao1)] [(.int x4), (.int 4), (.ref b52), (.ref b52), (.ref b51), (.ref b51)])) rfl rfl (hb hby d1_222)
              refine own_goH (x' := T62.setTop (mkF m 223 #[.val (.int p0), .val (.ref ao1)] [(.ref b52), (.ref b51), (.ref b51)])) st62 ?_
              replace Od := Od.wr W62 g_b52
              replace V_ao1 := V_ao1.other W62 ne_ao1_b52
              replace E_b51 := Exa.wr W62 E_b51
              replace F_b51_value := Fld.other W62 F_b51_value (Or.inl ne_b51_b52)
              replace F_b51_coder := Fld.other W62 F_b51_coder (Or.inl ne_b51_b52)
              replace Zs := Nat.le_trans Zs (Keep.of_wr W62).1
              replace hk := Nat.le_trans hk (Keep.of_wr W62).1
              have Sq_b51 := Safe.wr W62 Sf_b52 hR.1 Sf_b51
              have Sq_b52 := Safe.wr W62 Sf_b52 hR.1 Sf_b52
              replace hR := hR.trans (CHr.wr W62 Sf_b52 hR.1)
              replace Sf_b51 := Sq_b51
              replace Sf_b52 := Sq_b52
              replace Nf := Fr.snoc X62 Nf g_b52
              replace Kp := Kp.wr W62 (Or.inr sz_b52)
              have V_b52 : Arv Z h62 b52 k52 .char (6 : Int32) [(.int (nar .char x0)), (.int (nar .char x1)), (.int (nar .char x2)), (.int (nar .char x3)), (.int (nar .char x4)), (.int 0)] (.int 0) := Arv.set Ar62 q62 Sz62 Nn62 Hh62 Gg62 (fits_nar_char _) W62 4 rfl (Nat.le_of_ble_eq_true rfl)
              refine own_goH (x' := T62.setTop (mkF m 227 #[.val (.int p0), .val (.ref ao1)] [(.int 5), (.ref ao1), (.int 5), (.ref b52), (.ref b52), (.ref b51), (.ref b51)])) (fun _ k => XS.dup X62.here hx rfl (hb hby d1_223) rfl rfl (XS.iconst X62.here hx rfl (hb hby d1_224) (XS.aloadN X62.here hx rfl (hb hby d1_225) rfl rfl (XS.iconst X62.here hx rfl (hb hby d1_226) k)))) ?_
              obtain ⟨cl63, Ar63, q63, Sz63, Nn63, Hh63, Gg63⟩ := id V_ao1
              have hin63 : ¬ ((5 : Int32) < 0 ∨ cl63.slots.size ≤ ((5 : Int32)).toNatClampNeg) := inb_of Sz63 ⟨by decide, by decide⟩
              refine own_goH (x' := T62.setTop (mkF m 228 #[.val (.int p0), .val (.ref ao1)] [(.int x5), (.int 5), (.ref b52), (.ref b52), (.ref b51), (.ref b51)])) (X62.caload hx (j := (5 : Int32)) (v := (.int x5)) (Eq.trans (congrArg (fun h_ => h_[_]?) e62) Ar63.1) (State.isArrayOf_alike hZ.alike Ar63.2.1) Ar63.2.2 hin63 (Hh63.at hin63 rfl) (g := (mkF m 227 #[.val (.int p0), .val (.ref ao1)] [(.int 5), (.ref ao1), (.int 5), (.ref b52), (.ref b52), (.ref b51), (.ref b51)])) rfl rfl (hb hby d1_227)) ?_
              obtain ⟨cl64, Ar64, q64, Sz64, Nn64, Hh64, Gg64⟩ := V_b52
              have hin64 : ¬ ((5 : Int32) < 0 ∨ cl64.slots.size ≤ ((5 : Int32)).toNatClampNeg) := inb_of Sz64 ⟨by decide, by decide⟩
              obtain ⟨T64, h64, X64, e64, W64, st64⟩ := stC X62 hx hZ e62 Ar64 (j := (5 : Int32)) hin64 (g := (mkF m 228 #[.val (.int p0), .val (.ref ao1)] [(.int x5), (.int 5), (.ref b52), (.ref b52), (.ref b51), (.ref b51)])) rfl rfl (hb hby d1_228)
              refine own_goH (x' := T64.setTop (mkF m 229 #[.val (.int p0), .val (.ref ao1)] [(.ref b52), (.ref b51), (.ref b51)])) st64 ?_
              replace Od := Od.wr W64 g_b52
              replace V_ao1 := V_ao1.other W64 ne_ao1_b52
              replace E_b51 := Exa.wr W64 E_b51
              replace F_b51_value := Fld.other W64 F_b51_value (Or.inl ne_b51_b52)
              replace F_b51_coder := Fld.other W64 F_b51_coder (Or.inl ne_b51_b52)
              replace Zs := Nat.le_trans Zs (Keep.of_wr W64).1
              replace hk := Nat.le_trans hk (Keep.of_wr W64).1
              have Sq_b51 := Safe.wr W64 Sf_b52 hR.1 Sf_b51
              have Sq_b52 := Safe.wr W64 Sf_b52 hR.1 Sf_b52
              replace hR := hR.trans (CHr.wr W64 Sf_b52 hR.1)
              replace Sf_b51 := Sq_b51
              replace Sf_b52 := Sq_b52
              replace Nf := Fr.snoc X64 Nf g_b52
              replace Kp := Kp.wr W64 (Or.inr sz_b52)
              have V_b52 : Arv Z h64 b52 k52 .char (6 : Int32) [(.int (nar .char x0)), (.int (nar .char x1)), (.int (nar .char x2)), (.int (nar .char x3)), (.int (nar .char x4)), (.int (nar .char x5))] (.int 0) := Arv.set Ar64 q64 Sz64 Nn64 Hh64 Gg64 (fits_nar_char _) W64 5 rfl (Nat.le_of_ble_eq_true rfl)
              obtain ⟨LL65, X65, Nf⟩ : ∃ LL : List Loc, Stand p l e _ (s.setVm _) m _ below meth c T64 LL 2 10 ∧ Fr n0 LL := ⟨_, X64, Nf⟩
              obtain ⟨_, _, ⟨T66, L66, k66, n66⟩, -, X66, ⟨Lc66, hQ66, l66, y66, z66⟩, st66⟩ := X65.specialBack hx (y := (⟨"java/lang/String", "<init>", "([C)V"⟩ : MethodName)) rfl hown (mvT hZ (own_w hw 9 rfl)) (mvT hZ (own_w hw 10 rfl)) (mvT hZ (own_w hw 11 rfl)) (by decide) (backOf (W := 1) (rm2 l Z a0 hw [] b51 b52 k52 (List.map (nar .char) [x0, x1, x2, x3, x4, x5]) G1 sf h64 n0 Zs E_b51 F_b51_value F_b51_coder V_b52 (own_nrm _) (Nat.le_of_ble_eq_true rfl) (Nat.le_of_ble_eq_true rfl) ne_b51_b52 g_b51 Od hst) hZ (own_w hw 11 rfl) (own_w hw 8 rfl) (by decide) (by decide)) (g := (mkF m 229 #[.val (.int p0), .val (.ref ao1)] [(.ref b52), (.ref b51), (.ref b51)])) rfl (by rw [hml]; rfl) (Steps.refl _) (a := b51) (argsL := [(.ref b52)]) (rest := [(.ref b51)]) (lenOf pd_21 rfl) rfl (by show 2 * 0 + _ ≤ _; exact Nat.le_of_eq rfl) (hb hby d1_229) (fun _ _ => ⟨rfl, e64, (by decide : 2 + 2 ≤ _), (by decide : 10 + 18 ≤ _)⟩)
              dsimp only [Pt.U, Pt.locs, Pt.cells, Pt.slots] at X66 l66 y66 z66 st66 hQ66
              subst l66 y66 z66
              obtain ⟨hv66, Nq66, K66, S_b51⟩ := hQ66
              subst hv66
              replace Nf := Fr.app Nf Nq66
              replace Od := Od.keep K66 (allS g_b51 all0)
              replace V_ao1 := V_ao1.keep K66 (ninS ne_ao1_b51 nin0)
              replace V_b52 := V_b52.keep K66 (ninS (Ne.symm ne_b51_b52) nin0)
              replace Zs := Nat.le_trans Zs K66.1
              replace hk := Nat.le_trans hk K66.1
              have Sq_b51 := Safe.keep K66 (allS Sf_b51 all0) hR.1 Sf_b51
              have Sq_b52 := Safe.keep K66 (allS Sf_b51 all0) hR.1 Sf_b52
              replace hR := hR.trans (CHr.keep K66 (allS Sf_b51 all0) hR.1)
              replace Sf_b51 := Sq_b51
              replace Sf_b52 := Sq_b52
              replace Kp := Kp.trans K66 (allS (Or.inr sz_b51) all0)
              refine own_goH (x' := T66.setTop (mkF m 232 #[.val (.int p0), .val (.ref ao1)] [(.ref b51)])) (fun _ k => st66.trans k) ?_
              refine own_retRH X66 hS (own_hk rfl hk) (own_hr rfl hR) hZ (own_EW hw) hx hlk hret rfl rfl (hb hby d1_232) ?_ (by decide) (by decide)
              have hp6 : p0 = 6 := own_six hp hc1 hc17 hc39 hc67 hc101 hc141
              rw [show List.map (nar .char) [x0, x1, x2, x3, x4, x5] = [x0, x1, x2, x3, x4, x5] from by simp only [List.map_cons, List.map_nil, own_nc hx0, own_nc hx1, own_nc hx2, own_nc hx3, own_nc hx4, own_nc hx5]] at S_b51
              exact ⟨b51, rfl, Nf, Kp, by rw [hp6, show (6 : Int32).toNatClampNeg = 6 from by decide]; exact S_b51⟩
def own_isL (x : Int32) : Prop := (¬ x < 97 ∧ ¬ (122 : Int32) < x) ∨ (¬ x < 65 ∧ ¬ (90 : Int32) < x)
instance (x : Int32) : Decidable (own_isL x) := by unfold own_isL; infer_instance
def own_let (x : Int32) : Int32 := if own_isL x then 1 else 0
theorem own_let0 {x : Int32} : own_let x = 0 ↔ ¬ own_isL x := by
  unfold own_let
  by_cases h : own_isL x
  · simp [h]
  · simp [h]
def own_sch (x : Int32) : Prop := own_isL x ∨ (¬ x < 48 ∧ ¬ (57 : Int32) < x) ∨ x = 43 ∨ x = 45 ∨ x = 46
instance (x : Int32) : Decidable (own_sch x) := by unfold own_sch; infer_instance
instance (x : Int32) : Decidable (own_fb x) := by unfold own_fb; infer_instance
def own_scv (x : Int32) : Int32 := if own_sch x then 1 else 0
def own_bad (x : Int32) : Prop := ¬ (32 : Int32) < x ∨ own_fb x
instance (x : Int32) : Decidable (own_bad x) := by unfold own_bad; infer_instance
def own_bdv (x : Int32) : Int32 := if own_bad x then 1 else 0
theorem own_bit {p : Prop} [Decidable p] : nar .boolean (if p then (1 : Int32) else 0) = if p then (1 : Int32) else 0 := by
  by_cases h : p
  · simp only [if_pos h]; decide
  · simp only [if_neg h]; decide
theorem d36_0 : decode prog_36_method_4_code 0 = .ok (.iload_n 0, 1) := by decide +kernel
theorem d36_1 : decode prog_36_method_4_code 1 = .ok (.bipush 97, 2) := by decide +kernel
theorem d36_3 : decode prog_36_method_4_code 3 = .ok (.if_icmp .lt 9, 3) := by decide +kernel
theorem d36_6 : decode prog_36_method_4_code 6 = .ok (.iload_n 0, 1) := by decide +kernel
theorem d36_7 : decode prog_36_method_4_code 7 = .ok (.bipush 122, 2) := by decide +kernel
theorem d36_9 : decode prog_36_method_4_code 9 = .ok (.if_icmp .le 15, 3) := by decide +kernel
theorem d36_12 : decode prog_36_method_4_code 12 = .ok (.iload_n 0, 1) := by decide +kernel
theorem d36_13 : decode prog_36_method_4_code 13 = .ok (.bipush 65, 2) := by decide +kernel
theorem d36_15 : decode prog_36_method_4_code 15 = .ok (.if_icmp .lt 13, 3) := by decide +kernel
theorem d36_18 : decode prog_36_method_4_code 18 = .ok (.iload_n 0, 1) := by decide +kernel
theorem d36_19 : decode prog_36_method_4_code 19 = .ok (.bipush 90, 2) := by decide +kernel
theorem d36_21 : decode prog_36_method_4_code 21 = .ok (.if_icmp .gt 7, 3) := by decide +kernel
theorem d36_24 : decode prog_36_method_4_code 24 = .ok (.iconst 1, 1) := by decide +kernel
theorem d36_25 : decode prog_36_method_4_code 25 = .ok (.goto 4, 3) := by decide +kernel
theorem d36_28 : decode prog_36_method_4_code 28 = .ok (.iconst 0, 1) := by decide +kernel
theorem d36_29 : decode prog_36_method_4_code 29 = .ok (.ireturn, 1) := by decide +kernel
def Q_rm36 (Z : State) (p0 : Int32) (h0 : Heap) (n0 : Nat) (v : Option Value) (h : Heap) (L : List Loc) : Prop := v = some (.int (own_let p0)) ∧ Fr n0 L ∧ h = h0
theorem pn_rm36 : plainName "com/example/triplewright/triplewright/Term$Iri" = true := by first | (simp [plainName, overriddenIn]; done) | decide +kernel
theorem ef_rm36 (m : MethodId) (x0 : Int32) : entryFrame m #[(.int x0)] 1 = mkF m 0 #[.val (.int x0)] [] := by first | (simp [entryFrame, mkF, argsToLocals, Value.category]; done) | rfl
set_option maxRecDepth 65536 in
set_option maxHeartbeats 40000000 in
theorem rm36 (l : Launch) (Z : State) (a0 : Array Value) (hw : ∀ d ∈ tables_1, d.before a0 Z = true) (ws : List Jvm.Cond) (p0 : Int32) (h0 : Heap) (n0 : Nat) (Z0 : n0 ≤ h0.size) :
    MetFree l (⟨"com/example/triplewright/triplewright/Term$Iri", "isAsciiLetter", "(C)Z"⟩ : MethodName) (head1 (Jvm.Cond.code (⟨"com/example/triplewright/triplewright/Term$Iri", "isAsciiLetter", "(C)Z"⟩ : MethodName) prog_36_method_4_code 1 (some .boolean) :: ws) ({ frames := 0, cells := 0, slots := 0, locals := 0 } : Room)) (fun a U => a = #[(.int p0)] ∧ Z.Warmed39 U.vm ∧ U.heap = h0) (fun _ _ _ _ _ => True) (fun _ U o U' => ∃ v L, o = .returned v ∧ (Q_rm36 Z p0 h0 n0) v U'.heap L ∧ FrameEnd U o U' L ({ frames := 0, cells := 0, slots := 0, locals := 0 } : Room).cells ({ frames := 0, cells := 0, slots := 0, locals := 0 } : Room).slots) := by
  refine MetFree.of_bodySF (plainFor_of_name pn_rm36) hisR ?_
  intro p e s m args below meth c s₁ Bd hml0 hP hK
  obtain ⟨rfl, hZ, hh⟩ := hP
  have hx := Bd.exec
  have hby := Bd.bytes
  have hlk := BodyLoose.notSynchronized Bd
  have hret := Bd.returns
  have hml : c.maxLocals = 1 := hml0
  have hown : s.vm.findClass "com/example/triplewright/triplewright/Term$Iri" = some m.cls := findClass_of_methodNamed Bd.named
  have hnm := (name_of_methodNamed Bd.named Bd.method).1
  have X0 : Stand p l e ({ frames := 0, cells := 0, slots := 0, locals := 0 } : Room) s m #[(.int p0)] below meth c s₁ [] 0 0 := Stand.of_body Bd
  have e0 : s₁.heap = h0 := by rw [← hh, Bd.state]; rfl
  have Nf := Fr.nil n0
  have Zs := Z0
  have Kp : Keep h0 h0 [] := Keep.refl _ _
  show own_End p e below s (Q_rm36 Z p0 h0 n0) ({ frames := 0, cells := 0, slots := 0, locals := 0 } : Room).cells ({ frames := 0, cells := 0, slots := 0, locals := 0 } : Room).slots (s₁.setTop (entryFrame m #[(.int p0)] 1))
  refine own_go (x' := s₁.setTop (mkF m 0 #[.val (.int p0)] [])) (fun t k => castTop (ef_rm36 m p0) k) ?_
  refine own_go (x' := s₁.setTop (mkF m 3 #[.val (.int p0)] [(.int 97), (.int p0)])) (fun _ k => XS.iloadN X0.here hx rfl (hb hby d36_0) rfl (XS.bipush X0.here hx rfl (hb hby d36_1) k)) ?_
  by_cases hc3 : p0 < (97 : Int32)
  · refine own_go (x' := s₁.setTop (mkF m 15 #[.val (.int p0)] [(.int 65), (.int p0)])) (fun _ k => XS.icmpYes X0.here hx rfl (pc0 := 3) (pc' := 12) rfl (hb hby d36_3) rfl (tlt hc3).1 (by decide) (by decide) (XS.iloadN X0.here hx rfl (hb hby d36_12) rfl (XS.bipush X0.here hx rfl (hb hby d36_13) k))) ?_
    by_cases hc15 : p0 < (65 : Int32)
    · refine own_go (x' := s₁.setTop (mkF m 29 #[.val (.int p0)] [(.int 0)])) (fun _ k => XS.icmpYes X0.here hx rfl (pc0 := 15) (pc' := 28) rfl (hb hby d36_15) rfl (tlt hc15).1 (by decide) (by decide) (XS.iconst X0.here hx rfl (hb hby d36_28) k)) ?_
      refine own_retN X0 hx hlk (t := .boolean) hret (by simp) (hb hby d36_29) (w := (0 : Int32)) rfl ?_ (by decide) (by decide)
      rw [e0]
      exact ⟨by rw [show own_let p0 = (0 : Int32) from by simp only [own_let, own_isL, hc3, hc15, not_true_eq_false, not_false_eq_true, and_true, true_and, and_false, false_and, or_true, true_or, or_false, false_or, if_true, if_false, and_self, or_self]], Nf, rfl⟩
    · refine own_go (x' := s₁.setTop (mkF m 21 #[.val (.int p0)] [(.int 90), (.int p0)])) (fun _ k => XS.icmpNo X0.here hx rfl (hb hby d36_15) rfl (flt hc15).1 (XS.iloadN X0.here hx rfl (hb hby d36_18) rfl (XS.bipush X0.here hx rfl (hb hby d36_19) k))) ?_
      by_cases hc21 : (90 : Int32) < p0
      · refine own_go (x' := s₁.setTop (mkF m 29 #[.val (.int p0)] [(.int 0)])) (fun _ k => XS.icmpYes X0.here hx rfl (pc0 := 21) (pc' := 28) rfl (hb hby d36_21) rfl (tlt hc21).2.2.1 (by decide) (by decide) (XS.iconst X0.here hx rfl (hb hby d36_28) k)) ?_
        refine own_retN X0 hx hlk (t := .boolean) hret (by simp) (hb hby d36_29) (w := (0 : Int32)) rfl ?_ (by decide) (by decide)
        rw [e0]
        exact ⟨by rw [show own_let p0 = (0 : Int32) from by simp only [own_let, own_isL, hc3, hc15, hc21, not_true_eq_false, not_false_eq_true, and_true, true_and, and_false, false_and, or_true, true_or, or_false, false_or, if_true, if_false, and_self, or_self]], Nf, rfl⟩
      · refine own_go (x' := s₁.setTop (mkF m 29 #[.val (.int p0)] [(.int 1)])) (fun _ k => XS.icmpNo X0.here hx rfl (hb hby d36_21) rfl (flt hc21).2.2.1 (XS.iconst X0.here hx rfl (hb hby d36_24) (XS.goto X0.here hx rfl (pc0 := 25) (pc' := 29) rfl (hb hby d36_25) (by decide) (by decide) k))) ?_
        refine own_retN X0 hx hlk (t := .boolean) hret (by simp) (hb hby d36_29) (w := (1 : Int32)) rfl ?_ (by decide) (by decide)
        rw [e0]
        exact ⟨by rw [show own_let p0 = (1 : Int32) from by simp only [own_let, own_isL, hc3, hc15, hc21, not_true_eq_false, not_false_eq_true, and_true, true_and, and_false, false_and, or_true, true_or, or_false, false_or, if_true, if_false, and_self, or_self]], Nf, rfl⟩
  · refine own_go (x' := s₁.setTop (mkF m 9 #[.val (.int p0)] [(.int 122), (.int p0)])) (fun _ k => XS.icmpNo X0.here hx rfl (hb hby d36_3) rfl (flt hc3).1 (XS.iloadN X0.here hx rfl (hb hby d36_6) rfl (XS.bipush X0.here hx rfl (hb hby d36_7) k))) ?_
    by_cases hc9 : (122 : Int32) < p0
    · refine own_go (x' := s₁.setTop (mkF m 15 #[.val (.int p0)] [(.int 65), (.int p0)])) (fun _ k => XS.icmpNo X0.here hx rfl (hb hby d36_9) rfl (tlt hc9).2.2.2 (XS.iloadN X0.here hx rfl (hb hby d36_12) rfl (XS.bipush X0.here hx rfl (hb hby d36_13) k))) ?_
      by_cases hc15 : p0 < (65 : Int32)
      · refine own_go (x' := s₁.setTop (mkF m 29 #[.val (.int p0)] [(.int 0)])) (fun _ k => XS.icmpYes X0.here hx rfl (pc0 := 15) (pc' := 28) rfl (hb hby d36_15) rfl (tlt hc15).1 (by decide) (by decide) (XS.iconst X0.here hx rfl (hb hby d36_28) k)) ?_
        refine own_retN X0 hx hlk (t := .boolean) hret (by simp) (hb hby d36_29) (w := (0 : Int32)) rfl ?_ (by decide) (by decide)
        rw [e0]
        exact ⟨by rw [show own_let p0 = (0 : Int32) from by simp only [own_let, own_isL, hc3, hc9, hc15, not_true_eq_false, not_false_eq_true, and_true, true_and, and_false, false_and, or_true, true_or, or_false, false_or, if_true, if_false, and_self, or_self]], Nf, rfl⟩
      · refine own_go (x' := s₁.setTop (mkF m 21 #[.val (.int p0)] [(.int 90), (.int p0)])) (fun _ k => XS.icmpNo X0.here hx rfl (hb hby d36_15) rfl (flt hc15).1 (XS.iloadN X0.here hx rfl (hb hby d36_18) rfl (XS.bipush X0.here hx rfl (hb hby d36_19) k))) ?_
        by_cases hc21 : (90 : Int32) < p0
        · refine own_go (x' := s₁.setTop (mkF m 29 #[.val (.int p0)] [(.int 0)])) (fun _ k => XS.icmpYes X0.here hx rfl (pc0 := 21) (pc' := 28) rfl (hb hby d36_21) rfl (tlt hc21).2.2.1 (by decide) (by decide) (XS.iconst X0.here hx rfl (hb hby d36_28) k)) ?_
          refine own_retN X0 hx hlk (t := .boolean) hret (by simp) (hb hby d36_29) (w := (0 : Int32)) rfl ?_ (by decide) (by decide)
          rw [e0]
          exact ⟨by rw [show own_let p0 = (0 : Int32) from by simp only [own_let, own_isL, hc3, hc9, hc15, hc21, not_true_eq_false, not_false_eq_true, and_true, true_and, and_false, false_and, or_true, true_or, or_false, false_or, if_true, if_false, and_self, or_self]], Nf, rfl⟩
        · refine own_go (x' := s₁.setTop (mkF m 29 #[.val (.int p0)] [(.int 1)])) (fun _ k => XS.icmpNo X0.here hx rfl (hb hby d36_21) rfl (flt hc21).2.2.1 (XS.iconst X0.here hx rfl (hb hby d36_24) (XS.goto X0.here hx rfl (pc0 := 25) (pc' := 29) rfl (hb hby d36_25) (by decide) (by decide) k))) ?_
          refine own_retN X0 hx hlk (t := .boolean) hret (by simp) (hb hby d36_29) (w := (1 : Int32)) rfl ?_ (by decide) (by decide)
          rw [e0]
          exact ⟨by rw [show own_let p0 = (1 : Int32) from by simp only [own_let, own_isL, hc3, hc9, hc15, hc21, not_true_eq_false, not_false_eq_true, and_true, true_and, and_false, false_and, or_true, true_or, or_false, false_or, if_true, if_false, and_self, or_self]], Nf, rfl⟩
    · refine own_go (x' := s₁.setTop (mkF m 29 #[.val (.int p0)] [(.int 1)])) (fun _ k => XS.icmpYes X0.here hx rfl (pc0 := 9) (pc' := 24) rfl (hb hby d36_9) rfl (flt hc9).2.2.2 (by decide) (by decide) (XS.iconst X0.here hx rfl (hb hby d36_24) (XS.goto X0.here hx rfl (pc0 := 25) (pc' := 29) rfl (hb hby d36_25) (by decide) (by decide) k))) ?_
      refine own_retN X0 hx hlk (t := .boolean) hret (by simp) (hb hby d36_29) (w := (1 : Int32)) rfl ?_ (by decide) (by decide)
      rw [e0]
      exact ⟨by rw [show own_let p0 = (1 : Int32) from by simp only [own_let, own_isL, hc3, hc9, not_true_eq_false, not_false_eq_true, and_true, true_and, and_false, false_and, or_true, true_or, or_false, false_or, if_true, if_false, and_self, or_self]], Nf, rfl⟩
theorem d38_0 : decode method_5_code 0 = .ok (.iload_n 0, 1) := by decide +kernel
theorem d38_1 : decode method_5_code 1 = .ok (.bipush 97, 2) := by decide +kernel
theorem d38_3 : decode method_5_code 3 = .ok (.if_icmp .lt 9, 3) := by decide +kernel
theorem d38_6 : decode method_5_code 6 = .ok (.iload_n 0, 1) := by decide +kernel
theorem d38_7 : decode method_5_code 7 = .ok (.bipush 122, 2) := by decide +kernel
theorem d38_9 : decode method_5_code 9 = .ok (.if_icmp .le 15, 3) := by decide +kernel
theorem d38_12 : decode method_5_code 12 = .ok (.iload_n 0, 1) := by decide +kernel
theorem d38_13 : decode method_5_code 13 = .ok (.bipush 65, 2) := by decide +kernel
theorem d38_15 : decode method_5_code 15 = .ok (.if_icmp .lt 13, 3) := by decide +kernel
theorem d38_18 : decode method_5_code 18 = .ok (.iload_n 0, 1) := by decide +kernel
theorem d38_19 : decode method_5_code 19 = .ok (.bipush 90, 2) := by decide +kernel
theorem d38_21 : decode method_5_code 21 = .ok (.if_icmp .gt 7, 3) := by decide +kernel
theorem d38_24 : decode method_5_code 24 = .ok (.iconst 1, 1) := by decide +kernel
theorem d38_25 : decode method_5_code 25 = .ok (.goto 4, 3) := by decide +kernel
theorem d38_28 : decode method_5_code 28 = .ok (.iconst 0, 1) := by decide +kernel
theorem d38_29 : decode method_5_code 29 = .ok (.ireturn, 1) := by decide +kernel
def Q_rm38 (Z : State) (p0 : Int32) (h0 : Heap) (n0 : Nat) (v : Option Value) (h : Heap) (L : List Loc) : Prop := v = some (.int (own_let p0)) ∧ Fr n0 L ∧ h = h0
theorem pn_rm38 : plainName "com/example/triplewright/triplewright/IriIsAbsolutePinLaw" = true := by first | (simp [plainName, overriddenIn]; done) | decide +kernel
theorem ef_rm38 (m : MethodId) (x0 : Int32) : entryFrame m #[(.int x0)] 1 = mkF m 0 #[.val (.int x0)] [] := by first | (simp [entryFrame, mkF, argsToLocals, Value.category]; done) | rfl
set_option maxRecDepth 65536 in
set_option maxHeartbeats 40000000 in
theorem rm38 (l : Launch) (Z : State) (a0 : Array Value) (hw : ∀ d ∈ tables_1, d.before a0 Z = true) (ws : List Jvm.Cond) (p0 : Int32) (h0 : Heap) (n0 : Nat) (Z0 : n0 ≤ h0.size) :
    MetFree l (⟨"com/example/triplewright/triplewright/IriIsAbsolutePinLaw", "letter", "(C)Z"⟩ : MethodName) (head1 (Jvm.Cond.code (⟨"com/example/triplewright/triplewright/IriIsAbsolutePinLaw", "letter", "(C)Z"⟩ : MethodName) method_5_code 1 (some .boolean) :: ws) ({ frames := 0, cells := 0, slots := 0, locals := 0 } : Room)) (fun a U => a = #[(.int p0)] ∧ Z.Warmed39 U.vm ∧ U.heap = h0) (fun _ _ _ _ _ => True) (fun _ U o U' => ∃ v L, o = .returned v ∧ (Q_rm38 Z p0 h0 n0) v U'.heap L ∧ FrameEnd U o U' L ({ frames := 0, cells := 0, slots := 0, locals := 0 } : Room).cells ({ frames := 0, cells := 0, slots := 0, locals := 0 } : Room).slots) := by
  refine MetFree.of_bodySF (plainFor_of_name pn_rm38) hisR ?_
  intro p e s m args below meth c s₁ Bd hml0 hP hK
  obtain ⟨rfl, hZ, hh⟩ := hP
  have hx := Bd.exec
  have hby := Bd.bytes
  have hlk := BodyLoose.notSynchronized Bd
  have hret := Bd.returns
  have hml : c.maxLocals = 1 := hml0
  have hown : s.vm.findClass "com/example/triplewright/triplewright/IriIsAbsolutePinLaw" = some m.cls := findClass_of_methodNamed Bd.named
  have hnm := (name_of_methodNamed Bd.named Bd.method).1
  have X0 : Stand p l e ({ frames := 0, cells := 0, slots := 0, locals := 0 } : Room) s m #[(.int p0)] below meth c s₁ [] 0 0 := Stand.of_body Bd
  have e0 : s₁.heap = h0 := by rw [← hh, Bd.state]; rfl
  have Nf := Fr.nil n0
  have Zs := Z0
  have Kp : Keep h0 h0 [] := Keep.refl _ _
  show own_End p e below s (Q_rm38 Z p0 h0 n0) ({ frames := 0, cells := 0, slots := 0, locals := 0 } : Room).cells ({ frames := 0, cells := 0, slots := 0, locals := 0 } : Room).slots (s₁.setTop (entryFrame m #[(.int p0)] 1))
  refine own_go (x' := s₁.setTop (mkF m 0 #[.val (.int p0)] [])) (fun t k => castTop (ef_rm38 m p0) k) ?_
  refine own_go (x' := s₁.setTop (mkF m 3 #[.val (.int p0)] [(.int 97), (.int p0)])) (fun _ k => XS.iloadN X0.here hx rfl (hb hby d38_0) rfl (XS.bipush X0.here hx rfl (hb hby d38_1) k)) ?_
  by_cases hc3 : p0 < (97 : Int32)
  · refine own_go (x' := s₁.setTop (mkF m 15 #[.val (.int p0)] [(.int 65), (.int p0)])) (fun _ k => XS.icmpYes X0.here hx rfl (pc0 := 3) (pc' := 12) rfl (hb hby d38_3) rfl (tlt hc3).1 (by decide) (by decide) (XS.iloadN X0.here hx rfl (hb hby d38_12) rfl (XS.bipush X0.here hx rfl (hb hby d38_13) k))) ?_
    by_cases hc15 : p0 < (65 : Int32)
    · refine own_go (x' := s₁.setTop (mkF m 29 #[.val (.int p0)] [(.int 0)])) (fun _ k => XS.icmpYes X0.here hx rfl (pc0 := 15) (pc' := 28) rfl (hb hby d38_15) rfl (tlt hc15).1 (by decide) (by decide) (XS.iconst X0.here hx rfl (hb hby d38_28) k)) ?_
      refine own_retN X0 hx hlk (t := .boolean) hret (by simp) (hb hby d38_29) (w := (0 : Int32)) rfl ?_ (by decide) (by decide)
      rw [e0]
      exact ⟨by rw [show own_let p0 = (0 : Int32) from by simp only [own_let, own_isL, hc3, hc15, not_true_eq_false, not_false_eq_true, and_true, true_and, and_false, false_and, or_true, true_or, or_false, false_or, if_true, if_false, and_self, or_self]], Nf, rfl⟩
    · refine own_go (x' := s₁.setTop (mkF m 21 #[.val (.int p0)] [(.int 90), (.int p0)])) (fun _ k => XS.icmpNo X0.here hx rfl (hb hby d38_15) rfl (flt hc15).1 (XS.iloadN X0.here hx rfl (hb hby d38_18) rfl (XS.bipush X0.here hx rfl (hb hby d38_19) k))) ?_
      by_cases hc21 : (90 : Int32) < p0
      · refine own_go (x' := s₁.setTop (mkF m 29 #[.val (.int p0)] [(.int 0)])) (fun _ k => XS.icmpYes X0.here hx rfl (pc0 := 21) (pc' := 28) rfl (hb hby d38_21) rfl (tlt hc21).2.2.1 (by decide) (by decide) (XS.iconst X0.here hx rfl (hb hby d38_28) k)) ?_
        refine own_retN X0 hx hlk (t := .boolean) hret (by simp) (hb hby d38_29) (w := (0 : Int32)) rfl ?_ (by decide) (by decide)
        rw [e0]
        exact ⟨by rw [show own_let p0 = (0 : Int32) from by simp only [own_let, own_isL, hc3, hc15, hc21, not_true_eq_false, not_false_eq_true, and_true, true_and, and_false, false_and, or_true, true_or, or_false, false_or, if_true, if_false, and_self, or_self]], Nf, rfl⟩
      · refine own_go (x' := s₁.setTop (mkF m 29 #[.val (.int p0)] [(.int 1)])) (fun _ k => XS.icmpNo X0.here hx rfl (hb hby d38_21) rfl (flt hc21).2.2.1 (XS.iconst X0.here hx rfl (hb hby d38_24) (XS.goto X0.here hx rfl (pc0 := 25) (pc' := 29) rfl (hb hby d38_25) (by decide) (by decide) k))) ?_
        refine own_retN X0 hx hlk (t := .boolean) hret (by simp) (hb hby d38_29) (w := (1 : Int32)) rfl ?_ (by decide) (by decide)
        rw [e0]
        exact ⟨by rw [show own_let p0 = (1 : Int32) from by simp only [own_let, own_isL, hc3, hc15, hc21, not_true_eq_false, not_false_eq_true, and_true, true_and, and_false, false_and, or_true, true_or, or_false, false_or, if_true, if_false, and_self, or_self]], Nf, rfl⟩
  · refine own_go (x' := s₁.setTop (mkF m 9 #[.val (.int p0)] [(.int 122), (.int p0)])) (fun _ k => XS.icmpNo X0.here hx rfl (hb hby d38_3) rfl (flt hc3).1 (XS.iloadN X0.here hx rfl (hb hby d38_6) rfl (XS.bipush X0.here hx rfl (hb hby d38_7) k))) ?_
    by_cases hc9 : (122 : Int32) < p0
    · refine own_go (x' := s₁.setTop (mkF m 15 #[.val (.int p0)] [(.int 65), (.int p0)])) (fun _ k => XS.icmpNo X0.here hx rfl (hb hby d38_9) rfl (tlt hc9).2.2.2 (XS.iloadN X0.here hx rfl (hb hby d38_12) rfl (XS.bipush X0.here hx rfl (hb hby d38_13) k))) ?_
      by_cases hc15 : p0 < (65 : Int32)
      · refine own_go (x' := s₁.setTop (mkF m 29 #[.val (.int p0)] [(.int 0)])) (fun _ k => XS.icmpYes X0.here hx rfl (pc0 := 15) (pc' := 28) rfl (hb hby d38_15) rfl (tlt hc15).1 (by decide) (by decide) (XS.iconst X0.here hx rfl (hb hby d38_28) k)) ?_
        refine own_retN X0 hx hlk (t := .boolean) hret (by simp) (hb hby d38_29) (w := (0 : Int32)) rfl ?_ (by decide) (by decide)
        rw [e0]
        exact ⟨by rw [show own_let p0 = (0 : Int32) from by simp only [own_let, own_isL, hc3, hc9, hc15, not_true_eq_false, not_false_eq_true, and_true, true_and, and_false, false_and, or_true, true_or, or_false, false_or, if_true, if_false, and_self, or_self]], Nf, rfl⟩
      · refine own_go (x' := s₁.setTop (mkF m 21 #[.val (.int p0)] [(.int 90), (.int p0)])) (fun _ k => XS.icmpNo X0.here hx rfl (hb hby d38_15) rfl (flt hc15).1 (XS.iloadN X0.here hx rfl (hb hby d38_18) rfl (XS.bipush X0.here hx rfl (hb hby d38_19) k))) ?_
        by_cases hc21 : (90 : Int32) < p0
        · refine own_go (x' := s₁.setTop (mkF m 29 #[.val (.int p0)] [(.int 0)])) (fun _ k => XS.icmpYes X0.here hx rfl (pc0 := 21) (pc' := 28) rfl (hb hby d38_21) rfl (tlt hc21).2.2.1 (by decide) (by decide) (XS.iconst X0.here hx rfl (hb hby d38_28) k)) ?_
          refine own_retN X0 hx hlk (t := .boolean) hret (by simp) (hb hby d38_29) (w := (0 : Int32)) rfl ?_ (by decide) (by decide)
          rw [e0]
          exact ⟨by rw [show own_let p0 = (0 : Int32) from by simp only [own_let, own_isL, hc3, hc9, hc15, hc21, not_true_eq_false, not_false_eq_true, and_true, true_and, and_false, false_and, or_true, true_or, or_false, false_or, if_true, if_false, and_self, or_self]], Nf, rfl⟩
        · refine own_go (x' := s₁.setTop (mkF m 29 #[.val (.int p0)] [(.int 1)])) (fun _ k => XS.icmpNo X0.here hx rfl (hb hby d38_21) rfl (flt hc21).2.2.1 (XS.iconst X0.here hx rfl (hb hby d38_24) (XS.goto X0.here hx rfl (pc0 := 25) (pc' := 29) rfl (hb hby d38_25) (by decide) (by decide) k))) ?_
          refine own_retN X0 hx hlk (t := .boolean) hret (by simp) (hb hby d38_29) (w := (1 : Int32)) rfl ?_ (by decide) (by decide)
          rw [e0]
          exact ⟨by rw [show own_let p0 = (1 : Int32) from by simp only [own_let, own_isL, hc3, hc9, hc15, hc21, not_true_eq_false, not_false_eq_true, and_true, true_and, and_false, false_and, or_true, true_or, or_false, false_or, if_true, if_false, and_self, or_self]], Nf, rfl⟩
    · refine own_go (x' := s₁.setTop (mkF m 29 #[.val (.int p0)] [(.int 1)])) (fun _ k => XS.icmpYes X0.here hx rfl (pc0 := 9) (pc' := 24) rfl (hb hby d38_9) rfl (flt hc9).2.2.2 (by decide) (by decide) (XS.iconst X0.here hx rfl (hb hby d38_24) (XS.goto X0.here hx rfl (pc0 := 25) (pc' := 29) rfl (hb hby d38_25) (by decide) (by decide) k))) ?_
      refine own_retN X0 hx hlk (t := .boolean) hret (by simp) (hb hby d38_29) (w := (1 : Int32)) rfl ?_ (by decide) (by decide)
      rw [e0]
      exact ⟨by rw [show own_let p0 = (1 : Int32) from by simp only [own_let, own_isL, hc3, hc9, not_true_eq_false, not_false_eq_true, and_true, true_and, and_false, false_and, or_true, true_or, or_false, false_or, if_true, if_false, and_self, or_self]], Nf, rfl⟩
theorem pd_22 : parseMethodDescriptor "(C)Z" = some ⟨[.char], some .boolean⟩ := by decide +kernel
theorem d41_0 : decode method_6_code 0 = .ok (.iload_n 0, 1) := by decide +kernel
theorem d41_1 : decode method_6_code 1 = .ok (.invokestatic 36, 3) := by decide +kernel
theorem d41_4 : decode method_6_code 4 = .ok (.ifCond .ne 33, 3) := by decide +kernel
theorem d41_7 : decode method_6_code 7 = .ok (.iload_n 0, 1) := by decide +kernel
theorem d41_8 : decode method_6_code 8 = .ok (.bipush 48, 2) := by decide +kernel
theorem d41_10 : decode method_6_code 10 = .ok (.if_icmp .lt 9, 3) := by decide +kernel
theorem d41_13 : decode method_6_code 13 = .ok (.iload_n 0, 1) := by decide +kernel
theorem d41_14 : decode method_6_code 14 = .ok (.bipush 57, 2) := by decide +kernel
theorem d41_16 : decode method_6_code 16 = .ok (.if_icmp .le 21, 3) := by decide +kernel
theorem d41_19 : decode method_6_code 19 = .ok (.iload_n 0, 1) := by decide +kernel
theorem d41_20 : decode method_6_code 20 = .ok (.bipush 43, 2) := by decide +kernel
theorem d41_22 : decode method_6_code 22 = .ok (.if_icmp .eq 15, 3) := by decide +kernel
theorem d41_25 : decode method_6_code 25 = .ok (.iload_n 0, 1) := by decide +kernel
theorem d41_26 : decode method_6_code 26 = .ok (.bipush 45, 2) := by decide +kernel
theorem d41_28 : decode method_6_code 28 = .ok (.if_icmp .eq 9, 3) := by decide +kernel
theorem d41_31 : decode method_6_code 31 = .ok (.iload_n 0, 1) := by decide +kernel
theorem d41_32 : decode method_6_code 32 = .ok (.bipush 46, 2) := by decide +kernel
theorem d41_34 : decode method_6_code 34 = .ok (.if_icmp .ne 7, 3) := by decide +kernel
theorem d41_37 : decode method_6_code 37 = .ok (.iconst 1, 1) := by decide +kernel
theorem d41_38 : decode method_6_code 38 = .ok (.goto 4, 3) := by decide +kernel
theorem d41_41 : decode method_6_code 41 = .ok (.iconst 0, 1) := by decide +kernel
theorem d41_42 : decode method_6_code 42 = .ok (.ireturn, 1) := by decide +kernel
def Q_rm41 (Z : State) (p0 : Int32) (h0 : Heap) (n0 : Nat) (v : Option Value) (h : Heap) (L : List Loc) : Prop := v = some (.int (own_scv p0)) ∧ Fr n0 L ∧ h = h0
theorem pn_rm41 : plainName "com/example/triplewright/triplewright/IriIsAbsolutePinLaw" = true := by first | (simp [plainName, overriddenIn]; done) | decide +kernel
theorem ef_rm41 (m : MethodId) (x0 : Int32) : entryFrame m #[(.int x0)] 1 = mkF m 0 #[.val (.int x0)] [] := by first | (simp [entryFrame, mkF, argsToLocals, Value.category]; done) | rfl
set_option maxRecDepth 65536 in
set_option maxHeartbeats 40000000 in
theorem rm41 (l : Launch) (Z : State) (a0 : Array Value) (hw : ∀ d ∈ tables_1, d.before a0 Z = true) (ws : List Jvm.Cond) (p0 : Int32) (h0 : Heap) (n0 : Nat) (Z0 : n0 ≤ h0.size) :
    MetFree l (⟨"com/example/triplewright/triplewright/IriIsAbsolutePinLaw", "schemeRest", "(C)Z"⟩ : MethodName) (head1 (Jvm.Cond.code (⟨"com/example/triplewright/triplewright/IriIsAbsolutePinLaw", "schemeRest", "(C)Z"⟩ : MethodName) method_6_code 1 (some .boolean) :: ws) ({ frames := 1, cells := 0, slots := 0, locals := 12 } : Room)) (fun a U => a = #[(.int p0)] ∧ Z.Warmed39 U.vm ∧ U.heap = h0) (fun _ _ _ _ _ => True) (fun _ U o U' => ∃ v L, o = .returned v ∧ (Q_rm41 Z p0 h0 n0) v U'.heap L ∧ FrameEnd U o U' L ({ frames := 1, cells := 0, slots := 0, locals := 12 } : Room).cells ({ frames := 1, cells := 0, slots := 0, locals := 12 } : Room).slots) := by
  refine MetFree.of_bodySF (plainFor_of_name pn_rm41) hisR ?_
  intro p e s m args below meth c s₁ Bd hml0 hP hK
  obtain ⟨rfl, hZ, hh⟩ := hP
  have hx := Bd.exec
  have hby := Bd.bytes
  have hlk := BodyLoose.notSynchronized Bd
  have hret := Bd.returns
  have hml : c.maxLocals = 1 := hml0
  have hown : s.vm.findClass "com/example/triplewright/triplewright/IriIsAbsolutePinLaw" = some m.cls := findClass_of_methodNamed Bd.named
  have hnm := (name_of_methodNamed Bd.named Bd.method).1
  have X0 : Stand p l e ({ frames := 1, cells := 0, slots := 0, locals := 12 } : Room) s m #[(.int p0)] below meth c s₁ [] 0 0 := Stand.of_body Bd
  have e0 : s₁.heap = h0 := by rw [← hh, Bd.state]; rfl
  have Nf := Fr.nil n0
  have Zs := Z0
  have Kp : Keep h0 h0 [] := Keep.refl _ _
  show own_End p e below s (Q_rm41 Z p0 h0 n0) ({ frames := 1, cells := 0, slots := 0, locals := 12 } : Room).cells ({ frames := 1, cells := 0, slots := 0, locals := 12 } : Room).slots (s₁.setTop (entryFrame m #[(.int p0)] 1))
  refine own_go (x' := s₁.setTop (mkF m 0 #[.val (.int p0)] [])) (fun t k => castTop (ef_rm41 m p0) k) ?_
  refine own_go (x' := s₁.setTop (mkF m 1 #[.val (.int p0)] [(.int p0)])) (fun _ k => XS.iloadN X0.here hx rfl (hb hby d41_0) rfl k) ?_
  obtain ⟨_, _, ⟨T1, L1, k1, n1⟩, -, X1, ⟨Lc1, hQ1, l1, y1, z1⟩, st1⟩ := Jvm.LawKit.callS X0 hx (y := (⟨"com/example/triplewright/triplewright/IriIsAbsolutePinLaw", "letter", "(C)Z"⟩ : MethodName)) hown (mvT hZ (own_w hw 153 rfl)) (mvT hZ (own_w hw 154 rfl)) (mvT hZ (own_w hw 4 rfl)) (mvT hZ (own_w hw 155 rfl)) (by decide) (backOf (W := 0) (rm38 l Z a0 hw [] p0  h0 n0 Zs  ) hZ (own_w hw 155 rfl) (own_w hw 4 rfl) (by decide) (by decide)) (g := (mkF m 1 #[.val (.int p0)] [(.int p0)])) rfl (by rw [hml]; rfl) (argsL := [(.int p0)]) (rest := []) (lenOf pd_22 rfl) rfl (by show 2 * 0 + _ ≤ _; exact Nat.le_of_eq rfl) (hb hby d41_1) (fun _ _ => ⟨rfl, e0, (by decide : 0 + 0 ≤ _), (by decide : 0 + 0 ≤ _)⟩)
  dsimp only [Pt.U, Pt.locs, Pt.cells, Pt.slots] at X1 l1 y1 z1 st1 hQ1
  subst l1 y1 z1
  obtain ⟨hv1, Nq1, eq1⟩ := hQ1
  subst hv1
  replace Nf := Fr.app Nf Nq1
  refine own_go (x' := T1.setTop (mkF m 4 #[.val (.int p0)] [(.int (own_let p0))])) st1 ?_
  by_cases hc4 : (own_let p0) = (0 : Int32)
  · refine own_go (x' := T1.setTop (mkF m 10 #[.val (.int p0)] [(.int 48), (.int p0)])) (fun _ k => XS.ifNo X1.here hx rfl (hb hby d41_4) rfl ((if0 _ _).trans (teq hc4).2) (XS.iloadN X1.here hx rfl (hb hby d41_7) rfl (XS.bipush X1.here hx rfl (hb hby d41_8) k))) ?_
    by_cases hc10 : p0 < (48 : Int32)
    · refine own_go (x' := T1.setTop (mkF m 22 #[.val (.int p0)] [(.int 43), (.int p0)])) (fun _ k => XS.icmpYes X1.here hx rfl (pc0 := 10) (pc' := 19) rfl (hb hby d41_10) rfl (tlt hc10).1 (by decide) (by decide) (XS.iloadN X1.here hx rfl (hb hby d41_19) rfl (XS.bipush X1.here hx rfl (hb hby d41_20) k))) ?_
      by_cases hc22 : p0 = (43 : Int32)
      · refine own_go (x' := T1.setTop (mkF m 42 #[.val (.int p0)] [(.int 1)])) (fun _ k => XS.icmpYes X1.here hx rfl (pc0 := 22) (pc' := 37) rfl (hb hby d41_22) rfl (teq hc22).1 (by decide) (by decide) (XS.iconst X1.here hx rfl (hb hby d41_37) (XS.goto X1.here hx rfl (pc0 := 38) (pc' := 42) rfl (hb hby d41_38) (by decide) (by decide) k))) ?_
        refine own_retN X1 hx hlk (t := .boolean) hret (by simp) (hb hby d41_42) (w := (1 : Int32)) rfl ?_ (by decide) (by decide)
        rw [eq1]
        have hL : ¬ own_isL p0 := own_let0.mp hc4
        exact ⟨by rw [show own_scv p0 = (1 : Int32) from by simp only [own_scv, own_sch, hL, hc10, hc22, not_true_eq_false, not_false_eq_true, and_true, true_and, and_false, false_and, or_true, true_or, or_false, false_or, if_true, if_false, and_self, or_self]], Nf, rfl⟩
      · refine own_go (x' := T1.setTop (mkF m 28 #[.val (.int p0)] [(.int 45), (.int p0)])) (fun _ k => XS.icmpNo X1.here hx rfl (hb hby d41_22) rfl (feq hc22).1 (XS.iloadN X1.here hx rfl (hb hby d41_25) rfl (XS.bipush X1.here hx rfl (hb hby d41_26) k))) ?_
        by_cases hc28 : p0 = (45 : Int32)
        · refine own_go (x' := T1.setTop (mkF m 42 #[.val (.int p0)] [(.int 1)])) (fun _ k => XS.icmpYes X1.here hx rfl (pc0 := 28) (pc' := 37) rfl (hb hby d41_28) rfl (teq hc28).1 (by decide) (by decide) (XS.iconst X1.here hx rfl (hb hby d41_37) (XS.goto X1.here hx rfl (pc0 := 38) (pc' := 42) rfl (hb hby d41_38) (by decide) (by decide) k))) ?_
          refine own_retN X1 hx hlk (t := .boolean) hret (by simp) (hb hby d41_42) (w := (1 : Int32)) rfl ?_ (by decide) (by decide)
          rw [eq1]
          have hL : ¬ own_isL p0 := own_let0.mp hc4
          exact ⟨by rw [show own_scv p0 = (1 : Int32) from by simp only [own_scv, own_sch, hL, hc10, hc22, hc28, not_true_eq_false, not_false_eq_true, and_true, true_and, and_false, false_and, or_true, true_or, or_false, false_or, if_true, if_false, and_self, or_self]], Nf, rfl⟩
        · refine own_go (x' := T1.setTop (mkF m 34 #[.val (.int p0)] [(.int 46), (.int p0)])) (fun _ k => XS.icmpNo X1.here hx rfl (hb hby d41_28) rfl (feq hc28).1 (XS.iloadN X1.here hx rfl (hb hby d41_31) rfl (XS.bipush X1.here hx rfl (hb hby d41_32) k))) ?_
          by_cases hc34 : p0 = (46 : Int32)
          · refine own_go (x' := T1.setTop (mkF m 42 #[.val (.int p0)] [(.int 1)])) (fun _ k => XS.icmpNo X1.here hx rfl (hb hby d41_34) rfl (teq hc34).2 (XS.iconst X1.here hx rfl (hb hby d41_37) (XS.goto X1.here hx rfl (pc0 := 38) (pc' := 42) rfl (hb hby d41_38) (by decide) (by decide) k))) ?_
            refine own_retN X1 hx hlk (t := .boolean) hret (by simp) (hb hby d41_42) (w := (1 : Int32)) rfl ?_ (by decide) (by decide)
            rw [eq1]
            have hL : ¬ own_isL p0 := own_let0.mp hc4
            exact ⟨by rw [show own_scv p0 = (1 : Int32) from by simp only [own_scv, own_sch, hL, hc10, hc22, hc28, hc34, not_true_eq_false, not_false_eq_true, and_true, true_and, and_false, false_and, or_true, true_or, or_false, false_or, if_true, if_false, and_self, or_self]], Nf, rfl⟩
          · refine own_go (x' := T1.setTop (mkF m 42 #[.val (.int p0)] [(.int 0)])) (fun _ k => XS.icmpYes X1.here hx rfl (pc0 := 34) (pc' := 41) rfl (hb hby d41_34) rfl (feq hc34).2 (by decide) (by decide) (XS.iconst X1.here hx rfl (hb hby d41_41) k)) ?_
            refine own_retN X1 hx hlk (t := .boolean) hret (by simp) (hb hby d41_42) (w := (0 : Int32)) rfl ?_ (by decide) (by decide)
            rw [eq1]
            have hL : ¬ own_isL p0 := own_let0.mp hc4
            exact ⟨by rw [show own_scv p0 = (0 : Int32) from by simp only [own_scv, own_sch, hL, hc10, hc22, hc28, hc34, not_true_eq_false, not_false_eq_true, and_true, true_and, and_false, false_and, or_true, true_or, or_false, false_or, if_true, if_false, and_self, or_self]], Nf, rfl⟩
    · refine own_go (x' := T1.setTop (mkF m 16 #[.val (.int p0)] [(.int 57), (.int p0)])) (fun _ k => XS.icmpNo X1.here hx rfl (hb hby d41_10) rfl (flt hc10).1 (XS.iloadN X1.here hx rfl (hb hby d41_13) rfl (XS.bipush X1.here hx rfl (hb hby d41_14) k))) ?_
      by_cases hc16 : (57 : Int32) < p0
      · refine own_go (x' := T1.setTop (mkF m 22 #[.val (.int p0)] [(.int 43), (.int p0)])) (fun _ k => XS.icmpNo X1.here hx rfl (hb hby d41_16) rfl (tlt hc16).2.2.2 (XS.iloadN X1.here hx rfl (hb hby d41_19) rfl (XS.bipush X1.here hx rfl (hb hby d41_20) k))) ?_
        by_cases hc22 : p0 = (43 : Int32)
        · refine own_go (x' := T1.setTop (mkF m 42 #[.val (.int p0)] [(.int 1)])) (fun _ k => XS.icmpYes X1.here hx rfl (pc0 := 22) (pc' := 37) rfl (hb hby d41_22) rfl (teq hc22).1 (by decide) (by decide) (XS.iconst X1.here hx rfl (hb hby d41_37) (XS.goto X1.here hx rfl (pc0 := 38) (pc' := 42) rfl (hb hby d41_38) (by decide) (by decide) k))) ?_
          refine own_retN X1 hx hlk (t := .boolean) hret (by simp) (hb hby d41_42) (w := (1 : Int32)) rfl ?_ (by decide) (by decide)
          rw [eq1]
          have hL : ¬ own_isL p0 := own_let0.mp hc4
          exact ⟨by rw [show own_scv p0 = (1 : Int32) from by simp only [own_scv, own_sch, hL, hc10, hc16, hc22, not_true_eq_false, not_false_eq_true, and_true, true_and, and_false, false_and, or_true, true_or, or_false, false_or, if_true, if_false, and_self, or_self]], Nf, rfl⟩
        · refine own_go (x' := T1.setTop (mkF m 28 #[.val (.int p0)] [(.int 45), (.int p0)])) (fun _ k => XS.icmpNo X1.here hx rfl (hb hby d41_22) rfl (feq hc22).1 (XS.iloadN X1.here hx rfl (hb hby d41_25) rfl (XS.bipush X1.here hx rfl (hb hby d41_26) k))) ?_
          by_cases hc28 : p0 = (45 : Int32)
          · refine own_go (x' := T1.setTop (mkF m 42 #[.val (.int p0)] [(.int 1)])) (fun _ k => XS.icmpYes X1.here hx rfl (pc0 := 28) (pc' := 37) rfl (hb hby d41_28) rfl (teq hc28).1 (by decide) (by decide) (XS.iconst X1.here hx rfl (hb hby d41_37) (XS.goto X1.here hx rfl (pc0 := 38) (pc' := 42) rfl (hb hby d41_38) (by decide) (by decide) k))) ?_
            refine own_retN X1 hx hlk (t := .boolean) hret (by simp) (hb hby d41_42) (w := (1 : Int32)) rfl ?_ (by decide) (by decide)
            rw [eq1]
            have hL : ¬ own_isL p0 := own_let0.mp hc4
            exact ⟨by rw [show own_scv p0 = (1 : Int32) from by simp only [own_scv, own_sch, hL, hc10, hc16, hc22, hc28, not_true_eq_false, not_false_eq_true, and_true, true_and, and_false, false_and, or_true, true_or, or_false, false_or, if_true, if_false, and_self, or_self]], Nf, rfl⟩
          · refine own_go (x' := T1.setTop (mkF m 34 #[.val (.int p0)] [(.int 46), (.int p0)])) (fun _ k => XS.icmpNo X1.here hx rfl (hb hby d41_28) rfl (feq hc28).1 (XS.iloadN X1.here hx rfl (hb hby d41_31) rfl (XS.bipush X1.here hx rfl (hb hby d41_32) k))) ?_
            by_cases hc34 : p0 = (46 : Int32)
            · refine own_go (x' := T1.setTop (mkF m 42 #[.val (.int p0)] [(.int 1)])) (fun _ k => XS.icmpNo X1.here hx rfl (hb hby d41_34) rfl (teq hc34).2 (XS.iconst X1.here hx rfl (hb hby d41_37) (XS.goto X1.here hx rfl (pc0 := 38) (pc' := 42) rfl (hb hby d41_38) (by decide) (by decide) k))) ?_
              refine own_retN X1 hx hlk (t := .boolean) hret (by simp) (hb hby d41_42) (w := (1 : Int32)) rfl ?_ (by decide) (by decide)
              rw [eq1]
              have hL : ¬ own_isL p0 := own_let0.mp hc4
              exact ⟨by rw [show own_scv p0 = (1 : Int32) from by simp only [own_scv, own_sch, hL, hc10, hc16, hc22, hc28, hc34, not_true_eq_false, not_false_eq_true, and_true, true_and, and_false, false_and, or_true, true_or, or_false, false_or, if_true, if_false, and_self, or_self]], Nf, rfl⟩
            · refine own_go (x' := T1.setTop (mkF m 42 #[.val (.int p0)] [(.int 0)])) (fun _ k => XS.icmpYes X1.here hx rfl (pc0 := 34) (pc' := 41) rfl (hb hby d41_34) rfl (feq hc34).2 (by decide) (by decide) (XS.iconst X1.here hx rfl (hb hby d41_41) k)) ?_
              refine own_retN X1 hx hlk (t := .boolean) hret (by simp) (hb hby d41_42) (w := (0 : Int32)) rfl ?_ (by decide) (by decide)
              rw [eq1]
              have hL : ¬ own_isL p0 := own_let0.mp hc4
              exact ⟨by rw [show own_scv p0 = (0 : Int32) from by simp only [own_scv, own_sch, hL, hc10, hc16, hc22, hc28, hc34, not_true_eq_false, not_false_eq_true, and_true, true_and, and_false, false_and, or_true, true_or, or_false, false_or, if_true, if_false, and_self, or_self]], Nf, rfl⟩
      · refine own_go (x' := T1.setTop (mkF m 42 #[.val (.int p0)] [(.int 1)])) (fun _ k => XS.icmpYes X1.here hx rfl (pc0 := 16) (pc' := 37) rfl (hb hby d41_16) rfl (flt hc16).2.2.2 (by decide) (by decide) (XS.iconst X1.here hx rfl (hb hby d41_37) (XS.goto X1.here hx rfl (pc0 := 38) (pc' := 42) rfl (hb hby d41_38) (by decide) (by decide) k))) ?_
        refine own_retN X1 hx hlk (t := .boolean) hret (by simp) (hb hby d41_42) (w := (1 : Int32)) rfl ?_ (by decide) (by decide)
        rw [eq1]
        have hL : ¬ own_isL p0 := own_let0.mp hc4
        exact ⟨by rw [show own_scv p0 = (1 : Int32) from by simp only [own_scv, own_sch, hL, hc10, hc16, not_true_eq_false, not_false_eq_true, and_true, true_and, and_false, false_and, or_true, true_or, or_false, false_or, if_true, if_false, and_self, or_self]], Nf, rfl⟩
  · refine own_go (x' := T1.setTop (mkF m 42 #[.val (.int p0)] [(.int 1)])) (fun _ k => XS.ifYes X1.here hx rfl (pc0 := 4) (pc' := 37) rfl (hb hby d41_4) rfl ((if0 _ _).trans (feq hc4).2) (by decide) (by decide) (XS.iconst X1.here hx rfl (hb hby d41_37) (XS.goto X1.here hx rfl (pc0 := 38) (pc' := 42) rfl (hb hby d41_38) (by decide) (by decide) k))) ?_
    refine own_retN X1 hx hlk (t := .boolean) hret (by simp) (hb hby d41_42) (w := (1 : Int32)) rfl ?_ (by decide) (by decide)
    rw [eq1]
    have hL : own_isL p0 := Classical.byContradiction fun q_ => hc4 (own_let0.mpr q_)
    exact ⟨by rw [show own_scv p0 = (1 : Int32) from by simp only [own_scv, own_sch, hL, not_true_eq_false, not_false_eq_true, and_true, true_and, and_false, false_and, or_true, true_or, or_false, false_or, if_true, if_false, and_self, or_self]], Nf, rfl⟩
theorem d42_0 : decode method_7_code 0 = .ok (.iload_n 0, 1) := by decide +kernel
theorem d42_1 : decode method_7_code 1 = .ok (.bipush 32, 2) := by decide +kernel
theorem d42_3 : decode method_7_code 3 = .ok (.if_icmp .le 57, 3) := by decide +kernel
theorem d42_6 : decode method_7_code 6 = .ok (.iload_n 0, 1) := by decide +kernel
theorem d42_7 : decode method_7_code 7 = .ok (.bipush 60, 2) := by decide +kernel
theorem d42_9 : decode method_7_code 9 = .ok (.if_icmp .eq 51, 3) := by decide +kernel
theorem d42_12 : decode method_7_code 12 = .ok (.iload_n 0, 1) := by decide +kernel
theorem d42_13 : decode method_7_code 13 = .ok (.bipush 62, 2) := by decide +kernel
theorem d42_15 : decode method_7_code 15 = .ok (.if_icmp .eq 45, 3) := by decide +kernel
theorem d42_18 : decode method_7_code 18 = .ok (.iload_n 0, 1) := by decide +kernel
theorem d42_19 : decode method_7_code 19 = .ok (.bipush 34, 2) := by decide +kernel
theorem d42_21 : decode method_7_code 21 = .ok (.if_icmp .eq 39, 3) := by decide +kernel
theorem d42_24 : decode method_7_code 24 = .ok (.iload_n 0, 1) := by decide +kernel
theorem d42_25 : decode method_7_code 25 = .ok (.bipush 123, 2) := by decide +kernel
theorem d42_27 : decode method_7_code 27 = .ok (.if_icmp .eq 33, 3) := by decide +kernel
theorem d42_30 : decode method_7_code 30 = .ok (.iload_n 0, 1) := by decide +kernel
theorem d42_31 : decode method_7_code 31 = .ok (.bipush 125, 2) := by decide +kernel
theorem d42_33 : decode method_7_code 33 = .ok (.if_icmp .eq 27, 3) := by decide +kernel
theorem d42_36 : decode method_7_code 36 = .ok (.iload_n 0, 1) := by decide +kernel
theorem d42_37 : decode method_7_code 37 = .ok (.bipush 124, 2) := by decide +kernel
theorem d42_39 : decode method_7_code 39 = .ok (.if_icmp .eq 21, 3) := by decide +kernel
theorem d42_42 : decode method_7_code 42 = .ok (.iload_n 0, 1) := by decide +kernel
theorem d42_43 : decode method_7_code 43 = .ok (.bipush 94, 2) := by decide +kernel
theorem d42_45 : decode method_7_code 45 = .ok (.if_icmp .eq 15, 3) := by decide +kernel
theorem d42_48 : decode method_7_code 48 = .ok (.iload_n 0, 1) := by decide +kernel
theorem d42_49 : decode method_7_code 49 = .ok (.bipush 96, 2) := by decide +kernel
theorem d42_51 : decode method_7_code 51 = .ok (.if_icmp .eq 9, 3) := by decide +kernel
theorem d42_54 : decode method_7_code 54 = .ok (.iload_n 0, 1) := by decide +kernel
theorem d42_55 : decode method_7_code 55 = .ok (.bipush 92, 2) := by decide +kernel
theorem d42_57 : decode method_7_code 57 = .ok (.if_icmp .ne 7, 3) := by decide +kernel
theorem d42_60 : decode method_7_code 60 = .ok (.iconst 1, 1) := by decide +kernel
theorem d42_61 : decode method_7_code 61 = .ok (.goto 4, 3) := by decide +kernel
theorem d42_64 : decode method_7_code 64 = .ok (.iconst 0, 1) := by decide +kernel
theorem d42_65 : decode method_7_code 65 = .ok (.ireturn, 1) := by decide +kernel
def Q_rm42 (Z : State) (p0 : Int32) (h0 : Heap) (n0 : Nat) (v : Option Value) (h : Heap) (L : List Loc) : Prop := v = some (.int (own_bdv p0)) ∧ Fr n0 L ∧ h = h0
theorem pn_rm42 : plainName "com/example/triplewright/triplewright/IriIsAbsolutePinLaw" = true := by first | (simp [plainName, overriddenIn]; done) | decide +kernel
theorem ef_rm42 (m : MethodId) (x0 : Int32) : entryFrame m #[(.int x0)] 1 = mkF m 0 #[.val (.int x0)] [] := by first | (simp [entryFrame, mkF, argsToLocals, Value.category]; done) | rfl
set_option maxRecDepth 65536 in
set_option maxHeartbeats 40000000 in
theorem rm42 (l : Launch) (Z : State) (a0 : Array Value) (hw : ∀ d ∈ tables_1, d.before a0 Z = true) (ws : List Jvm.Cond) (p0 : Int32) (h0 : Heap) (n0 : Nat) (Z0 : n0 ≤ h0.size) :
    MetFree l (⟨"com/example/triplewright/triplewright/IriIsAbsolutePinLaw", "forbidden", "(C)Z"⟩ : MethodName) (head1 (Jvm.Cond.code (⟨"com/example/triplewright/triplewright/IriIsAbsolutePinLaw", "forbidden", "(C)Z"⟩ : MethodName) method_7_code 1 (some .boolean) :: ws) ({ frames := 0, cells := 0, slots := 0, locals := 0 } : Room)) (fun a U => a = #[(.int p0)] ∧ Z.Warmed39 U.vm ∧ U.heap = h0) (fun _ _ _ _ _ => True) (fun _ U o U' => ∃ v L, o = .returned v ∧ (Q_rm42 Z p0 h0 n0) v U'.heap L ∧ FrameEnd U o U' L ({ frames := 0, cells := 0, slots := 0, locals := 0 } : Room).cells ({ frames := 0, cells := 0, slots := 0, locals := 0 } : Room).slots) := by
  refine MetFree.of_bodySF (plainFor_of_name pn_rm42) hisR ?_
  intro p e s m args below meth c s₁ Bd hml0 hP hK
  obtain ⟨rfl, hZ, hh⟩ := hP
  have hx := Bd.exec
  have hby := Bd.bytes
  have hlk := BodyLoose.notSynchronized Bd
  have hret := Bd.returns
  have hml : c.maxLocals = 1 := hml0
  have hown : s.vm.findClass "com/example/triplewright/triplewright/IriIsAbsolutePinLaw" = some m.cls := findClass_of_methodNamed Bd.named
  have hnm := (name_of_methodNamed Bd.named Bd.method).1
  have X0 : Stand p l e ({ frames := 0, cells := 0, slots := 0, locals := 0 } : Room) s m #[(.int p0)] below meth c s₁ [] 0 0 := Stand.of_body Bd
  have e0 : s₁.heap = h0 := by rw [← hh, Bd.state]; rfl
  have Nf := Fr.nil n0
  have Zs := Z0
  have Kp : Keep h0 h0 [] := Keep.refl _ _
  show own_End p e below s (Q_rm42 Z p0 h0 n0) ({ frames := 0, cells := 0, slots := 0, locals := 0 } : Room).cells ({ frames := 0, cells := 0, slots := 0, locals := 0 } : Room).slots (s₁.setTop (entryFrame m #[(.int p0)] 1))
  refine own_go (x' := s₁.setTop (mkF m 0 #[.val (.int p0)] [])) (fun t k => castTop (ef_rm42 m p0) k) ?_
  refine own_go (x' := s₁.setTop (mkF m 3 #[.val (.int p0)] [(.int 32), (.int p0)])) (fun _ k => XS.iloadN X0.here hx rfl (hb hby d42_0) rfl (XS.bipush X0.here hx rfl (hb hby d42_1) k)) ?_
  by_cases hc3 : (32 : Int32) < p0
  · refine own_go (x' := s₁.setTop (mkF m 9 #[.val (.int p0)] [(.int 60), (.int p0)])) (fun _ k => XS.icmpNo X0.here hx rfl (hb hby d42_3) rfl (tlt hc3).2.2.2 (XS.iloadN X0.here hx rfl (hb hby d42_6) rfl (XS.bipush X0.here hx rfl (hb hby d42_7) k))) ?_
    by_cases hc9 : p0 = (60 : Int32)
    · refine own_go (x' := s₁.setTop (mkF m 65 #[.val (.int p0)] [(.int 1)])) (fun _ k => XS.icmpYes X0.here hx rfl (pc0 := 9) (pc' := 60) rfl (hb hby d42_9) rfl (teq hc9).1 (by decide) (by decide) (XS.iconst X0.here hx rfl (hb hby d42_60) (XS.goto X0.here hx rfl (pc0 := 61) (pc' := 65) rfl (hb hby d42_61) (by decide) (by decide) k))) ?_
      refine own_retN X0 hx hlk (t := .boolean) hret (by simp) (hb hby d42_65) (w := (1 : Int32)) rfl ?_ (by decide) (by decide)
      rw [e0]
      exact ⟨by rw [show own_bdv p0 = (1 : Int32) from by simp only [own_bdv, own_bad, own_fb, hc3, hc9, not_true_eq_false, not_false_eq_true, and_true, true_and, and_false, false_and, or_true, true_or, or_false, false_or, if_true, if_false, and_self, or_self]], Nf, rfl⟩
    · refine own_go (x' := s₁.setTop (mkF m 15 #[.val (.int p0)] [(.int 62), (.int p0)])) (fun _ k => XS.icmpNo X0.here hx rfl (hb hby d42_9) rfl (feq hc9).1 (XS.iloadN X0.here hx rfl (hb hby d42_12) rfl (XS.bipush X0.here hx rfl (hb hby d42_13) k))) ?_
      by_cases hc15 : p0 = (62 : Int32)
      · refine own_go (x' := s₁.setTop (mkF m 65 #[.val (.int p0)] [(.int 1)])) (fun _ k => XS.icmpYes X0.here hx rfl (pc0 := 15) (pc' := 60) rfl (hb hby d42_15) rfl (teq hc15).1 (by decide) (by decide) (XS.iconst X0.here hx rfl (hb hby d42_60) (XS.goto X0.here hx rfl (pc0 := 61) (pc' := 65) rfl (hb hby d42_61) (by decide) (by decide) k))) ?_
        refine own_retN X0 hx hlk (t := .boolean) hret (by simp) (hb hby d42_65) (w := (1 : Int32)) rfl ?_ (by decide) (by decide)
        rw [e0]
        exact ⟨by rw [show own_bdv p0 = (1 : Int32) from by simp only [own_bdv, own_bad, own_fb, hc3, hc9, hc15, not_true_eq_false, not_false_eq_true, and_true, true_and, and_false, false_and, or_true, true_or, or_false, false_or, if_true, if_false, and_self, or_self]], Nf, rfl⟩
      · refine own_go (x' := s₁.setTop (mkF m 21 #[.val (.int p0)] [(.int 34), (.int p0)])) (fun _ k => XS.icmpNo X0.here hx rfl (hb hby d42_15) rfl (feq hc15).1 (XS.iloadN X0.here hx rfl (hb hby d42_18) rfl (XS.bipush X0.here hx rfl (hb hby d42_19) k))) ?_
        by_cases hc21 : p0 = (34 : Int32)
        · refine own_go (x' := s₁.setTop (mkF m 65 #[.val (.int p0)] [(.int 1)])) (fun _ k => XS.icmpYes X0.here hx rfl (pc0 := 21) (pc' := 60) rfl (hb hby d42_21) rfl (teq hc21).1 (by decide) (by decide) (XS.iconst X0.here hx rfl (hb hby d42_60) (XS.goto X0.here hx rfl (pc0 := 61) (pc' := 65) rfl (hb hby d42_61) (by decide) (by decide) k))) ?_
          refine own_retN X0 hx hlk (t := .boolean) hret (by simp) (hb hby d42_65) (w := (1 : Int32)) rfl ?_ (by decide) (by decide)
          rw [e0]
          exact ⟨by rw [show own_bdv p0 = (1 : Int32) from by simp only [own_bdv, own_bad, own_fb, hc3, hc9, hc15, hc21, not_true_eq_false, not_false_eq_true, and_true, true_and, and_false, false_and, or_true, true_or, or_false, false_or, if_true, if_false, and_self, or_self]], Nf, rfl⟩
        · refine own_go (x' := s₁.setTop (mkF m 27 #[.val (.int p0)] [(.int 123), (.int p0)])) (fun _ k => XS.icmpNo X0.here hx rfl (hb hby d42_21) rfl (feq hc21).1 (XS.iloadN X0.here hx rfl (hb hby d42_24) rfl (XS.bipush X0.here hx rfl (hb hby d42_25) k))) ?_
          by_cases hc27 : p0 = (123 : Int32)
          · refine own_go (x' := s₁.setTop (mkF m 65 #[.val (.int p0)] [(.int 1)])) (fun _ k => XS.icmpYes X0.here hx rfl (pc0 := 27) (pc' := 60) rfl (hb hby d42_27) rfl (teq hc27).1 (by decide) (by decide) (XS.iconst X0.here hx rfl (hb hby d42_60) (XS.goto X0.here hx rfl (pc0 := 61) (pc' := 65) rfl (hb hby d42_61) (by decide) (by decide) k))) ?_
            refine own_retN X0 hx hlk (t := .boolean) hret (by simp) (hb hby d42_65) (w := (1 : Int32)) rfl ?_ (by decide) (by decide)
            rw [e0]
            exact ⟨by rw [show own_bdv p0 = (1 : Int32) from by simp only [own_bdv, own_bad, own_fb, hc3, hc9, hc15, hc21, hc27, not_true_eq_false, not_false_eq_true, and_true, true_and, and_false, false_and, or_true, true_or, or_false, false_or, if_true, if_false, and_self, or_self]], Nf, rfl⟩
          · refine own_go (x' := s₁.setTop (mkF m 33 #[.val (.int p0)] [(.int 125), (.int p0)])) (fun _ k => XS.icmpNo X0.here hx rfl (hb hby d42_27) rfl (feq hc27).1 (XS.iloadN X0.here hx rfl (hb hby d42_30) rfl (XS.bipush X0.here hx rfl (hb hby d42_31) k))) ?_
            by_cases hc33 : p0 = (125 : Int32)
            · refine own_go (x' := s₁.setTop (mkF m 65 #[.val (.int p0)] [(.int 1)])) (fun _ k => XS.icmpYes X0.here hx rfl (pc0 := 33) (pc' := 60) rfl (hb hby d42_33) rfl (teq hc33).1 (by decide) (by decide) (XS.iconst X0.here hx rfl (hb hby d42_60) (XS.goto X0.here hx rfl (pc0 := 61) (pc' := 65) rfl (hb hby d42_61) (by decide) (by decide) k))) ?_
              refine own_retN X0 hx hlk (t := .boolean) hret (by simp) (hb hby d42_65) (w := (1 : Int32)) rfl ?_ (by decide) (by decide)
              rw [e0]
              exact ⟨by rw [show own_bdv p0 = (1 : Int32) from by simp only [own_bdv, own_bad, own_fb, hc3, hc9, hc15, hc21, hc27, hc33, not_true_eq_false, not_false_eq_true, and_true, true_and, and_false, false_and, or_true, true_or, or_false, false_or, if_true, if_false, and_self, or_self]], Nf, rfl⟩
            · refine own_go (x' := s₁.setTop (mkF m 39 #[.val (.int p0)] [(.int 124), (.int p0)])) (fun _ k => XS.icmpNo X0.here hx rfl (hb hby d42_33) rfl (feq hc33).1 (XS.iloadN X0.here hx rfl (hb hby d42_36) rfl (XS.bipush X0.here hx rfl (hb hby d42_37) k))) ?_
              by_cases hc39 : p0 = (124 : Int32)
              · refine own_go (x' := s₁.setTop (mkF m 65 #[.val (.int p0)] [(.int 1)])) (fun _ k => XS.icmpYes X0.here hx rfl (pc0 := 39) (pc' := 60) rfl (hb hby d42_39) rfl (teq hc39).1 (by decide) (by decide) (XS.iconst X0.here hx rfl (hb hby d42_60) (XS.goto X0.here hx rfl (pc0 := 61) (pc' := 65) rfl (hb hby d42_61) (by decide) (by decide) k))) ?_
                refine own_retN X0 hx hlk (t := .boolean) hret (by simp) (hb hby d42_65) (w := (1 : Int32)) rfl ?_ (by decide) (by decide)
                rw [e0]
                exact ⟨by rw [show own_bdv p0 = (1 : Int32) from by simp only [own_bdv, own_bad, own_fb, hc3, hc9, hc15, hc21, hc27, hc33, hc39, not_true_eq_false, not_false_eq_true, and_true, true_and, and_false, false_and, or_true, true_or, or_false, false_or, if_true, if_false, and_self, or_self]], Nf, rfl⟩
              · refine own_go (x' := s₁.setTop (mkF m 45 #[.val (.int p0)] [(.int 94), (.int p0)])) (fun _ k => XS.icmpNo X0.here hx rfl (hb hby d42_39) rfl (feq hc39).1 (XS.iloadN X0.here hx rfl (hb hby d42_42) rfl (XS.bipush X0.here hx rfl (hb hby d42_43) k))) ?_
                by_cases hc45 : p0 = (94 : Int32)
                · refine own_go (x' := s₁.setTop (mkF m 65 #[.val (.int p0)] [(.int 1)])) (fun _ k => XS.icmpYes X0.here hx rfl (pc0 := 45) (pc' := 60) rfl (hb hby d42_45) rfl (teq hc45).1 (by decide) (by decide) (XS.iconst X0.here hx rfl (hb hby d42_60) (XS.goto X0.here hx rfl (pc0 := 61) (pc' := 65) rfl (hb hby d42_61) (by decide) (by decide) k))) ?_
                  refine own_retN X0 hx hlk (t := .boolean) hret (by simp) (hb hby d42_65) (w := (1 : Int32)) rfl ?_ (by decide) (by decide)
                  rw [e0]
                  exact ⟨by rw [show own_bdv p0 = (1 : Int32) from by simp only [own_bdv, own_bad, own_fb, hc3, hc9, hc15, hc21, hc27, hc33, hc39, hc45, not_true_eq_false, not_false_eq_true, and_true, true_and, and_false, false_and, or_true, true_or, or_false, false_or, if_true, if_false, and_self, or_self]], Nf, rfl⟩
                · refine own_go (x' := s₁.setTop (mkF m 51 #[.val (.int p0)] [(.int 96), (.int p0)])) (fun _ k => XS.icmpNo X0.here hx rfl (hb hby d42_45) rfl (feq hc45).1 (XS.iloadN X0.here hx rfl (hb hby d42_48) rfl (XS.bipush X0.here hx rfl (hb hby d42_49) k))) ?_
                  by_cases hc51 : p0 = (96 : Int32)
                  · refine own_go (x' := s₁.setTop (mkF m 65 #[.val (.int p0)] [(.int 1)])) (fun _ k => XS.icmpYes X0.here hx rfl (pc0 := 51) (pc' := 60) rfl (hb hby d42_51) rfl (teq hc51).1 (by decide) (by decide) (XS.iconst X0.here hx rfl (hb hby d42_60) (XS.goto X0.here hx rfl (pc0 := 61) (pc' := 65) rfl (hb hby d42_61) (by decide) (by decide) k))) ?_
                    refine own_retN X0 hx hlk (t := .boolean) hret (by simp) (hb hby d42_65) (w := (1 : Int32)) rfl ?_ (by decide) (by decide)
                    rw [e0]
                    exact ⟨by rw [show own_bdv p0 = (1 : Int32) from by simp only [own_bdv, own_bad, own_fb, hc3, hc9, hc15, hc21, hc27, hc33, hc39, hc45, hc51, not_true_eq_false, not_false_eq_true, and_true, true_and, and_false, false_and, or_true, true_or, or_false, false_or, if_true, if_false, and_self, or_self]], Nf, rfl⟩
                  · refine own_go (x' := s₁.setTop (mkF m 57 #[.val (.int p0)] [(.int 92), (.int p0)])) (fun _ k => XS.icmpNo X0.here hx rfl (hb hby d42_51) rfl (feq hc51).1 (XS.iloadN X0.here hx rfl (hb hby d42_54) rfl (XS.bipush X0.here hx rfl (hb hby d42_55) k))) ?_
                    by_cases hc57 : p0 = (92 : Int32)
                    · refine own_go (x' := s₁.setTop (mkF m 65 #[.val (.int p0)] [(.int 1)])) (fun _ k => XS.icmpNo X0.here hx rfl (hb hby d42_57) rfl (teq hc57).2 (XS.iconst X0.here hx rfl (hb hby d42_60) (XS.goto X0.here hx rfl (pc0 := 61) (pc' := 65) rfl (hb hby d42_61) (by decide) (by decide) k))) ?_
                      refine own_retN X0 hx hlk (t := .boolean) hret (by simp) (hb hby d42_65) (w := (1 : Int32)) rfl ?_ (by decide) (by decide)
                      rw [e0]
                      exact ⟨by rw [show own_bdv p0 = (1 : Int32) from by simp only [own_bdv, own_bad, own_fb, hc3, hc9, hc15, hc21, hc27, hc33, hc39, hc45, hc51, hc57, not_true_eq_false, not_false_eq_true, and_true, true_and, and_false, false_and, or_true, true_or, or_false, false_or, if_true, if_false, and_self, or_self]], Nf, rfl⟩
                    · refine own_go (x' := s₁.setTop (mkF m 65 #[.val (.int p0)] [(.int 0)])) (fun _ k => XS.icmpYes X0.here hx rfl (pc0 := 57) (pc' := 64) rfl (hb hby d42_57) rfl (feq hc57).2 (by decide) (by decide) (XS.iconst X0.here hx rfl (hb hby d42_64) k)) ?_
                      refine own_retN X0 hx hlk (t := .boolean) hret (by simp) (hb hby d42_65) (w := (0 : Int32)) rfl ?_ (by decide) (by decide)
                      rw [e0]
                      exact ⟨by rw [show own_bdv p0 = (0 : Int32) from by simp only [own_bdv, own_bad, own_fb, hc3, hc9, hc15, hc21, hc27, hc33, hc39, hc45, hc51, hc57, not_true_eq_false, not_false_eq_true, and_true, true_and, and_false, false_and, or_true, true_or, or_false, false_or, if_true, if_false, and_self, or_self]], Nf, rfl⟩
  · refine own_go (x' := s₁.setTop (mkF m 65 #[.val (.int p0)] [(.int 1)])) (fun _ k => XS.icmpYes X0.here hx rfl (pc0 := 3) (pc' := 60) rfl (hb hby d42_3) rfl (flt hc3).2.2.2 (by decide) (by decide) (XS.iconst X0.here hx rfl (hb hby d42_60) (XS.goto X0.here hx rfl (pc0 := 61) (pc' := 65) rfl (hb hby d42_61) (by decide) (by decide) k))) ?_
    refine own_retN X0 hx hlk (t := .boolean) hret (by simp) (hb hby d42_65) (w := (1 : Int32)) rfl ?_ (by decide) (by decide)
    rw [e0]
    exact ⟨by rw [show own_bdv p0 = (1 : Int32) from by simp only [own_bdv, own_bad, own_fb, hc3, not_true_eq_false, not_false_eq_true, and_true, true_and, and_false, false_and, or_true, true_or, or_false, false_or, if_true, if_false, and_self, or_self]], Nf, rfl⟩
def own_pos (i x k n : Int32) : Int32 := if i < n then (if i = 0 then own_let x else if i < k then own_scv x else if i = k then 1 else if own_bdv x = 0 then 1 else 0) else 1
theorem d37_0 : decode method_8_code 0 = .ok (.iload_n 0, 1) := by decide +kernel
theorem d37_1 : decode method_8_code 1 = .ok (.iload_n 3, 1) := by decide +kernel
theorem d37_2 : decode method_8_code 2 = .ok (.if_icmp .lt 5, 3) := by decide +kernel
theorem d37_5 : decode method_8_code 5 = .ok (.iconst 1, 1) := by decide +kernel
theorem d37_6 : decode method_8_code 6 = .ok (.ireturn, 1) := by decide +kernel
theorem d37_7 : decode method_8_code 7 = .ok (.iload_n 0, 1) := by decide +kernel
theorem d37_8 : decode method_8_code 8 = .ok (.ifCond .ne 8, 3) := by decide +kernel
theorem d37_11 : decode method_8_code 11 = .ok (.iload_n 1, 1) := by decide +kernel
theorem d37_12 : decode method_8_code 12 = .ok (.invokestatic 36, 3) := by decide +kernel
theorem d37_15 : decode method_8_code 15 = .ok (.ireturn, 1) := by decide +kernel
theorem d37_16 : decode method_8_code 16 = .ok (.iload_n 0, 1) := by decide +kernel
theorem d37_17 : decode method_8_code 17 = .ok (.iload_n 2, 1) := by decide +kernel
theorem d37_18 : decode method_8_code 18 = .ok (.if_icmp .ge 8, 3) := by decide +kernel
theorem d37_21 : decode method_8_code 21 = .ok (.iload_n 1, 1) := by decide +kernel
theorem d37_22 : decode method_8_code 22 = .ok (.invokestatic 40, 3) := by decide +kernel
theorem d37_25 : decode method_8_code 25 = .ok (.ireturn, 1) := by decide +kernel
theorem d37_26 : decode method_8_code 26 = .ok (.iload_n 0, 1) := by decide +kernel
theorem d37_27 : decode method_8_code 27 = .ok (.iload_n 2, 1) := by decide +kernel
theorem d37_28 : decode method_8_code 28 = .ok (.if_icmp .ne 5, 3) := by decide +kernel
theorem d37_31 : decode method_8_code 31 = .ok (.iconst 1, 1) := by decide +kernel
theorem d37_32 : decode method_8_code 32 = .ok (.ireturn, 1) := by decide +kernel
theorem d37_33 : decode method_8_code 33 = .ok (.iload_n 1, 1) := by decide +kernel
theorem d37_34 : decode method_8_code 34 = .ok (.invokestatic 43, 3) := by decide +kernel
theorem d37_37 : decode method_8_code 37 = .ok (.ifCond .ne 7, 3) := by decide +kernel
theorem d37_40 : decode method_8_code 40 = .ok (.iconst 1, 1) := by decide +kernel
theorem d37_41 : decode method_8_code 41 = .ok (.goto 4, 3) := by decide +kernel
theorem d37_44 : decode method_8_code 44 = .ok (.iconst 0, 1) := by decide +kernel
theorem d37_45 : decode method_8_code 45 = .ok (.ireturn, 1) := by decide +kernel
def Q_rm37 (Z : State) (p0 p1 p2 p3 : Int32) (h0 : Heap) (n0 : Nat) (v : Option Value) (h : Heap) (L : List Loc) : Prop := v = some (.int (own_pos p0 p1 p2 p3)) ∧ Fr n0 L ∧ h = h0
theorem pn_rm37 : plainName "com/example/triplewright/triplewright/IriIsAbsolutePinLaw" = true := by first | (simp [plainName, overriddenIn]; done) | decide +kernel
theorem ef_rm37 (m : MethodId) (x0 : Int32) (x1 : Int32) (x2 : Int32) (x3 : Int32) : entryFrame m #[(.int x0), (.int x1), (.int x2), (.int x3)] 4 = mkF m 0 #[.val (.int x0), .val (.int x1), .val (.int x2), .val (.int x3)] [] := by first | (simp [entryFrame, mkF, argsToLocals, Value.category]; done) | rfl
set_option maxRecDepth 65536 in
set_option maxHeartbeats 40000000 in
theorem rm37 (l : Launch) (Z : State) (a0 : Array Value) (hw : ∀ d ∈ tables_1, d.before a0 Z = true) (ws : List Jvm.Cond) (p0 p1 p2 p3 : Int32) (h0 : Heap) (n0 : Nat) (Z0 : n0 ≤ h0.size) :
    MetFree l (⟨"com/example/triplewright/triplewright/IriIsAbsolutePinLaw", "posOk", "(ICII)Z"⟩ : MethodName) (head1 (Jvm.Cond.code (⟨"com/example/triplewright/triplewright/IriIsAbsolutePinLaw", "posOk", "(ICII)Z"⟩ : MethodName) method_8_code 4 (some .boolean) :: ws) ({ frames := 2, cells := 0, slots := 0, locals := 24 } : Room)) (fun a U => a = #[(.int p0), (.int p1), (.int p2), (.int p3)] ∧ Z.Warmed39 U.vm ∧ U.heap = h0) (fun _ _ _ _ _ => True) (fun _ U o U' => ∃ v L, o = .returned v ∧ (Q_rm37 Z p0 p1 p2 p3 h0 n0) v U'.heap L ∧ FrameEnd U o U' L ({ frames := 2, cells := 0, slots := 0, locals := 24 } : Room).cells ({ frames := 2, cells := 0, slots := 0, locals := 24 } : Room).slots) := by
  refine MetFree.of_bodySF (plainFor_of_name pn_rm37) hisR ?_
  intro p e s m args below meth c s₁ Bd hml0 hP hK
  obtain ⟨rfl, hZ, hh⟩ := hP
  have hx := Bd.exec
  have hby := Bd.bytes
  have hlk := BodyLoose.notSynchronized Bd
  have hret := Bd.returns
  have hml : c.maxLocals = 4 := hml0
  have hown : s.vm.findClass "com/example/triplewright/triplewright/IriIsAbsolutePinLaw" = some m.cls := findClass_of_methodNamed Bd.named
  have hnm := (name_of_methodNamed Bd.named Bd.method).1
  have X0 : Stand p l e ({ frames := 2, cells := 0, slots := 0, locals := 24 } : Room) s m #[(.int p0), (.int p1), (.int p2), (.int p3)] below meth c s₁ [] 0 0 := Stand.of_body Bd
  have e0 : s₁.heap = h0 := by rw [← hh, Bd.state]; rfl
  have Nf := Fr.nil n0
  have Zs := Z0
  have Kp : Keep h0 h0 [] := Keep.refl _ _
  show own_End p e below s (Q_rm37 Z p0 p1 p2 p3 h0 n0) ({ frames := 2, cells := 0, slots := 0, locals := 24 } : Room).cells ({ frames := 2, cells := 0, slots := 0, locals := 24 } : Room).slots (s₁.setTop (entryFrame m #[(.int p0), (.int p1), (.int p2), (.int p3)] 4))
  refine own_go (x' := s₁.setTop (mkF m 0 #[.val (.int p0), .val (.int p1), .val (.int p2), .val (.int p3)] [])) (fun t k => castTop (ef_rm37 m p0 p1 p2 p3) k) ?_
  refine own_go (x' := s₁.setTop (mkF m 2 #[.val (.int p0), .val (.int p1), .val (.int p2), .val (.int p3)] [(.int p3), (.int p0)])) (fun _ k => XS.iloadN X0.here hx rfl (hb hby d37_0) rfl (XS.iloadN X0.here hx rfl (hb hby d37_1) rfl k)) ?_
  by_cases hc2 : p0 < p3
  · refine own_go (x' := s₁.setTop (mkF m 8 #[.val (.int p0), .val (.int p1), .val (.int p2), .val (.int p3)] [(.int p0)])) (fun _ k => XS.icmpYes X0.here hx rfl (pc0 := 2) (pc' := 7) rfl (hb hby d37_2) rfl (tlt hc2).1 (by decide) (by decide) (XS.iloadN X0.here hx rfl (hb hby d37_7) rfl k)) ?_
    by_cases hc8 : p0 = (0 : Int32)
    · refine own_go (x' := s₁.setTop (mkF m 12 #[.val (.int p0), .val (.int p1), .val (.int p2), .val (.int p3)] [(.int p1)])) (fun _ k => XS.ifNo X0.here hx rfl (hb hby d37_8) rfl ((if0 _ _).trans (teq hc8).2) (XS.iloadN X0.here hx rfl (hb hby d37_11) rfl k)) ?_
      obtain ⟨_, _, ⟨T1, L1, k1, n1⟩, -, X1, ⟨Lc1, hQ1, l1, y1, z1⟩, st1⟩ := Jvm.LawKit.callS X0 hx (y := (⟨"com/example/triplewright/triplewright/IriIsAbsolutePinLaw", "letter", "(C)Z"⟩ : MethodName)) hown (mvT hZ (own_w hw 153 rfl)) (mvT hZ (own_w hw 154 rfl)) (mvT hZ (own_w hw 4 rfl)) (mvT hZ (own_w hw 155 rfl)) (by decide) (backOf (W := 0) (rm38 l Z a0 hw [] p1  h0 n0 Zs  ) hZ (own_w hw 155 rfl) (own_w hw 4 rfl) (by decide) (by decide)) (g := (mkF m 12 #[.val (.int p0), .val (.int p1), .val (.int p2), .val (.int p3)] [(.int p1)])) rfl (by rw [hml]; rfl) (argsL := [(.int p1)]) (rest := []) (lenOf pd_22 rfl) rfl (by show 2 * 0 + _ ≤ _; exact Nat.le_of_eq rfl) (hb hby d37_12) (fun _ _ => ⟨rfl, e0, (by decide : 0 + 0 ≤ _), (by decide : 0 + 0 ≤ _)⟩)
      dsimp only [Pt.U, Pt.locs, Pt.cells, Pt.slots] at X1 l1 y1 z1 st1 hQ1
      subst l1 y1 z1
      obtain ⟨hv1, Nq1, eq1⟩ := hQ1
      subst hv1
      replace Nf := Fr.app Nf Nq1
      refine own_go (x' := T1.setTop (mkF m 15 #[.val (.int p0), .val (.int p1), .val (.int p2), .val (.int p3)] [(.int (own_let p1))])) st1 ?_
      refine own_retN X1 hx hlk (t := .boolean) hret (by simp) (hb hby d37_15) (w := (own_let p1)) own_bit ?_ (by decide) (by decide)
      rw [eq1]
      exact ⟨by rw [show own_pos p0 p1 p2 p3 = (own_let p1) from by simp only [own_pos, if_pos hc2, if_pos hc8]], Nf, rfl⟩
    · refine own_go (x' := s₁.setTop (mkF m 18 #[.val (.int p0), .val (.int p1), .val (.int p2), .val (.int p3)] [(.int p2), (.int p0)])) (fun _ k => XS.ifYes X0.here hx rfl (pc0 := 8) (pc' := 16) rfl (hb hby d37_8) rfl ((if0 _ _).trans (feq hc8).2) (by decide) (by decide) (XS.iloadN X0.here hx rfl (hb hby d37_16) rfl (XS.iloadN X0.here hx rfl (hb hby d37_17) rfl k))) ?_
      by_cases hc18 : p0 < p2
      · refine own_go (x' := s₁.setTop (mkF m 22 #[.val (.int p0), .val (.int p1), .val (.int p2), .val (.int p3)] [(.int p1)])) (fun _ k => XS.icmpNo X0.here hx rfl (hb hby d37_18) rfl (tlt hc18).2.1 (XS.iloadN X0.here hx rfl (hb hby d37_21) rfl k)) ?_
        obtain ⟨_, _, ⟨T2, L2, k2, n2⟩, -, X2, ⟨Lc2, hQ2, l2, y2, z2⟩, st2⟩ := Jvm.LawKit.callS X0 hx (y := (⟨"com/example/triplewright/triplewright/IriIsAbsolutePinLaw", "schemeRest", "(C)Z"⟩ : MethodName)) hown (mvT hZ (own_w hw 163 rfl)) (mvT hZ (own_w hw 164 rfl)) (mvT hZ (own_w hw 4 rfl)) (mvT hZ (own_w hw 165 rfl)) (by decide) (backOf (W := 0) (rm41 l Z a0 hw [] p1  h0 n0 Zs  ) hZ (own_w hw 165 rfl) (own_w hw 4 rfl) (by decide) (by decide)) (g := (mkF m 22 #[.val (.int p0), .val (.int p1), .val (.int p2), .val (.int p3)] [(.int p1)])) rfl (by rw [hml]; rfl) (argsL := [(.int p1)]) (rest := []) (lenOf pd_22 rfl) rfl (by show 2 * 0 + _ ≤ _; exact Nat.le_of_eq rfl) (hb hby d37_22) (fun _ _ => ⟨rfl, e0, (by decide : 0 + 0 ≤ _), (by decide : 0 + 0 ≤ _)⟩)
        dsimp only [Pt.U, Pt.locs, Pt.cells, Pt.slots] at X2 l2 y2 z2 st2 hQ2
        subst l2 y2 z2
        obtain ⟨hv2, Nq2, eq2⟩ := hQ2
        subst hv2
        replace Nf := Fr.app Nf Nq2
        refine own_go (x' := T2.setTop (mkF m 25 #[.val (.int p0), .val (.int p1), .val (.int p2), .val (.int p3)] [(.int (own_scv p1))])) st2 ?_
        refine own_retN X2 hx hlk (t := .boolean) hret (by simp) (hb hby d37_25) (w := (own_scv p1)) own_bit ?_ (by decide) (by decide)
        rw [eq2]
        exact ⟨by rw [show own_pos p0 p1 p2 p3 = (own_scv p1) from by simp only [own_pos, if_pos hc2, if_neg hc8, if_pos hc18]], Nf, rfl⟩
      · refine own_go (x' := s₁.setTop (mkF m 28 #[.val (.int p0), .val (.int p1), .val (.int p2), .val (.int p3)] [(.int p2), (.int p0)])) (fun _ k => XS.icmpYes X0.here hx rfl (pc0 := 18) (pc' := 26) rfl (hb hby d37_18) rfl (flt hc18).2.1 (by decide) (by decide) (XS.iloadN X0.here hx rfl (hb hby d37_26) rfl (XS.iloadN X0.here hx rfl (hb hby d37_27) rfl k))) ?_
        by_cases hc28 : p0 = p2
        · refine own_go (x' := s₁.setTop (mkF m 32 #[.val (.int p0), .val (.int p1), .val (.int p2), .val (.int p3)] [(.int 1)])) (fun _ k => XS.icmpNo X0.here hx rfl (hb hby d37_28) rfl (teq hc28).2 (XS.iconst X0.here hx rfl (hb hby d37_31) k)) ?_
          refine own_retN X0 hx hlk (t := .boolean) hret (by simp) (hb hby d37_32) (w := (1 : Int32)) rfl ?_ (by decide) (by decide)
          rw [e0]
          exact ⟨by rw [show own_pos p0 p1 p2 p3 = (1 : Int32) from by simp only [own_pos, if_pos hc2, if_neg hc8, if_neg hc18, if_pos hc28]], Nf, rfl⟩
        · refine own_go (x' := s₁.setTop (mkF m 34 #[.val (.int p0), .val (.int p1), .val (.int p2), .val (.int p3)] [(.int p1)])) (fun _ k => XS.icmpYes X0.here hx rfl (pc0 := 28) (pc' := 33) rfl (hb hby d37_28) rfl (feq hc28).2 (by decide) (by decide) (XS.iloadN X0.here hx rfl (hb hby d37_33) rfl k)) ?_
          obtain ⟨_, _, ⟨T3, L3, k3, n3⟩, -, X3, ⟨Lc3, hQ3, l3, y3, z3⟩, st3⟩ := Jvm.LawKit.callS X0 hx (y := (⟨"com/example/triplewright/triplewright/IriIsAbsolutePinLaw", "forbidden", "(C)Z"⟩ : MethodName)) hown (mvT hZ (own_w hw 168 rfl)) (mvT hZ (own_w hw 169 rfl)) (mvT hZ (own_w hw 4 rfl)) (mvT hZ (own_w hw 170 rfl)) (by decide) (backOf (W := 0) (rm42 l Z a0 hw [] p1  h0 n0 Zs  ) hZ (own_w hw 170 rfl) (own_w hw 4 rfl) (by decide) (by decide)) (g := (mkF m 34 #[.val (.int p0), .val (.int p1), .val (.int p2), .val (.int p3)] [(.int p1)])) rfl (by rw [hml]; rfl) (argsL := [(.int p1)]) (rest := []) (lenOf pd_22 rfl) rfl (by show 2 * 0 + _ ≤ _; exact Nat.le_of_eq rfl) (hb hby d37_34) (fun _ _ => ⟨rfl, e0, (by decide : 0 + 0 ≤ _), (by decide : 0 + 0 ≤ _)⟩)
          dsimp only [Pt.U, Pt.locs, Pt.cells, Pt.slots] at X3 l3 y3 z3 st3 hQ3
          subst l3 y3 z3
          obtain ⟨hv3, Nq3, eq3⟩ := hQ3
          subst hv3
          replace Nf := Fr.app Nf Nq3
          refine own_go (x' := T3.setTop (mkF m 37 #[.val (.int p0), .val (.int p1), .val (.int p2), .val (.int p3)] [(.int (own_bdv p1))])) st3 ?_
          by_cases hc37 : (own_bdv p1) = (0 : Int32)
          · refine own_go (x' := T3.setTop (mkF m 45 #[.val (.int p0), .val (.int p1), .val (.int p2), .val (.int p3)] [(.int 1)])) (fun _ k => XS.ifNo X3.here hx rfl (hb hby d37_37) rfl ((if0 _ _).trans (teq hc37).2) (XS.iconst X3.here hx rfl (hb hby d37_40) (XS.goto X3.here hx rfl (pc0 := 41) (pc' := 45) rfl (hb hby d37_41) (by decide) (by decide) k))) ?_
            refine own_retN X3 hx hlk (t := .boolean) hret (by simp) (hb hby d37_45) (w := (1 : Int32)) rfl ?_ (by decide) (by decide)
            rw [eq3]
            exact ⟨by rw [show own_pos p0 p1 p2 p3 = (1 : Int32) from by simp only [own_pos, if_pos hc2, if_neg hc8, if_neg hc18, if_neg hc28, if_pos hc37]], Nf, rfl⟩
          · refine own_go (x' := T3.setTop (mkF m 45 #[.val (.int p0), .val (.int p1), .val (.int p2), .val (.int p3)] [(.int 0)])) (fun _ k => XS.ifYes X3.here hx rfl (pc0 := 37) (pc' := 44) rfl (hb hby d37_37) rfl ((if0 _ _).trans (feq hc37).2) (by decide) (by decide) (XS.iconst X3.here hx rfl (hb hby d37_44) k)) ?_
            refine own_retN X3 hx hlk (t := .boolean) hret (by simp) (hb hby d37_45) (w := (0 : Int32)) rfl ?_ (by decide) (by decide)
            rw [eq3]
            exact ⟨by rw [show own_pos p0 p1 p2 p3 = (0 : Int32) from by simp only [own_pos, if_pos hc2, if_neg hc8, if_neg hc18, if_neg hc28, if_neg hc37]], Nf, rfl⟩
  · refine own_go (x' := s₁.setTop (mkF m 6 #[.val (.int p0), .val (.int p1), .val (.int p2), .val (.int p3)] [(.int 1)])) (fun _ k => XS.icmpNo X0.here hx rfl (hb hby d37_2) rfl (flt hc2).1 (XS.iconst X0.here hx rfl (hb hby d37_5) k)) ?_
    refine own_retN X0 hx hlk (t := .boolean) hret (by simp) (hb hby d37_6) (w := (1 : Int32)) rfl ?_ (by decide) (by decide)
    rw [e0]
    exact ⟨by rw [show own_pos p0 p1 p2 p3 = (1 : Int32) from by simp only [own_pos, if_neg hc2]], Nf, rfl⟩
theorem d15_0 : decode method_4_code 0 = .ok (.iload_n 1, 1) := by decide +kernel
theorem d15_1 : decode method_4_code 1 = .ok (.ifCond .le 13, 3) := by decide +kernel
theorem d15_14 : decode method_4_code 14 = .ok (.iload_n 1, 1) := by decide +kernel
theorem d15_15 : decode method_4_code 15 = .ok (.iconst 1, 1) := by decide +kernel
theorem d15_16 : decode method_4_code 16 = .ok (.if_icmp .le 13, 3) := by decide +kernel
theorem d15_29 : decode method_4_code 29 = .ok (.iload_n 1, 1) := by decide +kernel
theorem d15_30 : decode method_4_code 30 = .ok (.iconst 2, 1) := by decide +kernel
theorem d15_31 : decode method_4_code 31 = .ok (.if_icmp .le 13, 3) := by decide +kernel
theorem d15_44 : decode method_4_code 44 = .ok (.iload_n 1, 1) := by decide +kernel
theorem d15_45 : decode method_4_code 45 = .ok (.iconst 3, 1) := by decide +kernel
theorem d15_46 : decode method_4_code 46 = .ok (.if_icmp .le 13, 3) := by decide +kernel
theorem d15_59 : decode method_4_code 59 = .ok (.iload_n 1, 1) := by decide +kernel
theorem d15_60 : decode method_4_code 60 = .ok (.iconst 4, 1) := by decide +kernel
theorem d15_61 : decode method_4_code 61 = .ok (.if_icmp .le 13, 3) := by decide +kernel
theorem d15_74 : decode method_4_code 74 = .ok (.iload_n 1, 1) := by decide +kernel
theorem d15_75 : decode method_4_code 75 = .ok (.iconst 5, 1) := by decide +kernel
theorem d15_76 : decode method_4_code 76 = .ok (.if_icmp .le 13, 3) := by decide +kernel
theorem d15_89 : decode method_4_code 89 = .ok (.iconst (-1), 1) := by decide +kernel
theorem d15_90 : decode method_4_code 90 = .ok (.ireturn, 1) := by decide +kernel
def Q_rm15_0 (Z : State) (ao0 : Addr) (kc : ClassId) (x0 x1 x2 x3 x4 x5 : Int32) (h0 : Heap) (n0 : Nat) (v : Option Value) (h : Heap) (L : List Loc) : Prop := v = some (.int (own_ix [])) ∧ Fr n0 L ∧ h = h0
theorem pn_rm15_0 : plainName "com/example/triplewright/triplewright/IriIsAbsolutePinLaw" = true := by first | (simp [plainName, overriddenIn]; done) | decide +kernel
theorem ef_rm15_0 (m : MethodId) (x0 : Addr) (x1 : Int32) : entryFrame m #[(.ref x0), (.int x1)] 2 = mkF m 0 #[.val (.ref x0), .val (.int x1)] [] := by first | (simp [entryFrame, mkF, argsToLocals, Value.category]; done) | rfl
set_option maxRecDepth 65536 in
set_option maxHeartbeats 40000000 in
theorem rm15_0 (l : Launch) (Z : State) (a0 : Array Value) (hw : ∀ d ∈ tables_1, d.before a0 Z = true) (ws : List Jvm.Cond) (ao0 : Addr) (kc : ClassId) (x0 x1 x2 x3 x4 x5 : Int32) (h0 : Heap) (n0 : Nat) (Z0 : n0 ≤ h0.size) (V_ao0 : Arv Z h0 ao0 kc .char (6 : Int32) [(.int x0), (.int x1), (.int x2), (.int x3), (.int x4), (.int x5)] (.int (0 : Int32))) :
    MetFree l (⟨"com/example/triplewright/triplewright/IriIsAbsolutePinLaw", "firstColon", "([CI)I"⟩ : MethodName) (head1 (Jvm.Cond.code (⟨"com/example/triplewright/triplewright/IriIsAbsolutePinLaw", "firstColon", "([CI)I"⟩ : MethodName) method_4_code 2 (some .int) :: ws) ({ frames := 0, cells := 0, slots := 0, locals := 0 } : Room)) (fun a U => a = #[(.ref ao0), (.int 0)] ∧ Z.Warmed39 U.vm ∧ U.heap = h0) (fun _ _ _ _ _ => True) (fun _ U o U' => ∃ v L, o = .returned v ∧ (Q_rm15_0 Z ao0 kc x0 x1 x2 x3 x4 x5 h0 n0) v U'.heap L ∧ FrameEnd U o U' L ({ frames := 0, cells := 0, slots := 0, locals := 0 } : Room).cells ({ frames := 0, cells := 0, slots := 0, locals := 0 } : Room).slots) := by
  refine MetFree.of_bodySF (plainFor_of_name pn_rm15_0) hisR ?_
  intro p e s m args below meth c s₁ Bd hml0 hP hK
  obtain ⟨rfl, hZ, hh⟩ := hP
  have hx := Bd.exec
  have hby := Bd.bytes
  have hlk := BodyLoose.notSynchronized Bd
  have hret := Bd.returns
  have hml : c.maxLocals = 2 := hml0
  have hown : s.vm.findClass "com/example/triplewright/triplewright/IriIsAbsolutePinLaw" = some m.cls := findClass_of_methodNamed Bd.named
  have hnm := (name_of_methodNamed Bd.named Bd.method).1
  have X0 : Stand p l e ({ frames := 0, cells := 0, slots := 0, locals := 0 } : Room) s m #[(.ref ao0), (.int 0)] below meth c s₁ [] 0 0 := Stand.of_body Bd
  have e0 : s₁.heap = h0 := by rw [← hh, Bd.state]; rfl
  have Nf := Fr.nil n0
  have Zs := Z0
  have Kp : Keep h0 h0 [] := Keep.refl _ _
  show own_End p e below s (Q_rm15_0 Z ao0 kc x0 x1 x2 x3 x4 x5 h0 n0) ({ frames := 0, cells := 0, slots := 0, locals := 0 } : Room).cells ({ frames := 0, cells := 0, slots := 0, locals := 0 } : Room).slots (s₁.setTop (entryFrame m #[(.ref ao0), (.int 0)] 2))
  refine own_go (x' := s₁.setTop (mkF m 0 #[.val (.ref ao0), .val (.int 0)] [])) (fun t k => castTop (ef_rm15_0 m ao0 (0 : Int32)) k) ?_
  refine own_go (x' := s₁.setTop (mkF m 30 #[.val (.ref ao0), .val (.int 0)] [(.int 0)])) (fun _ k => XS.iloadN X0.here hx rfl (hb hby d15_0) rfl (XS.ifYes X0.here hx rfl (pc0 := 1) (pc' := 14) rfl (hb hby d15_1) rfl ((if0 _ _).trans (flt (Int32.lt_irrefl)).2.2.2) (by decide) (by decide) (XS.iloadN X0.here hx rfl (hb hby d15_14) rfl (XS.iconst X0.here hx rfl (hb hby d15_15) (XS.icmpYes X0.here hx rfl (pc0 := 16) (pc' := 29) rfl (hb hby d15_16) rfl (flt (by decide +kernel : ¬ ((1 : Int32) < (0 : Int32)))).2.2.2 (by decide) (by decide) (XS.iloadN X0.here hx rfl (hb hby d15_29) rfl k)))))) ?_
  refine own_go (x' := s₁.setTop (mkF m 60 #[.val (.ref ao0), .val (.int 0)] [(.int 0)])) (fun _ k => XS.iconst X0.here hx rfl (hb hby d15_30) (XS.icmpYes X0.here hx rfl (pc0 := 31) (pc' := 44) rfl (hb hby d15_31) rfl (flt (by decide +kernel : ¬ ((2 : Int32) < (0 : Int32)))).2.2.2 (by decide) (by decide) (XS.iloadN X0.here hx rfl (hb hby d15_44) rfl (XS.iconst X0.here hx rfl (hb hby d15_45) (XS.icmpYes X0.here hx rfl (pc0 := 46) (pc' := 59) rfl (hb hby d15_46) rfl (flt (by decide +kernel : ¬ ((3 : Int32) < (0 : Int32)))).2.2.2 (by decide) (by decide) (XS.iloadN X0.here hx rfl (hb hby d15_59) rfl k)))))) ?_
  refine own_go (x' := s₁.setTop (mkF m 90 #[.val (.ref ao0), .val (.int 0)] [(.int (-1))])) (fun _ k => XS.iconst X0.here hx rfl (hb hby d15_60) (XS.icmpYes X0.here hx rfl (pc0 := 61) (pc' := 74) rfl (hb hby d15_61) rfl (flt (by decide +kernel : ¬ ((4 : Int32) < (0 : Int32)))).2.2.2 (by decide) (by decide) (XS.iloadN X0.here hx rfl (hb hby d15_74) rfl (XS.iconst X0.here hx rfl (hb hby d15_75) (XS.icmpYes X0.here hx rfl (pc0 := 76) (pc' := 89) rfl (hb hby d15_76) rfl (flt (by decide +kernel : ¬ ((5 : Int32) < (0 : Int32)))).2.2.2 (by decide) (by decide) (XS.iconst X0.here hx rfl (hb hby d15_89) k)))))) ?_
  refine own_retI X0 hx hlk hret (hb hby d15_90) ?_ (by decide) (by decide)
  rw [e0]
  exact ⟨by rw [show own_ix [] = (-1 : Int32) from by simp only [own_ix, own_ixg]; first | done | rfl | decide], Nf, rfl⟩
theorem d15_4 : decode method_4_code 4 = .ok (.aload_n 0, 1) := by decide +kernel
theorem d15_5 : decode method_4_code 5 = .ok (.iconst 0, 1) := by decide +kernel
theorem d15_6 : decode method_4_code 6 = .ok (.caload, 1) := by decide +kernel
theorem d15_7 : decode method_4_code 7 = .ok (.bipush 58, 2) := by decide +kernel
theorem d15_9 : decode method_4_code 9 = .ok (.if_icmp .ne 5, 3) := by decide +kernel
theorem d15_12 : decode method_4_code 12 = .ok (.iconst 0, 1) := by decide +kernel
theorem d15_13 : decode method_4_code 13 = .ok (.ireturn, 1) := by decide +kernel
def Q_rm15_1 (Z : State) (ao0 : Addr) (kc : ClassId) (x0 x1 x2 x3 x4 x5 : Int32) (h0 : Heap) (n0 : Nat) (v : Option Value) (h : Heap) (L : List Loc) : Prop := v = some (.int (own_ix [x0])) ∧ Fr n0 L ∧ h = h0
theorem pn_rm15_1 : plainName "com/example/triplewright/triplewright/IriIsAbsolutePinLaw" = true := by first | (simp [plainName, overriddenIn]; done) | decide +kernel
theorem ef_rm15_1 (m : MethodId) (x0 : Addr) (x1 : Int32) : entryFrame m #[(.ref x0), (.int x1)] 2 = mkF m 0 #[.val (.ref x0), .val (.int x1)] [] := by first | (simp [entryFrame, mkF, argsToLocals, Value.category]; done) | rfl
set_option maxRecDepth 65536 in
set_option maxHeartbeats 40000000 in
theorem rm15_1 (l : Launch) (Z : State) (a0 : Array Value) (hw : ∀ d ∈ tables_1, d.before a0 Z = true) (ws : List Jvm.Cond) (ao0 : Addr) (kc : ClassId) (x0 x1 x2 x3 x4 x5 : Int32) (h0 : Heap) (n0 : Nat) (Z0 : n0 ≤ h0.size) (V_ao0 : Arv Z h0 ao0 kc .char (6 : Int32) [(.int x0), (.int x1), (.int x2), (.int x3), (.int x4), (.int x5)] (.int (0 : Int32))) :
    MetFree l (⟨"com/example/triplewright/triplewright/IriIsAbsolutePinLaw", "firstColon", "([CI)I"⟩ : MethodName) (head1 (Jvm.Cond.code (⟨"com/example/triplewright/triplewright/IriIsAbsolutePinLaw", "firstColon", "([CI)I"⟩ : MethodName) method_4_code 2 (some .int) :: ws) ({ frames := 0, cells := 0, slots := 0, locals := 0 } : Room)) (fun a U => a = #[(.ref ao0), (.int 1)] ∧ Z.Warmed39 U.vm ∧ U.heap = h0) (fun _ _ _ _ _ => True) (fun _ U o U' => ∃ v L, o = .returned v ∧ (Q_rm15_1 Z ao0 kc x0 x1 x2 x3 x4 x5 h0 n0) v U'.heap L ∧ FrameEnd U o U' L ({ frames := 0, cells := 0, slots := 0, locals := 0 } : Room).cells ({ frames := 0, cells := 0, slots := 0, locals := 0 } : Room).slots) := by
  refine MetFree.of_bodySF (plainFor_of_name pn_rm15_1) hisR ?_
  intro p e s m args below meth c s₁ Bd hml0 hP hK
  obtain ⟨rfl, hZ, hh⟩ := hP
  have hx := Bd.exec
  have hby := Bd.bytes
  have hlk := BodyLoose.notSynchronized Bd
  have hret := Bd.returns
  have hml : c.maxLocals = 2 := hml0
  have hown : s.vm.findClass "com/example/triplewright/triplewright/IriIsAbsolutePinLaw" = some m.cls := findClass_of_methodNamed Bd.named
  have hnm := (name_of_methodNamed Bd.named Bd.method).1
  have X0 : Stand p l e ({ frames := 0, cells := 0, slots := 0, locals := 0 } : Room) s m #[(.ref ao0), (.int 1)] below meth c s₁ [] 0 0 := Stand.of_body Bd
  have e0 : s₁.heap = h0 := by rw [← hh, Bd.state]; rfl
  have Nf := Fr.nil n0
  have Zs := Z0
  have Kp : Keep h0 h0 [] := Keep.refl _ _
  show own_End p e below s (Q_rm15_1 Z ao0 kc x0 x1 x2 x3 x4 x5 h0 n0) ({ frames := 0, cells := 0, slots := 0, locals := 0 } : Room).cells ({ frames := 0, cells := 0, slots := 0, locals := 0 } : Room).slots (s₁.setTop (entryFrame m #[(.ref ao0), (.int 1)] 2))
  refine own_go (x' := s₁.setTop (mkF m 0 #[.val (.ref ao0), .val (.int 1)] [])) (fun t k => castTop (ef_rm15_1 m ao0 (1 : Int32)) k) ?_
  refine own_go (x' := s₁.setTop (mkF m 6 #[.val (.ref ao0), .val (.int 1)] [(.int 0), (.ref ao0)])) (fun _ k => XS.iloadN X0.here hx rfl (hb hby d15_0) rfl (XS.ifNo X0.here hx rfl (hb hby d15_1) rfl ((if0 _ _).trans (tlt (by decide +kernel : ((0 : Int32) < (1 : Int32)))).2.2.2) (XS.aloadN X0.here hx rfl (hb hby d15_4) rfl rfl (XS.iconst X0.here hx rfl (hb hby d15_5) k)))) ?_
  obtain ⟨cl1, Ar1, q1, Sz1, Nn1, Hh1, Gg1⟩ := id V_ao0
  have hin1 : ¬ ((0 : Int32) < 0 ∨ cl1.slots.size ≤ ((0 : Int32)).toNatClampNeg) := inb_of Sz1 ⟨by decide, by decide⟩
  refine own_go (x' := s₁.setTop (mkF m 7 #[.val (.ref ao0), .val (.int 1)] [(.int x0)])) (X0.caload hx (j := (0 : Int32)) (v := (.int x0)) (Eq.trans (congrArg (fun h_ => h_[_]?) e0) Ar1.1) (State.isArrayOf_alike hZ.alike Ar1.2.1) Ar1.2.2 hin1 (Hh1.at hin1 rfl) (g := (mkF m 6 #[.val (.ref ao0), .val (.int 1)] [(.int 0), (.ref ao0)])) rfl rfl (hb hby d15_6)) ?_
  refine own_go (x' := s₁.setTop (mkF m 9 #[.val (.ref ao0), .val (.int 1)] [(.int 58), (.int x0)])) (fun _ k => XS.bipush X0.here hx rfl (hb hby d15_7) k) ?_
  by_cases hc9 : x0 = (58 : Int32)
  · refine own_go (x' := s₁.setTop (mkF m 13 #[.val (.ref ao0), .val (.int 1)] [(.int 0)])) (fun _ k => XS.icmpNo X0.here hx rfl (hb hby d15_9) rfl (teq hc9).2 (XS.iconst X0.here hx rfl (hb hby d15_12) k)) ?_
    refine own_retI X0 hx hlk hret (hb hby d15_13) ?_ (by decide) (by decide)
    rw [e0]
    exact ⟨by rw [show own_ix [x0] = (0 : Int32) from by simp only [own_ix, own_ixg, if_pos hc9]; first | done | rfl | decide], Nf, rfl⟩
  · refine own_go (x' := s₁.setTop (mkF m 31 #[.val (.ref ao0), .val (.int 1)] [(.int 2), (.int 1)])) (fun _ k => XS.icmpYes X0.here hx rfl (pc0 := 9) (pc' := 14) rfl (hb hby d15_9) rfl (feq hc9).2 (by decide) (by decide) (XS.iloadN X0.here hx rfl (hb hby d15_14) rfl (XS.iconst X0.here hx rfl (hb hby d15_15) (XS.icmpYes X0.here hx rfl (pc0 := 16) (pc' := 29) rfl (hb hby d15_16) rfl (flt (Int32.lt_irrefl)).2.2.2 (by decide) (by decide) (XS.iloadN X0.here hx rfl (hb hby d15_29) rfl (XS.iconst X0.here hx rfl (hb hby d15_30) k)))))) ?_
    refine own_go (x' := s₁.setTop (mkF m 61 #[.val (.ref ao0), .val (.int 1)] [(.int 4), (.int 1)])) (fun _ k => XS.icmpYes X0.here hx rfl (pc0 := 31) (pc' := 44) rfl (hb hby d15_31) rfl (flt (by decide +kernel : ¬ ((2 : Int32) < (1 : Int32)))).2.2.2 (by decide) (by decide) (XS.iloadN X0.here hx rfl (hb hby d15_44) rfl (XS.iconst X0.here hx rfl (hb hby d15_45) (XS.icmpYes X0.here hx rfl (pc0 := 46) (pc' := 59) rfl (hb hby d15_46) rfl (flt (by decide +kernel : ¬ ((3 : Int32) < (1 : Int32)))).2.2.2 (by decide) (by decide) (XS.iloadN X0.here hx rfl (hb hby d15_59) rfl (XS.iconst X0.here hx rfl (hb hby d15_60) k)))))) ?_
    refine own_go (x' := s₁.setTop (mkF m 90 #[.val (.ref ao0), .val (.int 1)] [(.int (-1))])) (fun _ k => XS.icmpYes X0.here hx rfl (pc0 := 61) (pc' := 74) rfl (hb hby d15_61) rfl (flt (by decide +kernel : ¬ ((4 : Int32) < (1 : Int32)))).2.2.2 (by decide) (by decide) (XS.iloadN X0.here hx rfl (hb hby d15_74) rfl (XS.iconst X0.here hx rfl (hb hby d15_75) (XS.icmpYes X0.here hx rfl (pc0 := 76) (pc' := 89) rfl (hb hby d15_76) rfl (flt (by decide +kernel : ¬ ((5 : Int32) < (1 : Int32)))).2.2.2 (by decide) (by decide) (XS.iconst X0.here hx rfl (hb hby d15_89) k))))) ?_
    refine own_retI X0 hx hlk hret (hb hby d15_90) ?_ (by decide) (by decide)
    rw [e0]
    exact ⟨by rw [show own_ix [x0] = (-1 : Int32) from by simp only [own_ix, own_ixg, if_neg hc9]; first | done | rfl | decide], Nf, rfl⟩
theorem d15_19 : decode method_4_code 19 = .ok (.aload_n 0, 1) := by decide +kernel
theorem d15_20 : decode method_4_code 20 = .ok (.iconst 1, 1) := by decide +kernel
theorem d15_21 : decode method_4_code 21 = .ok (.caload, 1) := by decide +kernel
theorem d15_22 : decode method_4_code 22 = .ok (.bipush 58, 2) := by decide +kernel
theorem d15_24 : decode method_4_code 24 = .ok (.if_icmp .ne 5, 3) := by decide +kernel
theorem d15_27 : decode method_4_code 27 = .ok (.iconst 1, 1) := by decide +kernel
theorem d15_28 : decode method_4_code 28 = .ok (.ireturn, 1) := by decide +kernel
def Q_rm15_2 (Z : State) (ao0 : Addr) (kc : ClassId) (x0 x1 x2 x3 x4 x5 : Int32) (h0 : Heap) (n0 : Nat) (v : Option Value) (h : Heap) (L : List Loc) : Prop := v = some (.int (own_ix [x0, x1])) ∧ Fr n0 L ∧ h = h0
theorem pn_rm15_2 : plainName "com/example/triplewright/triplewright/IriIsAbsolutePinLaw" = true := by first | (simp [plainName, overriddenIn]; done) | decide +kernel
theorem ef_rm15_2 (m : MethodId) (x0 : Addr) (x1 : Int32) : entryFrame m #[(.ref x0), (.int x1)] 2 = mkF m 0 #[.val (.ref x0), .val (.int x1)] [] := by first | (simp [entryFrame, mkF, argsToLocals, Value.category]; done) | rfl
set_option maxRecDepth 65536 in
set_option maxHeartbeats 40000000 in
theorem rm15_2 (l : Launch) (Z : State) (a0 : Array Value) (hw : ∀ d ∈ tables_1, d.before a0 Z = true) (ws : List Jvm.Cond) (ao0 : Addr) (kc : ClassId) (x0 x1 x2 x3 x4 x5 : Int32) (h0 : Heap) (n0 : Nat) (Z0 : n0 ≤ h0.size) (V_ao0 : Arv Z h0 ao0 kc .char (6 : Int32) [(.int x0), (.int x1), (.int x2), (.int x3), (.int x4), (.int x5)] (.int (0 : Int32))) :
    MetFree l (⟨"com/example/triplewright/triplewright/IriIsAbsolutePinLaw", "firstColon", "([CI)I"⟩ : MethodName) (head1 (Jvm.Cond.code (⟨"com/example/triplewright/triplewright/IriIsAbsolutePinLaw", "firstColon", "([CI)I"⟩ : MethodName) method_4_code 2 (some .int) :: ws) ({ frames := 0, cells := 0, slots := 0, locals := 0 } : Room)) (fun a U => a = #[(.ref ao0), (.int 2)] ∧ Z.Warmed39 U.vm ∧ U.heap = h0) (fun _ _ _ _ _ => True) (fun _ U o U' => ∃ v L, o = .returned v ∧ (Q_rm15_2 Z ao0 kc x0 x1 x2 x3 x4 x5 h0 n0) v U'.heap L ∧ FrameEnd U o U' L ({ frames := 0, cells := 0, slots := 0, locals := 0 } : Room).cells ({ frames := 0, cells := 0, slots := 0, locals := 0 } : Room).slots) := by
  refine MetFree.of_bodySF (plainFor_of_name pn_rm15_2) hisR ?_
  intro p e s m args below meth c s₁ Bd hml0 hP hK
  obtain ⟨rfl, hZ, hh⟩ := hP
  have hx := Bd.exec
  have hby := Bd.bytes
  have hlk := BodyLoose.notSynchronized Bd
  have hret := Bd.returns
  have hml : c.maxLocals = 2 := hml0
  have hown : s.vm.findClass "com/example/triplewright/triplewright/IriIsAbsolutePinLaw" = some m.cls := findClass_of_methodNamed Bd.named
  have hnm := (name_of_methodNamed Bd.named Bd.method).1
  have X0 : Stand p l e ({ frames := 0, cells := 0, slots := 0, locals := 0 } : Room) s m #[(.ref ao0), (.int 2)] below meth c s₁ [] 0 0 := Stand.of_body Bd
  have e0 : s₁.heap = h0 := by rw [← hh, Bd.state]; rfl
  have Nf := Fr.nil n0
  have Zs := Z0
  have Kp : Keep h0 h0 [] := Keep.refl _ _
  show own_End p e below s (Q_rm15_2 Z ao0 kc x0 x1 x2 x3 x4 x5 h0 n0) ({ frames := 0, cells := 0, slots := 0, locals := 0 } : Room).cells ({ frames := 0, cells := 0, slots := 0, locals := 0 } : Room).slots (s₁.setTop (entryFrame m #[(.ref ao0), (.int 2)] 2))
  refine own_go (x' := s₁.setTop (mkF m 0 #[.val (.ref ao0), .val (.int 2)] [])) (fun t k => castTop (ef_rm15_2 m ao0 (2 : Int32)) k) ?_
  refine own_go (x' := s₁.setTop (mkF m 6 #[.val (.ref ao0), .val (.int 2)] [(.int 0), (.ref ao0)])) (fun _ k => XS.iloadN X0.here hx rfl (hb hby d15_0) rfl (XS.ifNo X0.here hx rfl (hb hby d15_1) rfl ((if0 _ _).trans (tlt (by decide +kernel : ((0 : Int32) < (2 : Int32)))).2.2.2) (XS.aloadN X0.here hx rfl (hb hby d15_4) rfl rfl (XS.iconst X0.here hx rfl (hb hby d15_5) k)))) ?_
  obtain ⟨cl1, Ar1, q1, Sz1, Nn1, Hh1, Gg1⟩ := id V_ao0
  have hin1 : ¬ ((0 : Int32) < 0 ∨ cl1.slots.size ≤ ((0 : Int32)).toNatClampNeg) := inb_of Sz1 ⟨by decide, by decide⟩
  refine own_go (x' := s₁.setTop (mkF m 7 #[.val (.ref ao0), .val (.int 2)] [(.int x0)])) (X0.caload hx (j := (0 : Int32)) (v := (.int x0)) (Eq.trans (congrArg (fun h_ => h_[_]?) e0) Ar1.1) (State.isArrayOf_alike hZ.alike Ar1.2.1) Ar1.2.2 hin1 (Hh1.at hin1 rfl) (g := (mkF m 6 #[.val (.ref ao0), .val (.int 2)] [(.int 0), (.ref ao0)])) rfl rfl (hb hby d15_6)) ?_
  refine own_go (x' := s₁.setTop (mkF m 9 #[.val (.ref ao0), .val (.int 2)] [(.int 58), (.int x0)])) (fun _ k => XS.bipush X0.here hx rfl (hb hby d15_7) k) ?_
  by_cases hc9 : x0 = (58 : Int32)
  · refine own_go (x' := s₁.setTop (mkF m 13 #[.val (.ref ao0), .val (.int 2)] [(.int 0)])) (fun _ k => XS.icmpNo X0.here hx rfl (hb hby d15_9) rfl (teq hc9).2 (XS.iconst X0.here hx rfl (hb hby d15_12) k)) ?_
    refine own_retI X0 hx hlk hret (hb hby d15_13) ?_ (by decide) (by decide)
    rw [e0]
    exact ⟨by rw [show own_ix [x0, x1] = (0 : Int32) from by simp only [own_ix, own_ixg, if_pos hc9]; first | done | rfl | decide], Nf, rfl⟩
  · refine own_go (x' := s₁.setTop (mkF m 21 #[.val (.ref ao0), .val (.int 2)] [(.int 1), (.ref ao0)])) (fun _ k => XS.icmpYes X0.here hx rfl (pc0 := 9) (pc' := 14) rfl (hb hby d15_9) rfl (feq hc9).2 (by decide) (by decide) (XS.iloadN X0.here hx rfl (hb hby d15_14) rfl (XS.iconst X0.here hx rfl (hb hby d15_15) (XS.icmpNo X0.here hx rfl (hb hby d15_16) rfl (tlt (by decide +kernel : ((1 : Int32) < (2 : Int32)))).2.2.2 (XS.aloadN X0.here hx rfl (hb hby d15_19) rfl rfl (XS.iconst X0.here hx rfl (hb hby d15_20) k)))))) ?_
    obtain ⟨cl2, Ar2, q2, Sz2, Nn2, Hh2, Gg2⟩ := id V_ao0
    have hin2 : ¬ ((1 : Int32) < 0 ∨ cl2.slots.size ≤ ((1 : Int32)).toNatClampNeg) := inb_of Sz2 ⟨by decide, by decide⟩
    refine own_go (x' := s₁.setTop (mkF m 22 #[.val (.ref ao0), .val (.int 2)] [(.int x1)])) (X0.caload hx (j := (1 : Int32)) (v := (.int x1)) (Eq.trans (congrArg (fun h_ => h_[_]?) e0) Ar2.1) (State.isArrayOf_alike hZ.alike Ar2.2.1) Ar2.2.2 hin2 (Hh2.at hin2 rfl) (g := (mkF m 21 #[.val (.ref ao0), .val (.int 2)] [(.int 1), (.ref ao0)])) rfl rfl (hb hby d15_21)) ?_
    refine own_go (x' := s₁.setTop (mkF m 24 #[.val (.ref ao0), .val (.int 2)] [(.int 58), (.int x1)])) (fun _ k => XS.bipush X0.here hx rfl (hb hby d15_22) k) ?_
    by_cases hc24 : x1 = (58 : Int32)
    · refine own_go (x' := s₁.setTop (mkF m 28 #[.val (.ref ao0), .val (.int 2)] [(.int 1)])) (fun _ k => XS.icmpNo X0.here hx rfl (hb hby d15_24) rfl (teq hc24).2 (XS.iconst X0.here hx rfl (hb hby d15_27) k)) ?_
      refine own_retI X0 hx hlk hret (hb hby d15_28) ?_ (by decide) (by decide)
      rw [e0]
      exact ⟨by rw [show own_ix [x0, x1] = (1 : Int32) from by simp only [own_ix, own_ixg, if_neg hc9, if_pos hc24]; first | done | rfl | decide], Nf, rfl⟩
    · refine own_go (x' := s₁.setTop (mkF m 46 #[.val (.ref ao0), .val (.int 2)] [(.int 3), (.int 2)])) (fun _ k => XS.icmpYes X0.here hx rfl (pc0 := 24) (pc' := 29) rfl (hb hby d15_24) rfl (feq hc24).2 (by decide) (by decide) (XS.iloadN X0.here hx rfl (hb hby d15_29) rfl (XS.iconst X0.here hx rfl (hb hby d15_30) (XS.icmpYes X0.here hx rfl (pc0 := 31) (pc' := 44) rfl (hb hby d15_31) rfl (flt (Int32.lt_irrefl)).2.2.2 (by decide) (by decide) (XS.iloadN X0.here hx rfl (hb hby d15_44) rfl (XS.iconst X0.here hx rfl (hb hby d15_45) k)))))) ?_
      refine own_go (x' := s₁.setTop (mkF m 76 #[.val (.ref ao0), .val (.int 2)] [(.int 5), (.int 2)])) (fun _ k => XS.icmpYes X0.here hx rfl (pc0 := 46) (pc' := 59) rfl (hb hby d15_46) rfl (flt (by decide +kernel : ¬ ((3 : Int32) < (2 : Int32)))).2.2.2 (by decide) (by decide) (XS.iloadN X0.here hx rfl (hb hby d15_59) rfl (XS.iconst X0.here hx rfl (hb hby d15_60) (XS.icmpYes X0.here hx rfl (pc0 := 61) (pc' := 74) rfl (hb hby d15_61) rfl (flt (by decide +kernel : ¬ ((4 : Int32) < (2 : Int32)))).2.2.2 (by decide) (by decide) (XS.iloadN X0.here hx rfl (hb hby d15_74) rfl (XS.iconst X0.here hx rfl (hb hby d15_75) k)))))) ?_
      refine own_go (x' := s₁.setTop (mkF m 90 #[.val (.ref ao0), .val (.int 2)] [(.int (-1))])) (fun _ k => XS.icmpYes X0.here hx rfl (pc0 := 76) (pc' := 89) rfl (hb hby d15_76) rfl (flt (by decide +kernel : ¬ ((5 : Int32) < (2 : Int32)))).2.2.2 (by decide) (by decide) (XS.iconst X0.here hx rfl (hb hby d15_89) k)) ?_
      refine own_retI X0 hx hlk hret (hb hby d15_90) ?_ (by decide) (by decide)
      rw [e0]
      exact ⟨by rw [show own_ix [x0, x1] = (-1 : Int32) from by simp only [own_ix, own_ixg, if_neg hc9, if_neg hc24]; first | done | rfl | decide], Nf, rfl⟩
theorem d15_34 : decode method_4_code 34 = .ok (.aload_n 0, 1) := by decide +kernel
theorem d15_35 : decode method_4_code 35 = .ok (.iconst 2, 1) := by decide +kernel
theorem d15_36 : decode method_4_code 36 = .ok (.caload, 1) := by decide +kernel
theorem d15_37 : decode method_4_code 37 = .ok (.bipush 58, 2) := by decide +kernel
theorem d15_39 : decode method_4_code 39 = .ok (.if_icmp .ne 5, 3) := by decide +kernel
theorem d15_42 : decode method_4_code 42 = .ok (.iconst 2, 1) := by decide +kernel
theorem d15_43 : decode method_4_code 43 = .ok (.ireturn, 1) := by decide +kernel
def Q_rm15_3 (Z : State) (ao0 : Addr) (kc : ClassId) (x0 x1 x2 x3 x4 x5 : Int32) (h0 : Heap) (n0 : Nat) (v : Option Value) (h : Heap) (L : List Loc) : Prop := v = some (.int (own_ix [x0, x1, x2])) ∧ Fr n0 L ∧ h = h0
theorem pn_rm15_3 : plainName "com/example/triplewright/triplewright/IriIsAbsolutePinLaw" = true := by first | (simp [plainName, overriddenIn]; done) | decide +kernel
theorem ef_rm15_3 (m : MethodId) (x0 : Addr) (x1 : Int32) : entryFrame m #[(.ref x0), (.int x1)] 2 = mkF m 0 #[.val (.ref x0), .val (.int x1)] [] := by first | (simp [entryFrame, mkF, argsToLocals, Value.category]; done) | rfl
set_option maxRecDepth 65536 in
set_option maxHeartbeats 40000000 in
theorem rm15_3 (l : Launch) (Z : State) (a0 : Array Value) (hw : ∀ d ∈ tables_1, d.before a0 Z = true) (ws : List Jvm.Cond) (ao0 : Addr) (kc : ClassId) (x0 x1 x2 x3 x4 x5 : Int32) (h0 : Heap) (n0 : Nat) (Z0 : n0 ≤ h0.size) (V_ao0 : Arv Z h0 ao0 kc .char (6 : Int32) [(.int x0), (.int x1), (.int x2), (.int x3), (.int x4), (.int x5)] (.int (0 : Int32))) :
    MetFree l (⟨"com/example/triplewright/triplewright/IriIsAbsolutePinLaw", "firstColon", "([CI)I"⟩ : MethodName) (head1 (Jvm.Cond.code (⟨"com/example/triplewright/triplewright/IriIsAbsolutePinLaw", "firstColon", "([CI)I"⟩ : MethodName) method_4_code 2 (some .int) :: ws) ({ frames := 0, cells := 0, slots := 0, locals := 0 } : Room)) (fun a U => a = #[(.ref ao0), (.int 3)] ∧ Z.Warmed39 U.vm ∧ U.heap = h0) (fun _ _ _ _ _ => True) (fun _ U o U' => ∃ v L, o = .returned v ∧ (Q_rm15_3 Z ao0 kc x0 x1 x2 x3 x4 x5 h0 n0) v U'.heap L ∧ FrameEnd U o U' L ({ frames := 0, cells := 0, slots := 0, locals := 0 } : Room).cells ({ frames := 0, cells := 0, slots := 0, locals := 0 } : Room).slots) := by
  refine MetFree.of_bodySF (plainFor_of_name pn_rm15_3) hisR ?_
  intro p e s m args below meth c s₁ Bd hml0 hP hK
  obtain ⟨rfl, hZ, hh⟩ := hP
  have hx := Bd.exec
  have hby := Bd.bytes
  have hlk := BodyLoose.notSynchronized Bd
  have hret := Bd.returns
  have hml : c.maxLocals = 2 := hml0
  have hown : s.vm.findClass "com/example/triplewright/triplewright/IriIsAbsolutePinLaw" = some m.cls := findClass_of_methodNamed Bd.named
  have hnm := (name_of_methodNamed Bd.named Bd.method).1
  have X0 : Stand p l e ({ frames := 0, cells := 0, slots := 0, locals := 0 } : Room) s m #[(.ref ao0), (.int 3)] below meth c s₁ [] 0 0 := Stand.of_body Bd
  have e0 : s₁.heap = h0 := by rw [← hh, Bd.state]; rfl
  have Nf := Fr.nil n0
  have Zs := Z0
  have Kp : Keep h0 h0 [] := Keep.refl _ _
  show own_End p e below s (Q_rm15_3 Z ao0 kc x0 x1 x2 x3 x4 x5 h0 n0) ({ frames := 0, cells := 0, slots := 0, locals := 0 } : Room).cells ({ frames := 0, cells := 0, slots := 0, locals := 0 } : Room).slots (s₁.setTop (entryFrame m #[(.ref ao0), (.int 3)] 2))
  refine own_go (x' := s₁.setTop (mkF m 0 #[.val (.ref ao0), .val (.int 3)] [])) (fun t k => castTop (ef_rm15_3 m ao0 (3 : Int32)) k) ?_
  refine own_go (x' := s₁.setTop (mkF m 6 #[.val (.ref ao0), .val (.int 3)] [(.int 0), (.ref ao0)])) (fun _ k => XS.iloadN X0.here hx rfl (hb hby d15_0) rfl (XS.ifNo X0.here hx rfl (hb hby d15_1) rfl ((if0 _ _).trans (tlt (by decide +kernel : ((0 : Int32) < (3 : Int32)))).2.2.2) (XS.aloadN X0.here hx rfl (hb hby d15_4) rfl rfl (XS.iconst X0.here hx rfl (hb hby d15_5) k)))) ?_
  obtain ⟨cl1, Ar1, q1, Sz1, Nn1, Hh1, Gg1⟩ := id V_ao0
  have hin1 : ¬ ((0 : Int32) < 0 ∨ cl1.slots.size ≤ ((0 : Int32)).toNatClampNeg) := inb_of Sz1 ⟨by decide, by decide⟩
  refine own_go (x' := s₁.setTop (mkF m 7 #[.val (.ref ao0), .val (.int 3)] [(.int x0)])) (X0.caload hx (j := (0 : Int32)) (v := (.int x0)) (Eq.trans (congrArg (fun h_ => h_[_]?) e0) Ar1.1) (State.isArrayOf_alike hZ.alike Ar1.2.1) Ar1.2.2 hin1 (Hh1.at hin1 rfl) (g := (mkF m 6 #[.val (.ref ao0), .val (.int 3)] [(.int 0), (.ref ao0)])) rfl rfl (hb hby d15_6)) ?_
  refine own_go (x' := s₁.setTop (mkF m 9 #[.val (.ref ao0), .val (.int 3)] [(.int 58), (.int x0)])) (fun _ k => XS.bipush X0.here hx rfl (hb hby d15_7) k) ?_
  by_cases hc9 : x0 = (58 : Int32)
  · refine own_go (x' := s₁.setTop (mkF m 13 #[.val (.ref ao0), .val (.int 3)] [(.int 0)])) (fun _ k => XS.icmpNo X0.here hx rfl (hb hby d15_9) rfl (teq hc9).2 (XS.iconst X0.here hx rfl (hb hby d15_12) k)) ?_
    refine own_retI X0 hx hlk hret (hb hby d15_13) ?_ (by decide) (by decide)
    rw [e0]
    exact ⟨by rw [show own_ix [x0, x1, x2] = (0 : Int32) from by simp only [own_ix, own_ixg, if_pos hc9]; first | done | rfl | decide], Nf, rfl⟩
  · refine own_go (x' := s₁.setTop (mkF m 21 #[.val (.ref ao0), .val (.int 3)] [(.int 1), (.ref ao0)])) (fun _ k => XS.icmpYes X0.here hx rfl (pc0 := 9) (pc' := 14) rfl (hb hby d15_9) rfl (feq hc9).2 (by decide) (by decide) (XS.iloadN X0.here hx rfl (hb hby d15_14) rfl (XS.iconst X0.here hx rfl (hb hby d15_15) (XS.icmpNo X0.here hx rfl (hb hby d15_16) rfl (tlt (by decide +kernel : ((1 : Int32) < (3 : Int32)))).2.2.2 (XS.aloadN X0.here hx rfl (hb hby d15_19) rfl rfl (XS.iconst X0.here hx rfl (hb hby d15_20) k)))))) ?_
    obtain ⟨cl2, Ar2, q2, Sz2, Nn2, Hh2, Gg2⟩ := id V_ao0
    have hin2 : ¬ ((1 : Int32) < 0 ∨ cl2.slots.size ≤ ((1 : Int32)).toNatClampNeg) := inb_of Sz2 ⟨by decide, by decide⟩
    refine own_go (x' := s₁.setTop (mkF m 22 #[.val (.ref ao0), .val (.int 3)] [(.int x1)])) (X0.caload hx (j := (1 : Int32)) (v := (.int x1)) (Eq.trans (congrArg (fun h_ => h_[_]?) e0) Ar2.1) (State.isArrayOf_alike hZ.alike Ar2.2.1) Ar2.2.2 hin2 (Hh2.at hin2 rfl) (g := (mkF m 21 #[.val (.ref ao0), .val (.int 3)] [(.int 1), (.ref ao0)])) rfl rfl (hb hby d15_21)) ?_
    refine own_go (x' := s₁.setTop (mkF m 24 #[.val (.ref ao0), .val (.int 3)] [(.int 58), (.int x1)])) (fun _ k => XS.bipush X0.here hx rfl (hb hby d15_22) k) ?_
    by_cases hc24 : x1 = (58 : Int32)
    · refine own_go (x' := s₁.setTop (mkF m 28 #[.val (.ref ao0), .val (.int 3)] [(.int 1)])) (fun _ k => XS.icmpNo X0.here hx rfl (hb hby d15_24) rfl (teq hc24).2 (XS.iconst X0.here hx rfl (hb hby d15_27) k)) ?_
      refine own_retI X0 hx hlk hret (hb hby d15_28) ?_ (by decide) (by decide)
      rw [e0]
      exact ⟨by rw [show own_ix [x0, x1, x2] = (1 : Int32) from by simp only [own_ix, own_ixg, if_neg hc9, if_pos hc24]; first | done | rfl | decide], Nf, rfl⟩
    · refine own_go (x' := s₁.setTop (mkF m 36 #[.val (.ref ao0), .val (.int 3)] [(.int 2), (.ref ao0)])) (fun _ k => XS.icmpYes X0.here hx rfl (pc0 := 24) (pc' := 29) rfl (hb hby d15_24) rfl (feq hc24).2 (by decide) (by decide) (XS.iloadN X0.here hx rfl (hb hby d15_29) rfl (XS.iconst X0.here hx rfl (hb hby d15_30) (XS.icmpNo X0.here hx rfl (hb hby d15_31) rfl (tlt (by decide +kernel : ((2 : Int32) < (3 : Int32)))).2.2.2 (XS.aloadN X0.here hx rfl (hb hby d15_34) rfl rfl (XS.iconst X0.here hx rfl (hb hby d15_35) k)))))) ?_
      obtain ⟨cl3, Ar3, q3, Sz3, Nn3, Hh3, Gg3⟩ := id V_ao0
      have hin3 : ¬ ((2 : Int32) < 0 ∨ cl3.slots.size ≤ ((2 : Int32)).toNatClampNeg) := inb_of Sz3 ⟨by decide, by decide⟩
      refine own_go (x' := s₁.setTop (mkF m 37 #[.val (.ref ao0), .val (.int 3)] [(.int x2)])) (X0.caload hx (j := (2 : Int32)) (v := (.int x2)) (Eq.trans (congrArg (fun h_ => h_[_]?) e0) Ar3.1) (State.isArrayOf_alike hZ.alike Ar3.2.1) Ar3.2.2 hin3 (Hh3.at hin3 rfl) (g := (mkF m 36 #[.val (.ref ao0), .val (.int 3)] [(.int 2), (.ref ao0)])) rfl rfl (hb hby d15_36)) ?_
      refine own_go (x' := s₁.setTop (mkF m 39 #[.val (.ref ao0), .val (.int 3)] [(.int 58), (.int x2)])) (fun _ k => XS.bipush X0.here hx rfl (hb hby d15_37) k) ?_
      by_cases hc39 : x2 = (58 : Int32)
      · refine own_go (x' := s₁.setTop (mkF m 43 #[.val (.ref ao0), .val (.int 3)] [(.int 2)])) (fun _ k => XS.icmpNo X0.here hx rfl (hb hby d15_39) rfl (teq hc39).2 (XS.iconst X0.here hx rfl (hb hby d15_42) k)) ?_
        refine own_retI X0 hx hlk hret (hb hby d15_43) ?_ (by decide) (by decide)
        rw [e0]
        exact ⟨by rw [show own_ix [x0, x1, x2] = (2 : Int32) from by simp only [own_ix, own_ixg, if_neg hc9, if_neg hc24, if_pos hc39]; first | done | rfl | decide], Nf, rfl⟩
      · refine own_go (x' := s₁.setTop (mkF m 61 #[.val (.ref ao0), .val (.int 3)] [(.int 4), (.int 3)])) (fun _ k => XS.icmpYes X0.here hx rfl (pc0 := 39) (pc' := 44) rfl (hb hby d15_39) rfl (feq hc39).2 (by decide) (by decide) (XS.iloadN X0.here hx rfl (hb hby d15_44) rfl (XS.iconst X0.here hx rfl (hb hby d15_45) (XS.icmpYes X0.here hx rfl (pc0 := 46) (pc' := 59) rfl (hb hby d15_46) rfl (flt (Int32.lt_irrefl)).2.2.2 (by decide) (by decide) (XS.iloadN X0.here hx rfl (hb hby d15_59) rfl (XS.iconst X0.here hx rfl (hb hby d15_60) k)))))) ?_
        refine own_go (x' := s₁.setTop (mkF m 90 #[.val (.ref ao0), .val (.int 3)] [(.int (-1))])) (fun _ k => XS.icmpYes X0.here hx rfl (pc0 := 61) (pc' := 74) rfl (hb hby d15_61) rfl (flt (by decide +kernel : ¬ ((4 : Int32) < (3 : Int32)))).2.2.2 (by decide) (by decide) (XS.iloadN X0.here hx rfl (hb hby d15_74) rfl (XS.iconst X0.here hx rfl (hb hby d15_75) (XS.icmpYes X0.here hx rfl (pc0 := 76) (pc' := 89) rfl (hb hby d15_76) rfl (flt (by decide +kernel : ¬ ((5 : Int32) < (3 : Int32)))).2.2.2 (by decide) (by decide) (XS.iconst X0.here hx rfl (hb hby d15_89) k))))) ?_
        refine own_retI X0 hx hlk hret (hb hby d15_90) ?_ (by decide) (by decide)
        rw [e0]
        exact ⟨by rw [show own_ix [x0, x1, x2] = (-1 : Int32) from by simp only [own_ix, own_ixg, if_neg hc9, if_neg hc24, if_neg hc39]; first | done | rfl | decide], Nf, rfl⟩
theorem d15_49 : decode method_4_code 49 = .ok (.aload_n 0, 1) := by decide +kernel
theorem d15_50 : decode method_4_code 50 = .ok (.iconst 3, 1) := by decide +kernel
theorem d15_51 : decode method_4_code 51 = .ok (.caload, 1) := by decide +kernel
theorem d15_52 : decode method_4_code 52 = .ok (.bipush 58, 2) := by decide +kernel
theorem d15_54 : decode method_4_code 54 = .ok (.if_icmp .ne 5, 3) := by decide +kernel
theorem d15_57 : decode method_4_code 57 = .ok (.iconst 3, 1) := by decide +kernel
theorem d15_58 : decode method_4_code 58 = .ok (.ireturn, 1) := by decide +kernel
def Q_rm15_4 (Z : State) (ao0 : Addr) (kc : ClassId) (x0 x1 x2 x3 x4 x5 : Int32) (h0 : Heap) (n0 : Nat) (v : Option Value) (h : Heap) (L : List Loc) : Prop := v = some (.int (own_ix [x0, x1, x2, x3])) ∧ Fr n0 L ∧ h = h0
theorem pn_rm15_4 : plainName "com/example/triplewright/triplewright/IriIsAbsolutePinLaw" = true := by first | (simp [plainName, overriddenIn]; done) | decide +kernel
theorem ef_rm15_4 (m : MethodId) (x0 : Addr) (x1 : Int32) : entryFrame m #[(.ref x0), (.int x1)] 2 = mkF m 0 #[.val (.ref x0), .val (.int x1)] [] := by first | (simp [entryFrame, mkF, argsToLocals, Value.category]; done) | rfl
set_option maxRecDepth 65536 in
set_option maxHeartbeats 40000000 in
theorem rm15_4 (l : Launch) (Z : State) (a0 : Array Value) (hw : ∀ d ∈ tables_1, d.before a0 Z = true) (ws : List Jvm.Cond) (ao0 : Addr) (kc : ClassId) (x0 x1 x2 x3 x4 x5 : Int32) (h0 : Heap) (n0 : Nat) (Z0 : n0 ≤ h0.size) (V_ao0 : Arv Z h0 ao0 kc .char (6 : Int32) [(.int x0), (.int x1), (.int x2), (.int x3), (.int x4), (.int x5)] (.int (0 : Int32))) :
    MetFree l (⟨"com/example/triplewright/triplewright/IriIsAbsolutePinLaw", "firstColon", "([CI)I"⟩ : MethodName) (head1 (Jvm.Cond.code (⟨"com/example/triplewright/triplewright/IriIsAbsolutePinLaw", "firstColon", "([CI)I"⟩ : MethodName) method_4_code 2 (some .int) :: ws) ({ frames := 0, cells := 0, slots := 0, locals := 0 } : Room)) (fun a U => a = #[(.ref ao0), (.int 4)] ∧ Z.Warmed39 U.vm ∧ U.heap = h0) (fun _ _ _ _ _ => True) (fun _ U o U' => ∃ v L, o = .returned v ∧ (Q_rm15_4 Z ao0 kc x0 x1 x2 x3 x4 x5 h0 n0) v U'.heap L ∧ FrameEnd U o U' L ({ frames := 0, cells := 0, slots := 0, locals := 0 } : Room).cells ({ frames := 0, cells := 0, slots := 0, locals := 0 } : Room).slots) := by
  refine MetFree.of_bodySF (plainFor_of_name pn_rm15_4) hisR ?_
  intro p e s m args below meth c s₁ Bd hml0 hP hK
  obtain ⟨rfl, hZ, hh⟩ := hP
  have hx := Bd.exec
  have hby := Bd.bytes
  have hlk := BodyLoose.notSynchronized Bd
  have hret := Bd.returns
  have hml : c.maxLocals = 2 := hml0
  have hown : s.vm.findClass "com/example/triplewright/triplewright/IriIsAbsolutePinLaw" = some m.cls := findClass_of_methodNamed Bd.named
  have hnm := (name_of_methodNamed Bd.named Bd.method).1
  have X0 : Stand p l e ({ frames := 0, cells := 0, slots := 0, locals := 0 } : Room) s m #[(.ref ao0), (.int 4)] below meth c s₁ [] 0 0 := Stand.of_body Bd
  have e0 : s₁.heap = h0 := by rw [← hh, Bd.state]; rfl
  have Nf := Fr.nil n0
  have Zs := Z0
  have Kp : Keep h0 h0 [] := Keep.refl _ _
  show own_End p e below s (Q_rm15_4 Z ao0 kc x0 x1 x2 x3 x4 x5 h0 n0) ({ frames := 0, cells := 0, slots := 0, locals := 0 } : Room).cells ({ frames := 0, cells := 0, slots := 0, locals := 0 } : Room).slots (s₁.setTop (entryFrame m #[(.ref ao0), (.int 4)] 2))
  refine own_go (x' := s₁.setTop (mkF m 0 #[.val (.ref ao0), .val (.int 4)] [])) (fun t k => castTop (ef_rm15_4 m ao0 (4 : Int32)) k) ?_
  refine own_go (x' := s₁.setTop (mkF m 6 #[.val (.ref ao0), .val (.int 4)] [(.int 0), (.ref ao0)])) (fun _ k => XS.iloadN X0.here hx rfl (hb hby d15_0) rfl (XS.ifNo X0.here hx rfl (hb hby d15_1) rfl ((if0 _ _).trans (tlt (by decide +kernel : ((0 : Int32) < (4 : Int32)))).2.2.2) (XS.aloadN X0.here hx rfl (hb hby d15_4) rfl rfl (XS.iconst X0.here hx rfl (hb hby d15_5) k)))) ?_
  obtain ⟨cl1, Ar1, q1, Sz1, Nn1, Hh1, Gg1⟩ := id V_ao0
  have hin1 : ¬ ((0 : Int32) < 0 ∨ cl1.slots.size ≤ ((0 : Int32)).toNatClampNeg) := inb_of Sz1 ⟨by decide, by decide⟩
  refine own_go (x' := s₁.setTop (mkF m 7 #[.val (.ref ao0), .val (.int 4)] [(.int x0)])) (X0.caload hx (j := (0 : Int32)) (v := (.int x0)) (Eq.trans (congrArg (fun h_ => h_[_]?) e0) Ar1.1) (State.isArrayOf_alike hZ.alike Ar1.2.1) Ar1.2.2 hin1 (Hh1.at hin1 rfl) (g := (mkF m 6 #[.val (.ref ao0), .val (.int 4)] [(.int 0), (.ref ao0)])) rfl rfl (hb hby d15_6)) ?_
  refine own_go (x' := s₁.setTop (mkF m 9 #[.val (.ref ao0), .val (.int 4)] [(.int 58), (.int x0)])) (fun _ k => XS.bipush X0.here hx rfl (hb hby d15_7) k) ?_
  by_cases hc9 : x0 = (58 : Int32)
  · refine own_go (x' := s₁.setTop (mkF m 13 #[.val (.ref ao0), .val (.int 4)] [(.int 0)])) (fun _ k => XS.icmpNo X0.here hx rfl (hb hby d15_9) rfl (teq hc9).2 (XS.iconst X0.here hx rfl (hb hby d15_12) k)) ?_
    refine own_retI X0 hx hlk hret (hb hby d15_13) ?_ (by decide) (by decide)
    rw [e0]
    exact ⟨by rw [show own_ix [x0, x1, x2, x3] = (0 : Int32) from by simp only [own_ix, own_ixg, if_pos hc9]; first | done | rfl | decide], Nf, rfl⟩
  · refine own_go (x' := s₁.setTop (mkF m 21 #[.val (.ref ao0), .val (.int 4)] [(.int 1), (.ref ao0)])) (fun _ k => XS.icmpYes X0.here hx rfl (pc0 := 9) (pc' := 14) rfl (hb hby d15_9) rfl (feq hc9).2 (by decide) (by decide) (XS.iloadN X0.here hx rfl (hb hby d15_14) rfl (XS.iconst X0.here hx rfl (hb hby d15_15) (XS.icmpNo X0.here hx rfl (hb hby d15_16) rfl (tlt (by decide +kernel : ((1 : Int32) < (4 : Int32)))).2.2.2 (XS.aloadN X0.here hx rfl (hb hby d15_19) rfl rfl (XS.iconst X0.here hx rfl (hb hby d15_20) k)))))) ?_
    obtain ⟨cl2, Ar2, q2, Sz2, Nn2, Hh2, Gg2⟩ := id V_ao0
    have hin2 : ¬ ((1 : Int32) < 0 ∨ cl2.slots.size ≤ ((1 : Int32)).toNatClampNeg) := inb_of Sz2 ⟨by decide, by decide⟩
    refine own_go (x' := s₁.setTop (mkF m 22 #[.val (.ref ao0), .val (.int 4)] [(.int x1)])) (X0.caload hx (j := (1 : Int32)) (v := (.int x1)) (Eq.trans (congrArg (fun h_ => h_[_]?) e0) Ar2.1) (State.isArrayOf_alike hZ.alike Ar2.2.1) Ar2.2.2 hin2 (Hh2.at hin2 rfl) (g := (mkF m 21 #[.val (.ref ao0), .val (.int 4)] [(.int 1), (.ref ao0)])) rfl rfl (hb hby d15_21)) ?_
    refine own_go (x' := s₁.setTop (mkF m 24 #[.val (.ref ao0), .val (.int 4)] [(.int 58), (.int x1)])) (fun _ k => XS.bipush X0.here hx rfl (hb hby d15_22) k) ?_
    by_cases hc24 : x1 = (58 : Int32)
    · refine own_go (x' := s₁.setTop (mkF m 28 #[.val (.ref ao0), .val (.int 4)] [(.int 1)])) (fun _ k => XS.icmpNo X0.here hx rfl (hb hby d15_24) rfl (teq hc24).2 (XS.iconst X0.here hx rfl (hb hby d15_27) k)) ?_
      refine own_retI X0 hx hlk hret (hb hby d15_28) ?_ (by decide) (by decide)
      rw [e0]
      exact ⟨by rw [show own_ix [x0, x1, x2, x3] = (1 : Int32) from by simp only [own_ix, own_ixg, if_neg hc9, if_pos hc24]; first | done | rfl | decide], Nf, rfl⟩
    · refine own_go (x' := s₁.setTop (mkF m 36 #[.val (.ref ao0), .val (.int 4)] [(.int 2), (.ref ao0)])) (fun _ k => XS.icmpYes X0.here hx rfl (pc0 := 24) (pc' := 29) rfl (hb hby d15_24) rfl (feq hc24).2 (by decide) (by decide) (XS.iloadN X0.here hx rfl (hb hby d15_29) rfl (XS.iconst X0.here hx rfl (hb hby d15_30) (XS.icmpNo X0.here hx rfl (hb hby d15_31) rfl (tlt (by decide +kernel : ((2 : Int32) < (4 : Int32)))).2.2.2 (XS.aloadN X0.here hx rfl (hb hby d15_34) rfl rfl (XS.iconst X0.here hx rfl (hb hby d15_35) k)))))) ?_
      obtain ⟨cl3, Ar3, q3, Sz3, Nn3, Hh3, Gg3⟩ := id V_ao0
      have hin3 : ¬ ((2 : Int32) < 0 ∨ cl3.slots.size ≤ ((2 : Int32)).toNatClampNeg) := inb_of Sz3 ⟨by decide, by decide⟩
      refine own_go (x' := s₁.setTop (mkF m 37 #[.val (.ref ao0), .val (.int 4)] [(.int x2)])) (X0.caload hx (j := (2 : Int32)) (v := (.int x2)) (Eq.trans (congrArg (fun h_ => h_[_]?) e0) Ar3.1) (State.isArrayOf_alike hZ.alike Ar3.2.1) Ar3.2.2 hin3 (Hh3.at hin3 rfl) (g := (mkF m 36 #[.val (.ref ao0), .val (.int 4)] [(.int 2), (.ref ao0)])) rfl rfl (hb hby d15_36)) ?_
      refine own_go (x' := s₁.setTop (mkF m 39 #[.val (.ref ao0), .val (.int 4)] [(.int 58), (.int x2)])) (fun _ k => XS.bipush X0.here hx rfl (hb hby d15_37) k) ?_
      by_cases hc39 : x2 = (58 : Int32)
      · refine own_go (x' := s₁.setTop (mkF m 43 #[.val (.ref ao0), .val (.int 4)] [(.int 2)])) (fun _ k => XS.icmpNo X0.here hx rfl (hb hby d15_39) rfl (teq hc39).2 (XS.iconst X0.here hx rfl (hb hby d15_42) k)) ?_
        refine own_retI X0 hx hlk hret (hb hby d15_43) ?_ (by decide) (by decide)
        rw [e0]
        exact ⟨by rw [show own_ix [x0, x1, x2, x3] = (2 : Int32) from by simp only [own_ix, own_ixg, if_neg hc9, if_neg hc24, if_pos hc39]; first | done | rfl | decide], Nf, rfl⟩
      · refine own_go (x' := s₁.setTop (mkF m 51 #[.val (.ref ao0), .val (.int 4)] [(.int 3), (.ref ao0)])) (fun _ k => XS.icmpYes X0.here hx rfl (pc0 := 39) (pc' := 44) rfl (hb hby d15_39) rfl (feq hc39).2 (by decide) (by decide) (XS.iloadN X0.here hx rfl (hb hby d15_44) rfl (XS.iconst X0.here hx rfl (hb hby d15_45) (XS.icmpNo X0.here hx rfl (hb hby d15_46) rfl (tlt (by decide +kernel : ((3 : Int32) < (4 : Int32)))).2.2.2 (XS.aloadN X0.here hx rfl (hb hby d15_49) rfl rfl (XS.iconst X0.here hx rfl (hb hby d15_50) k)))))) ?_
        obtain ⟨cl4, Ar4, q4, Sz4, Nn4, Hh4, Gg4⟩ := id V_ao0
        have hin4 : ¬ ((3 : Int32) < 0 ∨ cl4.slots.size ≤ ((3 : Int32)).toNatClampNeg) := inb_of Sz4 ⟨by decide, by decide⟩
        refine own_go (x' := s₁.setTop (mkF m 52 #[.val (.ref ao0), .val (.int 4)] [(.int x3)])) (X0.caload hx (j := (3 : Int32)) (v := (.int x3)) (Eq.trans (congrArg (fun h_ => h_[_]?) e0) Ar4.1) (State.isArrayOf_alike hZ.alike Ar4.2.1) Ar4.2.2 hin4 (Hh4.at hin4 rfl) (g := (mkF m 51 #[.val (.ref ao0), .val (.int 4)] [(.int 3), (.ref ao0)])) rfl rfl (hb hby d15_51)) ?_
        refine own_go (x' := s₁.setTop (mkF m 54 #[.val (.ref ao0), .val (.int 4)] [(.int 58), (.int x3)])) (fun _ k => XS.bipush X0.here hx rfl (hb hby d15_52) k) ?_
        by_cases hc54 : x3 = (58 : Int32)
        · refine own_go (x' := s₁.setTop (mkF m 58 #[.val (.ref ao0), .val (.int 4)] [(.int 3)])) (fun _ k => XS.icmpNo X0.here hx rfl (hb hby d15_54) rfl (teq hc54).2 (XS.iconst X0.here hx rfl (hb hby d15_57) k)) ?_
          refine own_retI X0 hx hlk hret (hb hby d15_58) ?_ (by decide) (by decide)
          rw [e0]
          exact ⟨by rw [show own_ix [x0, x1, x2, x3] = (3 : Int32) from by simp only [own_ix, own_ixg, if_neg hc9, if_neg hc24, if_neg hc39, if_pos hc54]; first | done | rfl | decide], Nf, rfl⟩
        · refine own_go (x' := s₁.setTop (mkF m 76 #[.val (.ref ao0), .val (.int 4)] [(.int 5), (.int 4)])) (fun _ k => XS.icmpYes X0.here hx rfl (pc0 := 54) (pc' := 59) rfl (hb hby d15_54) rfl (feq hc54).2 (by decide) (by decide) (XS.iloadN X0.here hx rfl (hb hby d15_59) rfl (XS.iconst X0.here hx rfl (hb hby d15_60) (XS.icmpYes X0.here hx rfl (pc0 := 61) (pc' := 74) rfl (hb hby d15_61) rfl (flt (Int32.lt_irrefl)).2.2.2 (by decide) (by decide) (XS.iloadN X0.here hx rfl (hb hby d15_74) rfl (XS.iconst X0.here hx rfl (hb hby d15_75) k)))))) ?_
          refine own_go (x' := s₁.setTop (mkF m 90 #[.val (.ref ao0), .val (.int 4)] [(.int (-1))])) (fun _ k => XS.icmpYes X0.here hx rfl (pc0 := 76) (pc' := 89) rfl (hb hby d15_76) rfl (flt (by decide +kernel : ¬ ((5 : Int32) < (4 : Int32)))).2.2.2 (by decide) (by decide) (XS.iconst X0.here hx rfl (hb hby d15_89) k)) ?_
          refine own_retI X0 hx hlk hret (hb hby d15_90) ?_ (by decide) (by decide)
          rw [e0]
          exact ⟨by rw [show own_ix [x0, x1, x2, x3] = (-1 : Int32) from by simp only [own_ix, own_ixg, if_neg hc9, if_neg hc24, if_neg hc39, if_neg hc54]; first | done | rfl | decide], Nf, rfl⟩
theorem d15_64 : decode method_4_code 64 = .ok (.aload_n 0, 1) := by decide +kernel
theorem d15_65 : decode method_4_code 65 = .ok (.iconst 4, 1) := by decide +kernel
theorem d15_66 : decode method_4_code 66 = .ok (.caload, 1) := by decide +kernel
theorem d15_67 : decode method_4_code 67 = .ok (.bipush 58, 2) := by decide +kernel
theorem d15_69 : decode method_4_code 69 = .ok (.if_icmp .ne 5, 3) := by decide +kernel
theorem d15_72 : decode method_4_code 72 = .ok (.iconst 4, 1) := by decide +kernel
theorem d15_73 : decode method_4_code 73 = .ok (.ireturn, 1) := by decide +kernel
def Q_rm15_5 (Z : State) (ao0 : Addr) (kc : ClassId) (x0 x1 x2 x3 x4 x5 : Int32) (h0 : Heap) (n0 : Nat) (v : Option Value) (h : Heap) (L : List Loc) : Prop := v = some (.int (own_ix [x0, x1, x2, x3, x4])) ∧ Fr n0 L ∧ h = h0
theorem pn_rm15_5 : plainName "com/example/triplewright/triplewright/IriIsAbsolutePinLaw" = true := by first | (simp [plainName, overriddenIn]; done) | decide +kernel
theorem ef_rm15_5 (m : MethodId) (x0 : Addr) (x1 : Int32) : entryFrame m #[(.ref x0), (.int x1)] 2 = mkF m 0 #[.val (.ref x0), .val (.int x1)] [] := by first | (simp [entryFrame, mkF, argsToLocals, Value.category]; done) | rfl
set_option maxRecDepth 65536 in
set_option maxHeartbeats 40000000 in
theorem rm15_5 (l : Launch) (Z : State) (a0 : Array Value) (hw : ∀ d ∈ tables_1, d.before a0 Z = true) (ws : List Jvm.Cond) (ao0 : Addr) (kc : ClassId) (x0 x1 x2 x3 x4 x5 : Int32) (h0 : Heap) (n0 : Nat) (Z0 : n0 ≤ h0.size) (V_ao0 : Arv Z h0 ao0 kc .char (6 : Int32) [(.int x0), (.int x1), (.int x2), (.int x3), (.int x4), (.int x5)] (.int (0 : Int32))) :
    MetFree l (⟨"com/example/triplewright/triplewright/IriIsAbsolutePinLaw", "firstColon", "([CI)I"⟩ : MethodName) (head1 (Jvm.Cond.code (⟨"com/example/triplewright/triplewright/IriIsAbsolutePinLaw", "firstColon", "([CI)I"⟩ : MethodName) method_4_code 2 (some .int) :: ws) ({ frames := 0, cells := 0, slots := 0, locals := 0 } : Room)) (fun a U => a = #[(.ref ao0), (.int 5)] ∧ Z.Warmed39 U.vm ∧ U.heap = h0) (fun _ _ _ _ _ => True) (fun _ U o U' => ∃ v L, o = .returned v ∧ (Q_rm15_5 Z ao0 kc x0 x1 x2 x3 x4 x5 h0 n0) v U'.heap L ∧ FrameEnd U o U' L ({ frames := 0, cells := 0, slots := 0, locals := 0 } : Room).cells ({ frames := 0, cells := 0, slots := 0, locals := 0 } : Room).slots) := by
  refine MetFree.of_bodySF (plainFor_of_name pn_rm15_5) hisR ?_
  intro p e s m args below meth c s₁ Bd hml0 hP hK
  obtain ⟨rfl, hZ, hh⟩ := hP
  have hx := Bd.exec
  have hby := Bd.bytes
  have hlk := BodyLoose.notSynchronized Bd
  have hret := Bd.returns
  have hml : c.maxLocals = 2 := hml0
  have hown : s.vm.findClass "com/example/triplewright/triplewright/IriIsAbsolutePinLaw" = some m.cls := findClass_of_methodNamed Bd.named
  have hnm := (name_of_methodNamed Bd.named Bd.method).1
  have X0 : Stand p l e ({ frames := 0, cells := 0, slots := 0, locals := 0 } : Room) s m #[(.ref ao0), (.int 5)] below meth c s₁ [] 0 0 := Stand.of_body Bd
  have e0 : s₁.heap = h0 := by rw [← hh, Bd.state]; rfl
  have Nf := Fr.nil n0
  have Zs := Z0
  have Kp : Keep h0 h0 [] := Keep.refl _ _
  show own_End p e below s (Q_rm15_5 Z ao0 kc x0 x1 x2 x3 x4 x5 h0 n0) ({ frames := 0, cells := 0, slots := 0, locals := 0 } : Room).cells ({ frames := 0, cells := 0, slots := 0, locals := 0 } : Room).slots (s₁.setTop (entryFrame m #[(.ref ao0), (.int 5)] 2))
  refine own_go (x' := s₁.setTop (mkF m 0 #[.val (.ref ao0), .val (.int 5)] [])) (fun t k => castTop (ef_rm15_5 m ao0 (5 : Int32)) k) ?_
  refine own_go (x' := s₁.setTop (mkF m 6 #[.val (.ref ao0), .val (.int 5)] [(.int 0), (.ref ao0)])) (fun _ k => XS.iloadN X0.here hx rfl (hb hby d15_0) rfl (XS.ifNo X0.here hx rfl (hb hby d15_1) rfl ((if0 _ _).trans (tlt (by decide +kernel : ((0 : Int32) < (5 : Int32)))).2.2.2) (XS.aloadN X0.here hx rfl (hb hby d15_4) rfl rfl (XS.iconst X0.here hx rfl (hb hby d15_5) k)))) ?_
  obtain ⟨cl1, Ar1, q1, Sz1, Nn1, Hh1, Gg1⟩ := id V_ao0
  have hin1 : ¬ ((0 : Int32) < 0 ∨ cl1.slots.size ≤ ((0 : Int32)).toNatClampNeg) := inb_of Sz1 ⟨by decide, by decide⟩
  refine own_go (x' := s₁.setTop (mkF m 7 #[.val (.ref ao0), .val (.int 5)] [(.int x0)])) (X0.caload hx (j := (0 : Int32)) (v := (.int x0)) (Eq.trans (congrArg (fun h_ => h_[_]?) e0) Ar1.1) (State.isArrayOf_alike hZ.alike Ar1.2.1) Ar1.2.2 hin1 (Hh1.at hin1 rfl) (g := (mkF m 6 #[.val (.ref ao0), .val (.int 5)] [(.int 0), (.ref ao0)])) rfl rfl (hb hby d15_6)) ?_
  refine own_go (x' := s₁.setTop (mkF m 9 #[.val (.ref ao0), .val (.int 5)] [(.int 58), (.int x0)])) (fun _ k => XS.bipush X0.here hx rfl (hb hby d15_7) k) ?_
  by_cases hc9 : x0 = (58 : Int32)
  · refine own_go (x' := s₁.setTop (mkF m 13 #[.val (.ref ao0), .val (.int 5)] [(.int 0)])) (fun _ k => XS.icmpNo X0.here hx rfl (hb hby d15_9) rfl (teq hc9).2 (XS.iconst X0.here hx rfl (hb hby d15_12) k)) ?_
    refine own_retI X0 hx hlk hret (hb hby d15_13) ?_ (by decide) (by decide)
    rw [e0]
    exact ⟨by rw [show own_ix [x0, x1, x2, x3, x4] = (0 : Int32) from by simp only [own_ix, own_ixg, if_pos hc9]; first | done | rfl | decide], Nf, rfl⟩
  · refine own_go (x' := s₁.setTop (mkF m 21 #[.val (.ref ao0), .val (.int 5)] [(.int 1), (.ref ao0)])) (fun _ k => XS.icmpYes X0.here hx rfl (pc0 := 9) (pc' := 14) rfl (hb hby d15_9) rfl (feq hc9).2 (by decide) (by decide) (XS.iloadN X0.here hx rfl (hb hby d15_14) rfl (XS.iconst X0.here hx rfl (hb hby d15_15) (XS.icmpNo X0.here hx rfl (hb hby d15_16) rfl (tlt (by decide +kernel : ((1 : Int32) < (5 : Int32)))).2.2.2 (XS.aloadN X0.here hx rfl (hb hby d15_19) rfl rfl (XS.iconst X0.here hx rfl (hb hby d15_20) k)))))) ?_
    obtain ⟨cl2, Ar2, q2, Sz2, Nn2, Hh2, Gg2⟩ := id V_ao0
    have hin2 : ¬ ((1 : Int32) < 0 ∨ cl2.slots.size ≤ ((1 : Int32)).toNatClampNeg) := inb_of Sz2 ⟨by decide, by decide⟩
    refine own_go (x' := s₁.setTop (mkF m 22 #[.val (.ref ao0), .val (.int 5)] [(.int x1)])) (X0.caload hx (j := (1 : Int32)) (v := (.int x1)) (Eq.trans (congrArg (fun h_ => h_[_]?) e0) Ar2.1) (State.isArrayOf_alike hZ.alike Ar2.2.1) Ar2.2.2 hin2 (Hh2.at hin2 rfl) (g := (mkF m 21 #[.val (.ref ao0), .val (.int 5)] [(.int 1), (.ref ao0)])) rfl rfl (hb hby d15_21)) ?_
    refine own_go (x' := s₁.setTop (mkF m 24 #[.val (.ref ao0), .val (.int 5)] [(.int 58), (.int x1)])) (fun _ k => XS.bipush X0.here hx rfl (hb hby d15_22) k) ?_
    by_cases hc24 : x1 = (58 : Int32)
    · refine own_go (x' := s₁.setTop (mkF m 28 #[.val (.ref ao0), .val (.int 5)] [(.int 1)])) (fun _ k => XS.icmpNo X0.here hx rfl (hb hby d15_24) rfl (teq hc24).2 (XS.iconst X0.here hx rfl (hb hby d15_27) k)) ?_
      refine own_retI X0 hx hlk hret (hb hby d15_28) ?_ (by decide) (by decide)
      rw [e0]
      exact ⟨by rw [show own_ix [x0, x1, x2, x3, x4] = (1 : Int32) from by simp only [own_ix, own_ixg, if_neg hc9, if_pos hc24]; first | done | rfl | decide], Nf, rfl⟩
    · refine own_go (x' := s₁.setTop (mkF m 36 #[.val (.ref ao0), .val (.int 5)] [(.int 2), (.ref ao0)])) (fun _ k => XS.icmpYes X0.here hx rfl (pc0 := 24) (pc' := 29) rfl (hb hby d15_24) rfl (feq hc24).2 (by decide) (by decide) (XS.iloadN X0.here hx rfl (hb hby d15_29) rfl (XS.iconst X0.here hx rfl (hb hby d15_30) (XS.icmpNo X0.here hx rfl (hb hby d15_31) rfl (tlt (by decide +kernel : ((2 : Int32) < (5 : Int32)))).2.2.2 (XS.aloadN X0.here hx rfl (hb hby d15_34) rfl rfl (XS.iconst X0.here hx rfl (hb hby d15_35) k)))))) ?_
      obtain ⟨cl3, Ar3, q3, Sz3, Nn3, Hh3, Gg3⟩ := id V_ao0
      have hin3 : ¬ ((2 : Int32) < 0 ∨ cl3.slots.size ≤ ((2 : Int32)).toNatClampNeg) := inb_of Sz3 ⟨by decide, by decide⟩
      refine own_go (x' := s₁.setTop (mkF m 37 #[.val (.ref ao0), .val (.int 5)] [(.int x2)])) (X0.caload hx (j := (2 : Int32)) (v := (.int x2)) (Eq.trans (congrArg (fun h_ => h_[_]?) e0) Ar3.1) (State.isArrayOf_alike hZ.alike Ar3.2.1) Ar3.2.2 hin3 (Hh3.at hin3 rfl) (g := (mkF m 36 #[.val (.ref ao0), .val (.int 5)] [(.int 2), (.ref ao0)])) rfl rfl (hb hby d15_36)) ?_
      refine own_go (x' := s₁.setTop (mkF m 39 #[.val (.ref ao0), .val (.int 5)] [(.int 58), (.int x2)])) (fun _ k => XS.bipush X0.here hx rfl (hb hby d15_37) k) ?_
      by_cases hc39 : x2 = (58 : Int32)
      · refine own_go (x' := s₁.setTop (mkF m 43 #[.val (.ref ao0), .val (.int 5)] [(.int 2)])) (fun _ k => XS.icmpNo X0.here hx rfl (hb hby d15_39) rfl (teq hc39).2 (XS.iconst X0.here hx rfl (hb hby d15_42) k)) ?_
        refine own_retI X0 hx hlk hret (hb hby d15_43) ?_ (by decide) (by decide)
        rw [e0]
        exact ⟨by rw [show own_ix [x0, x1, x2, x3, x4] = (2 : Int32) from by simp only [own_ix, own_ixg, if_neg hc9, if_neg hc24, if_pos hc39]; first | done | rfl | decide], Nf, rfl⟩
      · refine own_go (x' := s₁.setTop (mkF m 51 #[.val (.ref ao0), .val (.int 5)] [(.int 3), (.ref ao0)])) (fun _ k => XS.icmpYes X0.here hx rfl (pc0 := 39) (pc' := 44) rfl (hb hby d15_39) rfl (feq hc39).2 (by decide) (by decide) (XS.iloadN X0.here hx rfl (hb hby d15_44) rfl (XS.iconst X0.here hx rfl (hb hby d15_45) (XS.icmpNo X0.here hx rfl (hb hby d15_46) rfl (tlt (by decide +kernel : ((3 : Int32) < (5 : Int32)))).2.2.2 (XS.aloadN X0.here hx rfl (hb hby d15_49) rfl rfl (XS.iconst X0.here hx rfl (hb hby d15_50) k)))))) ?_
        obtain ⟨cl4, Ar4, q4, Sz4, Nn4, Hh4, Gg4⟩ := id V_ao0
        have hin4 : ¬ ((3 : Int32) < 0 ∨ cl4.slots.size ≤ ((3 : Int32)).toNatClampNeg) := inb_of Sz4 ⟨by decide, by decide⟩
        refine own_go (x' := s₁.setTop (mkF m 52 #[.val (.ref ao0), .val (.int 5)] [(.int x3)])) (X0.caload hx (j := (3 : Int32)) (v := (.int x3)) (Eq.trans (congrArg (fun h_ => h_[_]?) e0) Ar4.1) (State.isArrayOf_alike hZ.alike Ar4.2.1) Ar4.2.2 hin4 (Hh4.at hin4 rfl) (g := (mkF m 51 #[.val (.ref ao0), .val (.int 5)] [(.int 3), (.ref ao0)])) rfl rfl (hb hby d15_51)) ?_
        refine own_go (x' := s₁.setTop (mkF m 54 #[.val (.ref ao0), .val (.int 5)] [(.int 58), (.int x3)])) (fun _ k => XS.bipush X0.here hx rfl (hb hby d15_52) k) ?_
        by_cases hc54 : x3 = (58 : Int32)
        · refine own_go (x' := s₁.setTop (mkF m 58 #[.val (.ref ao0), .val (.int 5)] [(.int 3)])) (fun _ k => XS.icmpNo X0.here hx rfl (hb hby d15_54) rfl (teq hc54).2 (XS.iconst X0.here hx rfl (hb hby d15_57) k)) ?_
          refine own_retI X0 hx hlk hret (hb hby d15_58) ?_ (by decide) (by decide)
          rw [e0]
          exact ⟨by rw [show own_ix [x0, x1, x2, x3, x4] = (3 : Int32) from by simp only [own_ix, own_ixg, if_neg hc9, if_neg hc24, if_neg hc39, if_pos hc54]; first | done | rfl | decide], Nf, rfl⟩
        · refine own_go (x' := s₁.setTop (mkF m 66 #[.val (.ref ao0), .val (.int 5)] [(.int 4), (.ref ao0)])) (fun _ k => XS.icmpYes X0.here hx rfl (pc0 := 54) (pc' := 59) rfl (hb hby d15_54) rfl (feq hc54).2 (by decide) (by decide) (XS.iloadN X0.here hx rfl (hb hby d15_59) rfl (XS.iconst X0.here hx rfl (hb hby d15_60) (XS.icmpNo X0.here hx rfl (hb hby d15_61) rfl (tlt (by decide +kernel : ((4 : Int32) < (5 : Int32)))).2.2.2 (XS.aloadN X0.here hx rfl (hb hby d15_64) rfl rfl (XS.iconst X0.here hx rfl (hb hby d15_65) k)))))) ?_
          obtain ⟨cl5, Ar5, q5, Sz5, Nn5, Hh5, Gg5⟩ := id V_ao0
          have hin5 : ¬ ((4 : Int32) < 0 ∨ cl5.slots.size ≤ ((4 : Int32)).toNatClampNeg) := inb_of Sz5 ⟨by decide, by decide⟩
          refine own_go (x' := s₁.setTop (mkF m 67 #[.val (.ref ao0), .val (.int 5)] [(.int x4)])) (X0.caload hx (j := (4 : Int32)) (v := (.int x4)) (Eq.trans (congrArg (fun h_ => h_[_]?) e0) Ar5.1) (State.isArrayOf_alike hZ.alike Ar5.2.1) Ar5.2.2 hin5 (Hh5.at hin5 rfl) (g := (mkF m 66 #[.val (.ref ao0), .val (.int 5)] [(.int 4), (.ref ao0)])) rfl rfl (hb hby d15_66)) ?_
          refine own_go (x' := s₁.setTop (mkF m 69 #[.val (.ref ao0), .val (.int 5)] [(.int 58), (.int x4)])) (fun _ k => XS.bipush X0.here hx rfl (hb hby d15_67) k) ?_
          by_cases hc69 : x4 = (58 : Int32)
          · refine own_go (x' := s₁.setTop (mkF m 73 #[.val (.ref ao0), .val (.int 5)] [(.int 4)])) (fun _ k => XS.icmpNo X0.here hx rfl (hb hby d15_69) rfl (teq hc69).2 (XS.iconst X0.here hx rfl (hb hby d15_72) k)) ?_
            refine own_retI X0 hx hlk hret (hb hby d15_73) ?_ (by decide) (by decide)
            rw [e0]
            exact ⟨by rw [show own_ix [x0, x1, x2, x3, x4] = (4 : Int32) from by simp only [own_ix, own_ixg, if_neg hc9, if_neg hc24, if_neg hc39, if_neg hc54, if_pos hc69]; first | done | rfl | decide], Nf, rfl⟩
          · refine own_go (x' := s₁.setTop (mkF m 90 #[.val (.ref ao0), .val (.int 5)] [(.int (-1))])) (fun _ k => XS.icmpYes X0.here hx rfl (pc0 := 69) (pc' := 74) rfl (hb hby d15_69) rfl (feq hc69).2 (by decide) (by decide) (XS.iloadN X0.here hx rfl (hb hby d15_74) rfl (XS.iconst X0.here hx rfl (hb hby d15_75) (XS.icmpYes X0.here hx rfl (pc0 := 76) (pc' := 89) rfl (hb hby d15_76) rfl (flt (Int32.lt_irrefl)).2.2.2 (by decide) (by decide) (XS.iconst X0.here hx rfl (hb hby d15_89) k))))) ?_
            refine own_retI X0 hx hlk hret (hb hby d15_90) ?_ (by decide) (by decide)
            rw [e0]
            exact ⟨by rw [show own_ix [x0, x1, x2, x3, x4] = (-1 : Int32) from by simp only [own_ix, own_ixg, if_neg hc9, if_neg hc24, if_neg hc39, if_neg hc54, if_neg hc69]; first | done | rfl | decide], Nf, rfl⟩
theorem d15_79 : decode method_4_code 79 = .ok (.aload_n 0, 1) := by decide +kernel
theorem d15_80 : decode method_4_code 80 = .ok (.iconst 5, 1) := by decide +kernel
theorem d15_81 : decode method_4_code 81 = .ok (.caload, 1) := by decide +kernel
theorem d15_82 : decode method_4_code 82 = .ok (.bipush 58, 2) := by decide +kernel
theorem d15_84 : decode method_4_code 84 = .ok (.if_icmp .ne 5, 3) := by decide +kernel
theorem d15_87 : decode method_4_code 87 = .ok (.iconst 5, 1) := by decide +kernel
theorem d15_88 : decode method_4_code 88 = .ok (.ireturn, 1) := by decide +kernel
def Q_rm15_6 (Z : State) (ao0 : Addr) (kc : ClassId) (x0 x1 x2 x3 x4 x5 : Int32) (h0 : Heap) (n0 : Nat) (v : Option Value) (h : Heap) (L : List Loc) : Prop := v = some (.int (own_ix [x0, x1, x2, x3, x4, x5])) ∧ Fr n0 L ∧ h = h0
theorem pn_rm15_6 : plainName "com/example/triplewright/triplewright/IriIsAbsolutePinLaw" = true := by first | (simp [plainName, overriddenIn]; done) | decide +kernel
theorem ef_rm15_6 (m : MethodId) (x0 : Addr) (x1 : Int32) : entryFrame m #[(.ref x0), (.int x1)] 2 = mkF m 0 #[.val (.ref x0), .val (.int x1)] [] := by first | (simp [entryFrame, mkF, argsToLocals, Value.category]; done) | rfl
set_option maxRecDepth 65536 in
set_option maxHeartbeats 40000000 in
theorem rm15_6 (l : Launch) (Z : State) (a0 : Array Value) (hw : ∀ d ∈ tables_1, d.before a0 Z = true) (ws : List Jvm.Cond) (ao0 : Addr) (kc : ClassId) (x0 x1 x2 x3 x4 x5 : Int32) (h0 : Heap) (n0 : Nat) (Z0 : n0 ≤ h0.size) (V_ao0 : Arv Z h0 ao0 kc .char (6 : Int32) [(.int x0), (.int x1), (.int x2), (.int x3), (.int x4), (.int x5)] (.int (0 : Int32))) :
    MetFree l (⟨"com/example/triplewright/triplewright/IriIsAbsolutePinLaw", "firstColon", "([CI)I"⟩ : MethodName) (head1 (Jvm.Cond.code (⟨"com/example/triplewright/triplewright/IriIsAbsolutePinLaw", "firstColon", "([CI)I"⟩ : MethodName) method_4_code 2 (some .int) :: ws) ({ frames := 0, cells := 0, slots := 0, locals := 0 } : Room)) (fun a U => a = #[(.ref ao0), (.int 6)] ∧ Z.Warmed39 U.vm ∧ U.heap = h0) (fun _ _ _ _ _ => True) (fun _ U o U' => ∃ v L, o = .returned v ∧ (Q_rm15_6 Z ao0 kc x0 x1 x2 x3 x4 x5 h0 n0) v U'.heap L ∧ FrameEnd U o U' L ({ frames := 0, cells := 0, slots := 0, locals := 0 } : Room).cells ({ frames := 0, cells := 0, slots := 0, locals := 0 } : Room).slots) := by
  refine MetFree.of_bodySF (plainFor_of_name pn_rm15_6) hisR ?_
  intro p e s m args below meth c s₁ Bd hml0 hP hK
  obtain ⟨rfl, hZ, hh⟩ := hP
  have hx := Bd.exec
  have hby := Bd.bytes
  have hlk := BodyLoose.notSynchronized Bd
  have hret := Bd.returns
  have hml : c.maxLocals = 2 := hml0
  have hown : s.vm.findClass "com/example/triplewright/triplewright/IriIsAbsolutePinLaw" = some m.cls := findClass_of_methodNamed Bd.named
  have hnm := (name_of_methodNamed Bd.named Bd.method).1
  have X0 : Stand p l e ({ frames := 0, cells := 0, slots := 0, locals := 0 } : Room) s m #[(.ref ao0), (.int 6)] below meth c s₁ [] 0 0 := Stand.of_body Bd
  have e0 : s₁.heap = h0 := by rw [← hh, Bd.state]; rfl
  have Nf := Fr.nil n0
  have Zs := Z0
  have Kp : Keep h0 h0 [] := Keep.refl _ _
  show own_End p e below s (Q_rm15_6 Z ao0 kc x0 x1 x2 x3 x4 x5 h0 n0) ({ frames := 0, cells := 0, slots := 0, locals := 0 } : Room).cells ({ frames := 0, cells := 0, slots := 0, locals := 0 } : Room).slots (s₁.setTop (entryFrame m #[(.ref ao0), (.int 6)] 2))
  refine own_go (x' := s₁.setTop (mkF m 0 #[.val (.ref ao0), .val (.int 6)] [])) (fun t k => castTop (ef_rm15_6 m ao0 (6 : Int32)) k) ?_
  refine own_go (x' := s₁.setTop (mkF m 6 #[.val (.ref ao0), .val (.int 6)] [(.int 0), (.ref ao0)])) (fun _ k => XS.iloadN X0.here hx rfl (hb hby d15_0) rfl (XS.ifNo X0.here hx rfl (hb hby d15_1) rfl ((if0 _ _).trans (tlt (by decide +kernel : ((0 : Int32) < (6 : Int32)))).2.2.2) (XS.aloadN X0.here hx rfl (hb hby d15_4) rfl rfl (XS.iconst X0.here hx rfl (hb hby d15_5) k)))) ?_
  obtain ⟨cl1, Ar1, q1, Sz1, Nn1, Hh1, Gg1⟩ := id V_ao0
  have hin1 : ¬ ((0 : Int32) < 0 ∨ cl1.slots.size ≤ ((0 : Int32)).toNatClampNeg) := inb_of Sz1 ⟨by decide, by decide⟩
  refine own_go (x' := s₁.setTop (mkF m 7 #[.val (.ref ao0), .val (.int 6)] [(.int x0)])) (X0.caload hx (j := (0 : Int32)) (v := (.int x0)) (Eq.trans (congrArg (fun h_ => h_[_]?) e0) Ar1.1) (State.isArrayOf_alike hZ.alike Ar1.2.1) Ar1.2.2 hin1 (Hh1.at hin1 rfl) (g := (mkF m 6 #[.val (.ref ao0), .val (.int 6)] [(.int 0), (.ref ao0)])) rfl rfl (hb hby d15_6)) ?_
  refine own_go (x' := s₁.setTop (mkF m 9 #[.val (.ref ao0), .val (.int 6)] [(.int 58), (.int x0)])) (fun _ k => XS.bipush X0.here hx rfl (hb hby d15_7) k) ?_
  by_cases hc9 : x0 = (58 : Int32)
  · refine own_go (x' := s₁.setTop (mkF m 13 #[.val (.ref ao0), .val (.int 6)] [(.int 0)])) (fun _ k => XS.icmpNo X0.here hx rfl (hb hby d15_9) rfl (teq hc9).2 (XS.iconst X0.here hx rfl (hb hby d15_12) k)) ?_
    refine own_retI X0 hx hlk hret (hb hby d15_13) ?_ (by decide) (by decide)
    rw [e0]
    exact ⟨by rw [show own_ix [x0, x1, x2, x3, x4, x5] = (0 : Int32) from by simp only [own_ix, own_ixg, if_pos hc9]; first | done | rfl | decide], Nf, rfl⟩
  · refine own_go (x' := s₁.setTop (mkF m 21 #[.val (.ref ao0), .val (.int 6)] [(.int 1), (.ref ao0)])) (fun _ k => XS.icmpYes X0.here hx rfl (pc0 := 9) (pc' := 14) rfl (hb hby d15_9) rfl (feq hc9).2 (by decide) (by decide) (XS.iloadN X0.here hx rfl (hb hby d15_14) rfl (XS.iconst X0.here hx rfl (hb hby d15_15) (XS.icmpNo X0.here hx rfl (hb hby d15_16) rfl (tlt (by decide +kernel : ((1 : Int32) < (6 : Int32)))).2.2.2 (XS.aloadN X0.here hx rfl (hb hby d15_19) rfl rfl (XS.iconst X0.here hx rfl (hb hby d15_20) k)))))) ?_
    obtain ⟨cl2, Ar2, q2, Sz2, Nn2, Hh2, Gg2⟩ := id V_ao0
    have hin2 : ¬ ((1 : Int32) < 0 ∨ cl2.slots.size ≤ ((1 : Int32)).toNatClampNeg) := inb_of Sz2 ⟨by decide, by decide⟩
    refine own_go (x' := s₁.setTop (mkF m 22 #[.val (.ref ao0), .val (.int 6)] [(.int x1)])) (X0.caload hx (j := (1 : Int32)) (v := (.int x1)) (Eq.trans (congrArg (fun h_ => h_[_]?) e0) Ar2.1) (State.isArrayOf_alike hZ.alike Ar2.2.1) Ar2.2.2 hin2 (Hh2.at hin2 rfl) (g := (mkF m 21 #[.val (.ref ao0), .val (.int 6)] [(.int 1), (.ref ao0)])) rfl rfl (hb hby d15_21)) ?_
    refine own_go (x' := s₁.setTop (mkF m 24 #[.val (.ref ao0), .val (.int 6)] [(.int 58), (.int x1)])) (fun _ k => XS.bipush X0.here hx rfl (hb hby d15_22) k) ?_
    by_cases hc24 : x1 = (58 : Int32)
    · refine own_go (x' := s₁.setTop (mkF m 28 #[.val (.ref ao0), .val (.int 6)] [(.int 1)])) (fun _ k => XS.icmpNo X0.here hx rfl (hb hby d15_24) rfl (teq hc24).2 (XS.iconst X0.here hx rfl (hb hby d15_27) k)) ?_
      refine own_retI X0 hx hlk hret (hb hby d15_28) ?_ (by decide) (by decide)
      rw [e0]
      exact ⟨by rw [show own_ix [x0, x1, x2, x3, x4, x5] = (1 : Int32) from by simp only [own_ix, own_ixg, if_neg hc9, if_pos hc24]; first | done | rfl | decide], Nf, rfl⟩
    · refine own_go (x' := s₁.setTop (mkF m 36 #[.val (.ref ao0), .val (.int 6)] [(.int 2), (.ref ao0)])) (fun _ k => XS.icmpYes X0.here hx rfl (pc0 := 24) (pc' := 29) rfl (hb hby d15_24) rfl (feq hc24).2 (by decide) (by decide) (XS.iloadN X0.here hx rfl (hb hby d15_29) rfl (XS.iconst X0.here hx rfl (hb hby d15_30) (XS.icmpNo X0.here hx rfl (hb hby d15_31) rfl (tlt (by decide +kernel : ((2 : Int32) < (6 : Int32)))).2.2.2 (XS.aloadN X0.here hx rfl (hb hby d15_34) rfl rfl (XS.iconst X0.here hx rfl (hb hby d15_35) k)))))) ?_
      obtain ⟨cl3, Ar3, q3, Sz3, Nn3, Hh3, Gg3⟩ := id V_ao0
      have hin3 : ¬ ((2 : Int32) < 0 ∨ cl3.slots.size ≤ ((2 : Int32)).toNatClampNeg) := inb_of Sz3 ⟨by decide, by decide⟩
      refine own_go (x' := s₁.setTop (mkF m 37 #[.val (.ref ao0), .val (.int 6)] [(.int x2)])) (X0.caload hx (j := (2 : Int32)) (v := (.int x2)) (Eq.trans (congrArg (fun h_ => h_[_]?) e0) Ar3.1) (State.isArrayOf_alike hZ.alike Ar3.2.1) Ar3.2.2 hin3 (Hh3.at hin3 rfl) (g := (mkF m 36 #[.val (.ref ao0), .val (.int 6)] [(.int 2), (.ref ao0)])) rfl rfl (hb hby d15_36)) ?_
      refine own_go (x' := s₁.setTop (mkF m 39 #[.val (.ref ao0), .val (.int 6)] [(.int 58), (.int x2)])) (fun _ k => XS.bipush X0.here hx rfl (hb hby d15_37) k) ?_
      by_cases hc39 : x2 = (58 : Int32)
      · refine own_go (x' := s₁.setTop (mkF m 43 #[.val (.ref ao0), .val (.int 6)] [(.int 2)])) (fun _ k => XS.icmpNo X0.here hx rfl (hb hby d15_39) rfl (teq hc39).2 (XS.iconst X0.here hx rfl (hb hby d15_42) k)) ?_
        refine own_retI X0 hx hlk hret (hb hby d15_43) ?_ (by decide) (by decide)
        rw [e0]
        exact ⟨by rw [show own_ix [x0, x1, x2, x3, x4, x5] = (2 : Int32) from by simp only [own_ix, own_ixg, if_neg hc9, if_neg hc24, if_pos hc39]; first | done | rfl | decide], Nf, rfl⟩
      · refine own_go (x' := s₁.setTop (mkF m 51 #[.val (.ref ao0), .val (.int 6)] [(.int 3), (.ref ao0)])) (fun _ k => XS.icmpYes X0.here hx rfl (pc0 := 39) (pc' := 44) rfl (hb hby d15_39) rfl (feq hc39).2 (by decide) (by decide) (XS.iloadN X0.here hx rfl (hb hby d15_44) rfl (XS.iconst X0.here hx rfl (hb hby d15_45) (XS.icmpNo X0.here hx rfl (hb hby d15_46) rfl (tlt (by decide +kernel : ((3 : Int32) < (6 : Int32)))).2.2.2 (XS.aloadN X0.here hx rfl (hb hby d15_49) rfl rfl (XS.iconst X0.here hx rfl (hb hby d15_50) k)))))) ?_
        obtain ⟨cl4, Ar4, q4, Sz4, Nn4, Hh4, Gg4⟩ := id V_ao0
        have hin4 : ¬ ((3 : Int32) < 0 ∨ cl4.slots.size ≤ ((3 : Int32)).toNatClampNeg) := inb_of Sz4 ⟨by decide, by decide⟩
        refine own_go (x' := s₁.setTop (mkF m 52 #[.val (.ref ao0), .val (.int 6)] [(.int x3)])) (X0.caload hx (j := (3 : Int32)) (v := (.int x3)) (Eq.trans (congrArg (fun h_ => h_[_]?) e0) Ar4.1) (State.isArrayOf_alike hZ.alike Ar4.2.1) Ar4.2.2 hin4 (Hh4.at hin4 rfl) (g := (mkF m 51 #[.val (.ref ao0), .val (.int 6)] [(.int 3), (.ref ao0)])) rfl rfl (hb hby d15_51)) ?_
        refine own_go (x' := s₁.setTop (mkF m 54 #[.val (.ref ao0), .val (.int 6)] [(.int 58), (.int x3)])) (fun _ k => XS.bipush X0.here hx rfl (hb hby d15_52) k) ?_
        by_cases hc54 : x3 = (58 : Int32)
        · refine own_go (x' := s₁.setTop (mkF m 58 #[.val (.ref ao0), .val (.int 6)] [(.int 3)])) (fun _ k => XS.icmpNo X0.here hx rfl (hb hby d15_54) rfl (teq hc54).2 (XS.iconst X0.here hx rfl (hb hby d15_57) k)) ?_
          refine own_retI X0 hx hlk hret (hb hby d15_58) ?_ (by decide) (by decide)
          rw [e0]
          exact ⟨by rw [show own_ix [x0, x1, x2, x3, x4, x5] = (3 : Int32) from by simp only [own_ix, own_ixg, if_neg hc9, if_neg hc24, if_neg hc39, if_pos hc54]; first | done | rfl | decide], Nf, rfl⟩
        · refine own_go (x' := s₁.setTop (mkF m 66 #[.val (.ref ao0), .val (.int 6)] [(.int 4), (.ref ao0)])) (fun _ k => XS.icmpYes X0.here hx rfl (pc0 := 54) (pc' := 59) rfl (hb hby d15_54) rfl (feq hc54).2 (by decide) (by decide) (XS.iloadN X0.here hx rfl (hb hby d15_59) rfl (XS.iconst X0.here hx rfl (hb hby d15_60) (XS.icmpNo X0.here hx rfl (hb hby d15_61) rfl (tlt (by decide +kernel : ((4 : Int32) < (6 : Int32)))).2.2.2 (XS.aloadN X0.here hx rfl (hb hby d15_64) rfl rfl (XS.iconst X0.here hx rfl (hb hby d15_65) k)))))) ?_
          obtain ⟨cl5, Ar5, q5, Sz5, Nn5, Hh5, Gg5⟩ := id V_ao0
          have hin5 : ¬ ((4 : Int32) < 0 ∨ cl5.slots.size ≤ ((4 : Int32)).toNatClampNeg) := inb_of Sz5 ⟨by decide, by decide⟩
          refine own_go (x' := s₁.setTop (mkF m 67 #[.val (.ref ao0), .val (.int 6)] [(.int x4)])) (X0.caload hx (j := (4 : Int32)) (v := (.int x4)) (Eq.trans (congrArg (fun h_ => h_[_]?) e0) Ar5.1) (State.isArrayOf_alike hZ.alike Ar5.2.1) Ar5.2.2 hin5 (Hh5.at hin5 rfl) (g := (mkF m 66 #[.val (.ref ao0), .val (.int 6)] [(.int 4), (.ref ao0)])) rfl rfl (hb hby d15_66)) ?_
          refine own_go (x' := s₁.setTop (mkF m 69 #[.val (.ref ao0), .val (.int 6)] [(.int 58), (.int x4)])) (fun _ k => XS.bipush X0.here hx rfl (hb hby d15_67) k) ?_
          by_cases hc69 : x4 = (58 : Int32)
          · refine own_go (x' := s₁.setTop (mkF m 73 #[.val (.ref ao0), .val (.int 6)] [(.int 4)])) (fun _ k => XS.icmpNo X0.here hx rfl (hb hby d15_69) rfl (teq hc69).2 (XS.iconst X0.here hx rfl (hb hby d15_72) k)) ?_
            refine own_retI X0 hx hlk hret (hb hby d15_73) ?_ (by decide) (by decide)
            rw [e0]
            exact ⟨by rw [show own_ix [x0, x1, x2, x3, x4, x5] = (4 : Int32) from by simp only [own_ix, own_ixg, if_neg hc9, if_neg hc24, if_neg hc39, if_neg hc54, if_pos hc69]; first | done | rfl | decide], Nf, rfl⟩
          · refine own_go (x' := s₁.setTop (mkF m 81 #[.val (.ref ao0), .val (.int 6)] [(.int 5), (.ref ao0)])) (fun _ k => XS.icmpYes X0.here hx rfl (pc0 := 69) (pc' := 74) rfl (hb hby d15_69) rfl (feq hc69).2 (by decide) (by decide) (XS.iloadN X0.here hx rfl (hb hby d15_74) rfl (XS.iconst X0.here hx rfl (hb hby d15_75) (XS.icmpNo X0.here hx rfl (hb hby d15_76) rfl (tlt (by decide +kernel : ((5 : Int32) < (6 : Int32)))).2.2.2 (XS.aloadN X0.here hx rfl (hb hby d15_79) rfl rfl (XS.iconst X0.here hx rfl (hb hby d15_80) k)))))) ?_
            obtain ⟨cl6, Ar6, q6, Sz6, Nn6, Hh6, Gg6⟩ := id V_ao0
            have hin6 : ¬ ((5 : Int32) < 0 ∨ cl6.slots.size ≤ ((5 : Int32)).toNatClampNeg) := inb_of Sz6 ⟨by decide, by decide⟩
            refine own_go (x' := s₁.setTop (mkF m 82 #[.val (.ref ao0), .val (.int 6)] [(.int x5)])) (X0.caload hx (j := (5 : Int32)) (v := (.int x5)) (Eq.trans (congrArg (fun h_ => h_[_]?) e0) Ar6.1) (State.isArrayOf_alike hZ.alike Ar6.2.1) Ar6.2.2 hin6 (Hh6.at hin6 rfl) (g := (mkF m 81 #[.val (.ref ao0), .val (.int 6)] [(.int 5), (.ref ao0)])) rfl rfl (hb hby d15_81)) ?_
            refine own_go (x' := s₁.setTop (mkF m 84 #[.val (.ref ao0), .val (.int 6)] [(.int 58), (.int x5)])) (fun _ k => XS.bipush X0.here hx rfl (hb hby d15_82) k) ?_
            by_cases hc84 : x5 = (58 : Int32)
            · refine own_go (x' := s₁.setTop (mkF m 88 #[.val (.ref ao0), .val (.int 6)] [(.int 5)])) (fun _ k => XS.icmpNo X0.here hx rfl (hb hby d15_84) rfl (teq hc84).2 (XS.iconst X0.here hx rfl (hb hby d15_87) k)) ?_
              refine own_retI X0 hx hlk hret (hb hby d15_88) ?_ (by decide) (by decide)
              rw [e0]
              exact ⟨by rw [show own_ix [x0, x1, x2, x3, x4, x5] = (5 : Int32) from by simp only [own_ix, own_ixg, if_neg hc9, if_neg hc24, if_neg hc39, if_neg hc54, if_neg hc69, if_pos hc84]; first | done | rfl | decide], Nf, rfl⟩
            · refine own_go (x' := s₁.setTop (mkF m 90 #[.val (.ref ao0), .val (.int 6)] [(.int (-1))])) (fun _ k => XS.icmpYes X0.here hx rfl (pc0 := 84) (pc' := 89) rfl (hb hby d15_84) rfl (feq hc84).2 (by decide) (by decide) (XS.iconst X0.here hx rfl (hb hby d15_89) k)) ?_
              refine own_retI X0 hx hlk hret (hb hby d15_90) ?_ (by decide) (by decide)
              rw [e0]
              exact ⟨by rw [show own_ix [x0, x1, x2, x3, x4, x5] = (-1 : Int32) from by simp only [own_ix, own_ixg, if_neg hc9, if_neg hc24, if_neg hc39, if_neg hc54, if_neg hc69, if_neg hc84]; first | done | rfl | decide], Nf, rfl⟩
theorem own_sev {p : Int32} (h : ¬ p < 0 ∧ ¬ (6 : Int32) < p) : p = 0 ∨ p = 1 ∨ p = 2 ∨ p = 3 ∨ p = 4 ∨ p = 5 ∨ p = 6 := by
  by_cases h0 : p = 0
  · exact Or.inl h0
  by_cases h1 : p = 1
  · exact Or.inr (Or.inl h1)
  by_cases h2 : p = 2
  · exact Or.inr (Or.inr (Or.inl h2))
  by_cases h3 : p = 3
  · exact Or.inr (Or.inr (Or.inr (Or.inl h3)))
  by_cases h4 : p = 4
  · exact Or.inr (Or.inr (Or.inr (Or.inr (Or.inl h4))))
  by_cases h5 : p = 5
  · exact Or.inr (Or.inr (Or.inr (Or.inr (Or.inr (Or.inl h5)))))
  exact Or.inr (Or.inr (Or.inr (Or.inr (Or.inr (Or.inr (own_six h h0 h1 h2 h3 h4 h5))))))
def Q_rm15 (Z : State) (ao0 : Addr) (kc : ClassId) (p0 : Int32) (x0 x1 x2 x3 x4 x5 : Int32) (h0 : Heap) (n0 : Nat) (v : Option Value) (h : Heap) (L : List Loc) : Prop := v = some (.int (own_ix (List.take p0.toNatClampNeg [x0, x1, x2, x3, x4, x5]))) ∧ Fr n0 L ∧ h = h0
theorem rm15 (l : Launch) (Z : State) (a0 : Array Value) (hw : ∀ d ∈ tables_1, d.before a0 Z = true) (ws : List Jvm.Cond) (ao0 : Addr) (kc : ClassId) (p0 : Int32) (x0 x1 x2 x3 x4 x5 : Int32) (h0 : Heap) (n0 : Nat) (Z0 : n0 ≤ h0.size) (V_ao0 : Arv Z h0 ao0 kc .char (6 : Int32) [(.int x0), (.int x1), (.int x2), (.int x3), (.int x4), (.int x5)] (.int (0 : Int32))) (hp : ¬ p0 < 0 ∧ ¬ (6 : Int32) < p0) :
    MetFree l (⟨"com/example/triplewright/triplewright/IriIsAbsolutePinLaw", "firstColon", "([CI)I"⟩ : MethodName) (head1 (Jvm.Cond.code (⟨"com/example/triplewright/triplewright/IriIsAbsolutePinLaw", "firstColon", "([CI)I"⟩ : MethodName) method_4_code 2 (some .int) :: ws) ({ frames := 0, cells := 0, slots := 0, locals := 0 } : Room)) (fun a U => a = #[(.ref ao0), (.int p0)] ∧ Z.Warmed39 U.vm ∧ U.heap = h0) (fun _ _ _ _ _ => True) (fun _ U o U' => ∃ v L, o = .returned v ∧ Q_rm15 Z ao0 kc p0 x0 x1 x2 x3 x4 x5 h0 n0 v U'.heap L ∧ FrameEnd U o U' L ({ frames := 0, cells := 0, slots := 0, locals := 0 } : Room).cells ({ frames := 0, cells := 0, slots := 0, locals := 0 } : Room).slots) := by
  rcases own_sev hp with rfl | rfl | rfl | rfl | rfl | rfl | rfl
  · exact rm15_0 l Z a0 hw ws ao0 kc x0 x1 x2 x3 x4 x5 h0 n0 Z0 V_ao0
  · exact rm15_1 l Z a0 hw ws ao0 kc x0 x1 x2 x3 x4 x5 h0 n0 Z0 V_ao0
  · exact rm15_2 l Z a0 hw ws ao0 kc x0 x1 x2 x3 x4 x5 h0 n0 Z0 V_ao0
  · exact rm15_3 l Z a0 hw ws ao0 kc x0 x1 x2 x3 x4 x5 h0 n0 Z0 V_ao0
  · exact rm15_4 l Z a0 hw ws ao0 kc x0 x1 x2 x3 x4 x5 h0 n0 Z0 V_ao0
  · exact rm15_5 l Z a0 hw ws ao0 kc x0 x1 x2 x3 x4 x5 h0 n0 Z0 V_ao0
  · exact rm15_6 l Z a0 hw ws ao0 kc x0 x1 x2 x3 x4 x5 h0 n0 Z0 V_ao0
def own_ok (j a : Nat) (c : Int32) : Prop := if a = 0 then own_isL c else if a < j then own_sch c else if a = j then True else ((32 : Int32) < c ∧ ¬ own_fb c)
def own_abs (xs : List Int32) : Prop := ∃ j, own_ix xs = Int32.ofNat j ∧ 1 ≤ j ∧ j < xs.length ∧ ∀ a c, xs[a]? = some c → own_ok j a c
theorem own_ixgs : ∀ (xs : List Int32) (k : Nat), own_ixg k xs = -1 ∨ ∃ j, own_ixg k xs = Int32.ofNat (k + j) ∧ j < xs.length
  | [], k => Or.inl rfl
  | x :: r, k => by
    by_cases h : x = 58
    · exact Or.inr ⟨0, by simp only [own_ixg, if_pos h]; rfl, by simp⟩
    · rcases own_ixgs r (k + 1) with q | ⟨j, q1, q2⟩
      · exact Or.inl (by simp only [own_ixg, if_neg h]; exact q)
      · exact Or.inr ⟨j + 1, by simp only [own_ixg, if_neg h]; rw [q1]; congr 1; omega, by simp; omega⟩
theorem own_ixs (xs : List Int32) : own_ix xs = -1 ∨ ∃ j, own_ix xs = Int32.ofNat j ∧ j < xs.length := (own_ixgs xs 0).imp id fun ⟨j, h1, h2⟩ => ⟨j, by rw [own_ix, h1, Nat.zero_add], h2⟩
theorem own_oinj {a b : Nat} (ha : a ≤ 20) (hb : b ≤ 20) (h : Int32.ofNat a = Int32.ofNat b) : a = b := by
  have := congrArg Int32.toInt h
  rw [own_on a ha, own_on b hb] at this
  omega
theorem own_nabs {xs : List Int32} {j a : Nat} {c : Int32} (hlen : xs.length ≤ 6) (hix : own_ix xs = Int32.ofNat j) (hj : j < xs.length) (hx : xs[a]? = some c) (hn : ¬ own_ok j a c) : ¬ own_abs xs := by
  rintro ⟨i, h1, h2, h3, h4⟩
  have e : i = j := own_oinj (by omega) (by omega) (h1.symm.trans hix)
  subst e
  exact hn (h4 a c hx)
theorem own_nabs1 {xs : List Int32} (hlen : xs.length ≤ 6) (h : own_ix xs < 1) : ¬ own_abs xs := by
  rintro ⟨i, h1, h2, h3, h4⟩
  rw [h1] at h
  have := (own_olt (a := i) (b := 1) (by omega) (by omega)).mp h
  omega
theorem own_ok0 {j : Nat} {c : Int32} : own_ok j 0 c ↔ own_isL c := by simp [own_ok]
theorem own_ok1 {j a : Nat} {c : Int32} (h1 : 1 ≤ a) (h2 : a < j) : own_ok j a c ↔ own_sch c := by
  simp only [own_ok, if_neg (show ¬ a = 0 by omega), if_pos h2]
theorem own_ok2 {j a : Nat} {c : Int32} (h1 : 1 ≤ j) (h2 : j < a) : own_ok j a c ↔ ((32 : Int32) < c ∧ ¬ own_fb c) := by
  simp only [own_ok, if_neg (show ¬ a = 0 by omega), if_neg (show ¬ a < j by omega), if_neg (show ¬ a = j by omega)]
theorem own_okj {j : Nat} {c : Int32} (h1 : 1 ≤ j) : own_ok j j c := by
  simp only [own_ok, if_neg (show ¬ j = 0 by omega), if_neg (show ¬ j < j by omega), if_true]
theorem own_get {xs : List Int32} {a : Nat} (h : a < xs.length) : ∃ c, xs[a]? = some c := ⟨xs[a], List.getElem?_eq_getElem h⟩
theorem d5_87 : decode prog_36_method_3_code 87 = .ok (.iload_n 2, 1) := by decide +kernel
theorem d5_88 : decode prog_36_method_3_code 88 = .ok (.aload_n 0, 1) := by decide +kernel
theorem d5_89 : decode prog_36_method_3_code 89 = .ok (.invokevirtual 36, 3) := by decide +kernel
theorem d5_92 : decode prog_36_method_3_code 92 = .ok (.if_icmp .ge 32, 3) := by decide +kernel
theorem d5_124 : decode prog_36_method_3_code 124 = .ok (.iconst 1, 1) := by decide +kernel
theorem d5_125 : decode prog_36_method_3_code 125 = .ok (.ireturn, 1) := by decide +kernel
set_option maxRecDepth 65536 in
set_option maxHeartbeats 40000000 in
theorem seg2_6 {p : Program} {l : Launch} {e : Env} {s : State} {m : MethodId} {args : Array Value} {below : List Frame} {meth : Method} {c : Code} {Z : State} {a0 : Array Value} (hx : p.tables.exec = Jvm.exec) (hlk : meth.locks = false) (hret : meth.sig.returnType = some .boolean) (hw : ∀ d ∈ tables_1, d.before a0 Z = true) (hby : c.code = prog_36_method_3_code) (hml : c.maxLocals = 4) (hnm : meth.name = "isAbsolute") (ao0 : Addr) (xs : List Int32) (jj : Nat) (G1 : Int32) (sf : Value) (n0 : Nat) (hlen : xs.length ≤ 6) (hst : own_St Z G1 sf) (hix : own_ix xs = Int32.ofNat jj) (hj1_ : 1 ≤ jj) (hjl : jj < xs.length) (hjq : jj < 6) : ∀ (sl : Slot) (vm0 : Vm) (k0 : Nat) (h0 : Heap) (s₁ : State) (LL : List Loc) (_ : Stand p l e ({ frames := 7, cells := 8, slots := 160, locals := 103 } : Room) (s.setVm vm0) m args below meth c s₁ LL 8 160) (_ : s₁.heap = h0) (_ : Fr n0 LL) (_ : n0 ≤ h0.size) (_ : s.Since vm0 k0) (_ : k0 ≤ h0.size) (_ : Z.Warmed39 (s.setVm vm0).vm) (_ : (s.setVm vm0).vm.findClass "com/example/triplewright/triplewright/Term$Iri" = some m.cls) (_ : CHr Z own_EL s.vm s.heap vm0 h0) (_ : Old Z n0 h0) (_ : own_S Z h0 ao0 xs) (_ : ∀ a c, a < 6 → xs[a]? = some c → own_ok jj a c) (_ : sl = .unset ∨ ∃ z, sl = .val (.int z)),
    own_EndH Z own_EL p e below s (fun v h L => ∃ rr : Int32, v = some (.int rr) ∧ ((rr = 1 ∧ own_abs xs) ∨ (rr = 0 ∧ ¬ own_abs xs)) ∧ Fr n0 L ∧ Keep h0 h []) ({ frames := 7, cells := 8, slots := 160, locals := 103 } : Room).cells ({ frames := 7, cells := 8, slots := 160, locals := 103 } : Room).slots (s₁.setTop (mkF m 87 #[.val (.ref ao0), .val (.int (Int32.ofNat jj)), .val (.int 6), sl] [])) := by
  intro sl vm0 k0 h0 s₁ LL X0 e0 Nf Zs hS hk hZ hown hR Od S_ao0 inv hsl
  obtain ⟨S_COMPACT_STRINGS, hG, S__assertionsDisabled, S_HI_BYTE_SHIFT, S_LO_BYTE_SHIFT, S_SIOOBE_FORMATTER, r_sf, c_sf⟩ := id hst
  obtain ⟨_, _, E_ao0, -, hxs, -⟩ := id S_ao0
  have Kp : Keep h0 h0 [] := Keep.refl _ _
  refine own_goH (x' := s₁.setTop (mkF m 89 #[.val (.ref ao0), .val (.int (Int32.ofNat jj)), .val (.int 6), sl] [(.ref ao0), (.int 6)])) (fun _ k => XS.iloadN X0.here hx rfl (hb hby d5_87) rfl (XS.aloadN X0.here hx rfl (hb hby d5_88) rfl rfl k)) ?_
  obtain ⟨cq1, kq1, q1a, q1b, q1c⟩ := isOf hZ e0 E_ao0
  obtain ⟨_, _, ⟨T1, L1, k1, n1⟩, -, X1, ⟨Lc1, hQ1, l1, y1, z1⟩, st1⟩ := X0.virtualBack hx (y := (⟨"java/lang/String", "length", "()I"⟩ : MethodName)) (z := (⟨"java/lang/String", "length", "()I"⟩ : MethodName)) hown (mvT hZ (own_w hw 166 rfl)) (mvT hZ (own_w hw 48 rfl)) (notFace_of_selects (args := #[]) (mvT hZ (own_w hw 50 rfl))) (mvT hZ (own_w hw 50 rfl)) (mvT hZ (own_w hw 49 rfl)) (by decide) (backOf (W := 1) (rm9S l Z a0 hw [] ao0 xs G1 sf h0 n0 Zs S_ao0 hlen Od hst) hZ (own_w hw 51 rfl) (own_w hw 8 rfl) (by decide) (by decide)) q1a q1c (g := (mkF m 89 #[.val (.ref ao0), .val (.int (Int32.ofNat jj)), .val (.int 6), sl] [(.ref ao0), (.int 6)])) rfl (by rw [hml]; rfl) (Steps.refl _) (argsL := []) (rest := [(.int 6)]) (lenOf pd_10 rfl) rfl (by show 2 * 0 + _ ≤ _; exact Nat.le_of_eq rfl) (hb hby d5_89) (fun _ _ => ⟨rfl, e0, (by decide : 8 + 0 ≤ _), (by decide : 160 + 0 ≤ _)⟩)
  dsimp only [Pt.U, Pt.locs, Pt.cells, Pt.slots] at X1 l1 y1 z1 st1 hQ1
  subst l1 y1 z1
  obtain ⟨hv1, Nq1, eq1⟩ := hQ1
  subst hv1
  replace Nf := Fr.app Nf Nq1
  refine own_goH (x' := T1.setTop (mkF m 92 #[.val (.ref ao0), .val (.int (Int32.ofNat jj)), .val (.int 6), sl] [(.int (Int32.ofNat xs.length)), (.int 6)])) (fun _ k => st1.trans k) ?_
  refine own_goH (x' := T1.setTop (mkF m 125 #[.val (.ref ao0), .val (.int (Int32.ofNat jj)), .val (.int 6), sl] [(.int 1)])) (fun _ k => XS.icmpYes X1.here hx rfl (pc0 := 92) (pc' := 124) rfl (hb hby d5_92) rfl (flt (fun q_ => absurd ((own_olt (a := 6) (b := xs.length) (by omega) (by omega)).mp q_) (by omega))).2.1 (by decide) (by decide) (XS.iconst X1.here hx rfl (hb hby d5_124) k)) ?_
  refine own_retNH X1 hS (own_hk eq1 hk) (own_hr eq1 hR) hZ (own_EW hw) hx hlk (t := .boolean) hret (by simp) (hb hby d5_125) (w := (1 : Int32)) rfl ?_ (by decide) (by decide)
  rw [eq1]
  have hql : xs.length ≤ 6 := (by omega)
  exact ⟨1, rfl, Or.inl ⟨rfl, jj, hix, hj1_, hjl, fun a c ha => inv a c (Nat.lt_of_lt_of_le (List.getElem?_eq_some_iff.mp ha).1 hql) ha⟩, Nf, Kp⟩
theorem pd_23 : parseMethodDescriptor "(I)C" = some ⟨[.int], some .char⟩ := by decide +kernel
theorem d5_95 : decode prog_36_method_3_code 95 = .ok (.aload_n 0, 1) := by decide +kernel
theorem d5_96 : decode prog_36_method_3_code 96 = .ok (.iload_n 2, 1) := by decide +kernel
theorem d5_97 : decode prog_36_method_3_code 97 = .ok (.invokevirtual 28, 3) := by decide +kernel
theorem d5_100 : decode prog_36_method_3_code 100 = .ok (.istore_n 3, 1) := by decide +kernel
theorem d5_101 : decode prog_36_method_3_code 101 = .ok (.iload_n 3, 1) := by decide +kernel
theorem d5_102 : decode prog_36_method_3_code 102 = .ok (.bipush 32, 2) := by decide +kernel
theorem d5_104 : decode prog_36_method_3_code 104 = .ok (.if_icmp .le 12, 3) := by decide +kernel
theorem d5_107 : decode prog_36_method_3_code 107 = .ok (.ldc 40, 2) := by decide +kernel
theorem d5_109 : decode prog_36_method_3_code 109 = .ok (.iload_n 3, 1) := by decide +kernel
theorem d5_110 : decode prog_36_method_3_code 110 = .ok (.invokevirtual 22, 3) := by decide +kernel
theorem d5_113 : decode prog_36_method_3_code 113 = .ok (.ifCond .lt 5, 3) := by decide +kernel
theorem d5_116 : decode prog_36_method_3_code 116 = .ok (.iconst 0, 1) := by decide +kernel
theorem d5_117 : decode prog_36_method_3_code 117 = .ok (.ireturn, 1) := by decide +kernel
theorem d5_118 : decode prog_36_method_3_code 118 = .ok (.iinc 2 1, 3) := by decide +kernel
theorem d5_121 : decode prog_36_method_3_code 121 = .ok (.goto (-34), 3) := by decide +kernel
set_option maxRecDepth 65536 in
set_option maxHeartbeats 40000000 in
theorem seg2_5 {p : Program} {l : Launch} {e : Env} {s : State} {m : MethodId} {args : Array Value} {below : List Frame} {meth : Method} {c : Code} {Z : State} {a0 : Array Value} (hx : p.tables.exec = Jvm.exec) (hlk : meth.locks = false) (hret : meth.sig.returnType = some .boolean) (hw : ∀ d ∈ tables_1, d.before a0 Z = true) (hby : c.code = prog_36_method_3_code) (hml : c.maxLocals = 4) (hnm : meth.name = "isAbsolute") (ao0 : Addr) (xs : List Int32) (jj : Nat) (G1 : Int32) (sf : Value) (n0 : Nat) (hlen : xs.length ≤ 6) (hst : own_St Z G1 sf) (hix : own_ix xs = Int32.ofNat jj) (hj1_ : 1 ≤ jj) (hjl : jj < xs.length) (hjq : jj < 5) : ∀ (sl : Slot) (vm0 : Vm) (k0 : Nat) (h0 : Heap) (s₁ : State) (LL : List Loc) (_ : Stand p l e ({ frames := 7, cells := 8, slots := 160, locals := 103 } : Room) (s.setVm vm0) m args below meth c s₁ LL 6 120) (_ : s₁.heap = h0) (_ : Fr n0 LL) (_ : n0 ≤ h0.size) (_ : s.Since vm0 k0) (_ : k0 ≤ h0.size) (_ : Z.Warmed39 (s.setVm vm0).vm) (_ : (s.setVm vm0).vm.findClass "com/example/triplewright/triplewright/Term$Iri" = some m.cls) (_ : CHr Z own_EL s.vm s.heap vm0 h0) (_ : Old Z n0 h0) (_ : own_S Z h0 ao0 xs) (_ : ∀ a c, a < 5 → xs[a]? = some c → own_ok jj a c) (_ : sl = .unset ∨ ∃ z, sl = .val (.int z)),
    own_EndH Z own_EL p e below s (fun v h L => ∃ rr : Int32, v = some (.int rr) ∧ ((rr = 1 ∧ own_abs xs) ∨ (rr = 0 ∧ ¬ own_abs xs)) ∧ Fr n0 L ∧ Keep h0 h []) ({ frames := 7, cells := 8, slots := 160, locals := 103 } : Room).cells ({ frames := 7, cells := 8, slots := 160, locals := 103 } : Room).slots (s₁.setTop (mkF m 87 #[.val (.ref ao0), .val (.int (Int32.ofNat jj)), .val (.int 5), sl] [])) := by
  intro sl vm0 k0 h0 s₁ LL X0 e0 Nf Zs hS hk hZ hown hR Od S_ao0 inv hsl
  obtain ⟨S_COMPACT_STRINGS, hG, S__assertionsDisabled, S_HI_BYTE_SHIFT, S_LO_BYTE_SHIFT, S_SIOOBE_FORMATTER, r_sf, c_sf⟩ := id hst
  obtain ⟨_, _, E_ao0, -, hxs, -⟩ := id S_ao0
  have Kp : Keep h0 h0 [] := Keep.refl _ _
  refine own_goH (x' := s₁.setTop (mkF m 89 #[.val (.ref ao0), .val (.int (Int32.ofNat jj)), .val (.int 5), sl] [(.ref ao0), (.int 5)])) (fun _ k => XS.iloadN X0.here hx rfl (hb hby d5_87) rfl (XS.aloadN X0.here hx rfl (hb hby d5_88) rfl rfl k)) ?_
  obtain ⟨cq1, kq1, q1a, q1b, q1c⟩ := isOf hZ e0 E_ao0
  obtain ⟨_, _, ⟨T1, L1, k1, n1⟩, -, X1, ⟨Lc1, hQ1, l1, y1, z1⟩, st1⟩ := X0.virtualBack hx (y := (⟨"java/lang/String", "length", "()I"⟩ : MethodName)) (z := (⟨"java/lang/String", "length", "()I"⟩ : MethodName)) hown (mvT hZ (own_w hw 166 rfl)) (mvT hZ (own_w hw 48 rfl)) (notFace_of_selects (args := #[]) (mvT hZ (own_w hw 50 rfl))) (mvT hZ (own_w hw 50 rfl)) (mvT hZ (own_w hw 49 rfl)) (by decide) (backOf (W := 1) (rm9S l Z a0 hw [] ao0 xs G1 sf h0 n0 Zs S_ao0 hlen Od hst) hZ (own_w hw 51 rfl) (own_w hw 8 rfl) (by decide) (by decide)) q1a q1c (g := (mkF m 89 #[.val (.ref ao0), .val (.int (Int32.ofNat jj)), .val (.int 5), sl] [(.ref ao0), (.int 5)])) rfl (by rw [hml]; rfl) (Steps.refl _) (argsL := []) (rest := [(.int 5)]) (lenOf pd_10 rfl) rfl (by show 2 * 0 + _ ≤ _; exact Nat.le_of_eq rfl) (hb hby d5_89) (fun _ _ => ⟨rfl, e0, (by decide : 6 + 0 ≤ _), (by decide : 120 + 0 ≤ _)⟩)
  dsimp only [Pt.U, Pt.locs, Pt.cells, Pt.slots] at X1 l1 y1 z1 st1 hQ1
  subst l1 y1 z1
  obtain ⟨hv1, Nq1, eq1⟩ := hQ1
  subst hv1
  replace Nf := Fr.app Nf Nq1
  refine own_goH (x' := T1.setTop (mkF m 92 #[.val (.ref ao0), .val (.int (Int32.ofNat jj)), .val (.int 5), sl] [(.int (Int32.ofNat xs.length)), (.int 5)])) (fun _ k => st1.trans k) ?_
  by_cases hc92 : (5 : Int32) < (Int32.ofNat xs.length)
  · refine own_goH (x' := T1.setTop (mkF m 95 #[.val (.ref ao0), .val (.int (Int32.ofNat jj)), .val (.int 5), sl] [])) (fun _ k => XS.icmpNo X1.here hx rfl (hb hby d5_92) rfl (tlt hc92).2.1 k) ?_
    have hq1 : 5 < xs.length := (own_olt (a := 5) (b := xs.length) (by omega) (by omega)).mp hc92
    obtain ⟨x, hq2⟩ := own_get hq1
    have hp := hxs _ (own_mem hq2)
    refine own_goH (x' := T1.setTop (mkF m 97 #[.val (.ref ao0), .val (.int (Int32.ofNat jj)), .val (.int 5), sl] [(.int 5), (.ref ao0)])) (fun _ k => XS.aloadN X1.here hx rfl (hb hby d5_95) rfl rfl (XS.iloadN X1.here hx rfl (hb hby d5_96) rfl k)) ?_
    obtain ⟨cq2, kq2, q2a, q2b, q2c⟩ := isOf hZ eq1 E_ao0
    obtain ⟨_, _, ⟨T2, L2, k2, n2⟩, -, X2, ⟨Lc2, hQ2, l2, y2, z2⟩, st2⟩ := X1.virtualBack hx (y := (⟨"java/lang/String", "charAt", "(I)C"⟩ : MethodName)) (z := (⟨"java/lang/String", "charAt", "(I)C"⟩ : MethodName)) hown (mvT hZ (own_w hw 133 rfl)) (mvT hZ (own_w hw 134 rfl)) (notFace_of_selects (args := #[]) (mvT hZ (own_w hw 136 rfl))) (mvT hZ (own_w hw 136 rfl)) (mvT hZ (own_w hw 135 rfl)) (by decide) (backOf (W := 0) (rm32S l Z a0 hw [] ao0 xs 5 x G1 sf h0 n0 Zs S_ao0 hlen hq1 hq2 Od hst) hZ (own_w hw 137 rfl) (own_w hw 8 rfl) (by decide) (by decide)) q2a q2c (g := (mkF m 97 #[.val (.ref ao0), .val (.int (Int32.ofNat jj)), .val (.int 5), sl] [(.int 5), (.ref ao0)])) rfl (by rw [hml]; rfl) (Steps.refl _) (argsL := [(.int 5)]) (rest := []) (lenOf pd_23 rfl) rfl (by show 2 * 0 + _ ≤ _; exact Nat.le_of_eq rfl) (hb hby d5_97) (fun _ _ => ⟨rfl, eq1, (by decide : 6 + 0 ≤ _), (by decide : 120 + 0 ≤ _)⟩)
    dsimp only [Pt.U, Pt.locs, Pt.cells, Pt.slots] at X2 l2 y2 z2 st2 hQ2
    subst l2 y2 z2
    obtain ⟨hv2, Nq2, eq2⟩ := hQ2
    subst hv2
    replace Nf := Fr.app Nf Nq2
    refine own_goH (x' := T2.setTop (mkF m 100 #[.val (.ref ao0), .val (.int (Int32.ofNat jj)), .val (.int 5), sl] [(.int x)])) (fun _ k => st2.trans k) ?_
    refine own_goH (x' := T2.setTop (mkF m 101 #[.val (.ref ao0), .val (.int (Int32.ofNat jj)), .val (.int 5), .val (.int x)] [])) (fun t k => by rcases hsl with rfl | ⟨z0, rfl⟩ <;> exact XS.istoreN X2.here hx rfl (hb hby d5_100) rfl (l' := #[.val (.ref ao0), .val (.int (Int32.ofNat jj)), .val (.int 5), .val (.int x)]) rfl k) ?_
    refine own_goH (x' := T2.setTop (mkF m 104 #[.val (.ref ao0), .val (.int (Int32.ofNat jj)), .val (.int 5), .val (.int x)] [(.int 32), (.int x)])) (fun _ k => XS.iloadN X2.here hx rfl (hb hby d5_101) rfl (XS.bipush X2.here hx rfl (hb hby d5_102) k)) ?_
    by_cases hc104 : (32 : Int32) < x
    · refine own_goH (x' := T2.setTop (mkF m 107 #[.val (.ref ao0), .val (.int (Int32.ofNat jj)), .val (.int 5), .val (.int x)] [])) (fun _ k => XS.icmpNo X2.here hx rfl (hb hby d5_104) rfl (tlt hc104).2.2.2 k) ?_
      obtain ⟨c3, T3, h3, kk3, d3, kd3, X3, e3, E3, hS, hk', hZ, hown, E_c3, F_c3_coder, F_c3_value, V_d3, -, -, C3, -, sf3, st3⟩ := ldcCH X2 hx hZ hown (own_w hw 167 rfl) (own_wS hw) eq2 hS hk (own_EW hw) (by decide) hR.1 (vs := [.int 60, .int 62, .int 34, .int 123, .int 125, .int 124, .int 94, .int 96, .int 92]) (z := (9 : Int32)) ⟨by decide, by decide⟩ (by decide) (by decide) (g := (mkF m 107 #[.val (.ref ao0), .val (.int (Int32.ofNat jj)), .val (.int 5), .val (.int x)] [])) rfl (hb hby d5_107) (n := 36) (by decide) (by decide) (by decide) (by decide)
      replace hR := hR.trans C3
      replace Od := Od.ext E3
      replace E_ao0 := Exa.ext E3 E_ao0
      replace S_ao0 := own_S.ext S_ao0 E3
      replace Zs := Nat.le_trans Zs E3.1
      replace hk := Nat.le_trans hk E3.1
      replace Kp := Kp.ext E3
      replace hk := hk'
      refine own_goH (x' := T3.setTop (mkF m 109 #[.val (.ref ao0), .val (.int (Int32.ofNat jj)), .val (.int 5), .val (.int x)] [(.ref c3)])) st3 ?_
      refine own_goH (x' := T3.setTop (mkF m 110 #[.val (.ref ao0), .val (.int (Int32.ofNat jj)), .val (.int 5), .val (.int x)] [(.int x), (.ref c3)])) (fun _ k => XS.iloadN X3.here hx rfl (hb hby d5_109) rfl k) ?_
      obtain ⟨cq4, kq4, q4a, q4b, q4c⟩ := isOf hZ e3 E_c3
      obtain ⟨_, _, ⟨T4, L4, k4, n4⟩, -, X4, ⟨Lc4, hQ4, l4, y4, z4⟩, st4⟩ := X3.virtualBack hx (y := (⟨"java/lang/String", "indexOf", "(I)I"⟩ : MethodName)) (z := (⟨"java/lang/String", "indexOf", "(I)I"⟩ : MethodName)) hown (mvT hZ (own_w hw 31 rfl)) (mvT hZ (own_w hw 32 rfl)) (notFace_of_selects (args := #[]) (mvT hZ (own_w hw 34 rfl))) (mvT hZ (own_w hw 34 rfl)) (mvT hZ (own_w hw 33 rfl)) (by decide) (backOf (W := 0) (rm6f l Z a0 hw [] c3 d3 kd3 x G1 sf h3 n0 Zs E_c3 F_c3_coder F_c3_value V_d3 hp Od hst) hZ (own_w hw 35 rfl) (own_w hw 8 rfl) (by decide) (by decide)) q4a q4c (g := (mkF m 110 #[.val (.ref ao0), .val (.int (Int32.ofNat jj)), .val (.int 5), .val (.int x)] [(.int x), (.ref c3)])) rfl (by rw [hml]; rfl) (Steps.refl _) (argsL := [(.int x)]) (rest := []) (lenOf pd_14 rfl) rfl (by show 2 * 0 + _ ≤ _; exact Nat.le_of_eq rfl) (hb hby d5_110) (fun _ _ => ⟨rfl, e3, (by decide : 8 + 0 ≤ _), (by decide : 160 + 0 ≤ _)⟩)
      dsimp only [Pt.U, Pt.locs, Pt.cells, Pt.slots] at X4 l4 y4 z4 st4 hQ4
      subst l4 y4 z4
      obtain ⟨rr4, hv4, hf4, Nq4, eq4⟩ := hQ4
      subst hv4
      replace Nf := Fr.app Nf Nq4
      refine own_goH (x' := T4.setTop (mkF m 113 #[.val (.ref ao0), .val (.int (Int32.ofNat jj)), .val (.int 5), .val (.int x)] [(.int rr4)])) (fun _ k => st4.trans k) ?_
      by_cases hc113 : rr4 < (0 : Int32)
      · refine own_goH (x' := T4.setTop (mkF m 87 #[.val (.ref ao0), .val (.int (Int32.ofNat jj)), .val (.int ((5 : Int32) + (1 : Int32))), .val (.int x)] [])) (fun _ k => XS.ifYes X4.here hx rfl (pc0 := 113) (pc' := 118) rfl (hb hby d5_113) rfl ((if0 _ _).trans (tlt hc113).1) (by decide) (by decide) (XS.iinc X4.here hx rfl (hb hby d5_118) rfl (l' := #[.val (.ref ao0), .val (.int (Int32.ofNat jj)), .val (.int ((5 : Int32) + (1 : Int32))), .val (.int x)]) rfl (XS.goto X4.here hx rfl (pc0 := 121) (pc' := 87) rfl (hb hby d5_121) (by decide) (by decide) k))) ?_
        rw [show ((5 : Int32) + (1 : Int32)) = (6 : Int32) from by decide +kernel]
        have inv' : ∀ a c, a < 6 → xs[a]? = some c → own_ok jj a c := fun a c ha hc => by
          by_cases e_ : a < 5
          · exact inv a c e_ hc
          · obtain rfl : a = 5 := by omega
            rw [hq2] at hc
            obtain rfl := Option.some.inj hc
            exact (own_ok2 hj1_ hjq).mpr ⟨hc104, fun z => hf4.elim (fun u => u.2 z) (fun u => u.1 hc113)⟩
        exact own_monoH (fun v h L u => by obtain ⟨rr, u1, u2, u3, u4⟩ := u; exact ⟨rr, u1, u2, u3, Kp.trans u4 all0⟩) (seg2_6 hx hlk hret hw hby hml hnm ao0 xs jj G1 sf n0 hlen hst hix hj1_ hjl (by omega) _ _ _ _ _ _ X4 eq4 Nf Zs hS hk hZ hown hR Od S_ao0 inv' (Or.inr ⟨x, rfl⟩))
      · refine own_goH (x' := T4.setTop (mkF m 117 #[.val (.ref ao0), .val (.int (Int32.ofNat jj)), .val (.int 5), .val (.int x)] [(.int 0)])) (fun _ k => XS.ifNo X4.here hx rfl (hb hby d5_113) rfl ((if0 _ _).trans (flt hc113).1) (XS.iconst X4.here hx rfl (hb hby d5_116) k)) ?_
        refine own_retNH X4 hS (own_hk eq4 hk) (own_hr eq4 hR) hZ (own_EW hw) hx hlk (t := .boolean) hret (by simp) (hb hby d5_117) (w := (0 : Int32)) rfl ?_ (by decide) (by decide)
        rw [eq4]
        exact ⟨0, rfl, Or.inr ⟨rfl, own_nabs hlen hix hjl hq2 (fun u => ((own_ok2 hj1_ hjq).mp u).2 (hf4.elim (fun z => absurd z.1 hc113) (fun z => z.2)))⟩, Nf, Kp⟩
    · refine own_goH (x' := T2.setTop (mkF m 117 #[.val (.ref ao0), .val (.int (Int32.ofNat jj)), .val (.int 5), .val (.int x)] [(.int 0)])) (fun _ k => XS.icmpYes X2.here hx rfl (pc0 := 104) (pc' := 116) rfl (hb hby d5_104) rfl (flt hc104).2.2.2 (by decide) (by decide) (XS.iconst X2.here hx rfl (hb hby d5_116) k)) ?_
      refine own_retNH X2 hS (own_hk eq2 hk) (own_hr eq2 hR) hZ (own_EW hw) hx hlk (t := .boolean) hret (by simp) (hb hby d5_117) (w := (0 : Int32)) rfl ?_ (by decide) (by decide)
      rw [eq2]
      exact ⟨0, rfl, Or.inr ⟨rfl, own_nabs hlen hix hjl hq2 (fun u => hc104 ((own_ok2 hj1_ hjq).mp u).1)⟩, Nf, Kp⟩
  · refine own_goH (x' := T1.setTop (mkF m 125 #[.val (.ref ao0), .val (.int (Int32.ofNat jj)), .val (.int 5), sl] [(.int 1)])) (fun _ k => XS.icmpYes X1.here hx rfl (pc0 := 92) (pc' := 124) rfl (hb hby d5_92) rfl (flt hc92).2.1 (by decide) (by decide) (XS.iconst X1.here hx rfl (hb hby d5_124) k)) ?_
    refine own_retNH X1 hS (own_hk eq1 hk) (own_hr eq1 hR) hZ (own_EW hw) hx hlk (t := .boolean) hret (by simp) (hb hby d5_125) (w := (1 : Int32)) rfl ?_ (by decide) (by decide)
    rw [eq1]
    have hql : xs.length ≤ 5 := (Nat.le_of_not_lt fun q_ => hc92 ((own_olt (a := 5) (b := xs.length) (by omega) (by omega)).mpr q_))
    exact ⟨1, rfl, Or.inl ⟨rfl, jj, hix, hj1_, hjl, fun a c ha => inv a c (Nat.lt_of_lt_of_le (List.getElem?_eq_some_iff.mp ha).1 hql) ha⟩, Nf, Kp⟩
set_option maxRecDepth 65536 in
set_option maxHeartbeats 40000000 in
theorem seg2_4 {p : Program} {l : Launch} {e : Env} {s : State} {m : MethodId} {args : Array Value} {below : List Frame} {meth : Method} {c : Code} {Z : State} {a0 : Array Value} (hx : p.tables.exec = Jvm.exec) (hlk : meth.locks = false) (hret : meth.sig.returnType = some .boolean) (hw : ∀ d ∈ tables_1, d.before a0 Z = true) (hby : c.code = prog_36_method_3_code) (hml : c.maxLocals = 4) (hnm : meth.name = "isAbsolute") (ao0 : Addr) (xs : List Int32) (jj : Nat) (G1 : Int32) (sf : Value) (n0 : Nat) (hlen : xs.length ≤ 6) (hst : own_St Z G1 sf) (hix : own_ix xs = Int32.ofNat jj) (hj1_ : 1 ≤ jj) (hjl : jj < xs.length) (hjq : jj < 4) : ∀ (sl : Slot) (vm0 : Vm) (k0 : Nat) (h0 : Heap) (s₁ : State) (LL : List Loc) (_ : Stand p l e ({ frames := 7, cells := 8, slots := 160, locals := 103 } : Room) (s.setVm vm0) m args below meth c s₁ LL 4 80) (_ : s₁.heap = h0) (_ : Fr n0 LL) (_ : n0 ≤ h0.size) (_ : s.Since vm0 k0) (_ : k0 ≤ h0.size) (_ : Z.Warmed39 (s.setVm vm0).vm) (_ : (s.setVm vm0).vm.findClass "com/example/triplewright/triplewright/Term$Iri" = some m.cls) (_ : CHr Z own_EL s.vm s.heap vm0 h0) (_ : Old Z n0 h0) (_ : own_S Z h0 ao0 xs) (_ : ∀ a c, a < 4 → xs[a]? = some c → own_ok jj a c) (_ : sl = .unset ∨ ∃ z, sl = .val (.int z)),
    own_EndH Z own_EL p e below s (fun v h L => ∃ rr : Int32, v = some (.int rr) ∧ ((rr = 1 ∧ own_abs xs) ∨ (rr = 0 ∧ ¬ own_abs xs)) ∧ Fr n0 L ∧ Keep h0 h []) ({ frames := 7, cells := 8, slots := 160, locals := 103 } : Room).cells ({ frames := 7, cells := 8, slots := 160, locals := 103 } : Room).slots (s₁.setTop (mkF m 87 #[.val (.ref ao0), .val (.int (Int32.ofNat jj)), .val (.int 4), sl] [])) := by
  intro sl vm0 k0 h0 s₁ LL X0 e0 Nf Zs hS hk hZ hown hR Od S_ao0 inv hsl
  obtain ⟨S_COMPACT_STRINGS, hG, S__assertionsDisabled, S_HI_BYTE_SHIFT, S_LO_BYTE_SHIFT, S_SIOOBE_FORMATTER, r_sf, c_sf⟩ := id hst
  obtain ⟨_, _, E_ao0, -, hxs, -⟩ := id S_ao0
  have Kp : Keep h0 h0 [] := Keep.refl _ _
  refine own_goH (x' := s₁.setTop (mkF m 89 #[.val (.ref ao0), .val (.int (Int32.ofNat jj)), .val (.int 4), sl] [(.ref ao0), (.int 4)])) (fun _ k => XS.iloadN X0.here hx rfl (hb hby d5_87) rfl (XS.aloadN X0.here hx rfl (hb hby d5_88) rfl rfl k)) ?_
  obtain ⟨cq1, kq1, q1a, q1b, q1c⟩ := isOf hZ e0 E_ao0
  obtain ⟨_, _, ⟨T1, L1, k1, n1⟩, -, X1, ⟨Lc1, hQ1, l1, y1, z1⟩, st1⟩ := X0.virtualBack hx (y := (⟨"java/lang/String", "length", "()I"⟩ : MethodName)) (z := (⟨"java/lang/String", "length", "()I"⟩ : MethodName)) hown (mvT hZ (own_w hw 166 rfl)) (mvT hZ (own_w hw 48 rfl)) (notFace_of_selects (args := #[]) (mvT hZ (own_w hw 50 rfl))) (mvT hZ (own_w hw 50 rfl)) (mvT hZ (own_w hw 49 rfl)) (by decide) (backOf (W := 1) (rm9S l Z a0 hw [] ao0 xs G1 sf h0 n0 Zs S_ao0 hlen Od hst) hZ (own_w hw 51 rfl) (own_w hw 8 rfl) (by decide) (by decide)) q1a q1c (g := (mkF m 89 #[.val (.ref ao0), .val (.int (Int32.ofNat jj)), .val (.int 4), sl] [(.ref ao0), (.int 4)])) rfl (by rw [hml]; rfl) (Steps.refl _) (argsL := []) (rest := [(.int 4)]) (lenOf pd_10 rfl) rfl (by show 2 * 0 + _ ≤ _; exact Nat.le_of_eq rfl) (hb hby d5_89) (fun _ _ => ⟨rfl, e0, (by decide : 4 + 0 ≤ _), (by decide : 80 + 0 ≤ _)⟩)
  dsimp only [Pt.U, Pt.locs, Pt.cells, Pt.slots] at X1 l1 y1 z1 st1 hQ1
  subst l1 y1 z1
  obtain ⟨hv1, Nq1, eq1⟩ := hQ1
  subst hv1
  replace Nf := Fr.app Nf Nq1
  refine own_goH (x' := T1.setTop (mkF m 92 #[.val (.ref ao0), .val (.int (Int32.ofNat jj)), .val (.int 4), sl] [(.int (Int32.ofNat xs.length)), (.int 4)])) (fun _ k => st1.trans k) ?_
  by_cases hc92 : (4 : Int32) < (Int32.ofNat xs.length)
  · refine own_goH (x' := T1.setTop (mkF m 95 #[.val (.ref ao0), .val (.int (Int32.ofNat jj)), .val (.int 4), sl] [])) (fun _ k => XS.icmpNo X1.here hx rfl (hb hby d5_92) rfl (tlt hc92).2.1 k) ?_
    have hq1 : 4 < xs.length := (own_olt (a := 4) (b := xs.length) (by omega) (by omega)).mp hc92
    obtain ⟨x, hq2⟩ := own_get hq1
    have hp := hxs _ (own_mem hq2)
    refine own_goH (x' := T1.setTop (mkF m 97 #[.val (.ref ao0), .val (.int (Int32.ofNat jj)), .val (.int 4), sl] [(.int 4), (.ref ao0)])) (fun _ k => XS.aloadN X1.here hx rfl (hb hby d5_95) rfl rfl (XS.iloadN X1.here hx rfl (hb hby d5_96) rfl k)) ?_
    obtain ⟨cq2, kq2, q2a, q2b, q2c⟩ := isOf hZ eq1 E_ao0
    obtain ⟨_, _, ⟨T2, L2, k2, n2⟩, -, X2, ⟨Lc2, hQ2, l2, y2, z2⟩, st2⟩ := X1.virtualBack hx (y := (⟨"java/lang/String", "charAt", "(I)C"⟩ : MethodName)) (z := (⟨"java/lang/String", "charAt", "(I)C"⟩ : MethodName)) hown (mvT hZ (own_w hw 133 rfl)) (mvT hZ (own_w hw 134 rfl)) (notFace_of_selects (args := #[]) (mvT hZ (own_w hw 136 rfl))) (mvT hZ (own_w hw 136 rfl)) (mvT hZ (own_w hw 135 rfl)) (by decide) (backOf (W := 0) (rm32S l Z a0 hw [] ao0 xs 4 x G1 sf h0 n0 Zs S_ao0 hlen hq1 hq2 Od hst) hZ (own_w hw 137 rfl) (own_w hw 8 rfl) (by decide) (by decide)) q2a q2c (g := (mkF m 97 #[.val (.ref ao0), .val (.int (Int32.ofNat jj)), .val (.int 4), sl] [(.int 4), (.ref ao0)])) rfl (by rw [hml]; rfl) (Steps.refl _) (argsL := [(.int 4)]) (rest := []) (lenOf pd_23 rfl) rfl (by show 2 * 0 + _ ≤ _; exact Nat.le_of_eq rfl) (hb hby d5_97) (fun _ _ => ⟨rfl, eq1, (by decide : 4 + 0 ≤ _), (by decide : 80 + 0 ≤ _)⟩)
    dsimp only [Pt.U, Pt.locs, Pt.cells, Pt.slots] at X2 l2 y2 z2 st2 hQ2
    subst l2 y2 z2
    obtain ⟨hv2, Nq2, eq2⟩ := hQ2
    subst hv2
    replace Nf := Fr.app Nf Nq2
    refine own_goH (x' := T2.setTop (mkF m 100 #[.val (.ref ao0), .val (.int (Int32.ofNat jj)), .val (.int 4), sl] [(.int x)])) (fun _ k => st2.trans k) ?_
    refine own_goH (x' := T2.setTop (mkF m 101 #[.val (.ref ao0), .val (.int (Int32.ofNat jj)), .val (.int 4), .val (.int x)] [])) (fun t k => by rcases hsl with rfl | ⟨z0, rfl⟩ <;> exact XS.istoreN X2.here hx rfl (hb hby d5_100) rfl (l' := #[.val (.ref ao0), .val (.int (Int32.ofNat jj)), .val (.int 4), .val (.int x)]) rfl k) ?_
    refine own_goH (x' := T2.setTop (mkF m 104 #[.val (.ref ao0), .val (.int (Int32.ofNat jj)), .val (.int 4), .val (.int x)] [(.int 32), (.int x)])) (fun _ k => XS.iloadN X2.here hx rfl (hb hby d5_101) rfl (XS.bipush X2.here hx rfl (hb hby d5_102) k)) ?_
    by_cases hc104 : (32 : Int32) < x
    · refine own_goH (x' := T2.setTop (mkF m 107 #[.val (.ref ao0), .val (.int (Int32.ofNat jj)), .val (.int 4), .val (.int x)] [])) (fun _ k => XS.icmpNo X2.here hx rfl (hb hby d5_104) rfl (tlt hc104).2.2.2 k) ?_
      obtain ⟨c3, T3, h3, kk3, d3, kd3, X3, e3, E3, hS, hk', hZ, hown, E_c3, F_c3_coder, F_c3_value, V_d3, -, -, C3, -, sf3, st3⟩ := ldcCH X2 hx hZ hown (own_w hw 167 rfl) (own_wS hw) eq2 hS hk (own_EW hw) (by decide) hR.1 (vs := [.int 60, .int 62, .int 34, .int 123, .int 125, .int 124, .int 94, .int 96, .int 92]) (z := (9 : Int32)) ⟨by decide, by decide⟩ (by decide) (by decide) (g := (mkF m 107 #[.val (.ref ao0), .val (.int (Int32.ofNat jj)), .val (.int 4), .val (.int x)] [])) rfl (hb hby d5_107) (n := 36) (by decide) (by decide) (by decide) (by decide)
      replace hR := hR.trans C3
      replace Od := Od.ext E3
      replace E_ao0 := Exa.ext E3 E_ao0
      replace S_ao0 := own_S.ext S_ao0 E3
      replace Zs := Nat.le_trans Zs E3.1
      replace hk := Nat.le_trans hk E3.1
      replace Kp := Kp.ext E3
      replace hk := hk'
      refine own_goH (x' := T3.setTop (mkF m 109 #[.val (.ref ao0), .val (.int (Int32.ofNat jj)), .val (.int 4), .val (.int x)] [(.ref c3)])) st3 ?_
      refine own_goH (x' := T3.setTop (mkF m 110 #[.val (.ref ao0), .val (.int (Int32.ofNat jj)), .val (.int 4), .val (.int x)] [(.int x), (.ref c3)])) (fun _ k => XS.iloadN X3.here hx rfl (hb hby d5_109) rfl k) ?_
      obtain ⟨cq4, kq4, q4a, q4b, q4c⟩ := isOf hZ e3 E_c3
      obtain ⟨_, _, ⟨T4, L4, k4, n4⟩, -, X4, ⟨Lc4, hQ4, l4, y4, z4⟩, st4⟩ := X3.virtualBack hx (y := (⟨"java/lang/String", "indexOf", "(I)I"⟩ : MethodName)) (z := (⟨"java/lang/String", "indexOf", "(I)I"⟩ : MethodName)) hown (mvT hZ (own_w hw 31 rfl)) (mvT hZ (own_w hw 32 rfl)) (notFace_of_selects (args := #[]) (mvT hZ (own_w hw 34 rfl))) (mvT hZ (own_w hw 34 rfl)) (mvT hZ (own_w hw 33 rfl)) (by decide) (backOf (W := 0) (rm6f l Z a0 hw [] c3 d3 kd3 x G1 sf h3 n0 Zs E_c3 F_c3_coder F_c3_value V_d3 hp Od hst) hZ (own_w hw 35 rfl) (own_w hw 8 rfl) (by decide) (by decide)) q4a q4c (g := (mkF m 110 #[.val (.ref ao0), .val (.int (Int32.ofNat jj)), .val (.int 4), .val (.int x)] [(.int x), (.ref c3)])) rfl (by rw [hml]; rfl) (Steps.refl _) (argsL := [(.int x)]) (rest := []) (lenOf pd_14 rfl) rfl (by show 2 * 0 + _ ≤ _; exact Nat.le_of_eq rfl) (hb hby d5_110) (fun _ _ => ⟨rfl, e3, (by decide : 6 + 0 ≤ _), (by decide : 120 + 0 ≤ _)⟩)
      dsimp only [Pt.U, Pt.locs, Pt.cells, Pt.slots] at X4 l4 y4 z4 st4 hQ4
      subst l4 y4 z4
      obtain ⟨rr4, hv4, hf4, Nq4, eq4⟩ := hQ4
      subst hv4
      replace Nf := Fr.app Nf Nq4
      refine own_goH (x' := T4.setTop (mkF m 113 #[.val (.ref ao0), .val (.int (Int32.ofNat jj)), .val (.int 4), .val (.int x)] [(.int rr4)])) (fun _ k => st4.trans k) ?_
      by_cases hc113 : rr4 < (0 : Int32)
      · refine own_goH (x' := T4.setTop (mkF m 87 #[.val (.ref ao0), .val (.int (Int32.ofNat jj)), .val (.int ((4 : Int32) + (1 : Int32))), .val (.int x)] [])) (fun _ k => XS.ifYes X4.here hx rfl (pc0 := 113) (pc' := 118) rfl (hb hby d5_113) rfl ((if0 _ _).trans (tlt hc113).1) (by decide) (by decide) (XS.iinc X4.here hx rfl (hb hby d5_118) rfl (l' := #[.val (.ref ao0), .val (.int (Int32.ofNat jj)), .val (.int ((4 : Int32) + (1 : Int32))), .val (.int x)]) rfl (XS.goto X4.here hx rfl (pc0 := 121) (pc' := 87) rfl (hb hby d5_121) (by decide) (by decide) k))) ?_
        rw [show ((4 : Int32) + (1 : Int32)) = (5 : Int32) from by decide +kernel]
        have inv' : ∀ a c, a < 5 → xs[a]? = some c → own_ok jj a c := fun a c ha hc => by
          by_cases e_ : a < 4
          · exact inv a c e_ hc
          · obtain rfl : a = 4 := by omega
            rw [hq2] at hc
            obtain rfl := Option.some.inj hc
            exact (own_ok2 hj1_ hjq).mpr ⟨hc104, fun z => hf4.elim (fun u => u.2 z) (fun u => u.1 hc113)⟩
        exact own_monoH (fun v h L u => by obtain ⟨rr, u1, u2, u3, u4⟩ := u; exact ⟨rr, u1, u2, u3, Kp.trans u4 all0⟩) (seg2_5 hx hlk hret hw hby hml hnm ao0 xs jj G1 sf n0 hlen hst hix hj1_ hjl (by omega) _ _ _ _ _ _ X4 eq4 Nf Zs hS hk hZ hown hR Od S_ao0 inv' (Or.inr ⟨x, rfl⟩))
      · refine own_goH (x' := T4.setTop (mkF m 117 #[.val (.ref ao0), .val (.int (Int32.ofNat jj)), .val (.int 4), .val (.int x)] [(.int 0)])) (fun _ k => XS.ifNo X4.here hx rfl (hb hby d5_113) rfl ((if0 _ _).trans (flt hc113).1) (XS.iconst X4.here hx rfl (hb hby d5_116) k)) ?_
        refine own_retNH X4 hS (own_hk eq4 hk) (own_hr eq4 hR) hZ (own_EW hw) hx hlk (t := .boolean) hret (by simp) (hb hby d5_117) (w := (0 : Int32)) rfl ?_ (by decide) (by decide)
        rw [eq4]
        exact ⟨0, rfl, Or.inr ⟨rfl, own_nabs hlen hix hjl hq2 (fun u => ((own_ok2 hj1_ hjq).mp u).2 (hf4.elim (fun z => absurd z.1 hc113) (fun z => z.2)))⟩, Nf, Kp⟩
    · refine own_goH (x' := T2.setTop (mkF m 117 #[.val (.ref ao0), .val (.int (Int32.ofNat jj)), .val (.int 4), .val (.int x)] [(.int 0)])) (fun _ k => XS.icmpYes X2.here hx rfl (pc0 := 104) (pc' := 116) rfl (hb hby d5_104) rfl (flt hc104).2.2.2 (by decide) (by decide) (XS.iconst X2.here hx rfl (hb hby d5_116) k)) ?_
      refine own_retNH X2 hS (own_hk eq2 hk) (own_hr eq2 hR) hZ (own_EW hw) hx hlk (t := .boolean) hret (by simp) (hb hby d5_117) (w := (0 : Int32)) rfl ?_ (by decide) (by decide)
      rw [eq2]
      exact ⟨0, rfl, Or.inr ⟨rfl, own_nabs hlen hix hjl hq2 (fun u => hc104 ((own_ok2 hj1_ hjq).mp u).1)⟩, Nf, Kp⟩
  · refine own_goH (x' := T1.setTop (mkF m 125 #[.val (.ref ao0), .val (.int (Int32.ofNat jj)), .val (.int 4), sl] [(.int 1)])) (fun _ k => XS.icmpYes X1.here hx rfl (pc0 := 92) (pc' := 124) rfl (hb hby d5_92) rfl (flt hc92).2.1 (by decide) (by decide) (XS.iconst X1.here hx rfl (hb hby d5_124) k)) ?_
    refine own_retNH X1 hS (own_hk eq1 hk) (own_hr eq1 hR) hZ (own_EW hw) hx hlk (t := .boolean) hret (by simp) (hb hby d5_125) (w := (1 : Int32)) rfl ?_ (by decide) (by decide)
    rw [eq1]
    have hql : xs.length ≤ 4 := (Nat.le_of_not_lt fun q_ => hc92 ((own_olt (a := 4) (b := xs.length) (by omega) (by omega)).mpr q_))
    exact ⟨1, rfl, Or.inl ⟨rfl, jj, hix, hj1_, hjl, fun a c ha => inv a c (Nat.lt_of_lt_of_le (List.getElem?_eq_some_iff.mp ha).1 hql) ha⟩, Nf, Kp⟩
set_option maxRecDepth 65536 in
set_option maxHeartbeats 40000000 in
theorem seg2_3 {p : Program} {l : Launch} {e : Env} {s : State} {m : MethodId} {args : Array Value} {below : List Frame} {meth : Method} {c : Code} {Z : State} {a0 : Array Value} (hx : p.tables.exec = Jvm.exec) (hlk : meth.locks = false) (hret : meth.sig.returnType = some .boolean) (hw : ∀ d ∈ tables_1, d.before a0 Z = true) (hby : c.code = prog_36_method_3_code) (hml : c.maxLocals = 4) (hnm : meth.name = "isAbsolute") (ao0 : Addr) (xs : List Int32) (jj : Nat) (G1 : Int32) (sf : Value) (n0 : Nat) (hlen : xs.length ≤ 6) (hst : own_St Z G1 sf) (hix : own_ix xs = Int32.ofNat jj) (hj1_ : 1 ≤ jj) (hjl : jj < xs.length) (hjq : jj < 3) : ∀ (sl : Slot) (vm0 : Vm) (k0 : Nat) (h0 : Heap) (s₁ : State) (LL : List Loc) (_ : Stand p l e ({ frames := 7, cells := 8, slots := 160, locals := 103 } : Room) (s.setVm vm0) m args below meth c s₁ LL 2 40) (_ : s₁.heap = h0) (_ : Fr n0 LL) (_ : n0 ≤ h0.size) (_ : s.Since vm0 k0) (_ : k0 ≤ h0.size) (_ : Z.Warmed39 (s.setVm vm0).vm) (_ : (s.setVm vm0).vm.findClass "com/example/triplewright/triplewright/Term$Iri" = some m.cls) (_ : CHr Z own_EL s.vm s.heap vm0 h0) (_ : Old Z n0 h0) (_ : own_S Z h0 ao0 xs) (_ : ∀ a c, a < 3 → xs[a]? = some c → own_ok jj a c) (_ : sl = .unset ∨ ∃ z, sl = .val (.int z)),
    own_EndH Z own_EL p e below s (fun v h L => ∃ rr : Int32, v = some (.int rr) ∧ ((rr = 1 ∧ own_abs xs) ∨ (rr = 0 ∧ ¬ own_abs xs)) ∧ Fr n0 L ∧ Keep h0 h []) ({ frames := 7, cells := 8, slots := 160, locals := 103 } : Room).cells ({ frames := 7, cells := 8, slots := 160, locals := 103 } : Room).slots (s₁.setTop (mkF m 87 #[.val (.ref ao0), .val (.int (Int32.ofNat jj)), .val (.int 3), sl] [])) := by
  intro sl vm0 k0 h0 s₁ LL X0 e0 Nf Zs hS hk hZ hown hR Od S_ao0 inv hsl
  obtain ⟨S_COMPACT_STRINGS, hG, S__assertionsDisabled, S_HI_BYTE_SHIFT, S_LO_BYTE_SHIFT, S_SIOOBE_FORMATTER, r_sf, c_sf⟩ := id hst
  obtain ⟨_, _, E_ao0, -, hxs, -⟩ := id S_ao0
  have Kp : Keep h0 h0 [] := Keep.refl _ _
  refine own_goH (x' := s₁.setTop (mkF m 89 #[.val (.ref ao0), .val (.int (Int32.ofNat jj)), .val (.int 3), sl] [(.ref ao0), (.int 3)])) (fun _ k => XS.iloadN X0.here hx rfl (hb hby d5_87) rfl (XS.aloadN X0.here hx rfl (hb hby d5_88) rfl rfl k)) ?_
  obtain ⟨cq1, kq1, q1a, q1b, q1c⟩ := isOf hZ e0 E_ao0
  obtain ⟨_, _, ⟨T1, L1, k1, n1⟩, -, X1, ⟨Lc1, hQ1, l1, y1, z1⟩, st1⟩ := X0.virtualBack hx (y := (⟨"java/lang/String", "length", "()I"⟩ : MethodName)) (z := (⟨"java/lang/String", "length", "()I"⟩ : MethodName)) hown (mvT hZ (own_w hw 166 rfl)) (mvT hZ (own_w hw 48 rfl)) (notFace_of_selects (args := #[]) (mvT hZ (own_w hw 50 rfl))) (mvT hZ (own_w hw 50 rfl)) (mvT hZ (own_w hw 49 rfl)) (by decide) (backOf (W := 1) (rm9S l Z a0 hw [] ao0 xs G1 sf h0 n0 Zs S_ao0 hlen Od hst) hZ (own_w hw 51 rfl) (own_w hw 8 rfl) (by decide) (by decide)) q1a q1c (g := (mkF m 89 #[.val (.ref ao0), .val (.int (Int32.ofNat jj)), .val (.int 3), sl] [(.ref ao0), (.int 3)])) rfl (by rw [hml]; rfl) (Steps.refl _) (argsL := []) (rest := [(.int 3)]) (lenOf pd_10 rfl) rfl (by show 2 * 0 + _ ≤ _; exact Nat.le_of_eq rfl) (hb hby d5_89) (fun _ _ => ⟨rfl, e0, (by decide : 2 + 0 ≤ _), (by decide : 40 + 0 ≤ _)⟩)
  dsimp only [Pt.U, Pt.locs, Pt.cells, Pt.slots] at X1 l1 y1 z1 st1 hQ1
  subst l1 y1 z1
  obtain ⟨hv1, Nq1, eq1⟩ := hQ1
  subst hv1
  replace Nf := Fr.app Nf Nq1
  refine own_goH (x' := T1.setTop (mkF m 92 #[.val (.ref ao0), .val (.int (Int32.ofNat jj)), .val (.int 3), sl] [(.int (Int32.ofNat xs.length)), (.int 3)])) (fun _ k => st1.trans k) ?_
  by_cases hc92 : (3 : Int32) < (Int32.ofNat xs.length)
  · refine own_goH (x' := T1.setTop (mkF m 95 #[.val (.ref ao0), .val (.int (Int32.ofNat jj)), .val (.int 3), sl] [])) (fun _ k => XS.icmpNo X1.here hx rfl (hb hby d5_92) rfl (tlt hc92).2.1 k) ?_
    have hq1 : 3 < xs.length := (own_olt (a := 3) (b := xs.length) (by omega) (by omega)).mp hc92
    obtain ⟨x, hq2⟩ := own_get hq1
    have hp := hxs _ (own_mem hq2)
    refine own_goH (x' := T1.setTop (mkF m 97 #[.val (.ref ao0), .val (.int (Int32.ofNat jj)), .val (.int 3), sl] [(.int 3), (.ref ao0)])) (fun _ k => XS.aloadN X1.here hx rfl (hb hby d5_95) rfl rfl (XS.iloadN X1.here hx rfl (hb hby d5_96) rfl k)) ?_
    obtain ⟨cq2, kq2, q2a, q2b, q2c⟩ := isOf hZ eq1 E_ao0
    obtain ⟨_, _, ⟨T2, L2, k2, n2⟩, -, X2, ⟨Lc2, hQ2, l2, y2, z2⟩, st2⟩ := X1.virtualBack hx (y := (⟨"java/lang/String", "charAt", "(I)C"⟩ : MethodName)) (z := (⟨"java/lang/String", "charAt", "(I)C"⟩ : MethodName)) hown (mvT hZ (own_w hw 133 rfl)) (mvT hZ (own_w hw 134 rfl)) (notFace_of_selects (args := #[]) (mvT hZ (own_w hw 136 rfl))) (mvT hZ (own_w hw 136 rfl)) (mvT hZ (own_w hw 135 rfl)) (by decide) (backOf (W := 0) (rm32S l Z a0 hw [] ao0 xs 3 x G1 sf h0 n0 Zs S_ao0 hlen hq1 hq2 Od hst) hZ (own_w hw 137 rfl) (own_w hw 8 rfl) (by decide) (by decide)) q2a q2c (g := (mkF m 97 #[.val (.ref ao0), .val (.int (Int32.ofNat jj)), .val (.int 3), sl] [(.int 3), (.ref ao0)])) rfl (by rw [hml]; rfl) (Steps.refl _) (argsL := [(.int 3)]) (rest := []) (lenOf pd_23 rfl) rfl (by show 2 * 0 + _ ≤ _; exact Nat.le_of_eq rfl) (hb hby d5_97) (fun _ _ => ⟨rfl, eq1, (by decide : 2 + 0 ≤ _), (by decide : 40 + 0 ≤ _)⟩)
    dsimp only [Pt.U, Pt.locs, Pt.cells, Pt.slots] at X2 l2 y2 z2 st2 hQ2
    subst l2 y2 z2
    obtain ⟨hv2, Nq2, eq2⟩ := hQ2
    subst hv2
    replace Nf := Fr.app Nf Nq2
    refine own_goH (x' := T2.setTop (mkF m 100 #[.val (.ref ao0), .val (.int (Int32.ofNat jj)), .val (.int 3), sl] [(.int x)])) (fun _ k => st2.trans k) ?_
    refine own_goH (x' := T2.setTop (mkF m 101 #[.val (.ref ao0), .val (.int (Int32.ofNat jj)), .val (.int 3), .val (.int x)] [])) (fun t k => by rcases hsl with rfl | ⟨z0, rfl⟩ <;> exact XS.istoreN X2.here hx rfl (hb hby d5_100) rfl (l' := #[.val (.ref ao0), .val (.int (Int32.ofNat jj)), .val (.int 3), .val (.int x)]) rfl k) ?_
    refine own_goH (x' := T2.setTop (mkF m 104 #[.val (.ref ao0), .val (.int (Int32.ofNat jj)), .val (.int 3), .val (.int x)] [(.int 32), (.int x)])) (fun _ k => XS.iloadN X2.here hx rfl (hb hby d5_101) rfl (XS.bipush X2.here hx rfl (hb hby d5_102) k)) ?_
    by_cases hc104 : (32 : Int32) < x
    · refine own_goH (x' := T2.setTop (mkF m 107 #[.val (.ref ao0), .val (.int (Int32.ofNat jj)), .val (.int 3), .val (.int x)] [])) (fun _ k => XS.icmpNo X2.here hx rfl (hb hby d5_104) rfl (tlt hc104).2.2.2 k) ?_
      obtain ⟨c3, T3, h3, kk3, d3, kd3, X3, e3, E3, hS, hk', hZ, hown, E_c3, F_c3_coder, F_c3_value, V_d3, -, -, C3, -, sf3, st3⟩ := ldcCH X2 hx hZ hown (own_w hw 167 rfl) (own_wS hw) eq2 hS hk (own_EW hw) (by decide) hR.1 (vs := [.int 60, .int 62, .int 34, .int 123, .int 125, .int 124, .int 94, .int 96, .int 92]) (z := (9 : Int32)) ⟨by decide, by decide⟩ (by decide) (by decide) (g := (mkF m 107 #[.val (.ref ao0), .val (.int (Int32.ofNat jj)), .val (.int 3), .val (.int x)] [])) rfl (hb hby d5_107) (n := 36) (by decide) (by decide) (by decide) (by decide)
      replace hR := hR.trans C3
      replace Od := Od.ext E3
      replace E_ao0 := Exa.ext E3 E_ao0
      replace S_ao0 := own_S.ext S_ao0 E3
      replace Zs := Nat.le_trans Zs E3.1
      replace hk := Nat.le_trans hk E3.1
      replace Kp := Kp.ext E3
      replace hk := hk'
      refine own_goH (x' := T3.setTop (mkF m 109 #[.val (.ref ao0), .val (.int (Int32.ofNat jj)), .val (.int 3), .val (.int x)] [(.ref c3)])) st3 ?_
      refine own_goH (x' := T3.setTop (mkF m 110 #[.val (.ref ao0), .val (.int (Int32.ofNat jj)), .val (.int 3), .val (.int x)] [(.int x), (.ref c3)])) (fun _ k => XS.iloadN X3.here hx rfl (hb hby d5_109) rfl k) ?_
      obtain ⟨cq4, kq4, q4a, q4b, q4c⟩ := isOf hZ e3 E_c3
      obtain ⟨_, _, ⟨T4, L4, k4, n4⟩, -, X4, ⟨Lc4, hQ4, l4, y4, z4⟩, st4⟩ := X3.virtualBack hx (y := (⟨"java/lang/String", "indexOf", "(I)I"⟩ : MethodName)) (z := (⟨"java/lang/String", "indexOf", "(I)I"⟩ : MethodName)) hown (mvT hZ (own_w hw 31 rfl)) (mvT hZ (own_w hw 32 rfl)) (notFace_of_selects (args := #[]) (mvT hZ (own_w hw 34 rfl))) (mvT hZ (own_w hw 34 rfl)) (mvT hZ (own_w hw 33 rfl)) (by decide) (backOf (W := 0) (rm6f l Z a0 hw [] c3 d3 kd3 x G1 sf h3 n0 Zs E_c3 F_c3_coder F_c3_value V_d3 hp Od hst) hZ (own_w hw 35 rfl) (own_w hw 8 rfl) (by decide) (by decide)) q4a q4c (g := (mkF m 110 #[.val (.ref ao0), .val (.int (Int32.ofNat jj)), .val (.int 3), .val (.int x)] [(.int x), (.ref c3)])) rfl (by rw [hml]; rfl) (Steps.refl _) (argsL := [(.int x)]) (rest := []) (lenOf pd_14 rfl) rfl (by show 2 * 0 + _ ≤ _; exact Nat.le_of_eq rfl) (hb hby d5_110) (fun _ _ => ⟨rfl, e3, (by decide : 4 + 0 ≤ _), (by decide : 80 + 0 ≤ _)⟩)
      dsimp only [Pt.U, Pt.locs, Pt.cells, Pt.slots] at X4 l4 y4 z4 st4 hQ4
      subst l4 y4 z4
      obtain ⟨rr4, hv4, hf4, Nq4, eq4⟩ := hQ4
      subst hv4
      replace Nf := Fr.app Nf Nq4
      refine own_goH (x' := T4.setTop (mkF m 113 #[.val (.ref ao0), .val (.int (Int32.ofNat jj)), .val (.int 3), .val (.int x)] [(.int rr4)])) (fun _ k => st4.trans k) ?_
      by_cases hc113 : rr4 < (0 : Int32)
      · refine own_goH (x' := T4.setTop (mkF m 87 #[.val (.ref ao0), .val (.int (Int32.ofNat jj)), .val (.int ((3 : Int32) + (1 : Int32))), .val (.int x)] [])) (fun _ k => XS.ifYes X4.here hx rfl (pc0 := 113) (pc' := 118) rfl (hb hby d5_113) rfl ((if0 _ _).trans (tlt hc113).1) (by decide) (by decide) (XS.iinc X4.here hx rfl (hb hby d5_118) rfl (l' := #[.val (.ref ao0), .val (.int (Int32.ofNat jj)), .val (.int ((3 : Int32) + (1 : Int32))), .val (.int x)]) rfl (XS.goto X4.here hx rfl (pc0 := 121) (pc' := 87) rfl (hb hby d5_121) (by decide) (by decide) k))) ?_
        rw [show ((3 : Int32) + (1 : Int32)) = (4 : Int32) from by decide +kernel]
        have inv' : ∀ a c, a < 4 → xs[a]? = some c → own_ok jj a c := fun a c ha hc => by
          by_cases e_ : a < 3
          · exact inv a c e_ hc
          · obtain rfl : a = 3 := by omega
            rw [hq2] at hc
            obtain rfl := Option.some.inj hc
            exact (own_ok2 hj1_ hjq).mpr ⟨hc104, fun z => hf4.elim (fun u => u.2 z) (fun u => u.1 hc113)⟩
        exact own_monoH (fun v h L u => by obtain ⟨rr, u1, u2, u3, u4⟩ := u; exact ⟨rr, u1, u2, u3, Kp.trans u4 all0⟩) (seg2_4 hx hlk hret hw hby hml hnm ao0 xs jj G1 sf n0 hlen hst hix hj1_ hjl (by omega) _ _ _ _ _ _ X4 eq4 Nf Zs hS hk hZ hown hR Od S_ao0 inv' (Or.inr ⟨x, rfl⟩))
      · refine own_goH (x' := T4.setTop (mkF m 117 #[.val (.ref ao0), .val (.int (Int32.ofNat jj)), .val (.int 3), .val (.int x)] [(.int 0)])) (fun _ k => XS.ifNo X4.here hx rfl (hb hby d5_113) rfl ((if0 _ _).trans (flt hc113).1) (XS.iconst X4.here hx rfl (hb hby d5_116) k)) ?_
        refine own_retNH X4 hS (own_hk eq4 hk) (own_hr eq4 hR) hZ (own_EW hw) hx hlk (t := .boolean) hret (by simp) (hb hby d5_117) (w := (0 : Int32)) rfl ?_ (by decide) (by decide)
        rw [eq4]
        exact ⟨0, rfl, Or.inr ⟨rfl, own_nabs hlen hix hjl hq2 (fun u => ((own_ok2 hj1_ hjq).mp u).2 (hf4.elim (fun z => absurd z.1 hc113) (fun z => z.2)))⟩, Nf, Kp⟩
    · refine own_goH (x' := T2.setTop (mkF m 117 #[.val (.ref ao0), .val (.int (Int32.ofNat jj)), .val (.int 3), .val (.int x)] [(.int 0)])) (fun _ k => XS.icmpYes X2.here hx rfl (pc0 := 104) (pc' := 116) rfl (hb hby d5_104) rfl (flt hc104).2.2.2 (by decide) (by decide) (XS.iconst X2.here hx rfl (hb hby d5_116) k)) ?_
      refine own_retNH X2 hS (own_hk eq2 hk) (own_hr eq2 hR) hZ (own_EW hw) hx hlk (t := .boolean) hret (by simp) (hb hby d5_117) (w := (0 : Int32)) rfl ?_ (by decide) (by decide)
      rw [eq2]
      exact ⟨0, rfl, Or.inr ⟨rfl, own_nabs hlen hix hjl hq2 (fun u => hc104 ((own_ok2 hj1_ hjq).mp u).1)⟩, Nf, Kp⟩
  · refine own_goH (x' := T1.setTop (mkF m 125 #[.val (.ref ao0), .val (.int (Int32.ofNat jj)), .val (.int 3), sl] [(.int 1)])) (fun _ k => XS.icmpYes X1.here hx rfl (pc0 := 92) (pc' := 124) rfl (hb hby d5_92) rfl (flt hc92).2.1 (by decide) (by decide) (XS.iconst X1.here hx rfl (hb hby d5_124) k)) ?_
    refine own_retNH X1 hS (own_hk eq1 hk) (own_hr eq1 hR) hZ (own_EW hw) hx hlk (t := .boolean) hret (by simp) (hb hby d5_125) (w := (1 : Int32)) rfl ?_ (by decide) (by decide)
    rw [eq1]
    have hql : xs.length ≤ 3 := (Nat.le_of_not_lt fun q_ => hc92 ((own_olt (a := 3) (b := xs.length) (by omega) (by omega)).mpr q_))
    exact ⟨1, rfl, Or.inl ⟨rfl, jj, hix, hj1_, hjl, fun a c ha => inv a c (Nat.lt_of_lt_of_le (List.getElem?_eq_some_iff.mp ha).1 hql) ha⟩, Nf, Kp⟩
set_option maxRecDepth 65536 in
set_option maxHeartbeats 40000000 in
theorem seg2_2 {p : Program} {l : Launch} {e : Env} {s : State} {m : MethodId} {args : Array Value} {below : List Frame} {meth : Method} {c : Code} {Z : State} {a0 : Array Value} (hx : p.tables.exec = Jvm.exec) (hlk : meth.locks = false) (hret : meth.sig.returnType = some .boolean) (hw : ∀ d ∈ tables_1, d.before a0 Z = true) (hby : c.code = prog_36_method_3_code) (hml : c.maxLocals = 4) (hnm : meth.name = "isAbsolute") (ao0 : Addr) (xs : List Int32) (jj : Nat) (G1 : Int32) (sf : Value) (n0 : Nat) (hlen : xs.length ≤ 6) (hst : own_St Z G1 sf) (hix : own_ix xs = Int32.ofNat jj) (hj1_ : 1 ≤ jj) (hjl : jj < xs.length) (hjq : jj < 2) : ∀ (sl : Slot) (vm0 : Vm) (k0 : Nat) (h0 : Heap) (s₁ : State) (LL : List Loc) (_ : Stand p l e ({ frames := 7, cells := 8, slots := 160, locals := 103 } : Room) (s.setVm vm0) m args below meth c s₁ LL 0 0) (_ : s₁.heap = h0) (_ : Fr n0 LL) (_ : n0 ≤ h0.size) (_ : s.Since vm0 k0) (_ : k0 ≤ h0.size) (_ : Z.Warmed39 (s.setVm vm0).vm) (_ : (s.setVm vm0).vm.findClass "com/example/triplewright/triplewright/Term$Iri" = some m.cls) (_ : CHr Z own_EL s.vm s.heap vm0 h0) (_ : Old Z n0 h0) (_ : own_S Z h0 ao0 xs) (_ : ∀ a c, a < 2 → xs[a]? = some c → own_ok jj a c) (_ : sl = .unset ∨ ∃ z, sl = .val (.int z)),
    own_EndH Z own_EL p e below s (fun v h L => ∃ rr : Int32, v = some (.int rr) ∧ ((rr = 1 ∧ own_abs xs) ∨ (rr = 0 ∧ ¬ own_abs xs)) ∧ Fr n0 L ∧ Keep h0 h []) ({ frames := 7, cells := 8, slots := 160, locals := 103 } : Room).cells ({ frames := 7, cells := 8, slots := 160, locals := 103 } : Room).slots (s₁.setTop (mkF m 87 #[.val (.ref ao0), .val (.int (Int32.ofNat jj)), .val (.int 2), sl] [])) := by
  intro sl vm0 k0 h0 s₁ LL X0 e0 Nf Zs hS hk hZ hown hR Od S_ao0 inv hsl
  obtain ⟨S_COMPACT_STRINGS, hG, S__assertionsDisabled, S_HI_BYTE_SHIFT, S_LO_BYTE_SHIFT, S_SIOOBE_FORMATTER, r_sf, c_sf⟩ := id hst
  obtain ⟨_, _, E_ao0, -, hxs, -⟩ := id S_ao0
  have Kp : Keep h0 h0 [] := Keep.refl _ _
  refine own_goH (x' := s₁.setTop (mkF m 89 #[.val (.ref ao0), .val (.int (Int32.ofNat jj)), .val (.int 2), sl] [(.ref ao0), (.int 2)])) (fun _ k => XS.iloadN X0.here hx rfl (hb hby d5_87) rfl (XS.aloadN X0.here hx rfl (hb hby d5_88) rfl rfl k)) ?_
  obtain ⟨cq1, kq1, q1a, q1b, q1c⟩ := isOf hZ e0 E_ao0
  obtain ⟨_, _, ⟨T1, L1, k1, n1⟩, -, X1, ⟨Lc1, hQ1, l1, y1, z1⟩, st1⟩ := X0.virtualBack hx (y := (⟨"java/lang/String", "length", "()I"⟩ : MethodName)) (z := (⟨"java/lang/String", "length", "()I"⟩ : MethodName)) hown (mvT hZ (own_w hw 166 rfl)) (mvT hZ (own_w hw 48 rfl)) (notFace_of_selects (args := #[]) (mvT hZ (own_w hw 50 rfl))) (mvT hZ (own_w hw 50 rfl)) (mvT hZ (own_w hw 49 rfl)) (by decide) (backOf (W := 1) (rm9S l Z a0 hw [] ao0 xs G1 sf h0 n0 Zs S_ao0 hlen Od hst) hZ (own_w hw 51 rfl) (own_w hw 8 rfl) (by decide) (by decide)) q1a q1c (g := (mkF m 89 #[.val (.ref ao0), .val (.int (Int32.ofNat jj)), .val (.int 2), sl] [(.ref ao0), (.int 2)])) rfl (by rw [hml]; rfl) (Steps.refl _) (argsL := []) (rest := [(.int 2)]) (lenOf pd_10 rfl) rfl (by show 2 * 0 + _ ≤ _; exact Nat.le_of_eq rfl) (hb hby d5_89) (fun _ _ => ⟨rfl, e0, (by decide : 0 + 0 ≤ _), (by decide : 0 + 0 ≤ _)⟩)
  dsimp only [Pt.U, Pt.locs, Pt.cells, Pt.slots] at X1 l1 y1 z1 st1 hQ1
  subst l1 y1 z1
  obtain ⟨hv1, Nq1, eq1⟩ := hQ1
  subst hv1
  replace Nf := Fr.app Nf Nq1
  refine own_goH (x' := T1.setTop (mkF m 92 #[.val (.ref ao0), .val (.int (Int32.ofNat jj)), .val (.int 2), sl] [(.int (Int32.ofNat xs.length)), (.int 2)])) (fun _ k => st1.trans k) ?_
  by_cases hc92 : (2 : Int32) < (Int32.ofNat xs.length)
  · refine own_goH (x' := T1.setTop (mkF m 95 #[.val (.ref ao0), .val (.int (Int32.ofNat jj)), .val (.int 2), sl] [])) (fun _ k => XS.icmpNo X1.here hx rfl (hb hby d5_92) rfl (tlt hc92).2.1 k) ?_
    have hq1 : 2 < xs.length := (own_olt (a := 2) (b := xs.length) (by omega) (by omega)).mp hc92
    obtain ⟨x, hq2⟩ := own_get hq1
    have hp := hxs _ (own_mem hq2)
    refine own_goH (x' := T1.setTop (mkF m 97 #[.val (.ref ao0), .val (.int (Int32.ofNat jj)), .val (.int 2), sl] [(.int 2), (.ref ao0)])) (fun _ k => XS.aloadN X1.here hx rfl (hb hby d5_95) rfl rfl (XS.iloadN X1.here hx rfl (hb hby d5_96) rfl k)) ?_
    obtain ⟨cq2, kq2, q2a, q2b, q2c⟩ := isOf hZ eq1 E_ao0
    obtain ⟨_, _, ⟨T2, L2, k2, n2⟩, -, X2, ⟨Lc2, hQ2, l2, y2, z2⟩, st2⟩ := X1.virtualBack hx (y := (⟨"java/lang/String", "charAt", "(I)C"⟩ : MethodName)) (z := (⟨"java/lang/String", "charAt", "(I)C"⟩ : MethodName)) hown (mvT hZ (own_w hw 133 rfl)) (mvT hZ (own_w hw 134 rfl)) (notFace_of_selects (args := #[]) (mvT hZ (own_w hw 136 rfl))) (mvT hZ (own_w hw 136 rfl)) (mvT hZ (own_w hw 135 rfl)) (by decide) (backOf (W := 0) (rm32S l Z a0 hw [] ao0 xs 2 x G1 sf h0 n0 Zs S_ao0 hlen hq1 hq2 Od hst) hZ (own_w hw 137 rfl) (own_w hw 8 rfl) (by decide) (by decide)) q2a q2c (g := (mkF m 97 #[.val (.ref ao0), .val (.int (Int32.ofNat jj)), .val (.int 2), sl] [(.int 2), (.ref ao0)])) rfl (by rw [hml]; rfl) (Steps.refl _) (argsL := [(.int 2)]) (rest := []) (lenOf pd_23 rfl) rfl (by show 2 * 0 + _ ≤ _; exact Nat.le_of_eq rfl) (hb hby d5_97) (fun _ _ => ⟨rfl, eq1, (by decide : 0 + 0 ≤ _), (by decide : 0 + 0 ≤ _)⟩)
    dsimp only [Pt.U, Pt.locs, Pt.cells, Pt.slots] at X2 l2 y2 z2 st2 hQ2
    subst l2 y2 z2
    obtain ⟨hv2, Nq2, eq2⟩ := hQ2
    subst hv2
    replace Nf := Fr.app Nf Nq2
    refine own_goH (x' := T2.setTop (mkF m 100 #[.val (.ref ao0), .val (.int (Int32.ofNat jj)), .val (.int 2), sl] [(.int x)])) (fun _ k => st2.trans k) ?_
    refine own_goH (x' := T2.setTop (mkF m 101 #[.val (.ref ao0), .val (.int (Int32.ofNat jj)), .val (.int 2), .val (.int x)] [])) (fun t k => by rcases hsl with rfl | ⟨z0, rfl⟩ <;> exact XS.istoreN X2.here hx rfl (hb hby d5_100) rfl (l' := #[.val (.ref ao0), .val (.int (Int32.ofNat jj)), .val (.int 2), .val (.int x)]) rfl k) ?_
    refine own_goH (x' := T2.setTop (mkF m 104 #[.val (.ref ao0), .val (.int (Int32.ofNat jj)), .val (.int 2), .val (.int x)] [(.int 32), (.int x)])) (fun _ k => XS.iloadN X2.here hx rfl (hb hby d5_101) rfl (XS.bipush X2.here hx rfl (hb hby d5_102) k)) ?_
    by_cases hc104 : (32 : Int32) < x
    · refine own_goH (x' := T2.setTop (mkF m 107 #[.val (.ref ao0), .val (.int (Int32.ofNat jj)), .val (.int 2), .val (.int x)] [])) (fun _ k => XS.icmpNo X2.here hx rfl (hb hby d5_104) rfl (tlt hc104).2.2.2 k) ?_
      obtain ⟨c3, T3, h3, kk3, d3, kd3, X3, e3, E3, hS, hk', hZ, hown, E_c3, F_c3_coder, F_c3_value, V_d3, -, -, C3, -, sf3, st3⟩ := ldcCH X2 hx hZ hown (own_w hw 167 rfl) (own_wS hw) eq2 hS hk (own_EW hw) (by decide) hR.1 (vs := [.int 60, .int 62, .int 34, .int 123, .int 125, .int 124, .int 94, .int 96, .int 92]) (z := (9 : Int32)) ⟨by decide, by decide⟩ (by decide) (by decide) (g := (mkF m 107 #[.val (.ref ao0), .val (.int (Int32.ofNat jj)), .val (.int 2), .val (.int x)] [])) rfl (hb hby d5_107) (n := 36) (by decide) (by decide) (by decide) (by decide)
      replace hR := hR.trans C3
      replace Od := Od.ext E3
      replace E_ao0 := Exa.ext E3 E_ao0
      replace S_ao0 := own_S.ext S_ao0 E3
      replace Zs := Nat.le_trans Zs E3.1
      replace hk := Nat.le_trans hk E3.1
      replace Kp := Kp.ext E3
      replace hk := hk'
      refine own_goH (x' := T3.setTop (mkF m 109 #[.val (.ref ao0), .val (.int (Int32.ofNat jj)), .val (.int 2), .val (.int x)] [(.ref c3)])) st3 ?_
      refine own_goH (x' := T3.setTop (mkF m 110 #[.val (.ref ao0), .val (.int (Int32.ofNat jj)), .val (.int 2), .val (.int x)] [(.int x), (.ref c3)])) (fun _ k => XS.iloadN X3.here hx rfl (hb hby d5_109) rfl k) ?_
      obtain ⟨cq4, kq4, q4a, q4b, q4c⟩ := isOf hZ e3 E_c3
      obtain ⟨_, _, ⟨T4, L4, k4, n4⟩, -, X4, ⟨Lc4, hQ4, l4, y4, z4⟩, st4⟩ := X3.virtualBack hx (y := (⟨"java/lang/String", "indexOf", "(I)I"⟩ : MethodName)) (z := (⟨"java/lang/String", "indexOf", "(I)I"⟩ : MethodName)) hown (mvT hZ (own_w hw 31 rfl)) (mvT hZ (own_w hw 32 rfl)) (notFace_of_selects (args := #[]) (mvT hZ (own_w hw 34 rfl))) (mvT hZ (own_w hw 34 rfl)) (mvT hZ (own_w hw 33 rfl)) (by decide) (backOf (W := 0) (rm6f l Z a0 hw [] c3 d3 kd3 x G1 sf h3 n0 Zs E_c3 F_c3_coder F_c3_value V_d3 hp Od hst) hZ (own_w hw 35 rfl) (own_w hw 8 rfl) (by decide) (by decide)) q4a q4c (g := (mkF m 110 #[.val (.ref ao0), .val (.int (Int32.ofNat jj)), .val (.int 2), .val (.int x)] [(.int x), (.ref c3)])) rfl (by rw [hml]; rfl) (Steps.refl _) (argsL := [(.int x)]) (rest := []) (lenOf pd_14 rfl) rfl (by show 2 * 0 + _ ≤ _; exact Nat.le_of_eq rfl) (hb hby d5_110) (fun _ _ => ⟨rfl, e3, (by decide : 2 + 0 ≤ _), (by decide : 40 + 0 ≤ _)⟩)
      dsimp only [Pt.U, Pt.locs, Pt.cells, Pt.slots] at X4 l4 y4 z4 st4 hQ4
      subst l4 y4 z4
      obtain ⟨rr4, hv4, hf4, Nq4, eq4⟩ := hQ4
      subst hv4
      replace Nf := Fr.app Nf Nq4
      refine own_goH (x' := T4.setTop (mkF m 113 #[.val (.ref ao0), .val (.int (Int32.ofNat jj)), .val (.int 2), .val (.int x)] [(.int rr4)])) (fun _ k => st4.trans k) ?_
      by_cases hc113 : rr4 < (0 : Int32)
      · refine own_goH (x' := T4.setTop (mkF m 87 #[.val (.ref ao0), .val (.int (Int32.ofNat jj)), .val (.int ((2 : Int32) + (1 : Int32))), .val (.int x)] [])) (fun _ k => XS.ifYes X4.here hx rfl (pc0 := 113) (pc' := 118) rfl (hb hby d5_113) rfl ((if0 _ _).trans (tlt hc113).1) (by decide) (by decide) (XS.iinc X4.here hx rfl (hb hby d5_118) rfl (l' := #[.val (.ref ao0), .val (.int (Int32.ofNat jj)), .val (.int ((2 : Int32) + (1 : Int32))), .val (.int x)]) rfl (XS.goto X4.here hx rfl (pc0 := 121) (pc' := 87) rfl (hb hby d5_121) (by decide) (by decide) k))) ?_
        rw [show ((2 : Int32) + (1 : Int32)) = (3 : Int32) from by decide +kernel]
        have inv' : ∀ a c, a < 3 → xs[a]? = some c → own_ok jj a c := fun a c ha hc => by
          by_cases e_ : a < 2
          · exact inv a c e_ hc
          · obtain rfl : a = 2 := by omega
            rw [hq2] at hc
            obtain rfl := Option.some.inj hc
            exact (own_ok2 hj1_ hjq).mpr ⟨hc104, fun z => hf4.elim (fun u => u.2 z) (fun u => u.1 hc113)⟩
        exact own_monoH (fun v h L u => by obtain ⟨rr, u1, u2, u3, u4⟩ := u; exact ⟨rr, u1, u2, u3, Kp.trans u4 all0⟩) (seg2_3 hx hlk hret hw hby hml hnm ao0 xs jj G1 sf n0 hlen hst hix hj1_ hjl (by omega) _ _ _ _ _ _ X4 eq4 Nf Zs hS hk hZ hown hR Od S_ao0 inv' (Or.inr ⟨x, rfl⟩))
      · refine own_goH (x' := T4.setTop (mkF m 117 #[.val (.ref ao0), .val (.int (Int32.ofNat jj)), .val (.int 2), .val (.int x)] [(.int 0)])) (fun _ k => XS.ifNo X4.here hx rfl (hb hby d5_113) rfl ((if0 _ _).trans (flt hc113).1) (XS.iconst X4.here hx rfl (hb hby d5_116) k)) ?_
        refine own_retNH X4 hS (own_hk eq4 hk) (own_hr eq4 hR) hZ (own_EW hw) hx hlk (t := .boolean) hret (by simp) (hb hby d5_117) (w := (0 : Int32)) rfl ?_ (by decide) (by decide)
        rw [eq4]
        exact ⟨0, rfl, Or.inr ⟨rfl, own_nabs hlen hix hjl hq2 (fun u => ((own_ok2 hj1_ hjq).mp u).2 (hf4.elim (fun z => absurd z.1 hc113) (fun z => z.2)))⟩, Nf, Kp⟩
    · refine own_goH (x' := T2.setTop (mkF m 117 #[.val (.ref ao0), .val (.int (Int32.ofNat jj)), .val (.int 2), .val (.int x)] [(.int 0)])) (fun _ k => XS.icmpYes X2.here hx rfl (pc0 := 104) (pc' := 116) rfl (hb hby d5_104) rfl (flt hc104).2.2.2 (by decide) (by decide) (XS.iconst X2.here hx rfl (hb hby d5_116) k)) ?_
      refine own_retNH X2 hS (own_hk eq2 hk) (own_hr eq2 hR) hZ (own_EW hw) hx hlk (t := .boolean) hret (by simp) (hb hby d5_117) (w := (0 : Int32)) rfl ?_ (by decide) (by decide)
      rw [eq2]
      exact ⟨0, rfl, Or.inr ⟨rfl, own_nabs hlen hix hjl hq2 (fun u => hc104 ((own_ok2 hj1_ hjq).mp u).1)⟩, Nf, Kp⟩
  · refine own_goH (x' := T1.setTop (mkF m 125 #[.val (.ref ao0), .val (.int (Int32.ofNat jj)), .val (.int 2), sl] [(.int 1)])) (fun _ k => XS.icmpYes X1.here hx rfl (pc0 := 92) (pc' := 124) rfl (hb hby d5_92) rfl (flt hc92).2.1 (by decide) (by decide) (XS.iconst X1.here hx rfl (hb hby d5_124) k)) ?_
    refine own_retNH X1 hS (own_hk eq1 hk) (own_hr eq1 hR) hZ (own_EW hw) hx hlk (t := .boolean) hret (by simp) (hb hby d5_125) (w := (1 : Int32)) rfl ?_ (by decide) (by decide)
    rw [eq1]
    have hql : xs.length ≤ 2 := (Nat.le_of_not_lt fun q_ => hc92 ((own_olt (a := 2) (b := xs.length) (by omega) (by omega)).mpr q_))
    exact ⟨1, rfl, Or.inl ⟨rfl, jj, hix, hj1_, hjl, fun a c ha => inv a c (Nat.lt_of_lt_of_le (List.getElem?_eq_some_iff.mp ha).1 hql) ha⟩, Nf, Kp⟩
theorem d5_27 : decode prog_36_method_3_code 27 = .ok (.iload_n 2, 1) := by decide +kernel
theorem d5_28 : decode prog_36_method_3_code 28 = .ok (.iload_n 1, 1) := by decide +kernel
theorem d5_29 : decode prog_36_method_3_code 29 = .ok (.if_icmp .ge 54, 3) := by decide +kernel
theorem d5_83 : decode prog_36_method_3_code 83 = .ok (.iload_n 1, 1) := by decide +kernel
theorem d5_84 : decode prog_36_method_3_code 84 = .ok (.iconst 1, 1) := by decide +kernel
theorem d5_85 : decode prog_36_method_3_code 85 = .ok (.iadd, 1) := by decide +kernel
theorem d5_86 : decode prog_36_method_3_code 86 = .ok (.istore_n 2, 1) := by decide +kernel
theorem d5_32 : decode prog_36_method_3_code 32 = .ok (.aload_n 0, 1) := by decide +kernel
theorem d5_33 : decode prog_36_method_3_code 33 = .ok (.iload_n 2, 1) := by decide +kernel
theorem d5_34 : decode prog_36_method_3_code 34 = .ok (.invokevirtual 28, 3) := by decide +kernel
theorem d5_37 : decode prog_36_method_3_code 37 = .ok (.istore_n 3, 1) := by decide +kernel
theorem d5_38 : decode prog_36_method_3_code 38 = .ok (.iload_n 3, 1) := by decide +kernel
theorem d5_39 : decode prog_36_method_3_code 39 = .ok (.invokestatic 32, 3) := by decide +kernel
theorem d5_42 : decode prog_36_method_3_code 42 = .ok (.ifCond .ne 35, 3) := by decide +kernel
theorem d5_45 : decode prog_36_method_3_code 45 = .ok (.iload_n 3, 1) := by decide +kernel
theorem d5_46 : decode prog_36_method_3_code 46 = .ok (.bipush 48, 2) := by decide +kernel
theorem d5_48 : decode prog_36_method_3_code 48 = .ok (.if_icmp .lt 9, 3) := by decide +kernel
theorem d5_51 : decode prog_36_method_3_code 51 = .ok (.iload_n 3, 1) := by decide +kernel
theorem d5_52 : decode prog_36_method_3_code 52 = .ok (.bipush 57, 2) := by decide +kernel
theorem d5_54 : decode prog_36_method_3_code 54 = .ok (.if_icmp .le 23, 3) := by decide +kernel
theorem d5_57 : decode prog_36_method_3_code 57 = .ok (.iload_n 3, 1) := by decide +kernel
theorem d5_58 : decode prog_36_method_3_code 58 = .ok (.bipush 43, 2) := by decide +kernel
theorem d5_60 : decode prog_36_method_3_code 60 = .ok (.if_icmp .eq 17, 3) := by decide +kernel
theorem d5_63 : decode prog_36_method_3_code 63 = .ok (.iload_n 3, 1) := by decide +kernel
theorem d5_64 : decode prog_36_method_3_code 64 = .ok (.bipush 45, 2) := by decide +kernel
theorem d5_66 : decode prog_36_method_3_code 66 = .ok (.if_icmp .eq 11, 3) := by decide +kernel
theorem d5_69 : decode prog_36_method_3_code 69 = .ok (.iload_n 3, 1) := by decide +kernel
theorem d5_70 : decode prog_36_method_3_code 70 = .ok (.bipush 46, 2) := by decide +kernel
theorem d5_72 : decode prog_36_method_3_code 72 = .ok (.if_icmp .eq 5, 3) := by decide +kernel
theorem d5_75 : decode prog_36_method_3_code 75 = .ok (.iconst 0, 1) := by decide +kernel
theorem d5_76 : decode prog_36_method_3_code 76 = .ok (.ireturn, 1) := by decide +kernel
theorem d5_77 : decode prog_36_method_3_code 77 = .ok (.iinc 2 1, 3) := by decide +kernel
theorem d5_80 : decode prog_36_method_3_code 80 = .ok (.goto (-53), 3) := by decide +kernel
set_option maxRecDepth 65536 in
set_option maxHeartbeats 40000000 in
theorem seg1 {p : Program} {l : Launch} {e : Env} {s : State} {m : MethodId} {args : Array Value} {below : List Frame} {meth : Method} {c : Code} {Z : State} {a0 : Array Value} (hx : p.tables.exec = Jvm.exec) (hlk : meth.locks = false) (hret : meth.sig.returnType = some .boolean) (hw : ∀ d ∈ tables_1, d.before a0 Z = true) (hby : c.code = prog_36_method_3_code) (hml : c.maxLocals = 4) (hnm : meth.name = "isAbsolute") (ao0 : Addr) (xs : List Int32) (jj : Nat) (G1 : Int32) (sf : Value) (n0 : Nat) (hlen : xs.length ≤ 6) (hst : own_St Z G1 sf) (hix : own_ix xs = Int32.ofNat jj) (hj1_ : 1 ≤ jj) (hjl : jj < xs.length) : ∀ (t : Nat) (i : Nat) (sl : Slot) (vm0 : Vm) (k0 : Nat) (h0 : Heap) (s₁ : State) (LL : List Loc) (_ : Stand p l e ({ frames := 7, cells := 8, slots := 160, locals := 103 } : Room) (s.setVm vm0) m args below meth c s₁ LL 0 0) (_ : s₁.heap = h0) (_ : Fr n0 LL) (_ : n0 ≤ h0.size) (_ : s.Since vm0 k0) (_ : k0 ≤ h0.size) (_ : Z.Warmed39 (s.setVm vm0).vm) (_ : (s.setVm vm0).vm.findClass "com/example/triplewright/triplewright/Term$Iri" = some m.cls) (_ : CHr Z own_EL s.vm s.heap vm0 h0) (_ : Old Z n0 h0) (_ : own_S Z h0 ao0 xs) (_ : i + t = jj) (_ : 1 ≤ i) (_ : ∀ a c, a < i → xs[a]? = some c → own_ok jj a c) (_ : sl = .unset ∨ ∃ z, sl = .val (.int z)),
    own_EndH Z own_EL p e below s (fun v h L => ∃ rr : Int32, v = some (.int rr) ∧ ((rr = 1 ∧ own_abs xs) ∨ (rr = 0 ∧ ¬ own_abs xs)) ∧ Fr n0 L ∧ Keep h0 h []) ({ frames := 7, cells := 8, slots := 160, locals := 103 } : Room).cells ({ frames := 7, cells := 8, slots := 160, locals := 103 } : Room).slots (s₁.setTop (mkF m 27 #[.val (.ref ao0), .val (.int (Int32.ofNat jj)), .val (.int (Int32.ofNat i)), sl] [])) := by
  intro t
  induction t with
  | zero =>
    intro i sl vm0 k0 h0 s₁ LL X0 e0 Nf Zs hS hk hZ hown hR Od S_ao0 hit hi1 inv hsl
    obtain ⟨S_COMPACT_STRINGS, hG, S__assertionsDisabled, S_HI_BYTE_SHIFT, S_LO_BYTE_SHIFT, S_SIOOBE_FORMATTER, r_sf, c_sf⟩ := id hst
    obtain ⟨_, _, E_ao0, -, hxs, -⟩ := id S_ao0
    have Kp : Keep h0 h0 [] := Keep.refl _ _
    have hij : i = jj := by omega
    have hbr : ¬ Int32.ofNat i < Int32.ofNat jj := by rw [hij]; exact Int32.lt_irrefl
    have inv' : ∀ a c, a < jj + 1 → xs[a]? = some c → own_ok jj a c := fun a c ha hc => by
      by_cases e_ : a < i
      · exact inv a c e_ hc
      · obtain rfl : a = jj := by omega
        exact own_okj hj1_
    refine own_goH (x' := s₁.setTop (mkF m 86 #[.val (.ref ao0), .val (.int (Int32.ofNat jj)), .val (.int (Int32.ofNat i)), sl] [(.int ((Int32.ofNat jj) + (1 : Int32)))])) (fun _ k => XS.iloadN X0.here hx rfl (hb hby d5_27) rfl (XS.iloadN X0.here hx rfl (hb hby d5_28) rfl (XS.icmpYes X0.here hx rfl (pc0 := 29) (pc' := 83) rfl (hb hby d5_29) rfl (flt hbr).2.1 (by decide) (by decide) (XS.iloadN X0.here hx rfl (hb hby d5_83) rfl (XS.iconst X0.here hx rfl (hb hby d5_84) (XS.iadd X0.here hx rfl (hb hby d5_85) rfl k)))))) ?_
    refine own_goH (x' := s₁.setTop (mkF m 87 #[.val (.ref ao0), .val (.int (Int32.ofNat jj)), .val (.int ((Int32.ofNat jj) + (1 : Int32))), sl] [])) (fun _ k => XS.istoreN X0.here hx rfl (hb hby d5_86) rfl (l' := #[.val (.ref ao0), .val (.int (Int32.ofNat jj)), .val (.int ((Int32.ofNat jj) + (1 : Int32))), sl]) rfl k) ?_
    rw [own_oinc jj (by omega)]
    have hjj : jj = 1 ∨ jj = 2 ∨ jj = 3 ∨ jj = 4 ∨ jj = 5 := by omega
    rcases hjj with rfl | rfl | rfl | rfl | rfl
    · exact seg2_2 hx hlk hret hw hby hml hnm ao0 xs 1 G1 sf n0 hlen hst hix hj1_ hjl (by decide) sl _ _ _ _ _ (X0.mono (Nat.zero_le _) (Nat.zero_le _)) e0 Nf Zs hS hk hZ hown hR Od S_ao0 inv' hsl
    · exact seg2_3 hx hlk hret hw hby hml hnm ao0 xs 2 G1 sf n0 hlen hst hix hj1_ hjl (by decide) sl _ _ _ _ _ (X0.mono (Nat.zero_le _) (Nat.zero_le _)) e0 Nf Zs hS hk hZ hown hR Od S_ao0 inv' hsl
    · exact seg2_4 hx hlk hret hw hby hml hnm ao0 xs 3 G1 sf n0 hlen hst hix hj1_ hjl (by decide) sl _ _ _ _ _ (X0.mono (Nat.zero_le _) (Nat.zero_le _)) e0 Nf Zs hS hk hZ hown hR Od S_ao0 inv' hsl
    · exact seg2_5 hx hlk hret hw hby hml hnm ao0 xs 4 G1 sf n0 hlen hst hix hj1_ hjl (by decide) sl _ _ _ _ _ (X0.mono (Nat.zero_le _) (Nat.zero_le _)) e0 Nf Zs hS hk hZ hown hR Od S_ao0 inv' hsl
    · exact seg2_6 hx hlk hret hw hby hml hnm ao0 xs 5 G1 sf n0 hlen hst hix hj1_ hjl (by decide) sl _ _ _ _ _ (X0.mono (Nat.zero_le _) (Nat.zero_le _)) e0 Nf Zs hS hk hZ hown hR Od S_ao0 inv' hsl
  | succ t ih =>
    intro i sl vm0 k0 h0 s₁ LL X0 e0 Nf Zs hS hk hZ hown hR Od S_ao0 hit hi1 inv hsl
    obtain ⟨S_COMPACT_STRINGS, hG, S__assertionsDisabled, S_HI_BYTE_SHIFT, S_LO_BYTE_SHIFT, S_SIOOBE_FORMATTER, r_sf, c_sf⟩ := id hst
    obtain ⟨_, _, E_ao0, -, hxs, -⟩ := id S_ao0
    have Kp : Keep h0 h0 [] := Keep.refl _ _
    have hbr : Int32.ofNat i < Int32.ofNat jj := (own_olt (by omega) (by omega)).mpr (by omega)
    obtain ⟨x, hi2⟩ := own_get (xs := xs) (a := i) (by omega)
    refine own_goH (x' := s₁.setTop (mkF m 34 #[.val (.ref ao0), .val (.int (Int32.ofNat jj)), .val (.int (Int32.ofNat i)), sl] [(.int (Int32.ofNat i)), (.ref ao0)])) (fun _ k => XS.iloadN X0.here hx rfl (hb hby d5_27) rfl (XS.iloadN X0.here hx rfl (hb hby d5_28) rfl (XS.icmpNo X0.here hx rfl (hb hby d5_29) rfl (tlt hbr).2.1 (XS.aloadN X0.here hx rfl (hb hby d5_32) rfl rfl (XS.iloadN X0.here hx rfl (hb hby d5_33) rfl k))))) ?_
    obtain ⟨cq1, kq1, q1a, q1b, q1c⟩ := isOf hZ e0 E_ao0
    obtain ⟨_, _, ⟨T1, L1, k1, n1⟩, -, X1, ⟨Lc1, hQ1, l1, y1, z1⟩, st1⟩ := X0.virtualBack hx (y := (⟨"java/lang/String", "charAt", "(I)C"⟩ : MethodName)) (z := (⟨"java/lang/String", "charAt", "(I)C"⟩ : MethodName)) hown (mvT hZ (own_w hw 133 rfl)) (mvT hZ (own_w hw 134 rfl)) (notFace_of_selects (args := #[]) (mvT hZ (own_w hw 136 rfl))) (mvT hZ (own_w hw 136 rfl)) (mvT hZ (own_w hw 135 rfl)) (by decide) (backOf (W := 0) (rm32S l Z a0 hw [] ao0 xs i x G1 sf h0 n0 Zs S_ao0 hlen (by omega) hi2 Od hst) hZ (own_w hw 137 rfl) (own_w hw 8 rfl) (by decide) (by decide)) q1a q1c (g := (mkF m 34 #[.val (.ref ao0), .val (.int (Int32.ofNat jj)), .val (.int (Int32.ofNat i)), sl] [(.int (Int32.ofNat i)), (.ref ao0)])) rfl (by rw [hml]; rfl) (Steps.refl _) (argsL := [(.int (Int32.ofNat i))]) (rest := []) (lenOf pd_23 rfl) rfl (by show 2 * 0 + _ ≤ _; exact Nat.le_of_eq rfl) (hb hby d5_34) (fun _ _ => ⟨rfl, e0, (by decide : 0 + 0 ≤ _), (by decide : 0 + 0 ≤ _)⟩)
    dsimp only [Pt.U, Pt.locs, Pt.cells, Pt.slots] at X1 l1 y1 z1 st1 hQ1
    subst l1 y1 z1
    obtain ⟨hv1, Nq1, eq1⟩ := hQ1
    subst hv1
    replace Nf := Fr.app Nf Nq1
    refine own_goH (x' := T1.setTop (mkF m 37 #[.val (.ref ao0), .val (.int (Int32.ofNat jj)), .val (.int (Int32.ofNat i)), sl] [(.int x)])) (fun _ k => st1.trans k) ?_
    refine own_goH (x' := T1.setTop (mkF m 38 #[.val (.ref ao0), .val (.int (Int32.ofNat jj)), .val (.int (Int32.ofNat i)), .val (.int x)] [])) (fun t k => by rcases hsl with rfl | ⟨z0, rfl⟩ <;> exact XS.istoreN X1.here hx rfl (hb hby d5_37) rfl (l' := #[.val (.ref ao0), .val (.int (Int32.ofNat jj)), .val (.int (Int32.ofNat i)), .val (.int x)]) rfl k) ?_
    refine own_goH (x' := T1.setTop (mkF m 39 #[.val (.ref ao0), .val (.int (Int32.ofNat jj)), .val (.int (Int32.ofNat i)), .val (.int x)] [(.int x)])) (fun _ k => XS.iloadN X1.here hx rfl (hb hby d5_38) rfl k) ?_
    obtain ⟨_, _, ⟨T2, L2, k2, n2⟩, -, X2, ⟨Lc2, hQ2, l2, y2, z2⟩, st2⟩ := Jvm.LawKit.callS X1 hx (y := (⟨"com/example/triplewright/triplewright/Term$Iri", "isAsciiLetter", "(C)Z"⟩ : MethodName)) hown (mvT hZ (own_w hw 147 rfl)) (mvT hZ (own_w hw 148 rfl)) (mvT hZ (own_w hw 29 rfl)) (mvT hZ (own_w hw 149 rfl)) (by decide) (backOf (W := 0) (rm36 l Z a0 hw [] x  h0 n0 Zs  ) hZ (own_w hw 149 rfl) (own_w hw 29 rfl) (by decide) (by decide)) (g := (mkF m 39 #[.val (.ref ao0), .val (.int (Int32.ofNat jj)), .val (.int (Int32.ofNat i)), .val (.int x)] [(.int x)])) rfl (by rw [hml]; rfl) (argsL := [(.int x)]) (rest := []) (lenOf pd_22 rfl) rfl (by show 2 * 0 + _ ≤ _; exact Nat.le_of_eq rfl) (hb hby d5_39) (fun _ _ => ⟨rfl, eq1, (by decide : 0 + 0 ≤ _), (by decide : 0 + 0 ≤ _)⟩)
    dsimp only [Pt.U, Pt.locs, Pt.cells, Pt.slots] at X2 l2 y2 z2 st2 hQ2
    subst l2 y2 z2
    obtain ⟨hv2, Nq2, eq2⟩ := hQ2
    subst hv2
    replace Nf := Fr.app Nf Nq2
    refine own_goH (x' := T2.setTop (mkF m 42 #[.val (.ref ao0), .val (.int (Int32.ofNat jj)), .val (.int (Int32.ofNat i)), .val (.int x)] [(.int (own_let x))])) st2 ?_
    have hLq : own_let x = 0 ↔ ¬ own_isL x := own_let0
    have yes42 : own_sch x → ∀ t, Steps p.tables e below (T2.setTop (mkF m 77 #[.val (.ref ao0), .val (.int (Int32.ofNat jj)), .val (.int (Int32.ofNat i)), .val (.int x)] [])) t → Steps p.tables e below (T2.setTop (mkF m 42 #[.val (.ref ao0), .val (.int (Int32.ofNat jj)), .val (.int (Int32.ofNat i)), .val (.int x)] [(.int (own_let x))])) t := by
      intro hsc t k
      by_cases hm42_3 : (own_let x) = (0 : Int32)
      · by_cases hm48_4 : x < (48 : Int32)
        · by_cases hm60_5 : x = (43 : Int32)
          · exact XS.ifNo X2.here hx rfl (hb hby d5_42) rfl ((if0 _ _).trans (teq hm42_3).2) (XS.iloadN X2.here hx rfl (hb hby d5_45) rfl (XS.bipush X2.here hx rfl (hb hby d5_46) (XS.icmpYes X2.here hx rfl (pc0 := 48) (pc' := 57) rfl (hb hby d5_48) rfl (tlt hm48_4).1 (by decide) (by decide) (XS.iloadN X2.here hx rfl (hb hby d5_57) rfl (XS.bipush X2.here hx rfl (hb hby d5_58) (XS.icmpYes X2.here hx rfl (pc0 := 60) (pc' := 77) rfl (hb hby d5_60) rfl (teq hm60_5).1 (by decide) (by decide) k))))))
          · by_cases hm66_6 : x = (45 : Int32)
            · exact XS.ifNo X2.here hx rfl (hb hby d5_42) rfl ((if0 _ _).trans (teq hm42_3).2) (XS.iloadN X2.here hx rfl (hb hby d5_45) rfl (XS.bipush X2.here hx rfl (hb hby d5_46) (XS.icmpYes X2.here hx rfl (pc0 := 48) (pc' := 57) rfl (hb hby d5_48) rfl (tlt hm48_4).1 (by decide) (by decide) (XS.iloadN X2.here hx rfl (hb hby d5_57) rfl (XS.bipush X2.here hx rfl (hb hby d5_58) (XS.icmpNo X2.here hx rfl (hb hby d5_60) rfl (feq hm60_5).1 (XS.iloadN X2.here hx rfl (hb hby d5_63) rfl (XS.bipush X2.here hx rfl (hb hby d5_64) (XS.icmpYes X2.here hx rfl (pc0 := 66) (pc' := 77) rfl (hb hby d5_66) rfl (teq hm66_6).1 (by decide) (by decide) k)))))))))
            · by_cases hm72_7 : x = (46 : Int32)
              · exact XS.ifNo X2.here hx rfl (hb hby d5_42) rfl ((if0 _ _).trans (teq hm42_3).2) (XS.iloadN X2.here hx rfl (hb hby d5_45) rfl (XS.bipush X2.here hx rfl (hb hby d5_46) (XS.icmpYes X2.here hx rfl (pc0 := 48) (pc' := 57) rfl (hb hby d5_48) rfl (tlt hm48_4).1 (by decide) (by decide) (XS.iloadN X2.here hx rfl (hb hby d5_57) rfl (XS.bipush X2.here hx rfl (hb hby d5_58) (XS.icmpNo X2.here hx rfl (hb hby d5_60) rfl (feq hm60_5).1 (XS.iloadN X2.here hx rfl (hb hby d5_63) rfl (XS.bipush X2.here hx rfl (hb hby d5_64) (XS.icmpNo X2.here hx rfl (hb hby d5_66) rfl (feq hm66_6).1 (XS.iloadN X2.here hx rfl (hb hby d5_69) rfl (XS.bipush X2.here hx rfl (hb hby d5_70) (XS.icmpYes X2.here hx rfl (pc0 := 72) (pc' := 77) rfl (hb hby d5_72) rfl (teq hm72_7).1 (by decide) (by decide) k))))))))))))
              · rw [hLq] at hm42_3
                have hLz : ¬ own_isL x := hm42_3
                exact absurd hsc (by simp only [own_sch, hLz, hm48_4, hm60_5, hm66_6, hm72_7, not_true_eq_false, not_false_eq_true, and_true, true_and, and_false, false_and, or_true, true_or, or_false, false_or, if_true, if_false, and_self, or_self])
        · by_cases hm54_8 : (57 : Int32) < x
          · by_cases hm60_9 : x = (43 : Int32)
            · exact XS.ifNo X2.here hx rfl (hb hby d5_42) rfl ((if0 _ _).trans (teq hm42_3).2) (XS.iloadN X2.here hx rfl (hb hby d5_45) rfl (XS.bipush X2.here hx rfl (hb hby d5_46) (XS.icmpNo X2.here hx rfl (hb hby d5_48) rfl (flt hm48_4).1 (XS.iloadN X2.here hx rfl (hb hby d5_51) rfl (XS.bipush X2.here hx rfl (hb hby d5_52) (XS.icmpNo X2.here hx rfl (hb hby d5_54) rfl (tlt hm54_8).2.2.2 (XS.iloadN X2.here hx rfl (hb hby d5_57) rfl (XS.bipush X2.here hx rfl (hb hby d5_58) (XS.icmpYes X2.here hx rfl (pc0 := 60) (pc' := 77) rfl (hb hby d5_60) rfl (teq hm60_9).1 (by decide) (by decide) k)))))))))
            · by_cases hm66_10 : x = (45 : Int32)
              · exact XS.ifNo X2.here hx rfl (hb hby d5_42) rfl ((if0 _ _).trans (teq hm42_3).2) (XS.iloadN X2.here hx rfl (hb hby d5_45) rfl (XS.bipush X2.here hx rfl (hb hby d5_46) (XS.icmpNo X2.here hx rfl (hb hby d5_48) rfl (flt hm48_4).1 (XS.iloadN X2.here hx rfl (hb hby d5_51) rfl (XS.bipush X2.here hx rfl (hb hby d5_52) (XS.icmpNo X2.here hx rfl (hb hby d5_54) rfl (tlt hm54_8).2.2.2 (XS.iloadN X2.here hx rfl (hb hby d5_57) rfl (XS.bipush X2.here hx rfl (hb hby d5_58) (XS.icmpNo X2.here hx rfl (hb hby d5_60) rfl (feq hm60_9).1 (XS.iloadN X2.here hx rfl (hb hby d5_63) rfl (XS.bipush X2.here hx rfl (hb hby d5_64) (XS.icmpYes X2.here hx rfl (pc0 := 66) (pc' := 77) rfl (hb hby d5_66) rfl (teq hm66_10).1 (by decide) (by decide) k))))))))))))
              · by_cases hm72_11 : x = (46 : Int32)
                · exact XS.ifNo X2.here hx rfl (hb hby d5_42) rfl ((if0 _ _).trans (teq hm42_3).2) (XS.iloadN X2.here hx rfl (hb hby d5_45) rfl (XS.bipush X2.here hx rfl (hb hby d5_46) (XS.icmpNo X2.here hx rfl (hb hby d5_48) rfl (flt hm48_4).1 (XS.iloadN X2.here hx rfl (hb hby d5_51) rfl (XS.bipush X2.here hx rfl (hb hby d5_52) (XS.icmpNo X2.here hx rfl (hb hby d5_54) rfl (tlt hm54_8).2.2.2 (XS.iloadN X2.here hx rfl (hb hby d5_57) rfl (XS.bipush X2.here hx rfl (hb hby d5_58) (XS.icmpNo X2.here hx rfl (hb hby d5_60) rfl (feq hm60_9).1 (XS.iloadN X2.here hx rfl (hb hby d5_63) rfl (XS.bipush X2.here hx rfl (hb hby d5_64) (XS.icmpNo X2.here hx rfl (hb hby d5_66) rfl (feq hm66_10).1 (XS.iloadN X2.here hx rfl (hb hby d5_69) rfl (XS.bipush X2.here hx rfl (hb hby d5_70) (XS.icmpYes X2.here hx rfl (pc0 := 72) (pc' := 77) rfl (hb hby d5_72) rfl (teq hm72_11).1 (by decide) (by decide) k)))))))))))))))
                · rw [hLq] at hm42_3
                  have hLz : ¬ own_isL x := hm42_3
                  exact absurd hsc (by simp only [own_sch, hLz, hm48_4, hm54_8, hm60_9, hm66_10, hm72_11, not_true_eq_false, not_false_eq_true, and_true, true_and, and_false, false_and, or_true, true_or, or_false, false_or, if_true, if_false, and_self, or_self])
          · exact XS.ifNo X2.here hx rfl (hb hby d5_42) rfl ((if0 _ _).trans (teq hm42_3).2) (XS.iloadN X2.here hx rfl (hb hby d5_45) rfl (XS.bipush X2.here hx rfl (hb hby d5_46) (XS.icmpNo X2.here hx rfl (hb hby d5_48) rfl (flt hm48_4).1 (XS.iloadN X2.here hx rfl (hb hby d5_51) rfl (XS.bipush X2.here hx rfl (hb hby d5_52) (XS.icmpYes X2.here hx rfl (pc0 := 54) (pc' := 77) rfl (hb hby d5_54) rfl (flt hm54_8).2.2.2 (by decide) (by decide) k))))))
      · exact XS.ifYes X2.here hx rfl (pc0 := 42) (pc' := 77) rfl (hb hby d5_42) rfl ((if0 _ _).trans (feq hm42_3).2) (by decide) (by decide) k
    have no42 : ¬ own_sch x → ∀ t, Steps p.tables e below (T2.setTop (mkF m 75 #[.val (.ref ao0), .val (.int (Int32.ofNat jj)), .val (.int (Int32.ofNat i)), .val (.int x)] [])) t → Steps p.tables e below (T2.setTop (mkF m 42 #[.val (.ref ao0), .val (.int (Int32.ofNat jj)), .val (.int (Int32.ofNat i)), .val (.int x)] [(.int (own_let x))])) t := by
      intro hsc t k
      by_cases hm42_3 : (own_let x) = (0 : Int32)
      · by_cases hm48_4 : x < (48 : Int32)
        · by_cases hm60_5 : x = (43 : Int32)
          · rw [hLq] at hm42_3
            have hLz : ¬ own_isL x := hm42_3
            exact absurd hsc (by simp only [own_sch, hLz, hm48_4, hm60_5, not_true_eq_false, not_false_eq_true, and_true, true_and, and_false, false_and, or_true, true_or, or_false, false_or, if_true, if_false, and_self, or_self])
          · by_cases hm66_6 : x = (45 : Int32)
            · rw [hLq] at hm42_3
              have hLz : ¬ own_isL x := hm42_3
              exact absurd hsc (by simp only [own_sch, hLz, hm48_4, hm60_5, hm66_6, not_true_eq_false, not_false_eq_true, and_true, true_and, and_false, false_and, or_true, true_or, or_false, false_or, if_true, if_false, and_self, or_self])
            · by_cases hm72_7 : x = (46 : Int32)
              · rw [hLq] at hm42_3
                have hLz : ¬ own_isL x := hm42_3
                exact absurd hsc (by simp only [own_sch, hLz, hm48_4, hm60_5, hm66_6, hm72_7, not_true_eq_false, not_false_eq_true, and_true, true_and, and_false, false_and, or_true, true_or, or_false, false_or, if_true, if_false, and_self, or_self])
              · exact XS.ifNo X2.here hx rfl (hb hby d5_42) rfl ((if0 _ _).trans (teq hm42_3).2) (XS.iloadN X2.here hx rfl (hb hby d5_45) rfl (XS.bipush X2.here hx rfl (hb hby d5_46) (XS.icmpYes X2.here hx rfl (pc0 := 48) (pc' := 57) rfl (hb hby d5_48) rfl (tlt hm48_4).1 (by decide) (by decide) (XS.iloadN X2.here hx rfl (hb hby d5_57) rfl (XS.bipush X2.here hx rfl (hb hby d5_58) (XS.icmpNo X2.here hx rfl (hb hby d5_60) rfl (feq hm60_5).1 (XS.iloadN X2.here hx rfl (hb hby d5_63) rfl (XS.bipush X2.here hx rfl (hb hby d5_64) (XS.icmpNo X2.here hx rfl (hb hby d5_66) rfl (feq hm66_6).1 (XS.iloadN X2.here hx rfl (hb hby d5_69) rfl (XS.bipush X2.here hx rfl (hb hby d5_70) (XS.icmpNo X2.here hx rfl (hb hby d5_72) rfl (feq hm72_7).1 k))))))))))))
        · by_cases hm54_8 : (57 : Int32) < x
          · by_cases hm60_9 : x = (43 : Int32)
            · rw [hLq] at hm42_3
              have hLz : ¬ own_isL x := hm42_3
              exact absurd hsc (by simp only [own_sch, hLz, hm48_4, hm54_8, hm60_9, not_true_eq_false, not_false_eq_true, and_true, true_and, and_false, false_and, or_true, true_or, or_false, false_or, if_true, if_false, and_self, or_self])
            · by_cases hm66_10 : x = (45 : Int32)
              · rw [hLq] at hm42_3
                have hLz : ¬ own_isL x := hm42_3
                exact absurd hsc (by simp only [own_sch, hLz, hm48_4, hm54_8, hm60_9, hm66_10, not_true_eq_false, not_false_eq_true, and_true, true_and, and_false, false_and, or_true, true_or, or_false, false_or, if_true, if_false, and_self, or_self])
              · by_cases hm72_11 : x = (46 : Int32)
                · rw [hLq] at hm42_3
                  have hLz : ¬ own_isL x := hm42_3
                  exact absurd hsc (by simp only [own_sch, hLz, hm48_4, hm54_8, hm60_9, hm66_10, hm72_11, not_true_eq_false, not_false_eq_true, and_true, true_and, and_false, false_and, or_true, true_or, or_false, false_or, if_true, if_false, and_self, or_self])
                · exact XS.ifNo X2.here hx rfl (hb hby d5_42) rfl ((if0 _ _).trans (teq hm42_3).2) (XS.iloadN X2.here hx rfl (hb hby d5_45) rfl (XS.bipush X2.here hx rfl (hb hby d5_46) (XS.icmpNo X2.here hx rfl (hb hby d5_48) rfl (flt hm48_4).1 (XS.iloadN X2.here hx rfl (hb hby d5_51) rfl (XS.bipush X2.here hx rfl (hb hby d5_52) (XS.icmpNo X2.here hx rfl (hb hby d5_54) rfl (tlt hm54_8).2.2.2 (XS.iloadN X2.here hx rfl (hb hby d5_57) rfl (XS.bipush X2.here hx rfl (hb hby d5_58) (XS.icmpNo X2.here hx rfl (hb hby d5_60) rfl (feq hm60_9).1 (XS.iloadN X2.here hx rfl (hb hby d5_63) rfl (XS.bipush X2.here hx rfl (hb hby d5_64) (XS.icmpNo X2.here hx rfl (hb hby d5_66) rfl (feq hm66_10).1 (XS.iloadN X2.here hx rfl (hb hby d5_69) rfl (XS.bipush X2.here hx rfl (hb hby d5_70) (XS.icmpNo X2.here hx rfl (hb hby d5_72) rfl (feq hm72_11).1 k)))))))))))))))
          · rw [hLq] at hm42_3
            have hLz : ¬ own_isL x := hm42_3
            exact absurd hsc (by simp only [own_sch, hLz, hm48_4, hm54_8, not_true_eq_false, not_false_eq_true, and_true, true_and, and_false, false_and, or_true, true_or, or_false, false_or, if_true, if_false, and_self, or_self])
      · rw [hLq] at hm42_3
        have hLz : own_isL x := Classical.byContradiction hm42_3
        exact absurd hsc (by simp only [own_sch, hLz, not_true_eq_false, not_false_eq_true, and_true, true_and, and_false, false_and, or_true, true_or, or_false, false_or, if_true, if_false, and_self, or_self])
    by_cases hsc : own_sch x
    · refine own_goH (x' := T2.setTop (mkF m 77 #[.val (.ref ao0), .val (.int (Int32.ofNat jj)), .val (.int (Int32.ofNat i)), .val (.int x)] [])) (yes42 hsc) ?_
      refine own_goH (x' := T2.setTop (mkF m 27 #[.val (.ref ao0), .val (.int (Int32.ofNat jj)), .val (.int ((Int32.ofNat i) + (1 : Int32))), .val (.int x)] [])) (fun _ k => XS.iinc X2.here hx rfl (hb hby d5_77) rfl (l' := #[.val (.ref ao0), .val (.int (Int32.ofNat jj)), .val (.int ((Int32.ofNat i) + (1 : Int32))), .val (.int x)]) rfl (XS.goto X2.here hx rfl (pc0 := 80) (pc' := 27) rfl (hb hby d5_80) (by decide) (by decide) k)) ?_
      rw [own_oinc i (by omega)]
      have inv' : ∀ a c, a < i + 1 → xs[a]? = some c → own_ok jj a c := fun a c ha hc => by
        by_cases e_ : a < i
        · exact inv a c e_ hc
        · obtain rfl : a = i := by omega
          rw [hi2] at hc
          obtain rfl := Option.some.inj hc
          exact (own_ok1 hi1 (by omega)).mpr hsc
      exact ih (i + 1) _ vm0 k0 _ _ _ X2 eq2 Nf Zs hS hk hZ hown hR Od S_ao0 (by omega) (by omega) inv' (Or.inr ⟨x, rfl⟩)
    · refine own_goH (x' := T2.setTop (mkF m 75 #[.val (.ref ao0), .val (.int (Int32.ofNat jj)), .val (.int (Int32.ofNat i)), .val (.int x)] [])) (no42 hsc) ?_
      refine own_goH (x' := T2.setTop (mkF m 76 #[.val (.ref ao0), .val (.int (Int32.ofNat jj)), .val (.int (Int32.ofNat i)), .val (.int x)] [(.int 0)])) (fun _ k => XS.iconst X2.here hx rfl (hb hby d5_75) k) ?_
      refine own_retNH X2 hS (own_hk eq2 hk) (own_hr eq2 hR) hZ (own_EW hw) hx hlk (t := .boolean) hret (by simp) (hb hby d5_76) (w := (0 : Int32)) rfl ?_ (by decide) (by decide)
      rw [eq2]
      exact ⟨0, rfl, Or.inr ⟨rfl, own_nabs hlen hix hjl hi2 (fun u => hsc ((own_ok1 hi1 (by omega)).mp u))⟩, Nf, Kp⟩
theorem d5_0 : decode prog_36_method_3_code 0 = .ok (.aload_n 0, 1) := by decide +kernel
theorem d5_1 : decode prog_36_method_3_code 1 = .ok (.bipush 58, 2) := by decide +kernel
theorem d5_3 : decode prog_36_method_3_code 3 = .ok (.invokevirtual 22, 3) := by decide +kernel
theorem d5_6 : decode prog_36_method_3_code 6 = .ok (.istore_n 1, 1) := by decide +kernel
theorem d5_7 : decode prog_36_method_3_code 7 = .ok (.iload_n 1, 1) := by decide +kernel
theorem d5_8 : decode prog_36_method_3_code 8 = .ok (.iconst 1, 1) := by decide +kernel
theorem d5_9 : decode prog_36_method_3_code 9 = .ok (.if_icmp .lt 14, 3) := by decide +kernel
theorem d5_12 : decode prog_36_method_3_code 12 = .ok (.aload_n 0, 1) := by decide +kernel
theorem d5_13 : decode prog_36_method_3_code 13 = .ok (.iconst 0, 1) := by decide +kernel
theorem d5_14 : decode prog_36_method_3_code 14 = .ok (.invokevirtual 28, 3) := by decide +kernel
theorem d5_17 : decode prog_36_method_3_code 17 = .ok (.invokestatic 32, 3) := by decide +kernel
theorem d5_20 : decode prog_36_method_3_code 20 = .ok (.ifCond .ne 5, 3) := by decide +kernel
theorem d5_23 : decode prog_36_method_3_code 23 = .ok (.iconst 0, 1) := by decide +kernel
theorem d5_24 : decode prog_36_method_3_code 24 = .ok (.ireturn, 1) := by decide +kernel
theorem d5_25 : decode prog_36_method_3_code 25 = .ok (.iconst 1, 1) := by decide +kernel
theorem d5_26 : decode prog_36_method_3_code 26 = .ok (.istore_n 2, 1) := by decide +kernel
def Q_rm5 (Z : State) (ao0 : Addr) (xs : List Int32) (G1 : Int32) (sf : Value) (h0 : Heap) (n0 : Nat) (v : Option Value) (h : Heap) (L : List Loc) : Prop := ∃ rr : Int32, v = some (.int rr) ∧ ((rr = 1 ∧ own_abs xs) ∨ (rr = 0 ∧ ¬ own_abs xs)) ∧ Fr n0 L ∧ Keep h0 h []
theorem pn_rm5 : plainName "com/example/triplewright/triplewright/Term$Iri" = true := by first | (simp [plainName, overriddenIn]; done) | decide +kernel
theorem ef_rm5 (m : MethodId) (x0 : Addr) : entryFrame m #[(.ref x0)] 4 = mkF m 0 #[.val (.ref x0), .unset, .unset, .unset] [] := by first | (simp [entryFrame, mkF, argsToLocals, Value.category]; done) | rfl
set_option maxRecDepth 65536 in
set_option maxHeartbeats 40000000 in
theorem rm5 (l : Launch) (Z : State) (a0 : Array Value) (hw : ∀ d ∈ tables_1, d.before a0 Z = true) (ws : List Jvm.Cond) (ao0 : Addr) (xs : List Int32) (G1 : Int32) (sf : Value) (h0 : Heap) (n0 : Nat) (Z0 : n0 ≤ h0.size) (S_ao0 : own_S Z h0 ao0 xs) (hlen : xs.length ≤ 6) (Od : Old Z n0 h0) (hst : own_St Z G1 sf) :
    MetFree l (⟨"com/example/triplewright/triplewright/Term$Iri", "isAbsolute", "(Ljava/lang/String;)Z"⟩ : MethodName) (head1 (Jvm.Cond.code (⟨"com/example/triplewright/triplewright/Term$Iri", "isAbsolute", "(Ljava/lang/String;)Z"⟩ : MethodName) prog_36_method_3_code 4 (some .boolean) :: ws) ({ frames := 7, cells := 8, slots := 160, locals := 103 } : Room)) (fun a U => a = #[(.ref ao0)] ∧ Z.Warmed39 U.vm ∧ U.heap = h0 ∧ CHv Z own_EL U.vm h0) (fun _ _ _ _ _ => True) (fun _ U o U' => ∃ v L, o = .returned v ∧ (Q_rm5 Z ao0 xs G1 sf h0 n0) v U'.heap L ∧ CHr Z own_EL U.vm U.heap U'.vm U'.heap ∧ ReturnedEndW U o U' L ({ frames := 7, cells := 8, slots := 160, locals := 103 } : Room).cells ({ frames := 7, cells := 8, slots := 160, locals := 103 } : Room).slots) := by
  refine MetFree.of_bodySF (plainFor_of_name pn_rm5) hisR ?_
  intro p e s m args below meth c s₁ Bd hml0 hP hK
  obtain ⟨rfl, hZ, hh, hC⟩ := hP
  have hx := Bd.exec
  have hby := Bd.bytes
  have hlk := BodyLoose.notSynchronized Bd
  have hret := Bd.returns
  have hml : c.maxLocals = 4 := hml0
  have hown : s.vm.findClass "com/example/triplewright/triplewright/Term$Iri" = some m.cls := findClass_of_methodNamed Bd.named
  have hnm := (name_of_methodNamed Bd.named Bd.method).1
  have X0 : Stand p l e ({ frames := 7, cells := 8, slots := 160, locals := 103 } : Room) s m #[(.ref ao0)] below meth c s₁ [] 0 0 := Stand.of_body Bd
  have e0 : s₁.heap = h0 := by rw [← hh, Bd.state]; rfl
  have Nf := Fr.nil n0
  have Zs := Z0
  have Kp : Keep h0 h0 [] := Keep.refl _ _
  obtain ⟨vm0, k0, X0, hS, hk, hZ, hown, hR⟩ : ∃ (vm0 : Vm) (k0 : Nat), Stand p l e ({ frames := 7, cells := 8, slots := 160, locals := 103 } : Room) (s.setVm vm0) m #[(.ref ao0)] below meth c s₁ [] 0 0 ∧ s.Since vm0 k0 ∧ k0 ≤ h0.size ∧ Z.Warmed39 (s.setVm vm0).vm ∧ (s.setVm vm0).vm.findClass "com/example/triplewright/triplewright/Term$Iri" = some m.cls ∧ CHr Z own_EL s.vm s.heap vm0 h0 := ⟨s.vm, s.heap.size, X0, (State.WarmedH.refl s).since _, Nat.le_of_eq (congrArg Array.size hh), hZ, hown, by rw [hh]; exact CHr.refl hC⟩
  obtain ⟨S_COMPACT_STRINGS, hG, S__assertionsDisabled, S_HI_BYTE_SHIFT, S_LO_BYTE_SHIFT, S_SIOOBE_FORMATTER, r_sf, c_sf⟩ := id hst
  obtain ⟨_, _, E_ao0, -, hxs, -⟩ := id S_ao0
  show own_EndH Z own_EL p e below s (Q_rm5 Z ao0 xs G1 sf h0 n0) ({ frames := 7, cells := 8, slots := 160, locals := 103 } : Room).cells ({ frames := 7, cells := 8, slots := 160, locals := 103 } : Room).slots (s₁.setTop (entryFrame m #[(.ref ao0)] 4))
  refine own_goH (x' := s₁.setTop (mkF m 0 #[.val (.ref ao0), .unset, .unset, .unset] [])) (fun t k => castTop (ef_rm5 m ao0) k) ?_
  refine own_goH (x' := s₁.setTop (mkF m 3 #[.val (.ref ao0), .unset, .unset, .unset] [(.int 58), (.ref ao0)])) (fun _ k => XS.aloadN X0.here hx rfl (hb hby d5_0) rfl rfl (XS.bipush X0.here hx rfl (hb hby d5_1) k)) ?_
  obtain ⟨cq1, kq1, q1a, q1b, q1c⟩ := isOf hZ e0 E_ao0
  obtain ⟨_, _, ⟨T1, L1, k1, n1⟩, -, X1, ⟨Lc1, hQ1, l1, y1, z1⟩, st1⟩ := X0.virtualBack hx (y := (⟨"java/lang/String", "indexOf", "(I)I"⟩ : MethodName)) (z := (⟨"java/lang/String", "indexOf", "(I)I"⟩ : MethodName)) hown (mvT hZ (own_w hw 31 rfl)) (mvT hZ (own_w hw 32 rfl)) (notFace_of_selects (args := #[]) (mvT hZ (own_w hw 34 rfl))) (mvT hZ (own_w hw 34 rfl)) (mvT hZ (own_w hw 33 rfl)) (by decide) (backOf (W := 0) (rm6S l Z a0 hw [] ao0 xs G1 sf h0 n0 Zs S_ao0 hlen Od hst) hZ (own_w hw 35 rfl) (own_w hw 8 rfl) (by decide) (by decide)) q1a q1c (g := (mkF m 3 #[.val (.ref ao0), .unset, .unset, .unset] [(.int 58), (.ref ao0)])) rfl (by rw [hml]; rfl) (Steps.refl _) (argsL := [(.int 58)]) (rest := []) (lenOf pd_14 rfl) rfl (by show 2 * 0 + _ ≤ _; exact Nat.le_of_eq rfl) (hb hby d5_3) (fun _ _ => ⟨rfl, e0, (by decide : 0 + 0 ≤ _), (by decide : 0 + 0 ≤ _)⟩)
  dsimp only [Pt.U, Pt.locs, Pt.cells, Pt.slots] at X1 l1 y1 z1 st1 hQ1
  subst l1 y1 z1
  obtain ⟨hv1, Nq1, eq1⟩ := hQ1
  subst hv1
  replace Nf := Fr.app Nf Nq1
  refine own_goH (x' := T1.setTop (mkF m 6 #[.val (.ref ao0), .unset, .unset, .unset] [(.int (own_ix xs))])) (fun _ k => st1.trans k) ?_
  rcases own_ixs xs with hix | ⟨jj, hix, hjl⟩
  · rw [hix]
    refine own_goH (x' := T1.setTop (mkF m 24 #[.val (.ref ao0), .val (.int (-1)), .unset, .unset] [(.int 0)])) (fun _ k => XS.istoreN X1.here hx rfl (hb hby d5_6) rfl (l' := #[.val (.ref ao0), .val (.int (-1)), .unset, .unset]) rfl (XS.iloadN X1.here hx rfl (hb hby d5_7) rfl (XS.iconst X1.here hx rfl (hb hby d5_8) (XS.icmpYes X1.here hx rfl (pc0 := 9) (pc' := 23) rfl (hb hby d5_9) rfl (tlt (by decide +kernel : ((-1 : Int32) < (1 : Int32)))).1 (by decide) (by decide) (XS.iconst X1.here hx rfl (hb hby d5_23) k))))) ?_
    refine own_retNH X1 hS (own_hk eq1 hk) (own_hr eq1 hR) hZ (own_EW hw) hx hlk (t := .boolean) hret (by simp) (hb hby d5_24) (w := (0 : Int32)) rfl ?_ (by decide) (by decide)
    rw [eq1]
    exact ⟨0, rfl, Or.inr ⟨rfl, own_nabs1 hlen (by rw [hix]; decide)⟩, Nf, Kp⟩
  · rw [hix]
    refine own_goH (x' := T1.setTop (mkF m 9 #[.val (.ref ao0), .val (.int (Int32.ofNat jj)), .unset, .unset] [(.int 1), (.int (Int32.ofNat jj))])) (fun _ k => XS.istoreN X1.here hx rfl (hb hby d5_6) rfl (l' := #[.val (.ref ao0), .val (.int (Int32.ofNat jj)), .unset, .unset]) rfl (XS.iloadN X1.here hx rfl (hb hby d5_7) rfl (XS.iconst X1.here hx rfl (hb hby d5_8) k))) ?_
    by_cases hc9 : (Int32.ofNat jj) < (1 : Int32)
    · refine own_goH (x' := T1.setTop (mkF m 24 #[.val (.ref ao0), .val (.int (Int32.ofNat jj)), .unset, .unset] [(.int 0)])) (fun _ k => XS.icmpYes X1.here hx rfl (pc0 := 9) (pc' := 23) rfl (hb hby d5_9) rfl (tlt hc9).1 (by decide) (by decide) (XS.iconst X1.here hx rfl (hb hby d5_23) k)) ?_
      refine own_retNH X1 hS (own_hk eq1 hk) (own_hr eq1 hR) hZ (own_EW hw) hx hlk (t := .boolean) hret (by simp) (hb hby d5_24) (w := (0 : Int32)) rfl ?_ (by decide) (by decide)
      rw [eq1]
      exact ⟨0, rfl, Or.inr ⟨rfl, own_nabs1 hlen (by rw [hix]; exact hc9)⟩, Nf, Kp⟩
    · refine own_goH (x' := T1.setTop (mkF m 12 #[.val (.ref ao0), .val (.int (Int32.ofNat jj)), .unset, .unset] [])) (fun _ k => XS.icmpNo X1.here hx rfl (hb hby d5_9) rfl (flt hc9).1 k) ?_
      have hj1_ : 1 ≤ jj := Nat.le_of_not_lt fun q_ => hc9 ((own_olt (a := jj) (b := 1) (by omega) (by omega)).mpr q_)
      obtain ⟨x, hx2⟩ := own_get (xs := xs) (a := 0) (by omega)
      refine own_goH (x' := T1.setTop (mkF m 14 #[.val (.ref ao0), .val (.int (Int32.ofNat jj)), .unset, .unset] [(.int 0), (.ref ao0)])) (fun _ k => XS.aloadN X1.here hx rfl (hb hby d5_12) rfl rfl (XS.iconst X1.here hx rfl (hb hby d5_13) k)) ?_
      obtain ⟨cq2, kq2, q2a, q2b, q2c⟩ := isOf hZ eq1 E_ao0
      obtain ⟨_, _, ⟨T2, L2, k2, n2⟩, -, X2, ⟨Lc2, hQ2, l2, y2, z2⟩, st2⟩ := X1.virtualBack hx (y := (⟨"java/lang/String", "charAt", "(I)C"⟩ : MethodName)) (z := (⟨"java/lang/String", "charAt", "(I)C"⟩ : MethodName)) hown (mvT hZ (own_w hw 133 rfl)) (mvT hZ (own_w hw 134 rfl)) (notFace_of_selects (args := #[]) (mvT hZ (own_w hw 136 rfl))) (mvT hZ (own_w hw 136 rfl)) (mvT hZ (own_w hw 135 rfl)) (by decide) (backOf (W := 0) (rm32S l Z a0 hw [] ao0 xs 0 x G1 sf h0 n0 Zs S_ao0 hlen (by omega) hx2 Od hst) hZ (own_w hw 137 rfl) (own_w hw 8 rfl) (by decide) (by decide)) q2a q2c (g := (mkF m 14 #[.val (.ref ao0), .val (.int (Int32.ofNat jj)), .unset, .unset] [(.int 0), (.ref ao0)])) rfl (by rw [hml]; rfl) (Steps.refl _) (argsL := [(.int 0)]) (rest := []) (lenOf pd_23 rfl) rfl (by show 2 * 0 + _ ≤ _; exact Nat.le_of_eq rfl) (hb hby d5_14) (fun _ _ => ⟨rfl, eq1, (by decide : 0 + 0 ≤ _), (by decide : 0 + 0 ≤ _)⟩)
      dsimp only [Pt.U, Pt.locs, Pt.cells, Pt.slots] at X2 l2 y2 z2 st2 hQ2
      subst l2 y2 z2
      obtain ⟨hv2, Nq2, eq2⟩ := hQ2
      subst hv2
      replace Nf := Fr.app Nf Nq2
      refine own_goH (x' := T2.setTop (mkF m 17 #[.val (.ref ao0), .val (.int (Int32.ofNat jj)), .unset, .unset] [(.int x)])) (fun _ k => st2.trans k) ?_
      obtain ⟨_, _, ⟨T3, L3, k3, n3⟩, -, X3, ⟨Lc3, hQ3, l3, y3, z3⟩, st3⟩ := Jvm.LawKit.callS X2 hx (y := (⟨"com/example/triplewright/triplewright/Term$Iri", "isAsciiLetter", "(C)Z"⟩ : MethodName)) hown (mvT hZ (own_w hw 147 rfl)) (mvT hZ (own_w hw 148 rfl)) (mvT hZ (own_w hw 29 rfl)) (mvT hZ (own_w hw 149 rfl)) (by decide) (backOf (W := 0) (rm36 l Z a0 hw [] x  h0 n0 Zs  ) hZ (own_w hw 149 rfl) (own_w hw 29 rfl) (by decide) (by decide)) (g := (mkF m 17 #[.val (.ref ao0), .val (.int (Int32.ofNat jj)), .unset, .unset] [(.int x)])) rfl (by rw [hml]; rfl) (argsL := [(.int x)]) (rest := []) (lenOf pd_22 rfl) rfl (by show 2 * 0 + _ ≤ _; exact Nat.le_of_eq rfl) (hb hby d5_17) (fun _ _ => ⟨rfl, eq2, (by decide : 0 + 0 ≤ _), (by decide : 0 + 0 ≤ _)⟩)
      dsimp only [Pt.U, Pt.locs, Pt.cells, Pt.slots] at X3 l3 y3 z3 st3 hQ3
      subst l3 y3 z3
      obtain ⟨hv3, Nq3, eq3⟩ := hQ3
      subst hv3
      replace Nf := Fr.app Nf Nq3
      refine own_goH (x' := T3.setTop (mkF m 20 #[.val (.ref ao0), .val (.int (Int32.ofNat jj)), .unset, .unset] [(.int (own_let x))])) st3 ?_
      by_cases hc20 : (own_let x) = (0 : Int32)
      · refine own_goH (x' := T3.setTop (mkF m 24 #[.val (.ref ao0), .val (.int (Int32.ofNat jj)), .unset, .unset] [(.int 0)])) (fun _ k => XS.ifNo X3.here hx rfl (hb hby d5_20) rfl ((if0 _ _).trans (teq hc20).2) (XS.iconst X3.here hx rfl (hb hby d5_23) k)) ?_
        refine own_retNH X3 hS (own_hk eq3 hk) (own_hr eq3 hR) hZ (own_EW hw) hx hlk (t := .boolean) hret (by simp) (hb hby d5_24) (w := (0 : Int32)) rfl ?_ (by decide) (by decide)
        rw [eq3]
        exact ⟨0, rfl, Or.inr ⟨rfl, own_nabs hlen hix hjl hx2 (fun u => own_let0.mp hc20 (own_ok0.mp u))⟩, Nf, Kp⟩
      · refine own_goH (x' := T3.setTop (mkF m 27 #[.val (.ref ao0), .val (.int (Int32.ofNat jj)), .val (.int 1), .unset] [])) (fun _ k => XS.ifYes X3.here hx rfl (pc0 := 20) (pc' := 25) rfl (hb hby d5_20) rfl ((if0 _ _).trans (feq hc20).2) (by decide) (by decide) (XS.iconst X3.here hx rfl (hb hby d5_25) (XS.istoreN X3.here hx rfl (hb hby d5_26) rfl (l' := #[.val (.ref ao0), .val (.int (Int32.ofNat jj)), .val (.int 1), .unset]) rfl k))) ?_
        have hL : own_isL x := Classical.byContradiction fun q_ => hc20 (own_let0.mpr q_)
        have inv : ∀ a c, a < 1 → xs[a]? = some c → own_ok jj a c := fun a c ha hc => by
          obtain rfl : a = 0 := by omega
          rw [hx2] at hc
          obtain rfl := Option.some.inj hc
          exact own_ok0.mpr hL
        exact own_monoH (fun v h L u => by obtain ⟨rr, u1, u2, u3, u4⟩ := u; exact ⟨rr, u1, u2, u3, Kp.trans u4 all0⟩) (seg1 hx hlk hret hw hby hml hnm ao0 xs jj G1 sf n0 hlen hst hix hj1_ hjl (jj - 1) 1 .unset _ _ _ _ _ X3 eq3 Nf Zs hS hk hZ hown hR Od S_ao0 (by omega) (by omega) inv (Or.inl rfl))
theorem own_n7 (k : Int32) : ¬ ((k &&& (7 : Int32)) % (7 : Int32)) < 0 ∧ ¬ (6 : Int32) < ((k &&& (7 : Int32)) % (7 : Int32)) := by
  have h := c_mask k 7 3 (by decide) (by decide)
  have r := c_irem (k &&& 7) 7 7 (by decide)
  have r := r.1 (by omega)
  refine ⟨mt own_lt.mp ?_, mt own_lt.mp ?_⟩
  · rw [own_k0]; omega
  · rw [show (6 : Int32).toInt = 6 from by decide]; omega
theorem own_r6 (z : Int32) : ((z &&& (7 : Int32)) % (6 : Int32)) = 0 ∨ ((z &&& (7 : Int32)) % (6 : Int32)) = 1 ∨ ((z &&& (7 : Int32)) % (6 : Int32)) = 2 ∨ ((z &&& (7 : Int32)) % (6 : Int32)) = 3 ∨ ((z &&& (7 : Int32)) % (6 : Int32)) = 4 ∨ ((z &&& (7 : Int32)) % (6 : Int32)) = 5 := by
  have h := c_mask z 7 3 (by decide) (by decide)
  have r := c_irem (z &&& 7) 6 6 (by decide)
  have r := r.1 (by omega)
  obtain ⟨u, hu⟩ : ∃ u, u = (z &&& (7 : Int32)) % (6 : Int32) := ⟨_, rfl⟩
  rw [← hu] at r ⊢
  have c : u.toInt = 0 ∨ u.toInt = 1 ∨ u.toInt = 2 ∨ u.toInt = 3 ∨ u.toInt = 4 ∨ u.toInt = 5 := by omega
  exact c.imp Int32.toInt_inj.mp fun c => c.imp Int32.toInt_inj.mp fun c => c.imp Int32.toInt_inj.mp fun c => c.imp Int32.toInt_inj.mp fun c => c.imp Int32.toInt_inj.mp Int32.toInt_inj.mp
theorem own_scv0 {x : Int32} : own_scv x = 0 ↔ ¬ own_sch x := by
  unfold own_scv
  by_cases h : own_sch x
  · simp [h]
  · simp [h]
theorem own_bdv0 {x : Int32} : own_bdv x = 0 ↔ ¬ own_bad x := by
  unfold own_bdv
  by_cases h : own_bad x
  · simp [h]
  · simp [h]
theorem own_pk {n j i : Nat} {c : Int32} (hn : n ≤ 6) (hj : j < n) (hj1 : 1 ≤ j) (hi : i < 6) : own_pos (Int32.ofNat i) c (Int32.ofNat j) (Int32.ofNat n) = 0 ↔ (i < n ∧ ¬ own_ok j i c) := by
  unfold own_pos
  by_cases h1 : i < n
  · rw [if_pos ((own_olt (by omega) (by omega)).mpr h1)]
    by_cases h2 : i = 0
    · subst h2
      rw [if_pos (show Int32.ofNat 0 = (0 : Int32) from rfl), own_let0, own_ok0]
      exact ⟨fun q => ⟨h1, q⟩, fun q => q.2⟩
    · rw [if_neg (show ¬ Int32.ofNat i = (0 : Int32) from fun q => h2 (own_oinj (b := 0) (by omega) (by omega) q))]
      by_cases h3 : i < j
      · rw [if_pos ((own_olt (by omega) (by omega)).mpr h3), own_scv0, own_ok1 (by omega) h3]
        exact ⟨fun q => ⟨h1, q⟩, fun q => q.2⟩
      · rw [if_neg (fun q => h3 ((own_olt (by omega) (by omega)).mp q))]
        by_cases h4 : i = j
        · subst h4
          rw [if_pos rfl]
          exact ⟨fun q => absurd q (by decide), fun q => absurd (own_okj hj1) q.2⟩
        · rw [if_neg (fun q => h4 (own_oinj (by omega) (by omega) q)), own_ok2 hj1 (by omega)]
          by_cases h5 : own_bad c
          · rw [if_neg (fun q => own_bdv0.mp q h5)]
            exact ⟨fun _ => ⟨h1, fun q => h5.elim (fun u => u q.1) (fun u => q.2 u)⟩, fun _ => rfl⟩
          · rw [if_pos (own_bdv0.mpr h5)]
            exact ⟨fun q => absurd q (by decide), fun q => absurd ⟨Classical.byContradiction fun u => h5 (Or.inl u), fun u => h5 (Or.inr u)⟩ q.2⟩
  · rw [if_neg (fun q => h1 ((own_olt (by omega) (by omega)).mp q))]
    exact ⟨fun q => absurd q (by decide), fun q => absurd q.1 h1⟩
theorem own_ofn {p : Int32} (h : ¬ p < 0 ∧ ¬ (6 : Int32) < p) : p = Int32.ofNat p.toNatClampNeg ∧ p.toNatClampNeg ≤ 6 := by
  rcases own_sev h with rfl | rfl | rfl | rfl | rfl | rfl | rfl <;> decide
theorem own_keyj {X : List Int32} (hX : X.length = 6) {nv cl : Int32} (hp : ¬ nv < 0 ∧ ¬ (6 : Int32) < nv) (hcl : cl = own_ix (X.take nv.toNatClampNeg)) (h1 : ¬ cl < 1) : ∃ j, own_ix (X.take nv.toNatClampNeg) = Int32.ofNat j ∧ cl = Int32.ofNat j ∧ 1 ≤ j ∧ j < nv.toNatClampNeg ∧ (X.take nv.toNatClampNeg).length = nv.toNatClampNeg := by
  have q := own_ofn hp
  have hl : (X.take nv.toNatClampNeg).length = nv.toNatClampNeg := by rw [List.length_take, hX]; omega
  rcases own_ixs (X.take nv.toNatClampNeg) with u | ⟨j, u1, u2⟩
  · rw [hcl, u] at h1; exact absurd (by decide) h1
  · refine ⟨j, u1, hcl.trans u1, ?_, by omega, hl⟩
    rw [hcl, u1] at h1
    exact Nat.le_of_not_lt fun z => h1 ((own_olt (a := j) (b := 1) (by omega) (by omega)).mpr z)
theorem own_key0 {X : List Int32} (hX : X.length = 6) {nv cl : Int32} (hp : ¬ nv < 0 ∧ ¬ (6 : Int32) < nv) (hcl : cl = own_ix (X.take nv.toNatClampNeg)) (h1 : ¬ cl < 1) {i : Nat} {c : Int32} (hi : i < 6) (hc : X[i]? = some c) (h : own_pos (Int32.ofNat i) c cl nv = 0) : ¬ own_abs (X.take nv.toNatClampNeg) := by
  obtain ⟨j, e1, e2, e3, e4, e5⟩ := own_keyj hX hp hcl h1
  have q := own_ofn hp
  rw [e2, q.1] at h
  rw [show (Int32.ofNat nv.toNatClampNeg) = Int32.ofNat nv.toNatClampNeg from rfl] at h
  have u := (own_pk q.2 e4 e3 hi).mp h
  exact own_nabs (by omega) e1 (by omega) (by rw [List.getElem?_take, if_pos u.1]; exact hc) u.2
theorem own_key1 {x0 x1 x2 x3 x4 x5 nv cl : Int32} (hp : ¬ nv < 0 ∧ ¬ (6 : Int32) < nv) (hcl : cl = own_ix ([x0, x1, x2, x3, x4, x5].take nv.toNatClampNeg)) (h1 : ¬ cl < 1) (g0 : ¬ own_pos 0 x0 cl nv = 0) (g1 : ¬ own_pos 1 x1 cl nv = 0) (g2 : ¬ own_pos 2 x2 cl nv = 0) (g3 : ¬ own_pos 3 x3 cl nv = 0) (g4 : ¬ own_pos 4 x4 cl nv = 0) (g5 : ¬ own_pos 5 x5 cl nv = 0) : own_abs ([x0, x1, x2, x3, x4, x5].take nv.toNatClampNeg) := by
  obtain ⟨j, e1, e2, e3, e4, e5⟩ := own_keyj rfl hp hcl h1
  have q := own_ofn hp
  have key : ∀ (i : Nat) (c : Int32), i < 6 → i < nv.toNatClampNeg → ¬ own_pos (Int32.ofNat i) c cl nv = 0 → own_ok j i c := fun i c hi hin h => Classical.byContradiction fun u => h (by rw [e2]; rw [q.1]; exact (own_pk q.2 e4 e3 hi).mpr ⟨hin, u⟩)
  refine ⟨j, e1, e3, by omega, fun a c hc => ?_⟩
  rw [List.getElem?_take] at hc
  by_cases ha : a < nv.toNatClampNeg
  · rw [if_pos ha] at hc
    have h6 : a = 0 ∨ a = 1 ∨ a = 2 ∨ a = 3 ∨ a = 4 ∨ a = 5 := by omega
    rcases h6 with rfl | rfl | rfl | rfl | rfl | rfl
    · obtain rfl : x0 = c := by simpa using hc
      exact key 0 _ (by omega) ha g0
    · obtain rfl : x1 = c := by simpa using hc
      exact key 1 _ (by omega) ha g1
    · obtain rfl : x2 = c := by simpa using hc
      exact key 2 _ (by omega) ha g2
    · obtain rfl : x3 = c := by simpa using hc
      exact key 3 _ (by omega) ha g3
    · obtain rfl : x4 = c := by simpa using hc
      exact key 4 _ (by omega) ha g4
    · obtain rfl : x5 = c := by simpa using hc
      exact key 5 _ (by omega) ha g5
  · rw [if_neg ha] at hc; cases hc
theorem pd_24 : parseMethodDescriptor "(I[C)Ljava/lang/String;" = some ⟨[.int, (.array .char)], some (.object "java/lang/String")⟩ := by decide +kernel
theorem pd_25 : parseMethodDescriptor "(Ljava/lang/String;)Z" = some ⟨[(.object "java/lang/String")], some .boolean⟩ := by decide +kernel
theorem pd_26 : parseMethodDescriptor "([CI)I" = some ⟨[(.array .char), .int], some .int⟩ := by decide +kernel
theorem pd_27 : parseMethodDescriptor "(ICII)Z" = some ⟨[.int, .char, .int, .int], some .boolean⟩ := by decide +kernel
set_option maxRecDepth 65536 in
set_option maxHeartbeats 40000000 in
theorem segD {p : Program} {l : Launch} {e : Env} {s : State} {m : MethodId} {args : Array Value} {below : List Frame} {meth : Method} {c : Code} {Z : State} {a0 : Array Value} (hx : p.tables.exec = Jvm.exec) (hlk : meth.locks = false) (hret : meth.sig.returnType = some .boolean) (hw : ∀ d ∈ tables_1, d.before a0 Z = true) (hby : c.code = code) (hml : c.maxLocals = 13) (hnm : meth.name = "law") (ja jb : Int64) (p2 nv : Int32) (mk : Int64) (cc : Addr) (kc : ClassId) (x0 x1 x2 x3 x4 x5 : Int32) (G1 : Int32) (sf : Value) (n0 : Nat) (hst : own_St Z G1 sf) (hp : ¬ nv < 0 ∧ ¬ (6 : Int32) < nv) (vm0 : Vm) (k0 : Nat) (h0 : Heap) (s₁ : State) (LL : List Loc) (X0 : Stand p l e room_1 (s.setVm vm0) m args below meth c s₁ LL 1 6) (e0 : s₁.heap = h0) (Nf : Fr n0 LL) (Zs : n0 ≤ h0.size) (hS : s.Since vm0 k0) (hk : k0 ≤ h0.size) (hZ : Z.Warmed39 (s.setVm vm0).vm) (hown : (s.setVm vm0).vm.findClass "com/example/triplewright/triplewright/IriIsAbsolutePinLaw" = some m.cls) (hR : CHr Z own_EL s.vm s.heap vm0 h0) (Od : Old Z n0 h0) (V_cc : Arv Z h0 cc kc .char (6 : Int32) [(.int x0), (.int x1), (.int x2), (.int x3), (.int x4), (.int x5)] (.int (0 : Int32))) (g_cc : n0 ≤ cc) (Sf_cc : Safe Z own_EL vm0 h0 cc) (hx0 : own_ch x0) (hx1 : own_ch x1) (hx2 : own_ch x2) (hx3 : own_ch x3) (hx4 : own_ch x4) (hx5 : own_ch x5) :
    own_EndH Z own_EL p e below s (fun v h L => v = some (.int 1) ∧ Fr n0 L) room_1.cells room_1.slots (s₁.setTop (mkF m 155 #[.val (.long ja), .second, .val (.long jb), .second, .val (.int p2), .val (.int nv), .val (.long mk), .second, .val (.ref cc), .unset, .unset, .unset, .unset] [])) := by
  obtain ⟨S_COMPACT_STRINGS, hG, S__assertionsDisabled, S_HI_BYTE_SHIFT, S_LO_BYTE_SHIFT, S_SIOOBE_FORMATTER, r_sf, c_sf⟩ := id hst
  have hlt : (List.take nv.toNatClampNeg [x0, x1, x2, x3, x4, x5]).length ≤ 6 := by rw [List.length_take]; exact Nat.min_le_right _ _
  refine own_goH (x' := s₁.setTop (mkF m 159 #[.val (.long ja), .second, .val (.long jb), .second, .val (.int p2), .val (.int nv), .val (.long mk), .second, .val (.ref cc), .unset, .unset, .unset, .unset] [(.ref cc), (.int nv)])) (fun _ k => XS.iload X0.here hx rfl (hb hby at_155) rfl (XS.aload X0.here hx rfl (hb hby at_157) rfl rfl k)) ?_
  obtain ⟨_, _, ⟨T1, L1, k1, n1⟩, -, X1, Sw1, Gw1, ⟨Lc1, hQ1, l1, y1, z1, Cw1⟩, st1⟩ := Jvm.RoadKit.callSS X0 hx (y := (⟨"com/example/triplewright/triplewright/IriIsAbsolutePinLaw", "make", "(I[C)Ljava/lang/String;"⟩ : MethodName)) hown (mvT hZ (own_w hw 2 rfl)) (mvT hZ (own_w hw 3 rfl)) (mvT hZ (own_w hw 4 rfl)) (mvT hZ (own_w hw 5 rfl)) (by decide) (backOfSH (W := 0) (rm1 l Z a0 hw [] nv cc kc x0 x1 x2 x3 x4 x5 G1 sf h0 n0 Zs V_cc hp hx0 hx1 hx2 hx3 hx4 hx5 Od hst) hZ (own_w hw 5 rfl) (own_w hw 4 rfl) (by decide) (by decide) (own_EW hw) hR.1) (g := (mkF m 159 #[.val (.long ja), .second, .val (.long jb), .second, .val (.int p2), .val (.int nv), .val (.long mk), .second, .val (.ref cc), .unset, .unset, .unset, .unset] [(.ref cc), (.int nv)])) rfl (by rw [hml]; rfl) (argsL := [(.int nv), (.ref cc)]) (rest := []) (lenOf pd_24 rfl) rfl (by show 2 * 0 + _ ≤ _; exact Nat.le_of_eq rfl) (hb hby at_159) (fun _ _ => ⟨rfl, e0, (by decide : 1 + 6 ≤ _), (by decide : 6 + 28 ≤ _)⟩)
  dsimp only [Pt.U, Pt.locs, Pt.cells, Pt.slots] at X1 l1 y1 z1 st1 hQ1 Sw1 Gw1 Cw1
  subst l1 y1 z1
  obtain ⟨X1, Sw1, hZ, hown⟩ := rebS hS (own_hk e0 hk) X1 Sw1 Gw1 hZ hown
  replace Sf_cc := Cw1.safe V_cc.lt Sf_cc
  replace hR := hR.trans Cw1
  obtain ⟨b1, hv1, Nq1, K1, S_b1⟩ := hQ1
  subst hv1
  replace Nf := Fr.app Nf Nq1
  replace Od := Od.keep K1 all0
  replace V_cc := V_cc.keep K1 nin0
  replace Zs := Nat.le_trans Zs K1.1
  replace hk := Nat.le_trans hk K1.1
  replace hS := Sw1
  replace hk := Nat.le_refl (Array.size T1.heap)
  refine own_goH (x' := T1.setTop (mkF m 162 #[.val (.long ja), .second, .val (.long jb), .second, .val (.int p2), .val (.int nv), .val (.long mk), .second, .val (.ref cc), .unset, .unset, .unset, .unset] [(.ref b1)])) (fun _ k => st1.trans k) ?_
  refine own_goH (x' := T1.setTop (mkF m 166 #[.val (.long ja), .second, .val (.long jb), .second, .val (.int p2), .val (.int nv), .val (.long mk), .second, .val (.ref cc), .val (.ref b1), .unset, .unset, .unset] [(.ref b1)])) (fun _ k => XS.astore X1.here hx rfl (hb hby at_162) rfl rfl (l' := #[.val (.long ja), .second, .val (.long jb), .second, .val (.int p2), .val (.int nv), .val (.long mk), .second, .val (.ref cc), .val (.ref b1), .unset, .unset, .unset]) rfl (XS.aload X1.here hx rfl (hb hby at_164) rfl rfl k)) ?_
  obtain ⟨_, _, ⟨T2, L2, k2, n2⟩, -, X2, Sw2, Gw2, ⟨Lc2, hQ2, l2, y2, z2, Cw2⟩, st2⟩ := Jvm.RoadKit.callSS X1 hx (y := (⟨"com/example/triplewright/triplewright/Term$Iri", "isAbsolute", "(Ljava/lang/String;)Z"⟩ : MethodName)) hown (mvT hZ (own_w hw 27 rfl)) (mvT hZ (own_w hw 28 rfl)) (mvT hZ (own_w hw 29 rfl)) (mvT hZ (own_w hw 30 rfl)) (by decide) (backOfSH (W := 0) (rm5 l Z a0 hw [] b1 _ G1 sf T1.heap n0 Zs S_b1 hlt Od hst) hZ (own_w hw 30 rfl) (own_w hw 29 rfl) (by decide) (by decide) (own_EW hw) hR.1) (g := (mkF m 166 #[.val (.long ja), .second, .val (.long jb), .second, .val (.int p2), .val (.int nv), .val (.long mk), .second, .val (.ref cc), .val (.ref b1), .unset, .unset, .unset] [(.ref b1)])) rfl (by rw [hml]; rfl) (argsL := [(.ref b1)]) (rest := []) (lenOf pd_25 rfl) rfl (by show 2 * 0 + _ ≤ _; exact Nat.le_of_eq rfl) (hb hby at_166) (fun _ _ => ⟨rfl, rfl, (by decide : 7 + 8 ≤ _), (by decide : 34 + 160 ≤ _)⟩)
  dsimp only [Pt.U, Pt.locs, Pt.cells, Pt.slots] at X2 l2 y2 z2 st2 hQ2 Sw2 Gw2 Cw2
  subst l2 y2 z2
  obtain ⟨X2, Sw2, hZ, hown⟩ := rebS hS (own_hk rfl hk) X2 Sw2 Gw2 hZ hown
  replace Sf_cc := Cw2.safe V_cc.lt Sf_cc
  replace hR := hR.trans Cw2
  obtain ⟨ra, hv2, hra, Nq2, K2⟩ := hQ2
  subst hv2
  replace Nf := Fr.app Nf Nq2
  replace Od := Od.keep K2 all0
  replace V_cc := V_cc.keep K2 nin0
  replace Zs := Nat.le_trans Zs K2.1
  replace hk := Nat.le_trans hk K2.1
  replace hS := Sw2
  replace hk := Nat.le_refl (Array.size T2.heap)
  refine own_goH (x' := T2.setTop (mkF m 169 #[.val (.long ja), .second, .val (.long jb), .second, .val (.int p2), .val (.int nv), .val (.long mk), .second, .val (.ref cc), .val (.ref b1), .unset, .unset, .unset] [(.int ra)])) (fun _ k => st2.trans k) ?_
  refine own_goH (x' := T2.setTop (mkF m 175 #[.val (.long ja), .second, .val (.long jb), .second, .val (.int p2), .val (.int nv), .val (.long mk), .second, .val (.ref cc), .val (.ref b1), .val (.int ra), .unset, .unset] [(.int nv), (.ref cc)])) (fun _ k => XS.istore X2.here hx rfl (hb hby at_169) rfl (l' := #[.val (.long ja), .second, .val (.long jb), .second, .val (.int p2), .val (.int nv), .val (.long mk), .second, .val (.ref cc), .val (.ref b1), .val (.int ra), .unset, .unset]) rfl (XS.aload X2.here hx rfl (hb hby at_171) rfl rfl (XS.iload X2.here hx rfl (hb hby at_173) rfl k))) ?_
  obtain ⟨_, _, ⟨T3, L3, k3, n3⟩, -, X3, ⟨Lc3, hQ3, l3, y3, z3⟩, st3⟩ := Jvm.LawKit.callS X2 hx (y := (⟨"com/example/triplewright/triplewright/IriIsAbsolutePinLaw", "firstColon", "([CI)I"⟩ : MethodName)) hown (mvT hZ (own_w hw 71 rfl)) (mvT hZ (own_w hw 72 rfl)) (mvT hZ (own_w hw 4 rfl)) (mvT hZ (own_w hw 73 rfl)) (by decide) (backOf (W := 0) (rm15 l Z a0 hw [] cc kc nv x0 x1 x2 x3 x4 x5  T2.heap n0 Zs V_cc hp ) hZ (own_w hw 73 rfl) (own_w hw 4 rfl) (by decide) (by decide)) (g := (mkF m 175 #[.val (.long ja), .second, .val (.long jb), .second, .val (.int p2), .val (.int nv), .val (.long mk), .second, .val (.ref cc), .val (.ref b1), .val (.int ra), .unset, .unset] [(.int nv), (.ref cc)])) rfl (by rw [hml]; rfl) (argsL := [(.ref cc), (.int nv)]) (rest := []) (lenOf pd_26 rfl) rfl (by show 2 * 0 + _ ≤ _; exact Nat.le_of_eq rfl) (hb hby at_175) (fun _ _ => ⟨rfl, rfl, (by decide : 15 + 0 ≤ _), (by decide : 194 + 0 ≤ _)⟩)
  dsimp only [Pt.U, Pt.locs, Pt.cells, Pt.slots] at X3 l3 y3 z3 st3 hQ3
  subst l3 y3 z3
  obtain ⟨hv3, Nq3, eq3⟩ := hQ3
  subst hv3
  replace Nf := Fr.app Nf Nq3
  refine own_goH (x' := T3.setTop (mkF m 178 #[.val (.long ja), .second, .val (.long jb), .second, .val (.int p2), .val (.int nv), .val (.long mk), .second, .val (.ref cc), .val (.ref b1), .val (.int ra), .unset, .unset] [(.int (own_ix (List.take nv.toNatClampNeg [x0, x1, x2, x3, x4, x5])))])) st3 ?_
  obtain ⟨cl, hcl⟩ : ∃ z, z = (own_ix (List.take nv.toNatClampNeg [x0, x1, x2, x3, x4, x5])) := ⟨_, rfl⟩
  rw [← hcl]
  refine own_goH (x' := T3.setTop (mkF m 183 #[.val (.long ja), .second, .val (.long jb), .second, .val (.int p2), .val (.int nv), .val (.long mk), .second, .val (.ref cc), .val (.ref b1), .val (.int ra), .val (.int cl), .unset] [(.int 1), (.int cl)])) (fun _ k => XS.istore X3.here hx rfl (hb hby at_178) rfl (l' := #[.val (.long ja), .second, .val (.long jb), .second, .val (.int p2), .val (.int nv), .val (.long mk), .second, .val (.ref cc), .val (.ref b1), .val (.int ra), .val (.int cl), .unset]) rfl (XS.iload X3.here hx rfl (hb hby at_180) rfl (XS.iconst X3.here hx rfl (hb hby at_182) k))) ?_
  by_cases hc183 : cl < (1 : Int32)
  · refine own_goH (x' := T3.setTop (mkF m 283 #[.val (.long ja), .second, .val (.long jb), .second, .val (.int p2), .val (.int nv), .val (.long mk), .second, .val (.ref cc), .val (.ref b1), .val (.int ra), .val (.int cl), .val (.int 0)] [])) (fun _ k => XS.icmpYes X3.here hx rfl (pc0 := 183) (pc' := 280) rfl (hb hby at_183) rfl (tlt hc183).1 (by decide) (by decide) (XS.iconst X3.here hx rfl (hb hby at_280) (XS.istore X3.here hx rfl (hb hby at_281) rfl (l' := #[.val (.long ja), .second, .val (.long jb), .second, .val (.int p2), .val (.int nv), .val (.long mk), .second, .val (.ref cc), .val (.ref b1), .val (.int ra), .val (.int cl), .val (.int 0)]) rfl k))) ?_
    have hfin : ra = (0 : Int32) := hra.elim (fun z => absurd z.2 (own_nabs1 hlt (by rw [← hcl]; exact hc183))) (fun z => z.1)
    refine own_goH (x' := T3.setTop (mkF m 295 #[.val (.long ja), .second, .val (.long jb), .second, .val (.int p2), .val (.int nv), .val (.long mk), .second, .val (.ref cc), .val (.ref b1), .val (.int ra), .val (.int cl), .val (.int 0)] [(.int 1)])) (fun _ k => XS.iload X3.here hx rfl (hb hby at_283) rfl (XS.iload X3.here hx rfl (hb hby at_285) rfl (XS.icmpNo X3.here hx rfl (hb hby at_287) rfl (teq hfin).2 (XS.iconst X3.here hx rfl (hb hby at_290) (XS.goto X3.here hx rfl (pc0 := 291) (pc' := 295) rfl (hb hby at_291) (by decide) (by decide) k))))) ?_
    refine own_retNH X3 hS (own_hk eq3 hk) (own_hr eq3 hR) hZ (own_EW hw) hx hlk (t := .boolean) hret (by simp) (hb hby at_295) (w := (1 : Int32)) rfl ?_ (by decide) (by decide)
    exact ⟨rfl, Nf⟩
  · refine own_goH (x' := T3.setTop (mkF m 190 #[.val (.long ja), .second, .val (.long jb), .second, .val (.int p2), .val (.int nv), .val (.long mk), .second, .val (.ref cc), .val (.ref b1), .val (.int ra), .val (.int cl), .unset] [(.int 0), (.ref cc), (.int 0)])) (fun _ k => XS.icmpNo X3.here hx rfl (hb hby at_183) rfl (flt hc183).1 (XS.iconst X3.here hx rfl (hb hby at_186) (XS.aload X3.here hx rfl (hb hby at_187) rfl rfl (XS.iconst X3.here hx rfl (hb hby at_189) k)))) ?_
    obtain ⟨cl4, Ar4, q4, Sz4, Nn4, Hh4, Gg4⟩ := id V_cc
    have hin4 : ¬ ((0 : Int32) < 0 ∨ cl4.slots.size ≤ ((0 : Int32)).toNatClampNeg) := inb_of Sz4 ⟨by decide, by decide⟩
    refine own_goH (x' := T3.setTop (mkF m 191 #[.val (.long ja), .second, .val (.long jb), .second, .val (.int p2), .val (.int nv), .val (.long mk), .second, .val (.ref cc), .val (.ref b1), .val (.int ra), .val (.int cl), .unset] [(.int x0), (.int 0)])) (X3.caload hx (j := (0 : Int32)) (v := (.int x0)) (Eq.trans (congrArg (fun h_ => h_[_]?) eq3) Ar4.1) (State.isArrayOf_alike hZ.alike Ar4.2.1) Ar4.2.2 hin4 (Hh4.at hin4 rfl) (g := (mkF m 190 #[.val (.long ja), .second, .val (.long jb), .second, .val (.int p2), .val (.int nv), .val (.long mk), .second, .val (.ref cc), .val (.ref b1), .val (.int ra), .val (.int cl), .unset] [(.int 0), (.ref cc), (.int 0)])) rfl rfl (hb hby at_190)) ?_
    refine own_goH (x' := T3.setTop (mkF m 195 #[.val (.long ja), .second, .val (.long jb), .second, .val (.int p2), .val (.int nv), .val (.long mk), .second, .val (.ref cc), .val (.ref b1), .val (.int ra), .val (.int cl), .unset] [(.int nv), (.int cl), (.int x0), (.int 0)])) (fun _ k => XS.iload X3.here hx rfl (hb hby at_191) rfl (XS.iload X3.here hx rfl (hb hby at_193) rfl k)) ?_
    obtain ⟨_, _, ⟨T5, L5, k5, n5⟩, -, X5, ⟨Lc5, hQ5, l5, y5, z5⟩, st5⟩ := Jvm.LawKit.callS X3 hx (y := (⟨"com/example/triplewright/triplewright/IriIsAbsolutePinLaw", "posOk", "(ICII)Z"⟩ : MethodName)) hown (mvT hZ (own_w hw 150 rfl)) (mvT hZ (own_w hw 151 rfl)) (mvT hZ (own_w hw 4 rfl)) (mvT hZ (own_w hw 152 rfl)) (by decide) (backOf (W := 0) (rm37 l Z a0 hw [] (0 : Int32) x0 cl nv  T2.heap n0 Zs  ) hZ (own_w hw 152 rfl) (own_w hw 4 rfl) (by decide) (by decide)) (g := (mkF m 195 #[.val (.long ja), .second, .val (.long jb), .second, .val (.int p2), .val (.int nv), .val (.long mk), .second, .val (.ref cc), .val (.ref b1), .val (.int ra), .val (.int cl), .unset] [(.int nv), (.int cl), (.int x0), (.int 0)])) rfl (by rw [hml]; rfl) (argsL := [(.int 0), (.int x0), (.int cl), (.int nv)]) (rest := []) (lenOf pd_27 rfl) rfl (by show 2 * 0 + _ ≤ _; exact Nat.le_of_eq rfl) (hb hby at_195) (fun _ _ => ⟨rfl, eq3, (by decide : 15 + 0 ≤ _), (by decide : 194 + 0 ≤ _)⟩)
    dsimp only [Pt.U, Pt.locs, Pt.cells, Pt.slots] at X5 l5 y5 z5 st5 hQ5
    subst l5 y5 z5
    obtain ⟨hv5, Nq5, eq5⟩ := hQ5
    subst hv5
    replace Nf := Fr.app Nf Nq5
    refine own_goH (x' := T5.setTop (mkF m 198 #[.val (.long ja), .second, .val (.long jb), .second, .val (.int p2), .val (.int nv), .val (.long mk), .second, .val (.ref cc), .val (.ref b1), .val (.int ra), .val (.int cl), .unset] [(.int (own_pos (0 : Int32) x0 cl nv))])) st5 ?_
    by_cases hc198 : (own_pos (0 : Int32) x0 cl nv) = (0 : Int32)
    · refine own_goH (x' := T5.setTop (mkF m 283 #[.val (.long ja), .second, .val (.long jb), .second, .val (.int p2), .val (.int nv), .val (.long mk), .second, .val (.ref cc), .val (.ref b1), .val (.int ra), .val (.int cl), .val (.int 0)] [])) (fun _ k => XS.ifYes X5.here hx rfl (pc0 := 198) (pc' := 280) rfl (hb hby at_198) rfl ((if0 _ _).trans (teq hc198).1) (by decide) (by decide) (XS.iconst X5.here hx rfl (hb hby at_280) (XS.istore X5.here hx rfl (hb hby at_281) rfl (l' := #[.val (.long ja), .second, .val (.long jb), .second, .val (.int p2), .val (.int nv), .val (.long mk), .second, .val (.ref cc), .val (.ref b1), .val (.int ra), .val (.int cl), .val (.int 0)]) rfl k))) ?_
      have hfin : ra = (0 : Int32) := hra.elim (fun z => absurd z.2 (own_key0 (X := [x0, x1, x2, x3, x4, x5]) rfl hp hcl hc183 (i := 0) (c := x0) (by decide) rfl hc198)) (fun z => z.1)
      refine own_goH (x' := T5.setTop (mkF m 295 #[.val (.long ja), .second, .val (.long jb), .second, .val (.int p2), .val (.int nv), .val (.long mk), .second, .val (.ref cc), .val (.ref b1), .val (.int ra), .val (.int cl), .val (.int 0)] [(.int 1)])) (fun _ k => XS.iload X5.here hx rfl (hb hby at_283) rfl (XS.iload X5.here hx rfl (hb hby at_285) rfl (XS.icmpNo X5.here hx rfl (hb hby at_287) rfl (teq hfin).2 (XS.iconst X5.here hx rfl (hb hby at_290) (XS.goto X5.here hx rfl (pc0 := 291) (pc' := 295) rfl (hb hby at_291) (by decide) (by decide) k))))) ?_
      refine own_retNH X5 hS (own_hk eq5 hk) (own_hr eq5 hR) hZ (own_EW hw) hx hlk (t := .boolean) hret (by simp) (hb hby at_295) (w := (1 : Int32)) rfl ?_ (by decide) (by decide)
      exact ⟨rfl, Nf⟩
    · refine own_goH (x' := T5.setTop (mkF m 205 #[.val (.long ja), .second, .val (.long jb), .second, .val (.int p2), .val (.int nv), .val (.long mk), .second, .val (.ref cc), .val (.ref b1), .val (.int ra), .val (.int cl), .unset] [(.int 1), (.ref cc), (.int 1)])) (fun _ k => XS.ifNo X5.here hx rfl (hb hby at_198) rfl ((if0 _ _).trans (feq hc198).1) (XS.iconst X5.here hx rfl (hb hby at_201) (XS.aload X5.here hx rfl (hb hby at_202) rfl rfl (XS.iconst X5.here hx rfl (hb hby at_204) k)))) ?_
      obtain ⟨cl6, Ar6, q6, Sz6, Nn6, Hh6, Gg6⟩ := id V_cc
      have hin6 : ¬ ((1 : Int32) < 0 ∨ cl6.slots.size ≤ ((1 : Int32)).toNatClampNeg) := inb_of Sz6 ⟨by decide, by decide⟩
      refine own_goH (x' := T5.setTop (mkF m 206 #[.val (.long ja), .second, .val (.long jb), .second, .val (.int p2), .val (.int nv), .val (.long mk), .second, .val (.ref cc), .val (.ref b1), .val (.int ra), .val (.int cl), .unset] [(.int x1), (.int 1)])) (X5.caload hx (j := (1 : Int32)) (v := (.int x1)) (Eq.trans (congrArg (fun h_ => h_[_]?) eq5) Ar6.1) (State.isArrayOf_alike hZ.alike Ar6.2.1) Ar6.2.2 hin6 (Hh6.at hin6 rfl) (g := (mkF m 205 #[.val (.long ja), .second, .val (.long jb), .second, .val (.int p2), .val (.int nv), .val (.long mk), .second, .val (.ref cc), .val (.ref b1), .val (.int ra), .val (.int cl), .unset] [(.int 1), (.ref cc), (.int 1)])) rfl rfl (hb hby at_205)) ?_
      refine own_goH (x' := T5.setTop (mkF m 210 #[.val (.long ja), .second, .val (.long jb), .second, .val (.int p2), .val (.int nv), .val (.long mk), .second, .val (.ref cc), .val (.ref b1), .val (.int ra), .val (.int cl), .unset] [(.int nv), (.int cl), (.int x1), (.int 1)])) (fun _ k => XS.iload X5.here hx rfl (hb hby at_206) rfl (XS.iload X5.here hx rfl (hb hby at_208) rfl k)) ?_
      obtain ⟨_, _, ⟨T7, L7, k7, n7⟩, -, X7, ⟨Lc7, hQ7, l7, y7, z7⟩, st7⟩ := Jvm.LawKit.callS X5 hx (y := (⟨"com/example/triplewright/triplewright/IriIsAbsolutePinLaw", "posOk", "(ICII)Z"⟩ : MethodName)) hown (mvT hZ (own_w hw 150 rfl)) (mvT hZ (own_w hw 151 rfl)) (mvT hZ (own_w hw 4 rfl)) (mvT hZ (own_w hw 152 rfl)) (by decide) (backOf (W := 0) (rm37 l Z a0 hw [] (1 : Int32) x1 cl nv  T2.heap n0 Zs  ) hZ (own_w hw 152 rfl) (own_w hw 4 rfl) (by decide) (by decide)) (g := (mkF m 210 #[.val (.long ja), .second, .val (.long jb), .second, .val (.int p2), .val (.int nv), .val (.long mk), .second, .val (.ref cc), .val (.ref b1), .val (.int ra), .val (.int cl), .unset] [(.int nv), (.int cl), (.int x1), (.int 1)])) rfl (by rw [hml]; rfl) (argsL := [(.int 1), (.int x1), (.int cl), (.int nv)]) (rest := []) (lenOf pd_27 rfl) rfl (by show 2 * 0 + _ ≤ _; exact Nat.le_of_eq rfl) (hb hby at_210) (fun _ _ => ⟨rfl, eq5, (by decide : 15 + 0 ≤ _), (by decide : 194 + 0 ≤ _)⟩)
      dsimp only [Pt.U, Pt.locs, Pt.cells, Pt.slots] at X7 l7 y7 z7 st7 hQ7
      subst l7 y7 z7
      obtain ⟨hv7, Nq7, eq7⟩ := hQ7
      subst hv7
      replace Nf := Fr.app Nf Nq7
      refine own_goH (x' := T7.setTop (mkF m 213 #[.val (.long ja), .second, .val (.long jb), .second, .val (.int p2), .val (.int nv), .val (.long mk), .second, .val (.ref cc), .val (.ref b1), .val (.int ra), .val (.int cl), .unset] [(.int (own_pos (1 : Int32) x1 cl nv))])) st7 ?_
      by_cases hc213 : (own_pos (1 : Int32) x1 cl nv) = (0 : Int32)
      · refine own_goH (x' := T7.setTop (mkF m 283 #[.val (.long ja), .second, .val (.long jb), .second, .val (.int p2), .val (.int nv), .val (.long mk), .second, .val (.ref cc), .val (.ref b1), .val (.int ra), .val (.int cl), .val (.int 0)] [])) (fun _ k => XS.ifYes X7.here hx rfl (pc0 := 213) (pc' := 280) rfl (hb hby at_213) rfl ((if0 _ _).trans (teq hc213).1) (by decide) (by decide) (XS.iconst X7.here hx rfl (hb hby at_280) (XS.istore X7.here hx rfl (hb hby at_281) rfl (l' := #[.val (.long ja), .second, .val (.long jb), .second, .val (.int p2), .val (.int nv), .val (.long mk), .second, .val (.ref cc), .val (.ref b1), .val (.int ra), .val (.int cl), .val (.int 0)]) rfl k))) ?_
        have hfin : ra = (0 : Int32) := hra.elim (fun z => absurd z.2 (own_key0 (X := [x0, x1, x2, x3, x4, x5]) rfl hp hcl hc183 (i := 1) (c := x1) (by decide) rfl hc213)) (fun z => z.1)
        refine own_goH (x' := T7.setTop (mkF m 295 #[.val (.long ja), .second, .val (.long jb), .second, .val (.int p2), .val (.int nv), .val (.long mk), .second, .val (.ref cc), .val (.ref b1), .val (.int ra), .val (.int cl), .val (.int 0)] [(.int 1)])) (fun _ k => XS.iload X7.here hx rfl (hb hby at_283) rfl (XS.iload X7.here hx rfl (hb hby at_285) rfl (XS.icmpNo X7.here hx rfl (hb hby at_287) rfl (teq hfin).2 (XS.iconst X7.here hx rfl (hb hby at_290) (XS.goto X7.here hx rfl (pc0 := 291) (pc' := 295) rfl (hb hby at_291) (by decide) (by decide) k))))) ?_
        refine own_retNH X7 hS (own_hk eq7 hk) (own_hr eq7 hR) hZ (own_EW hw) hx hlk (t := .boolean) hret (by simp) (hb hby at_295) (w := (1 : Int32)) rfl ?_ (by decide) (by decide)
        exact ⟨rfl, Nf⟩
      · refine own_goH (x' := T7.setTop (mkF m 220 #[.val (.long ja), .second, .val (.long jb), .second, .val (.int p2), .val (.int nv), .val (.long mk), .second, .val (.ref cc), .val (.ref b1), .val (.int ra), .val (.int cl), .unset] [(.int 2), (.ref cc), (.int 2)])) (fun _ k => XS.ifNo X7.here hx rfl (hb hby at_213) rfl ((if0 _ _).trans (feq hc213).1) (XS.iconst X7.here hx rfl (hb hby at_216) (XS.aload X7.here hx rfl (hb hby at_217) rfl rfl (XS.iconst X7.here hx rfl (hb hby at_219) k)))) ?_
        obtain ⟨cl8, Ar8, q8, Sz8, Nn8, Hh8, Gg8⟩ := id V_cc
        have hin8 : ¬ ((2 : Int32) < 0 ∨ cl8.slots.size ≤ ((2 : Int32)).toNatClampNeg) := inb_of Sz8 ⟨by decide, by decide⟩
        refine own_goH (x' := T7.setTop (mkF m 221 #[.val (.long ja), .second, .val (.long jb), .second, .val (.int p2), .val (.int nv), .val (.long mk), .second, .val (.ref cc), .val (.ref b1), .val (.int ra), .val (.int cl), .unset] [(.int x2), (.int 2)])) (X7.caload hx (j := (2 : Int32)) (v := (.int x2)) (Eq.trans (congrArg (fun h_ => h_[_]?) eq7) Ar8.1) (State.isArrayOf_alike hZ.alike Ar8.2.1) Ar8.2.2 hin8 (Hh8.at hin8 rfl) (g := (mkF m 220 #[.val (.long ja), .second, .val (.long jb), .second, .val (.int p2), .val (.int nv), .val (.long mk), .second, .val (.ref cc), .val (.ref b1), .val (.int ra), .val (.int cl), .unset] [(.int 2), (.ref cc), (.int 2)])) rfl rfl (hb hby at_220)) ?_
        refine own_goH (x' := T7.setTop (mkF m 225 #[.val (.long ja), .second, .val (.long jb), .second, .val (.int p2), .val (.int nv), .val (.long mk), .second, .val (.ref cc), .val (.ref b1), .val (.int ra), .val (.int cl), .unset] [(.int nv), (.int cl), (.int x2), (.int 2)])) (fun _ k => XS.iload X7.here hx rfl (hb hby at_221) rfl (XS.iload X7.here hx rfl (hb hby at_223) rfl k)) ?_
        obtain ⟨_, _, ⟨T9, L9, k9, n9⟩, -, X9, ⟨Lc9, hQ9, l9, y9, z9⟩, st9⟩ := Jvm.LawKit.callS X7 hx (y := (⟨"com/example/triplewright/triplewright/IriIsAbsolutePinLaw", "posOk", "(ICII)Z"⟩ : MethodName)) hown (mvT hZ (own_w hw 150 rfl)) (mvT hZ (own_w hw 151 rfl)) (mvT hZ (own_w hw 4 rfl)) (mvT hZ (own_w hw 152 rfl)) (by decide) (backOf (W := 0) (rm37 l Z a0 hw [] (2 : Int32) x2 cl nv  T2.heap n0 Zs  ) hZ (own_w hw 152 rfl) (own_w hw 4 rfl) (by decide) (by decide)) (g := (mkF m 225 #[.val (.long ja), .second, .val (.long jb), .second, .val (.int p2), .val (.int nv), .val (.long mk), .second, .val (.ref cc), .val (.ref b1), .val (.int ra), .val (.int cl), .unset] [(.int nv), (.int cl), (.int x2), (.int 2)])) rfl (by rw [hml]; rfl) (argsL := [(.int 2), (.int x2), (.int cl), (.int nv)]) (rest := []) (lenOf pd_27 rfl) rfl (by show 2 * 0 + _ ≤ _; exact Nat.le_of_eq rfl) (hb hby at_225) (fun _ _ => ⟨rfl, eq7, (by decide : 15 + 0 ≤ _), (by decide : 194 + 0 ≤ _)⟩)
        dsimp only [Pt.U, Pt.locs, Pt.cells, Pt.slots] at X9 l9 y9 z9 st9 hQ9
        subst l9 y9 z9
        obtain ⟨hv9, Nq9, eq9⟩ := hQ9
        subst hv9
        replace Nf := Fr.app Nf Nq9
        refine own_goH (x' := T9.setTop (mkF m 228 #[.val (.long ja), .second, .val (.long jb), .second, .val (.int p2), .val (.int nv), .val (.long mk), .second, .val (.ref cc), .val (.ref b1), .val (.int ra), .val (.int cl), .unset] [(.int (own_pos (2 : Int32) x2 cl nv))])) st9 ?_
        by_cases hc228 : (own_pos (2 : Int32) x2 cl nv) = (0 : Int32)
        · refine own_goH (x' := T9.setTop (mkF m 283 #[.val (.long ja), .second, .val (.long jb), .second, .val (.int p2), .val (.int nv), .val (.long mk), .second, .val (.ref cc), .val (.ref b1), .val (.int ra), .val (.int cl), .val (.int 0)] [])) (fun _ k => XS.ifYes X9.here hx rfl (pc0 := 228) (pc' := 280) rfl (hb hby at_228) rfl ((if0 _ _).trans (teq hc228).1) (by decide) (by decide) (XS.iconst X9.here hx rfl (hb hby at_280) (XS.istore X9.here hx rfl (hb hby at_281) rfl (l' := #[.val (.long ja), .second, .val (.long jb), .second, .val (.int p2), .val (.int nv), .val (.long mk), .second, .val (.ref cc), .val (.ref b1), .val (.int ra), .val (.int cl), .val (.int 0)]) rfl k))) ?_
          have hfin : ra = (0 : Int32) := hra.elim (fun z => absurd z.2 (own_key0 (X := [x0, x1, x2, x3, x4, x5]) rfl hp hcl hc183 (i := 2) (c := x2) (by decide) rfl hc228)) (fun z => z.1)
          refine own_goH (x' := T9.setTop (mkF m 295 #[.val (.long ja), .second, .val (.long jb), .second, .val (.int p2), .val (.int nv), .val (.long mk), .second, .val (.ref cc), .val (.ref b1), .val (.int ra), .val (.int cl), .val (.int 0)] [(.int 1)])) (fun _ k => XS.iload X9.here hx rfl (hb hby at_283) rfl (XS.iload X9.here hx rfl (hb hby at_285) rfl (XS.icmpNo X9.here hx rfl (hb hby at_287) rfl (teq hfin).2 (XS.iconst X9.here hx rfl (hb hby at_290) (XS.goto X9.here hx rfl (pc0 := 291) (pc' := 295) rfl (hb hby at_291) (by decide) (by decide) k))))) ?_
          refine own_retNH X9 hS (own_hk eq9 hk) (own_hr eq9 hR) hZ (own_EW hw) hx hlk (t := .boolean) hret (by simp) (hb hby at_295) (w := (1 : Int32)) rfl ?_ (by decide) (by decide)
          exact ⟨rfl, Nf⟩
        · refine own_goH (x' := T9.setTop (mkF m 235 #[.val (.long ja), .second, .val (.long jb), .second, .val (.int p2), .val (.int nv), .val (.long mk), .second, .val (.ref cc), .val (.ref b1), .val (.int ra), .val (.int cl), .unset] [(.int 3), (.ref cc), (.int 3)])) (fun _ k => XS.ifNo X9.here hx rfl (hb hby at_228) rfl ((if0 _ _).trans (feq hc228).1) (XS.iconst X9.here hx rfl (hb hby at_231) (XS.aload X9.here hx rfl (hb hby at_232) rfl rfl (XS.iconst X9.here hx rfl (hb hby at_234) k)))) ?_
          obtain ⟨cl10, Ar10, q10, Sz10, Nn10, Hh10, Gg10⟩ := id V_cc
          have hin10 : ¬ ((3 : Int32) < 0 ∨ cl10.slots.size ≤ ((3 : Int32)).toNatClampNeg) := inb_of Sz10 ⟨by decide, by decide⟩
          refine own_goH (x' := T9.setTop (mkF m 236 #[.val (.long ja), .second, .val (.long jb), .second, .val (.int p2), .val (.int nv), .val (.long mk), .second, .val (.ref cc), .val (.ref b1), .val (.int ra), .val (.int cl), .unset] [(.int x3), (.int 3)])) (X9.caload hx (j := (3 : Int32)) (v := (.int x3)) (Eq.trans (congrArg (fun h_ => h_[_]?) eq9) Ar10.1) (State.isArrayOf_alike hZ.alike Ar10.2.1) Ar10.2.2 hin10 (Hh10.at hin10 rfl) (g := (mkF m 235 #[.val (.long ja), .second, .val (.long jb), .second, .val (.int p2), .val (.int nv), .val (.long mk), .second, .val (.ref cc), .val (.ref b1), .val (.int ra), .val (.int cl), .unset] [(.int 3), (.ref cc), (.int 3)])) rfl rfl (hb hby at_235)) ?_
          refine own_goH (x' := T9.setTop (mkF m 240 #[.val (.long ja), .second, .val (.long jb), .second, .val (.int p2), .val (.int nv), .val (.long mk), .second, .val (.ref cc), .val (.ref b1), .val (.int ra), .val (.int cl), .unset] [(.int nv), (.int cl), (.int x3), (.int 3)])) (fun _ k => XS.iload X9.here hx rfl (hb hby at_236) rfl (XS.iload X9.here hx rfl (hb hby at_238) rfl k)) ?_
          obtain ⟨_, _, ⟨T11, L11, k11, n11⟩, -, X11, ⟨Lc11, hQ11, l11, y11, z11⟩, st11⟩ := Jvm.LawKit.callS X9 hx (y := (⟨"com/example/triplewright/triplewright/IriIsAbsolutePinLaw", "posOk", "(ICII)Z"⟩ : MethodName)) hown (mvT hZ (own_w hw 150 rfl)) (mvT hZ (own_w hw 151 rfl)) (mvT hZ (own_w hw 4 rfl)) (mvT hZ (own_w hw 152 rfl)) (by decide) (backOf (W := 0) (rm37 l Z a0 hw [] (3 : Int32) x3 cl nv  T2.heap n0 Zs  ) hZ (own_w hw 152 rfl) (own_w hw 4 rfl) (by decide) (by decide)) (g := (mkF m 240 #[.val (.long ja), .second, .val (.long jb), .second, .val (.int p2), .val (.int nv), .val (.long mk), .second, .val (.ref cc), .val (.ref b1), .val (.int ra), .val (.int cl), .unset] [(.int nv), (.int cl), (.int x3), (.int 3)])) rfl (by rw [hml]; rfl) (argsL := [(.int 3), (.int x3), (.int cl), (.int nv)]) (rest := []) (lenOf pd_27 rfl) rfl (by show 2 * 0 + _ ≤ _; exact Nat.le_of_eq rfl) (hb hby at_240) (fun _ _ => ⟨rfl, eq9, (by decide : 15 + 0 ≤ _), (by decide : 194 + 0 ≤ _)⟩)
          dsimp only [Pt.U, Pt.locs, Pt.cells, Pt.slots] at X11 l11 y11 z11 st11 hQ11
          subst l11 y11 z11
          obtain ⟨hv11, Nq11, eq11⟩ := hQ11
          subst hv11
          replace Nf := Fr.app Nf Nq11
          refine own_goH (x' := T11.setTop (mkF m 243 #[.val (.long ja), .second, .val (.long jb), .second, .val (.int p2), .val (.int nv), .val (.long mk), .second, .val (.ref cc), .val (.ref b1), .val (.int ra), .val (.int cl), .unset] [(.int (own_pos (3 : Int32) x3 cl nv))])) st11 ?_
          by_cases hc243 : (own_pos (3 : Int32) x3 cl nv) = (0 : Int32)
          · refine own_goH (x' := T11.setTop (mkF m 283 #[.val (.long ja), .second, .val (.long jb), .second, .val (.int p2), .val (.int nv), .val (.long mk), .second, .val (.ref cc), .val (.ref b1), .val (.int ra), .val (.int cl), .val (.int 0)] [])) (fun _ k => XS.ifYes X11.here hx rfl (pc0 := 243) (pc' := 280) rfl (hb hby at_243) rfl ((if0 _ _).trans (teq hc243).1) (by decide) (by decide) (XS.iconst X11.here hx rfl (hb hby at_280) (XS.istore X11.here hx rfl (hb hby at_281) rfl (l' := #[.val (.long ja), .second, .val (.long jb), .second, .val (.int p2), .val (.int nv), .val (.long mk), .second, .val (.ref cc), .val (.ref b1), .val (.int ra), .val (.int cl), .val (.int 0)]) rfl k))) ?_
            have hfin : ra = (0 : Int32) := hra.elim (fun z => absurd z.2 (own_key0 (X := [x0, x1, x2, x3, x4, x5]) rfl hp hcl hc183 (i := 3) (c := x3) (by decide) rfl hc243)) (fun z => z.1)
            refine own_goH (x' := T11.setTop (mkF m 295 #[.val (.long ja), .second, .val (.long jb), .second, .val (.int p2), .val (.int nv), .val (.long mk), .second, .val (.ref cc), .val (.ref b1), .val (.int ra), .val (.int cl), .val (.int 0)] [(.int 1)])) (fun _ k => XS.iload X11.here hx rfl (hb hby at_283) rfl (XS.iload X11.here hx rfl (hb hby at_285) rfl (XS.icmpNo X11.here hx rfl (hb hby at_287) rfl (teq hfin).2 (XS.iconst X11.here hx rfl (hb hby at_290) (XS.goto X11.here hx rfl (pc0 := 291) (pc' := 295) rfl (hb hby at_291) (by decide) (by decide) k))))) ?_
            refine own_retNH X11 hS (own_hk eq11 hk) (own_hr eq11 hR) hZ (own_EW hw) hx hlk (t := .boolean) hret (by simp) (hb hby at_295) (w := (1 : Int32)) rfl ?_ (by decide) (by decide)
            exact ⟨rfl, Nf⟩
          · refine own_goH (x' := T11.setTop (mkF m 250 #[.val (.long ja), .second, .val (.long jb), .second, .val (.int p2), .val (.int nv), .val (.long mk), .second, .val (.ref cc), .val (.ref b1), .val (.int ra), .val (.int cl), .unset] [(.int 4), (.ref cc), (.int 4)])) (fun _ k => XS.ifNo X11.here hx rfl (hb hby at_243) rfl ((if0 _ _).trans (feq hc243).1) (XS.iconst X11.here hx rfl (hb hby at_246) (XS.aload X11.here hx rfl (hb hby at_247) rfl rfl (XS.iconst X11.here hx rfl (hb hby at_249) k)))) ?_
            obtain ⟨cl12, Ar12, q12, Sz12, Nn12, Hh12, Gg12⟩ := id V_cc
            have hin12 : ¬ ((4 : Int32) < 0 ∨ cl12.slots.size ≤ ((4 : Int32)).toNatClampNeg) := inb_of Sz12 ⟨by decide, by decide⟩
            refine own_goH (x' := T11.setTop (mkF m 251 #[.val (.long ja), .second, .val (.long jb), .second, .val (.int p2), .val (.int nv), .val (.long mk), .second, .val (.ref cc), .val (.ref b1), .val (.int ra), .val (.int cl), .unset] [(.int x4), (.int 4)])) (X11.caload hx (j := (4 : Int32)) (v := (.int x4)) (Eq.trans (congrArg (fun h_ => h_[_]?) eq11) Ar12.1) (State.isArrayOf_alike hZ.alike Ar12.2.1) Ar12.2.2 hin12 (Hh12.at hin12 rfl) (g := (mkF m 250 #[.val (.long ja), .second, .val (.long jb), .second, .val (.int p2), .val (.int nv), .val (.long mk), .second, .val (.ref cc), .val (.ref b1), .val (.int ra), .val (.int cl), .unset] [(.int 4), (.ref cc), (.int 4)])) rfl rfl (hb hby at_250)) ?_
            refine own_goH (x' := T11.setTop (mkF m 255 #[.val (.long ja), .second, .val (.long jb), .second, .val (.int p2), .val (.int nv), .val (.long mk), .second, .val (.ref cc), .val (.ref b1), .val (.int ra), .val (.int cl), .unset] [(.int nv), (.int cl), (.int x4), (.int 4)])) (fun _ k => XS.iload X11.here hx rfl (hb hby at_251) rfl (XS.iload X11.here hx rfl (hb hby at_253) rfl k)) ?_
            obtain ⟨_, _, ⟨T13, L13, k13, n13⟩, -, X13, ⟨Lc13, hQ13, l13, y13, z13⟩, st13⟩ := Jvm.LawKit.callS X11 hx (y := (⟨"com/example/triplewright/triplewright/IriIsAbsolutePinLaw", "posOk", "(ICII)Z"⟩ : MethodName)) hown (mvT hZ (own_w hw 150 rfl)) (mvT hZ (own_w hw 151 rfl)) (mvT hZ (own_w hw 4 rfl)) (mvT hZ (own_w hw 152 rfl)) (by decide) (backOf (W := 0) (rm37 l Z a0 hw [] (4 : Int32) x4 cl nv  T2.heap n0 Zs  ) hZ (own_w hw 152 rfl) (own_w hw 4 rfl) (by decide) (by decide)) (g := (mkF m 255 #[.val (.long ja), .second, .val (.long jb), .second, .val (.int p2), .val (.int nv), .val (.long mk), .second, .val (.ref cc), .val (.ref b1), .val (.int ra), .val (.int cl), .unset] [(.int nv), (.int cl), (.int x4), (.int 4)])) rfl (by rw [hml]; rfl) (argsL := [(.int 4), (.int x4), (.int cl), (.int nv)]) (rest := []) (lenOf pd_27 rfl) rfl (by show 2 * 0 + _ ≤ _; exact Nat.le_of_eq rfl) (hb hby at_255) (fun _ _ => ⟨rfl, eq11, (by decide : 15 + 0 ≤ _), (by decide : 194 + 0 ≤ _)⟩)
            dsimp only [Pt.U, Pt.locs, Pt.cells, Pt.slots] at X13 l13 y13 z13 st13 hQ13
            subst l13 y13 z13
            obtain ⟨hv13, Nq13, eq13⟩ := hQ13
            subst hv13
            replace Nf := Fr.app Nf Nq13
            refine own_goH (x' := T13.setTop (mkF m 258 #[.val (.long ja), .second, .val (.long jb), .second, .val (.int p2), .val (.int nv), .val (.long mk), .second, .val (.ref cc), .val (.ref b1), .val (.int ra), .val (.int cl), .unset] [(.int (own_pos (4 : Int32) x4 cl nv))])) st13 ?_
            by_cases hc258 : (own_pos (4 : Int32) x4 cl nv) = (0 : Int32)
            · refine own_goH (x' := T13.setTop (mkF m 283 #[.val (.long ja), .second, .val (.long jb), .second, .val (.int p2), .val (.int nv), .val (.long mk), .second, .val (.ref cc), .val (.ref b1), .val (.int ra), .val (.int cl), .val (.int 0)] [])) (fun _ k => XS.ifYes X13.here hx rfl (pc0 := 258) (pc' := 280) rfl (hb hby at_258) rfl ((if0 _ _).trans (teq hc258).1) (by decide) (by decide) (XS.iconst X13.here hx rfl (hb hby at_280) (XS.istore X13.here hx rfl (hb hby at_281) rfl (l' := #[.val (.long ja), .second, .val (.long jb), .second, .val (.int p2), .val (.int nv), .val (.long mk), .second, .val (.ref cc), .val (.ref b1), .val (.int ra), .val (.int cl), .val (.int 0)]) rfl k))) ?_
              have hfin : ra = (0 : Int32) := hra.elim (fun z => absurd z.2 (own_key0 (X := [x0, x1, x2, x3, x4, x5]) rfl hp hcl hc183 (i := 4) (c := x4) (by decide) rfl hc258)) (fun z => z.1)
              refine own_goH (x' := T13.setTop (mkF m 295 #[.val (.long ja), .second, .val (.long jb), .second, .val (.int p2), .val (.int nv), .val (.long mk), .second, .val (.ref cc), .val (.ref b1), .val (.int ra), .val (.int cl), .val (.int 0)] [(.int 1)])) (fun _ k => XS.iload X13.here hx rfl (hb hby at_283) rfl (XS.iload X13.here hx rfl (hb hby at_285) rfl (XS.icmpNo X13.here hx rfl (hb hby at_287) rfl (teq hfin).2 (XS.iconst X13.here hx rfl (hb hby at_290) (XS.goto X13.here hx rfl (pc0 := 291) (pc' := 295) rfl (hb hby at_291) (by decide) (by decide) k))))) ?_
              refine own_retNH X13 hS (own_hk eq13 hk) (own_hr eq13 hR) hZ (own_EW hw) hx hlk (t := .boolean) hret (by simp) (hb hby at_295) (w := (1 : Int32)) rfl ?_ (by decide) (by decide)
              exact ⟨rfl, Nf⟩
            · refine own_goH (x' := T13.setTop (mkF m 265 #[.val (.long ja), .second, .val (.long jb), .second, .val (.int p2), .val (.int nv), .val (.long mk), .second, .val (.ref cc), .val (.ref b1), .val (.int ra), .val (.int cl), .unset] [(.int 5), (.ref cc), (.int 5)])) (fun _ k => XS.ifNo X13.here hx rfl (hb hby at_258) rfl ((if0 _ _).trans (feq hc258).1) (XS.iconst X13.here hx rfl (hb hby at_261) (XS.aload X13.here hx rfl (hb hby at_262) rfl rfl (XS.iconst X13.here hx rfl (hb hby at_264) k)))) ?_
              obtain ⟨cl14, Ar14, q14, Sz14, Nn14, Hh14, Gg14⟩ := id V_cc
              have hin14 : ¬ ((5 : Int32) < 0 ∨ cl14.slots.size ≤ ((5 : Int32)).toNatClampNeg) := inb_of Sz14 ⟨by decide, by decide⟩
              refine own_goH (x' := T13.setTop (mkF m 266 #[.val (.long ja), .second, .val (.long jb), .second, .val (.int p2), .val (.int nv), .val (.long mk), .second, .val (.ref cc), .val (.ref b1), .val (.int ra), .val (.int cl), .unset] [(.int x5), (.int 5)])) (X13.caload hx (j := (5 : Int32)) (v := (.int x5)) (Eq.trans (congrArg (fun h_ => h_[_]?) eq13) Ar14.1) (State.isArrayOf_alike hZ.alike Ar14.2.1) Ar14.2.2 hin14 (Hh14.at hin14 rfl) (g := (mkF m 265 #[.val (.long ja), .second, .val (.long jb), .second, .val (.int p2), .val (.int nv), .val (.long mk), .second, .val (.ref cc), .val (.ref b1), .val (.int ra), .val (.int cl), .unset] [(.int 5), (.ref cc), (.int 5)])) rfl rfl (hb hby at_265)) ?_
              refine own_goH (x' := T13.setTop (mkF m 270 #[.val (.long ja), .second, .val (.long jb), .second, .val (.int p2), .val (.int nv), .val (.long mk), .second, .val (.ref cc), .val (.ref b1), .val (.int ra), .val (.int cl), .unset] [(.int nv), (.int cl), (.int x5), (.int 5)])) (fun _ k => XS.iload X13.here hx rfl (hb hby at_266) rfl (XS.iload X13.here hx rfl (hb hby at_268) rfl k)) ?_
              obtain ⟨_, _, ⟨T15, L15, k15, n15⟩, -, X15, ⟨Lc15, hQ15, l15, y15, z15⟩, st15⟩ := Jvm.LawKit.callS X13 hx (y := (⟨"com/example/triplewright/triplewright/IriIsAbsolutePinLaw", "posOk", "(ICII)Z"⟩ : MethodName)) hown (mvT hZ (own_w hw 150 rfl)) (mvT hZ (own_w hw 151 rfl)) (mvT hZ (own_w hw 4 rfl)) (mvT hZ (own_w hw 152 rfl)) (by decide) (backOf (W := 0) (rm37 l Z a0 hw [] (5 : Int32) x5 cl nv  T2.heap n0 Zs  ) hZ (own_w hw 152 rfl) (own_w hw 4 rfl) (by decide) (by decide)) (g := (mkF m 270 #[.val (.long ja), .second, .val (.long jb), .second, .val (.int p2), .val (.int nv), .val (.long mk), .second, .val (.ref cc), .val (.ref b1), .val (.int ra), .val (.int cl), .unset] [(.int nv), (.int cl), (.int x5), (.int 5)])) rfl (by rw [hml]; rfl) (argsL := [(.int 5), (.int x5), (.int cl), (.int nv)]) (rest := []) (lenOf pd_27 rfl) rfl (by show 2 * 0 + _ ≤ _; exact Nat.le_of_eq rfl) (hb hby at_270) (fun _ _ => ⟨rfl, eq13, (by decide : 15 + 0 ≤ _), (by decide : 194 + 0 ≤ _)⟩)
              dsimp only [Pt.U, Pt.locs, Pt.cells, Pt.slots] at X15 l15 y15 z15 st15 hQ15
              subst l15 y15 z15
              obtain ⟨hv15, Nq15, eq15⟩ := hQ15
              subst hv15
              replace Nf := Fr.app Nf Nq15
              refine own_goH (x' := T15.setTop (mkF m 273 #[.val (.long ja), .second, .val (.long jb), .second, .val (.int p2), .val (.int nv), .val (.long mk), .second, .val (.ref cc), .val (.ref b1), .val (.int ra), .val (.int cl), .unset] [(.int (own_pos (5 : Int32) x5 cl nv))])) st15 ?_
              by_cases hc273 : (own_pos (5 : Int32) x5 cl nv) = (0 : Int32)
              · refine own_goH (x' := T15.setTop (mkF m 283 #[.val (.long ja), .second, .val (.long jb), .second, .val (.int p2), .val (.int nv), .val (.long mk), .second, .val (.ref cc), .val (.ref b1), .val (.int ra), .val (.int cl), .val (.int 0)] [])) (fun _ k => XS.ifYes X15.here hx rfl (pc0 := 273) (pc' := 280) rfl (hb hby at_273) rfl ((if0 _ _).trans (teq hc273).1) (by decide) (by decide) (XS.iconst X15.here hx rfl (hb hby at_280) (XS.istore X15.here hx rfl (hb hby at_281) rfl (l' := #[.val (.long ja), .second, .val (.long jb), .second, .val (.int p2), .val (.int nv), .val (.long mk), .second, .val (.ref cc), .val (.ref b1), .val (.int ra), .val (.int cl), .val (.int 0)]) rfl k))) ?_
                have hfin : ra = (0 : Int32) := hra.elim (fun z => absurd z.2 (own_key0 (X := [x0, x1, x2, x3, x4, x5]) rfl hp hcl hc183 (i := 5) (c := x5) (by decide) rfl hc273)) (fun z => z.1)
                refine own_goH (x' := T15.setTop (mkF m 295 #[.val (.long ja), .second, .val (.long jb), .second, .val (.int p2), .val (.int nv), .val (.long mk), .second, .val (.ref cc), .val (.ref b1), .val (.int ra), .val (.int cl), .val (.int 0)] [(.int 1)])) (fun _ k => XS.iload X15.here hx rfl (hb hby at_283) rfl (XS.iload X15.here hx rfl (hb hby at_285) rfl (XS.icmpNo X15.here hx rfl (hb hby at_287) rfl (teq hfin).2 (XS.iconst X15.here hx rfl (hb hby at_290) (XS.goto X15.here hx rfl (pc0 := 291) (pc' := 295) rfl (hb hby at_291) (by decide) (by decide) k))))) ?_
                refine own_retNH X15 hS (own_hk eq15 hk) (own_hr eq15 hR) hZ (own_EW hw) hx hlk (t := .boolean) hret (by simp) (hb hby at_295) (w := (1 : Int32)) rfl ?_ (by decide) (by decide)
                exact ⟨rfl, Nf⟩
              · refine own_goH (x' := T15.setTop (mkF m 283 #[.val (.long ja), .second, .val (.long jb), .second, .val (.int p2), .val (.int nv), .val (.long mk), .second, .val (.ref cc), .val (.ref b1), .val (.int ra), .val (.int cl), .val (.int 1)] [])) (fun _ k => XS.ifNo X15.here hx rfl (hb hby at_273) rfl ((if0 _ _).trans (feq hc273).1) (XS.iconst X15.here hx rfl (hb hby at_276) (XS.goto X15.here hx rfl (pc0 := 277) (pc' := 281) rfl (hb hby at_277) (by decide) (by decide) (XS.istore X15.here hx rfl (hb hby at_281) rfl (l' := #[.val (.long ja), .second, .val (.long jb), .second, .val (.int p2), .val (.int nv), .val (.long mk), .second, .val (.ref cc), .val (.ref b1), .val (.int ra), .val (.int cl), .val (.int 1)]) rfl k)))) ?_
                have hfin : ra = (1 : Int32) := hra.elim (fun z => z.1) (fun z => absurd (own_key1 hp hcl hc183 hc198 hc213 hc228 hc243 hc258 hc273) z.2)
                refine own_goH (x' := T15.setTop (mkF m 295 #[.val (.long ja), .second, .val (.long jb), .second, .val (.int p2), .val (.int nv), .val (.long mk), .second, .val (.ref cc), .val (.ref b1), .val (.int ra), .val (.int cl), .val (.int 1)] [(.int 1)])) (fun _ k => XS.iload X15.here hx rfl (hb hby at_283) rfl (XS.iload X15.here hx rfl (hb hby at_285) rfl (XS.icmpNo X15.here hx rfl (hb hby at_287) rfl (teq hfin).2 (XS.iconst X15.here hx rfl (hb hby at_290) (XS.goto X15.here hx rfl (pc0 := 291) (pc' := 295) rfl (hb hby at_291) (by decide) (by decide) k))))) ?_
                refine own_retNH X15 hS (own_hk eq15 hk) (own_hr eq15 hR) hZ (own_EW hw) hx hlk (t := .boolean) hret (by simp) (hb hby at_295) (w := (1 : Int32)) rfl ?_ (by decide) (by decide)
                exact ⟨rfl, Nf⟩
set_option maxRecDepth 65536 in
set_option maxHeartbeats 40000000 in
theorem segC {p : Program} {l : Launch} {e : Env} {s : State} {m : MethodId} {args : Array Value} {below : List Frame} {meth : Method} {c : Code} {Z : State} {a0 : Array Value} (hx : p.tables.exec = Jvm.exec) (hlk : meth.locks = false) (hret : meth.sig.returnType = some .boolean) (hw : ∀ d ∈ tables_1, d.before a0 Z = true) (hby : c.code = code) (hml : c.maxLocals = 13) (hnm : meth.name = "law") (ja jb : Int64) (p2 nv : Int32) (mk : Int64) (cc : Addr) (kc : ClassId) (x0 x1 x2 x3 x4 x5 : Int32) (G1 : Int32) (sf : Value) (n0 : Nat) (hst : own_St Z G1 sf) (hp : ¬ nv < 0 ∧ ¬ (6 : Int32) < nv) (vm0 : Vm) (k0 : Nat) (h0 : Heap) (s₁ : State) (LL : List Loc) (X0 : Stand p l e room_1 (s.setVm vm0) m args below meth c s₁ LL 1 6) (e0 : s₁.heap = h0) (Nf : Fr n0 LL) (Zs : n0 ≤ h0.size) (hS : s.Since vm0 k0) (hk : k0 ≤ h0.size) (hZ : Z.Warmed39 (s.setVm vm0).vm) (hown : (s.setVm vm0).vm.findClass "com/example/triplewright/triplewright/IriIsAbsolutePinLaw" = some m.cls) (hR : CHr Z own_EL s.vm s.heap vm0 h0) (Od : Old Z n0 h0) (V_cc : Arv Z h0 cc kc .char (6 : Int32) [(.int x0), (.int x1), (.int x2), (.int x3), (.int x4), (.int x5)] (.int (0 : Int32))) (g_cc : n0 ≤ cc) (Sf_cc : Safe Z own_EL vm0 h0 cc) (hx0 : own_ch x0) (hx1 : own_ch x1) (hx2 : own_ch x2) (hx3 : own_ch x3) (hx4 : own_ch x4) (hx5 : own_ch x5) :
    own_EndH Z own_EL p e below s (fun v h L => v = some (.int 1) ∧ Fr n0 L) room_1.cells room_1.slots (s₁.setTop (mkF m 130 #[.val (.long ja), .second, .val (.long jb), .second, .val (.int p2), .val (.int nv), .val (.long mk), .second, .val (.ref cc), .unset, .unset, .unset, .unset] [])) := by
  obtain ⟨S_COMPACT_STRINGS, hG, S__assertionsDisabled, S_HI_BYTE_SHIFT, S_LO_BYTE_SHIFT, S_SIOOBE_FORMATTER, r_sf, c_sf⟩ := id hst
  refine own_goH (x' := s₁.setTop (mkF m 136 #[.val (.long ja), .second, .val (.long jb), .second, .val (.int p2), .val (.int nv), .val (.long mk), .second, .val (.ref cc), .unset, .unset, .unset, .unset] [(.int (p2 &&& (256 : Int32)))])) (fun _ k => XS.iload X0.here hx rfl (hb hby at_130) rfl (XS.sipush X0.here hx rfl (hb hby at_132) (XS.iand X0.here hx rfl (hb hby at_135) rfl k))) ?_
  by_cases hc136 : (p2 &&& (256 : Int32)) = (0 : Int32)
  · refine own_goH (x' := s₁.setTop (mkF m 155 #[.val (.long ja), .second, .val (.long jb), .second, .val (.int p2), .val (.int nv), .val (.long mk), .second, .val (.ref cc), .unset, .unset, .unset, .unset] [])) (fun _ k => XS.ifYes X0.here hx rfl (pc0 := 136) (pc' := 155) rfl (hb hby at_136) rfl ((if0 _ _).trans (teq hc136).1) (by decide) (by decide) k) ?_
    exact segD hx hlk hret hw hby hml hnm ja jb p2 nv mk cc kc x0 x1 x2 x3 x4 x5 G1 sf n0 hst hp _ _ _ _ _ X0 e0 Nf Zs hS hk hZ hown hR Od V_cc g_cc Sf_cc hx0 hx1 hx2 hx3 hx4 hx5
  · refine own_goH (x' := s₁.setTop (mkF m 148 #[.val (.long ja), .second, .val (.long jb), .second, .val (.int p2), .val (.int nv), .val (.long mk), .second, .val (.ref cc), .unset, .unset, .unset, .unset] [(.int 7), (.int ((p2.toUInt32 >>> ((9 : Int32) &&& 31).toUInt32).toInt32)), (.ref cc)])) (fun _ k => XS.ifNo X0.here hx rfl (hb hby at_136) rfl ((if0 _ _).trans (feq hc136).1) (XS.aload X0.here hx rfl (hb hby at_139) rfl rfl (XS.iload X0.here hx rfl (hb hby at_141) rfl (XS.bipush X0.here hx rfl (hb hby at_143) (XS.iushr X0.here hx rfl (hb hby at_145) rfl (XS.bipush X0.here hx rfl (hb hby at_146) k)))))) ?_
    refine own_goH (x' := s₁.setTop (mkF m 152 #[.val (.long ja), .second, .val (.long jb), .second, .val (.int p2), .val (.int nv), .val (.long mk), .second, .val (.ref cc), .unset, .unset, .unset, .unset] [(.int ((((p2.toUInt32 >>> ((9 : Int32) &&& 31).toUInt32).toInt32) &&& (7 : Int32)) % (6 : Int32))), (.ref cc)])) (fun _ k => XS.iand X0.here hx rfl (hb hby at_148) rfl (XS.bipush X0.here hx rfl (hb hby at_149) (iremM X0 hx rfl (hb hby at_151) rfl (by decide) k))) ?_
    have h6 := own_r6 ((p2.toUInt32 >>> ((9 : Int32) &&& 31).toUInt32).toInt32)
    generalize ((((p2.toUInt32 >>> ((9 : Int32) &&& 31).toUInt32).toInt32) &&& (7 : Int32)) % (6 : Int32)) = iv at h6 ⊢
    rcases h6 with rfl | rfl | rfl | rfl | rfl | rfl
    · refine own_goH (x' := s₁.setTop (mkF m 154 #[.val (.long ja), .second, .val (.long jb), .second, .val (.int p2), .val (.int nv), .val (.long mk), .second, .val (.ref cc), .unset, .unset, .unset, .unset] [(.int 58), (.int 0), (.ref cc)])) (fun _ k => XS.bipush X0.here hx rfl (hb hby at_152) k) ?_
      obtain ⟨cl1, Ar1, q1, Sz1, Nn1, Hh1, Gg1⟩ := V_cc
      have hin1 : ¬ ((0 : Int32) < 0 ∨ cl1.slots.size ≤ ((0 : Int32)).toNatClampNeg) := inb_of Sz1 ⟨by decide, by decide⟩
      obtain ⟨T1, h1, X1, e1, W1, st1⟩ := stC X0 hx hZ e0 Ar1 (j := (0 : Int32)) hin1 (g := (mkF m 154 #[.val (.long ja), .second, .val (.long jb), .second, .val (.int p2), .val (.int nv), .val (.long mk), .second, .val (.ref cc), .unset, .unset, .unset, .unset] [(.int 58), (.int 0), (.ref cc)])) rfl rfl (hb hby at_154)
      refine own_goH (x' := T1.setTop (mkF m 155 #[.val (.long ja), .second, .val (.long jb), .second, .val (.int p2), .val (.int nv), .val (.long mk), .second, .val (.ref cc), .unset, .unset, .unset, .unset] [])) st1 ?_
      replace Od := Od.wr W1 g_cc
      replace Zs := Nat.le_trans Zs (Keep.of_wr W1).1
      replace hk := Nat.le_trans hk (Keep.of_wr W1).1
      have Sq_cc := Safe.wr W1 Sf_cc hR.1 Sf_cc
      replace hR := hR.trans (CHr.wr W1 Sf_cc hR.1)
      replace Sf_cc := Sq_cc
      replace Nf := Fr.snoc X1 Nf g_cc
      have V_cc : Arv Z h1 cc kc .char (6 : Int32) [(.int (nar .char (58 : Int32))), (.int x1), (.int x2), (.int x3), (.int x4), (.int x5)] (.int 0) := Arv.set Ar1 q1 Sz1 Nn1 Hh1 Gg1 (fits_nar_char _) W1 0 rfl (Nat.le_of_ble_eq_true rfl)
      exact segD hx hlk hret hw hby hml hnm ja jb p2 nv mk cc kc (nar .char (58 : Int32)) x1 x2 x3 x4 x5 G1 sf n0 hst hp _ _ _ _ _ X1 e1 Nf Zs hS hk hZ hown hR Od V_cc g_cc Sf_cc (own_nr _) hx1 hx2 hx3 hx4 hx5
    · refine own_goH (x' := s₁.setTop (mkF m 154 #[.val (.long ja), .second, .val (.long jb), .second, .val (.int p2), .val (.int nv), .val (.long mk), .second, .val (.ref cc), .unset, .unset, .unset, .unset] [(.int 58), (.int 1), (.ref cc)])) (fun _ k => XS.bipush X0.here hx rfl (hb hby at_152) k) ?_
      obtain ⟨cl2, Ar2, q2, Sz2, Nn2, Hh2, Gg2⟩ := V_cc
      have hin2 : ¬ ((1 : Int32) < 0 ∨ cl2.slots.size ≤ ((1 : Int32)).toNatClampNeg) := inb_of Sz2 ⟨by decide, by decide⟩
      obtain ⟨T2, h2, X2, e2, W2, st2⟩ := stC X0 hx hZ e0 Ar2 (j := (1 : Int32)) hin2 (g := (mkF m 154 #[.val (.long ja), .second, .val (.long jb), .second, .val (.int p2), .val (.int nv), .val (.long mk), .second, .val (.ref cc), .unset, .unset, .unset, .unset] [(.int 58), (.int 1), (.ref cc)])) rfl rfl (hb hby at_154)
      refine own_goH (x' := T2.setTop (mkF m 155 #[.val (.long ja), .second, .val (.long jb), .second, .val (.int p2), .val (.int nv), .val (.long mk), .second, .val (.ref cc), .unset, .unset, .unset, .unset] [])) st2 ?_
      replace Od := Od.wr W2 g_cc
      replace Zs := Nat.le_trans Zs (Keep.of_wr W2).1
      replace hk := Nat.le_trans hk (Keep.of_wr W2).1
      have Sq_cc := Safe.wr W2 Sf_cc hR.1 Sf_cc
      replace hR := hR.trans (CHr.wr W2 Sf_cc hR.1)
      replace Sf_cc := Sq_cc
      replace Nf := Fr.snoc X2 Nf g_cc
      have V_cc : Arv Z h2 cc kc .char (6 : Int32) [(.int x0), (.int (nar .char (58 : Int32))), (.int x2), (.int x3), (.int x4), (.int x5)] (.int 0) := Arv.set Ar2 q2 Sz2 Nn2 Hh2 Gg2 (fits_nar_char _) W2 1 rfl (Nat.le_of_ble_eq_true rfl)
      exact segD hx hlk hret hw hby hml hnm ja jb p2 nv mk cc kc x0 (nar .char (58 : Int32)) x2 x3 x4 x5 G1 sf n0 hst hp _ _ _ _ _ X2 e2 Nf Zs hS hk hZ hown hR Od V_cc g_cc Sf_cc hx0 (own_nr _) hx2 hx3 hx4 hx5
    · refine own_goH (x' := s₁.setTop (mkF m 154 #[.val (.long ja), .second, .val (.long jb), .second, .val (.int p2), .val (.int nv), .val (.long mk), .second, .val (.ref cc), .unset, .unset, .unset, .unset] [(.int 58), (.int 2), (.ref cc)])) (fun _ k => XS.bipush X0.here hx rfl (hb hby at_152) k) ?_
      obtain ⟨cl3, Ar3, q3, Sz3, Nn3, Hh3, Gg3⟩ := V_cc
      have hin3 : ¬ ((2 : Int32) < 0 ∨ cl3.slots.size ≤ ((2 : Int32)).toNatClampNeg) := inb_of Sz3 ⟨by decide, by decide⟩
      obtain ⟨T3, h3, X3, e3, W3, st3⟩ := stC X0 hx hZ e0 Ar3 (j := (2 : Int32)) hin3 (g := (mkF m 154 #[.val (.long ja), .second, .val (.long jb), .second, .val (.int p2), .val (.int nv), .val (.long mk), .second, .val (.ref cc), .unset, .unset, .unset, .unset] [(.int 58), (.int 2), (.ref cc)])) rfl rfl (hb hby at_154)
      refine own_goH (x' := T3.setTop (mkF m 155 #[.val (.long ja), .second, .val (.long jb), .second, .val (.int p2), .val (.int nv), .val (.long mk), .second, .val (.ref cc), .unset, .unset, .unset, .unset] [])) st3 ?_
      replace Od := Od.wr W3 g_cc
      replace Zs := Nat.le_trans Zs (Keep.of_wr W3).1
      replace hk := Nat.le_trans hk (Keep.of_wr W3).1
      have Sq_cc := Safe.wr W3 Sf_cc hR.1 Sf_cc
      replace hR := hR.trans (CHr.wr W3 Sf_cc hR.1)
      replace Sf_cc := Sq_cc
      replace Nf := Fr.snoc X3 Nf g_cc
      have V_cc : Arv Z h3 cc kc .char (6 : Int32) [(.int x0), (.int x1), (.int (nar .char (58 : Int32))), (.int x3), (.int x4), (.int x5)] (.int 0) := Arv.set Ar3 q3 Sz3 Nn3 Hh3 Gg3 (fits_nar_char _) W3 2 rfl (Nat.le_of_ble_eq_true rfl)
      exact segD hx hlk hret hw hby hml hnm ja jb p2 nv mk cc kc x0 x1 (nar .char (58 : Int32)) x3 x4 x5 G1 sf n0 hst hp _ _ _ _ _ X3 e3 Nf Zs hS hk hZ hown hR Od V_cc g_cc Sf_cc hx0 hx1 (own_nr _) hx3 hx4 hx5
    · refine own_goH (x' := s₁.setTop (mkF m 154 #[.val (.long ja), .second, .val (.long jb), .second, .val (.int p2), .val (.int nv), .val (.long mk), .second, .val (.ref cc), .unset, .unset, .unset, .unset] [(.int 58), (.int 3), (.ref cc)])) (fun _ k => XS.bipush X0.here hx rfl (hb hby at_152) k) ?_
      obtain ⟨cl4, Ar4, q4, Sz4, Nn4, Hh4, Gg4⟩ := V_cc
      have hin4 : ¬ ((3 : Int32) < 0 ∨ cl4.slots.size ≤ ((3 : Int32)).toNatClampNeg) := inb_of Sz4 ⟨by decide, by decide⟩
      obtain ⟨T4, h4, X4, e4, W4, st4⟩ := stC X0 hx hZ e0 Ar4 (j := (3 : Int32)) hin4 (g := (mkF m 154 #[.val (.long ja), .second, .val (.long jb), .second, .val (.int p2), .val (.int nv), .val (.long mk), .second, .val (.ref cc), .unset, .unset, .unset, .unset] [(.int 58), (.int 3), (.ref cc)])) rfl rfl (hb hby at_154)
      refine own_goH (x' := T4.setTop (mkF m 155 #[.val (.long ja), .second, .val (.long jb), .second, .val (.int p2), .val (.int nv), .val (.long mk), .second, .val (.ref cc), .unset, .unset, .unset, .unset] [])) st4 ?_
      replace Od := Od.wr W4 g_cc
      replace Zs := Nat.le_trans Zs (Keep.of_wr W4).1
      replace hk := Nat.le_trans hk (Keep.of_wr W4).1
      have Sq_cc := Safe.wr W4 Sf_cc hR.1 Sf_cc
      replace hR := hR.trans (CHr.wr W4 Sf_cc hR.1)
      replace Sf_cc := Sq_cc
      replace Nf := Fr.snoc X4 Nf g_cc
      have V_cc : Arv Z h4 cc kc .char (6 : Int32) [(.int x0), (.int x1), (.int x2), (.int (nar .char (58 : Int32))), (.int x4), (.int x5)] (.int 0) := Arv.set Ar4 q4 Sz4 Nn4 Hh4 Gg4 (fits_nar_char _) W4 3 rfl (Nat.le_of_ble_eq_true rfl)
      exact segD hx hlk hret hw hby hml hnm ja jb p2 nv mk cc kc x0 x1 x2 (nar .char (58 : Int32)) x4 x5 G1 sf n0 hst hp _ _ _ _ _ X4 e4 Nf Zs hS hk hZ hown hR Od V_cc g_cc Sf_cc hx0 hx1 hx2 (own_nr _) hx4 hx5
    · refine own_goH (x' := s₁.setTop (mkF m 154 #[.val (.long ja), .second, .val (.long jb), .second, .val (.int p2), .val (.int nv), .val (.long mk), .second, .val (.ref cc), .unset, .unset, .unset, .unset] [(.int 58), (.int 4), (.ref cc)])) (fun _ k => XS.bipush X0.here hx rfl (hb hby at_152) k) ?_
      obtain ⟨cl5, Ar5, q5, Sz5, Nn5, Hh5, Gg5⟩ := V_cc
      have hin5 : ¬ ((4 : Int32) < 0 ∨ cl5.slots.size ≤ ((4 : Int32)).toNatClampNeg) := inb_of Sz5 ⟨by decide, by decide⟩
      obtain ⟨T5, h5, X5, e5, W5, st5⟩ := stC X0 hx hZ e0 Ar5 (j := (4 : Int32)) hin5 (g := (mkF m 154 #[.val (.long ja), .second, .val (.long jb), .second, .val (.int p2), .val (.int nv), .val (.long mk), .second, .val (.ref cc), .unset, .unset, .unset, .unset] [(.int 58), (.int 4), (.ref cc)])) rfl rfl (hb hby at_154)
      refine own_goH (x' := T5.setTop (mkF m 155 #[.val (.long ja), .second, .val (.long jb), .second, .val (.int p2), .val (.int nv), .val (.long mk), .second, .val (.ref cc), .unset, .unset, .unset, .unset] [])) st5 ?_
      replace Od := Od.wr W5 g_cc
      replace Zs := Nat.le_trans Zs (Keep.of_wr W5).1
      replace hk := Nat.le_trans hk (Keep.of_wr W5).1
      have Sq_cc := Safe.wr W5 Sf_cc hR.1 Sf_cc
      replace hR := hR.trans (CHr.wr W5 Sf_cc hR.1)
      replace Sf_cc := Sq_cc
      replace Nf := Fr.snoc X5 Nf g_cc
      have V_cc : Arv Z h5 cc kc .char (6 : Int32) [(.int x0), (.int x1), (.int x2), (.int x3), (.int (nar .char (58 : Int32))), (.int x5)] (.int 0) := Arv.set Ar5 q5 Sz5 Nn5 Hh5 Gg5 (fits_nar_char _) W5 4 rfl (Nat.le_of_ble_eq_true rfl)
      exact segD hx hlk hret hw hby hml hnm ja jb p2 nv mk cc kc x0 x1 x2 x3 (nar .char (58 : Int32)) x5 G1 sf n0 hst hp _ _ _ _ _ X5 e5 Nf Zs hS hk hZ hown hR Od V_cc g_cc Sf_cc hx0 hx1 hx2 hx3 (own_nr _) hx5
    · refine own_goH (x' := s₁.setTop (mkF m 154 #[.val (.long ja), .second, .val (.long jb), .second, .val (.int p2), .val (.int nv), .val (.long mk), .second, .val (.ref cc), .unset, .unset, .unset, .unset] [(.int 58), (.int 5), (.ref cc)])) (fun _ k => XS.bipush X0.here hx rfl (hb hby at_152) k) ?_
      obtain ⟨cl6, Ar6, q6, Sz6, Nn6, Hh6, Gg6⟩ := V_cc
      have hin6 : ¬ ((5 : Int32) < 0 ∨ cl6.slots.size ≤ ((5 : Int32)).toNatClampNeg) := inb_of Sz6 ⟨by decide, by decide⟩
      obtain ⟨T6, h6, X6, e6, W6, st6⟩ := stC X0 hx hZ e0 Ar6 (j := (5 : Int32)) hin6 (g := (mkF m 154 #[.val (.long ja), .second, .val (.long jb), .second, .val (.int p2), .val (.int nv), .val (.long mk), .second, .val (.ref cc), .unset, .unset, .unset, .unset] [(.int 58), (.int 5), (.ref cc)])) rfl rfl (hb hby at_154)
      refine own_goH (x' := T6.setTop (mkF m 155 #[.val (.long ja), .second, .val (.long jb), .second, .val (.int p2), .val (.int nv), .val (.long mk), .second, .val (.ref cc), .unset, .unset, .unset, .unset] [])) st6 ?_
      replace Od := Od.wr W6 g_cc
      replace Zs := Nat.le_trans Zs (Keep.of_wr W6).1
      replace hk := Nat.le_trans hk (Keep.of_wr W6).1
      have Sq_cc := Safe.wr W6 Sf_cc hR.1 Sf_cc
      replace hR := hR.trans (CHr.wr W6 Sf_cc hR.1)
      replace Sf_cc := Sq_cc
      replace Nf := Fr.snoc X6 Nf g_cc
      have V_cc : Arv Z h6 cc kc .char (6 : Int32) [(.int x0), (.int x1), (.int x2), (.int x3), (.int x4), (.int (nar .char (58 : Int32)))] (.int 0) := Arv.set Ar6 q6 Sz6 Nn6 Hh6 Gg6 (fits_nar_char _) W6 5 rfl (Nat.le_of_ble_eq_true rfl)
      exact segD hx hlk hret hw hby hml hnm ja jb p2 nv mk cc kc x0 x1 x2 x3 x4 (nar .char (58 : Int32)) G1 sf n0 hst hp _ _ _ _ _ X6 e6 Nf Zs hS hk hZ hown hR Od V_cc g_cc Sf_cc hx0 hx1 hx2 hx3 hx4 (own_nr _)
set_option maxRecDepth 65536 in
set_option maxHeartbeats 40000000 in
theorem segB {p : Program} {l : Launch} {e : Env} {s : State} {m : MethodId} {args : Array Value} {below : List Frame} {meth : Method} {c : Code} {Z : State} {a0 : Array Value} (hx : p.tables.exec = Jvm.exec) (hlk : meth.locks = false) (hret : meth.sig.returnType = some .boolean) (hw : ∀ d ∈ tables_1, d.before a0 Z = true) (hby : c.code = code) (hml : c.maxLocals = 13) (hnm : meth.name = "law") (ja jb : Int64) (p2 nv : Int32) (mk : Int64) (cc : Addr) (kc : ClassId) (x0 x1 x2 x3 x4 x5 : Int32) (G1 : Int32) (sf : Value) (n0 : Nat) (hst : own_St Z G1 sf) (hp : ¬ nv < 0 ∧ ¬ (6 : Int32) < nv) (vm0 : Vm) (k0 : Nat) (h0 : Heap) (s₁ : State) (LL : List Loc) (X0 : Stand p l e room_1 (s.setVm vm0) m args below meth c s₁ LL 1 6) (e0 : s₁.heap = h0) (Nf : Fr n0 LL) (Zs : n0 ≤ h0.size) (hS : s.Since vm0 k0) (hk : k0 ≤ h0.size) (hZ : Z.Warmed39 (s.setVm vm0).vm) (hown : (s.setVm vm0).vm.findClass "com/example/triplewright/triplewright/IriIsAbsolutePinLaw" = some m.cls) (hR : CHr Z own_EL s.vm s.heap vm0 h0) (Od : Old Z n0 h0) (V_cc : Arv Z h0 cc kc .char (6 : Int32) [(.int x0), (.int x1), (.int x2), (.int x3), (.int x4), (.int x5)] (.int (0 : Int32))) (g_cc : n0 ≤ cc) (Sf_cc : Safe Z own_EL vm0 h0 cc) (hx0 : own_ch x0) (hx1 : own_ch x1) (hx2 : own_ch x2) (hx3 : own_ch x3) (hx4 : own_ch x4) (hx5 : own_ch x5) :
    own_EndH Z own_EL p e below s (fun v h L => v = some (.int 1) ∧ Fr n0 L) room_1.cells room_1.slots (s₁.setTop (mkF m 107 #[.val (.long ja), .second, .val (.long jb), .second, .val (.int p2), .val (.int nv), .val (.long mk), .second, .val (.ref cc), .unset, .unset, .unset, .unset] [])) := by
  obtain ⟨S_COMPACT_STRINGS, hG, S__assertionsDisabled, S_HI_BYTE_SHIFT, S_LO_BYTE_SHIFT, S_SIOOBE_FORMATTER, r_sf, c_sf⟩ := id hst
  refine own_goH (x' := s₁.setTop (mkF m 112 #[.val (.long ja), .second, .val (.long jb), .second, .val (.int p2), .val (.int nv), .val (.long mk), .second, .val (.ref cc), .unset, .unset, .unset, .unset] [(.int (p2 &&& (16 : Int32)))])) (fun _ k => XS.iload X0.here hx rfl (hb hby at_107) rfl (XS.bipush X0.here hx rfl (hb hby at_109) (XS.iand X0.here hx rfl (hb hby at_111) rfl k))) ?_
  by_cases hc112 : (p2 &&& (16 : Int32)) = (0 : Int32)
  · refine own_goH (x' := s₁.setTop (mkF m 130 #[.val (.long ja), .second, .val (.long jb), .second, .val (.int p2), .val (.int nv), .val (.long mk), .second, .val (.ref cc), .unset, .unset, .unset, .unset] [])) (fun _ k => XS.ifYes X0.here hx rfl (pc0 := 112) (pc' := 130) rfl (hb hby at_112) rfl ((if0 _ _).trans (teq hc112).1) (by decide) (by decide) k) ?_
    exact segC hx hlk hret hw hby hml hnm ja jb p2 nv mk cc kc x0 x1 x2 x3 x4 x5 G1 sf n0 hst hp _ _ _ _ _ X0 e0 Nf Zs hS hk hZ hown hR Od V_cc g_cc Sf_cc hx0 hx1 hx2 hx3 hx4 hx5
  · refine own_goH (x' := s₁.setTop (mkF m 123 #[.val (.long ja), .second, .val (.long jb), .second, .val (.int p2), .val (.int nv), .val (.long mk), .second, .val (.ref cc), .unset, .unset, .unset, .unset] [(.int 7), (.int ((p2.toUInt32 >>> ((5 : Int32) &&& 31).toUInt32).toInt32)), (.ref cc)])) (fun _ k => XS.ifNo X0.here hx rfl (hb hby at_112) rfl ((if0 _ _).trans (feq hc112).1) (XS.aload X0.here hx rfl (hb hby at_115) rfl rfl (XS.iload X0.here hx rfl (hb hby at_117) rfl (XS.iconst X0.here hx rfl (hb hby at_119) (XS.iushr X0.here hx rfl (hb hby at_120) rfl (XS.bipush X0.here hx rfl (hb hby at_121) k)))))) ?_
    refine own_goH (x' := s₁.setTop (mkF m 127 #[.val (.long ja), .second, .val (.long jb), .second, .val (.int p2), .val (.int nv), .val (.long mk), .second, .val (.ref cc), .unset, .unset, .unset, .unset] [(.int ((((p2.toUInt32 >>> ((5 : Int32) &&& 31).toUInt32).toInt32) &&& (7 : Int32)) % (6 : Int32))), (.ref cc)])) (fun _ k => XS.iand X0.here hx rfl (hb hby at_123) rfl (XS.bipush X0.here hx rfl (hb hby at_124) (iremM X0 hx rfl (hb hby at_126) rfl (by decide) k))) ?_
    have h6 := own_r6 ((p2.toUInt32 >>> ((5 : Int32) &&& 31).toUInt32).toInt32)
    generalize ((((p2.toUInt32 >>> ((5 : Int32) &&& 31).toUInt32).toInt32) &&& (7 : Int32)) % (6 : Int32)) = iv at h6 ⊢
    rcases h6 with rfl | rfl | rfl | rfl | rfl | rfl
    · refine own_goH (x' := s₁.setTop (mkF m 129 #[.val (.long ja), .second, .val (.long jb), .second, .val (.int p2), .val (.int nv), .val (.long mk), .second, .val (.ref cc), .unset, .unset, .unset, .unset] [(.int 58), (.int 0), (.ref cc)])) (fun _ k => XS.bipush X0.here hx rfl (hb hby at_127) k) ?_
      obtain ⟨cl1, Ar1, q1, Sz1, Nn1, Hh1, Gg1⟩ := V_cc
      have hin1 : ¬ ((0 : Int32) < 0 ∨ cl1.slots.size ≤ ((0 : Int32)).toNatClampNeg) := inb_of Sz1 ⟨by decide, by decide⟩
      obtain ⟨T1, h1, X1, e1, W1, st1⟩ := stC X0 hx hZ e0 Ar1 (j := (0 : Int32)) hin1 (g := (mkF m 129 #[.val (.long ja), .second, .val (.long jb), .second, .val (.int p2), .val (.int nv), .val (.long mk), .second, .val (.ref cc), .unset, .unset, .unset, .unset] [(.int 58), (.int 0), (.ref cc)])) rfl rfl (hb hby at_129)
      refine own_goH (x' := T1.setTop (mkF m 130 #[.val (.long ja), .second, .val (.long jb), .second, .val (.int p2), .val (.int nv), .val (.long mk), .second, .val (.ref cc), .unset, .unset, .unset, .unset] [])) st1 ?_
      replace Od := Od.wr W1 g_cc
      replace Zs := Nat.le_trans Zs (Keep.of_wr W1).1
      replace hk := Nat.le_trans hk (Keep.of_wr W1).1
      have Sq_cc := Safe.wr W1 Sf_cc hR.1 Sf_cc
      replace hR := hR.trans (CHr.wr W1 Sf_cc hR.1)
      replace Sf_cc := Sq_cc
      replace Nf := Fr.snoc X1 Nf g_cc
      have V_cc : Arv Z h1 cc kc .char (6 : Int32) [(.int (nar .char (58 : Int32))), (.int x1), (.int x2), (.int x3), (.int x4), (.int x5)] (.int 0) := Arv.set Ar1 q1 Sz1 Nn1 Hh1 Gg1 (fits_nar_char _) W1 0 rfl (Nat.le_of_ble_eq_true rfl)
      exact segC hx hlk hret hw hby hml hnm ja jb p2 nv mk cc kc (nar .char (58 : Int32)) x1 x2 x3 x4 x5 G1 sf n0 hst hp _ _ _ _ _ X1 e1 Nf Zs hS hk hZ hown hR Od V_cc g_cc Sf_cc (own_nr _) hx1 hx2 hx3 hx4 hx5
    · refine own_goH (x' := s₁.setTop (mkF m 129 #[.val (.long ja), .second, .val (.long jb), .second, .val (.int p2), .val (.int nv), .val (.long mk), .second, .val (.ref cc), .unset, .unset, .unset, .unset] [(.int 58), (.int 1), (.ref cc)])) (fun _ k => XS.bipush X0.here hx rfl (hb hby at_127) k) ?_
      obtain ⟨cl2, Ar2, q2, Sz2, Nn2, Hh2, Gg2⟩ := V_cc
      have hin2 : ¬ ((1 : Int32) < 0 ∨ cl2.slots.size ≤ ((1 : Int32)).toNatClampNeg) := inb_of Sz2 ⟨by decide, by decide⟩
      obtain ⟨T2, h2, X2, e2, W2, st2⟩ := stC X0 hx hZ e0 Ar2 (j := (1 : Int32)) hin2 (g := (mkF m 129 #[.val (.long ja), .second, .val (.long jb), .second, .val (.int p2), .val (.int nv), .val (.long mk), .second, .val (.ref cc), .unset, .unset, .unset, .unset] [(.int 58), (.int 1), (.ref cc)])) rfl rfl (hb hby at_129)
      refine own_goH (x' := T2.setTop (mkF m 130 #[.val (.long ja), .second, .val (.long jb), .second, .val (.int p2), .val (.int nv), .val (.long mk), .second, .val (.ref cc), .unset, .unset, .unset, .unset] [])) st2 ?_
      replace Od := Od.wr W2 g_cc
      replace Zs := Nat.le_trans Zs (Keep.of_wr W2).1
      replace hk := Nat.le_trans hk (Keep.of_wr W2).1
      have Sq_cc := Safe.wr W2 Sf_cc hR.1 Sf_cc
      replace hR := hR.trans (CHr.wr W2 Sf_cc hR.1)
      replace Sf_cc := Sq_cc
      replace Nf := Fr.snoc X2 Nf g_cc
      have V_cc : Arv Z h2 cc kc .char (6 : Int32) [(.int x0), (.int (nar .char (58 : Int32))), (.int x2), (.int x3), (.int x4), (.int x5)] (.int 0) := Arv.set Ar2 q2 Sz2 Nn2 Hh2 Gg2 (fits_nar_char _) W2 1 rfl (Nat.le_of_ble_eq_true rfl)
      exact segC hx hlk hret hw hby hml hnm ja jb p2 nv mk cc kc x0 (nar .char (58 : Int32)) x2 x3 x4 x5 G1 sf n0 hst hp _ _ _ _ _ X2 e2 Nf Zs hS hk hZ hown hR Od V_cc g_cc Sf_cc hx0 (own_nr _) hx2 hx3 hx4 hx5
    · refine own_goH (x' := s₁.setTop (mkF m 129 #[.val (.long ja), .second, .val (.long jb), .second, .val (.int p2), .val (.int nv), .val (.long mk), .second, .val (.ref cc), .unset, .unset, .unset, .unset] [(.int 58), (.int 2), (.ref cc)])) (fun _ k => XS.bipush X0.here hx rfl (hb hby at_127) k) ?_
      obtain ⟨cl3, Ar3, q3, Sz3, Nn3, Hh3, Gg3⟩ := V_cc
      have hin3 : ¬ ((2 : Int32) < 0 ∨ cl3.slots.size ≤ ((2 : Int32)).toNatClampNeg) := inb_of Sz3 ⟨by decide, by decide⟩
      obtain ⟨T3, h3, X3, e3, W3, st3⟩ := stC X0 hx hZ e0 Ar3 (j := (2 : Int32)) hin3 (g := (mkF m 129 #[.val (.long ja), .second, .val (.long jb), .second, .val (.int p2), .val (.int nv), .val (.long mk), .second, .val (.ref cc), .unset, .unset, .unset, .unset] [(.int 58), (.int 2), (.ref cc)])) rfl rfl (hb hby at_129)
      refine own_goH (x' := T3.setTop (mkF m 130 #[.val (.long ja), .second, .val (.long jb), .second, .val (.int p2), .val (.int nv), .val (.long mk), .second, .val (.ref cc), .unset, .unset, .unset, .unset] [])) st3 ?_
      replace Od := Od.wr W3 g_cc
      replace Zs := Nat.le_trans Zs (Keep.of_wr W3).1
      replace hk := Nat.le_trans hk (Keep.of_wr W3).1
      have Sq_cc := Safe.wr W3 Sf_cc hR.1 Sf_cc
      replace hR := hR.trans (CHr.wr W3 Sf_cc hR.1)
      replace Sf_cc := Sq_cc
      replace Nf := Fr.snoc X3 Nf g_cc
      have V_cc : Arv Z h3 cc kc .char (6 : Int32) [(.int x0), (.int x1), (.int (nar .char (58 : Int32))), (.int x3), (.int x4), (.int x5)] (.int 0) := Arv.set Ar3 q3 Sz3 Nn3 Hh3 Gg3 (fits_nar_char _) W3 2 rfl (Nat.le_of_ble_eq_true rfl)
      exact segC hx hlk hret hw hby hml hnm ja jb p2 nv mk cc kc x0 x1 (nar .char (58 : Int32)) x3 x4 x5 G1 sf n0 hst hp _ _ _ _ _ X3 e3 Nf Zs hS hk hZ hown hR Od V_cc g_cc Sf_cc hx0 hx1 (own_nr _) hx3 hx4 hx5
    · refine own_goH (x' := s₁.setTop (mkF m 129 #[.val (.long ja), .second, .val (.long jb), .second, .val (.int p2), .val (.int nv), .val (.long mk), .second, .val (.ref cc), .unset, .unset, .unset, .unset] [(.int 58), (.int 3), (.ref cc)])) (fun _ k => XS.bipush X0.here hx rfl (hb hby at_127) k) ?_
      obtain ⟨cl4, Ar4, q4, Sz4, Nn4, Hh4, Gg4⟩ := V_cc
      have hin4 : ¬ ((3 : Int32) < 0 ∨ cl4.slots.size ≤ ((3 : Int32)).toNatClampNeg) := inb_of Sz4 ⟨by decide, by decide⟩
      obtain ⟨T4, h4, X4, e4, W4, st4⟩ := stC X0 hx hZ e0 Ar4 (j := (3 : Int32)) hin4 (g := (mkF m 129 #[.val (.long ja), .second, .val (.long jb), .second, .val (.int p2), .val (.int nv), .val (.long mk), .second, .val (.ref cc), .unset, .unset, .unset, .unset] [(.int 58), (.int 3), (.ref cc)])) rfl rfl (hb hby at_129)
      refine own_goH (x' := T4.setTop (mkF m 130 #[.val (.long ja), .second, .val (.long jb), .second, .val (.int p2), .val (.int nv), .val (.long mk), .second, .val (.ref cc), .unset, .unset, .unset, .unset] [])) st4 ?_
      replace Od := Od.wr W4 g_cc
      replace Zs := Nat.le_trans Zs (Keep.of_wr W4).1
      replace hk := Nat.le_trans hk (Keep.of_wr W4).1
      have Sq_cc := Safe.wr W4 Sf_cc hR.1 Sf_cc
      replace hR := hR.trans (CHr.wr W4 Sf_cc hR.1)
      replace Sf_cc := Sq_cc
      replace Nf := Fr.snoc X4 Nf g_cc
      have V_cc : Arv Z h4 cc kc .char (6 : Int32) [(.int x0), (.int x1), (.int x2), (.int (nar .char (58 : Int32))), (.int x4), (.int x5)] (.int 0) := Arv.set Ar4 q4 Sz4 Nn4 Hh4 Gg4 (fits_nar_char _) W4 3 rfl (Nat.le_of_ble_eq_true rfl)
      exact segC hx hlk hret hw hby hml hnm ja jb p2 nv mk cc kc x0 x1 x2 (nar .char (58 : Int32)) x4 x5 G1 sf n0 hst hp _ _ _ _ _ X4 e4 Nf Zs hS hk hZ hown hR Od V_cc g_cc Sf_cc hx0 hx1 hx2 (own_nr _) hx4 hx5
    · refine own_goH (x' := s₁.setTop (mkF m 129 #[.val (.long ja), .second, .val (.long jb), .second, .val (.int p2), .val (.int nv), .val (.long mk), .second, .val (.ref cc), .unset, .unset, .unset, .unset] [(.int 58), (.int 4), (.ref cc)])) (fun _ k => XS.bipush X0.here hx rfl (hb hby at_127) k) ?_
      obtain ⟨cl5, Ar5, q5, Sz5, Nn5, Hh5, Gg5⟩ := V_cc
      have hin5 : ¬ ((4 : Int32) < 0 ∨ cl5.slots.size ≤ ((4 : Int32)).toNatClampNeg) := inb_of Sz5 ⟨by decide, by decide⟩
      obtain ⟨T5, h5, X5, e5, W5, st5⟩ := stC X0 hx hZ e0 Ar5 (j := (4 : Int32)) hin5 (g := (mkF m 129 #[.val (.long ja), .second, .val (.long jb), .second, .val (.int p2), .val (.int nv), .val (.long mk), .second, .val (.ref cc), .unset, .unset, .unset, .unset] [(.int 58), (.int 4), (.ref cc)])) rfl rfl (hb hby at_129)
      refine own_goH (x' := T5.setTop (mkF m 130 #[.val (.long ja), .second, .val (.long jb), .second, .val (.int p2), .val (.int nv), .val (.long mk), .second, .val (.ref cc), .unset, .unset, .unset, .unset] [])) st5 ?_
      replace Od := Od.wr W5 g_cc
      replace Zs := Nat.le_trans Zs (Keep.of_wr W5).1
      replace hk := Nat.le_trans hk (Keep.of_wr W5).1
      have Sq_cc := Safe.wr W5 Sf_cc hR.1 Sf_cc
      replace hR := hR.trans (CHr.wr W5 Sf_cc hR.1)
      replace Sf_cc := Sq_cc
      replace Nf := Fr.snoc X5 Nf g_cc
      have V_cc : Arv Z h5 cc kc .char (6 : Int32) [(.int x0), (.int x1), (.int x2), (.int x3), (.int (nar .char (58 : Int32))), (.int x5)] (.int 0) := Arv.set Ar5 q5 Sz5 Nn5 Hh5 Gg5 (fits_nar_char _) W5 4 rfl (Nat.le_of_ble_eq_true rfl)
      exact segC hx hlk hret hw hby hml hnm ja jb p2 nv mk cc kc x0 x1 x2 x3 (nar .char (58 : Int32)) x5 G1 sf n0 hst hp _ _ _ _ _ X5 e5 Nf Zs hS hk hZ hown hR Od V_cc g_cc Sf_cc hx0 hx1 hx2 hx3 (own_nr _) hx5
    · refine own_goH (x' := s₁.setTop (mkF m 129 #[.val (.long ja), .second, .val (.long jb), .second, .val (.int p2), .val (.int nv), .val (.long mk), .second, .val (.ref cc), .unset, .unset, .unset, .unset] [(.int 58), (.int 5), (.ref cc)])) (fun _ k => XS.bipush X0.here hx rfl (hb hby at_127) k) ?_
      obtain ⟨cl6, Ar6, q6, Sz6, Nn6, Hh6, Gg6⟩ := V_cc
      have hin6 : ¬ ((5 : Int32) < 0 ∨ cl6.slots.size ≤ ((5 : Int32)).toNatClampNeg) := inb_of Sz6 ⟨by decide, by decide⟩
      obtain ⟨T6, h6, X6, e6, W6, st6⟩ := stC X0 hx hZ e0 Ar6 (j := (5 : Int32)) hin6 (g := (mkF m 129 #[.val (.long ja), .second, .val (.long jb), .second, .val (.int p2), .val (.int nv), .val (.long mk), .second, .val (.ref cc), .unset, .unset, .unset, .unset] [(.int 58), (.int 5), (.ref cc)])) rfl rfl (hb hby at_129)
      refine own_goH (x' := T6.setTop (mkF m 130 #[.val (.long ja), .second, .val (.long jb), .second, .val (.int p2), .val (.int nv), .val (.long mk), .second, .val (.ref cc), .unset, .unset, .unset, .unset] [])) st6 ?_
      replace Od := Od.wr W6 g_cc
      replace Zs := Nat.le_trans Zs (Keep.of_wr W6).1
      replace hk := Nat.le_trans hk (Keep.of_wr W6).1
      have Sq_cc := Safe.wr W6 Sf_cc hR.1 Sf_cc
      replace hR := hR.trans (CHr.wr W6 Sf_cc hR.1)
      replace Sf_cc := Sq_cc
      replace Nf := Fr.snoc X6 Nf g_cc
      have V_cc : Arv Z h6 cc kc .char (6 : Int32) [(.int x0), (.int x1), (.int x2), (.int x3), (.int x4), (.int (nar .char (58 : Int32)))] (.int 0) := Arv.set Ar6 q6 Sz6 Nn6 Hh6 Gg6 (fits_nar_char _) W6 5 rfl (Nat.le_of_ble_eq_true rfl)
      exact segC hx hlk hret hw hby hml hnm ja jb p2 nv mk cc kc x0 x1 x2 x3 x4 (nar .char (58 : Int32)) G1 sf n0 hst hp _ _ _ _ _ X6 e6 Nf Zs hS hk hZ hown hR Od V_cc g_cc Sf_cc hx0 hx1 hx2 hx3 hx4 (own_nr _)
def Q_rm0 (Z : State) (ja : Int64) (jb : Int64) (p2 : Int32) (G1 : Int32) (sf : Value) (h0 : Heap) (n0 : Nat) (v : Option Value) (h : Heap) (L : List Loc) : Prop := v = some (.int 1) ∧ Fr n0 L
theorem pn_rm0 : plainName "com/example/triplewright/triplewright/IriIsAbsolutePinLaw" = true := by first | (simp [plainName, overriddenIn]; done) | decide +kernel
theorem ef_rm0 (m : MethodId) (x0 : Int64) (x1 : Int64) (x2 : Int32) : entryFrame m #[(.long x0), (.long x1), (.int x2)] maxLocals = mkF m 0 #[.val (.long x0), .second, .val (.long x1), .second, .val (.int x2), .unset, .unset, .unset, .unset, .unset, .unset, .unset, .unset] [] := by first | (simp [entryFrame, mkF, argsToLocals, Value.category, maxLocals]; done) | rfl
set_option maxRecDepth 65536 in
set_option maxHeartbeats 40000000 in
theorem rm0 (l : Launch) (Z : State) (a0 : Array Value) (hw : ∀ d ∈ tables_1, d.before a0 Z = true) (ws : List Jvm.Cond) (ja : Int64) (jb : Int64) (p2 : Int32) (G1 : Int32) (sf : Value) (h0 : Heap) (n0 : Nat) (Z0 : n0 ≤ h0.size) (Od : Old Z n0 h0) (hst : own_St Z G1 sf) :
    MetFree l x (head1 (Jvm.Cond.code x code maxLocals ret :: ws) room_1) (fun a U => a = #[(.long ja), (.long jb), (.int p2)] ∧ Z.Warmed39 U.vm ∧ U.heap = h0 ∧ CHv Z own_EL U.vm h0) (fun _ _ _ _ _ => True) (fun _ U o U' => ∃ v L, o = .returned v ∧ (Q_rm0 Z ja jb p2 G1 sf h0 n0) v U'.heap L ∧ CHr Z own_EL U.vm U.heap U'.vm U'.heap ∧ ReturnedEndW U o U' L room_1.cells room_1.slots) := by
  refine MetFree.of_bodySF (plainFor_of_name pn_rm0) hisR ?_
  intro p e s m args below meth c s₁ Bd hml0 hP hK
  obtain ⟨rfl, hZ, hh, hC⟩ := hP
  have hx := Bd.exec
  have hby := Bd.bytes
  have hlk := BodyLoose.notSynchronized Bd
  have hret := Bd.returns
  have hml : c.maxLocals = 13 := hml0
  have hown : s.vm.findClass "com/example/triplewright/triplewright/IriIsAbsolutePinLaw" = some m.cls := findClass_of_methodNamed Bd.named
  have hnm := (name_of_methodNamed Bd.named Bd.method).1
  have X0 : Stand p l e room_1 s m #[(.long ja), (.long jb), (.int p2)] below meth c s₁ [] 0 0 := Stand.of_body Bd
  have e0 : s₁.heap = h0 := by rw [← hh, Bd.state]; rfl
  have Nf := Fr.nil n0
  have Zs := Z0
  have Kp : Keep h0 h0 [] := Keep.refl _ _
  obtain ⟨vm0, k0, X0, hS, hk, hZ, hown, hR⟩ : ∃ (vm0 : Vm) (k0 : Nat), Stand p l e room_1 (s.setVm vm0) m #[(.long ja), (.long jb), (.int p2)] below meth c s₁ [] 0 0 ∧ s.Since vm0 k0 ∧ k0 ≤ h0.size ∧ Z.Warmed39 (s.setVm vm0).vm ∧ (s.setVm vm0).vm.findClass "com/example/triplewright/triplewright/IriIsAbsolutePinLaw" = some m.cls ∧ CHr Z own_EL s.vm s.heap vm0 h0 := ⟨s.vm, s.heap.size, X0, (State.WarmedH.refl s).since _, Nat.le_of_eq (congrArg Array.size hh), hZ, hown, by rw [hh]; exact CHr.refl hC⟩
  obtain ⟨S_COMPACT_STRINGS, hG, S__assertionsDisabled, S_HI_BYTE_SHIFT, S_LO_BYTE_SHIFT, S_SIOOBE_FORMATTER, r_sf, c_sf⟩ := id hst
  show own_EndH Z own_EL p e below s (Q_rm0 Z ja jb p2 G1 sf h0 n0) room_1.cells room_1.slots (s₁.setTop (entryFrame m #[(.long ja), (.long jb), (.int p2)] maxLocals))
  refine own_goH (x' := s₁.setTop (mkF m 0 #[.val (.long ja), .second, .val (.long jb), .second, .val (.int p2), .unset, .unset, .unset, .unset, .unset, .unset, .unset, .unset] [])) (fun t k => castTop (ef_rm0 m ja jb p2) k) ?_
  refine own_goH (x' := s₁.setTop (mkF m 8 #[.val (.long ja), .second, .val (.long jb), .second, .val (.int p2), .unset, .unset, .unset, .unset, .unset, .unset, .unset, .unset] [(.int ((p2 &&& (7 : Int32)) % (7 : Int32)))])) (fun _ k => XS.iload X0.here hx rfl (hb hby at_0) rfl (XS.bipush X0.here hx rfl (hb hby at_2) (XS.iand X0.here hx rfl (hb hby at_4) rfl (XS.bipush X0.here hx rfl (hb hby at_5) (iremM X0 hx rfl (hb hby at_7) rfl (by decide) k))))) ?_
  have hp := own_n7 p2
  generalize ((p2 &&& (7 : Int32)) % (7 : Int32)) = nv at hp ⊢
  refine own_goH (x' := s₁.setTop (mkF m 15 #[.val (.long ja), .second, .val (.long jb), .second, .val (.int p2), .val (.int nv), .unset, .unset, .unset, .unset, .unset, .unset, .unset] [(.int (p2 &&& (8 : Int32)))])) (fun _ k => XS.istore X0.here hx rfl (hb hby at_8) rfl (l' := #[.val (.long ja), .second, .val (.long jb), .second, .val (.int p2), .val (.int nv), .unset, .unset, .unset, .unset, .unset, .unset, .unset]) rfl (XS.iload X0.here hx rfl (hb hby at_10) rfl (XS.bipush X0.here hx rfl (hb hby at_12) (XS.iand X0.here hx rfl (hb hby at_14) rfl k)))) ?_
  have mg15_2 : ∀ t, Steps p.tables e below (s₁.setTop (mkF m 27 #[.val (.long ja), .second, .val (.long jb), .second, .val (.int p2), .val (.int nv), .unset, .unset, .unset, .unset, .unset, .unset, .unset] [(.long (if (p2 &&& (8 : Int32)) = (0 : Int32) then (65535 : Int64) else (127 : Int64)))])) t → Steps p.tables e below (s₁.setTop (mkF m 15 #[.val (.long ja), .second, .val (.long jb), .second, .val (.int p2), .val (.int nv), .unset, .unset, .unset, .unset, .unset, .unset, .unset] [(.int (p2 &&& (8 : Int32)))])) t := by
    intro t k
    by_cases hm15_1 : (p2 &&& (8 : Int32)) = (0 : Int32)
    · simp only [if_pos hm15_1] at k
      exact XS.ifYes X0.here hx rfl (pc0 := 15) (pc' := 24) rfl (hb hby at_15) rfl ((if0 _ _).trans (teq hm15_1).1) (by decide) (by decide) (X0.ldc2Long hx hown (mvT hZ (own_w hw 0 rfl)) (g := (mkF m 24 #[.val (.long ja), .second, .val (.long jb), .second, .val (.int p2), .val (.int nv), .unset, .unset, .unset, .unset, .unset, .unset, .unset] [])) rfl (hb hby at_24) _ k)
    · simp only [if_neg hm15_1] at k
      exact XS.ifNo X0.here hx rfl (hb hby at_15) rfl ((if0 _ _).trans (feq hm15_1).1) (X0.ldc2Long hx hown (mvT hZ (own_w hw 74 rfl)) (g := (mkF m 18 #[.val (.long ja), .second, .val (.long jb), .second, .val (.int p2), .val (.int nv), .unset, .unset, .unset, .unset, .unset, .unset, .unset] [])) rfl (hb hby at_18) _ (XS.goto X0.here hx rfl (pc0 := 21) (pc' := 27) rfl (hb hby at_21) (by decide) (by decide) k))
  refine own_goH (x' := s₁.setTop (mkF m 27 #[.val (.long ja), .second, .val (.long jb), .second, .val (.int p2), .val (.int nv), .unset, .unset, .unset, .unset, .unset, .unset, .unset] [(.long (if (p2 &&& (8 : Int32)) = (0 : Int32) then (65535 : Int64) else (127 : Int64)))])) mg15_2 ?_
  generalize (if (p2 &&& (8 : Int32)) = (0 : Int32) then (65535 : Int64) else (127 : Int64)) = mk
  refine own_goH (x' := s₁.setTop (mkF m 31 #[.val (.long ja), .second, .val (.long jb), .second, .val (.int p2), .val (.int nv), .val (.long mk), .second, .unset, .unset, .unset, .unset, .unset] [(.int 6)])) (fun _ k => XS.lstore X0.here hx rfl (hb hby at_27) rfl (l' := #[.val (.long ja), .second, .val (.long jb), .second, .val (.int p2), .val (.int nv), .val (.long mk), .second, .unset, .unset, .unset, .unset, .unset]) rfl (XS.bipush X0.here hx rfl (hb hby at_29) k)) ?_
  obtain ⟨T3, h3, k3, X3, e3, E3, A3, st3⟩ := newP X0 hx hZ (own_w hw 1 rfl) e0 (g := (mkF m 31 #[.val (.long ja), .second, .val (.long jb), .second, .val (.int p2), .val (.int nv), .val (.long mk), .second, .unset, .unset, .unset, .unset, .unset] [(.int 6)])) rfl (hb hby at_31) rfl (by decide) (cap := 6) (by decide) (by decide) (by decide) (by decide)
  obtain ⟨b3, g3⟩ : ∃ z, z = h0.size := ⟨_, rfl⟩
  rw [← g3] at A3 st3
  have g_b3 : n0 ≤ b3 := Nat.le_trans Zs (Nat.le_of_eq g3.symm)
  have Sf_b3 := own_sfn hR (Nat.le_of_eq g3.symm)
  replace Od := Od.ext E3
  replace Zs := Nat.le_trans Zs E3.1
  replace hk := Nat.le_trans hk E3.1
  have Sq_b3 := Safe.ext E3 hR.1 Sf_b3
  replace hR := hR.trans (CHr.ext E3 hR.1)
  replace Sf_b3 := Sq_b3
  have V_b3 : Arv Z h3 b3 k3 .char (6 : Int32) [(.int 0), (.int 0), (.int 0), (.int 0), (.int 0), (.int 0)] (.int 0) := (Arv.new A3 (by decide)).pad (pad_rep [] (.int 0) 6)
  refine own_goH (x' := T3.setTop (mkF m 33 #[.val (.long ja), .second, .val (.long jb), .second, .val (.int p2), .val (.int nv), .val (.long mk), .second, .unset, .unset, .unset, .unset, .unset] [(.ref b3)])) st3 ?_
  refine own_goH (x' := T3.setTop (mkF m 42 #[.val (.long ja), .second, .val (.long jb), .second, .val (.int p2), .val (.int nv), .val (.long mk), .second, .val (.ref b3), .unset, .unset, .unset, .unset] [(.long (ja &&& mk)), (.int 0), (.ref b3)])) (fun _ k => XS.astore X3.here hx rfl (hb hby at_33) rfl rfl (l' := #[.val (.long ja), .second, .val (.long jb), .second, .val (.int p2), .val (.int nv), .val (.long mk), .second, .val (.ref b3), .unset, .unset, .unset, .unset]) rfl (XS.aload X3.here hx rfl (hb hby at_35) rfl rfl (XS.iconst X3.here hx rfl (hb hby at_37) (XS.lloadN X3.here hx rfl (hb hby at_38) rfl (XS.lload X3.here hx rfl (hb hby at_39) rfl (XS.land X3.here hx rfl (hb hby at_41) rfl k)))))) ?_
  refine own_goH (x' := T3.setTop (mkF m 44 #[.val (.long ja), .second, .val (.long jb), .second, .val (.int p2), .val (.int nv), .val (.long mk), .second, .val (.ref b3), .unset, .unset, .unset, .unset] [(.int (((ja &&& mk).toInt32).toUInt32.toUInt16.toUInt32.toInt32)), (.int 0), (.ref b3)])) (fun _ k => XS.l2i X3.here hx rfl (hb hby at_42) rfl (XS.i2c X3.here hx rfl (hb hby at_43) rfl k)) ?_
  obtain ⟨cl4, Ar4, q4, Sz4, Nn4, Hh4, Gg4⟩ := V_b3
  have hin4 : ¬ ((0 : Int32) < 0 ∨ cl4.slots.size ≤ ((0 : Int32)).toNatClampNeg) := inb_of Sz4 ⟨by decide, by decide⟩
  obtain ⟨T4, h4, X4, e4, W4, st4⟩ := stC X3 hx hZ e3 Ar4 (j := (0 : Int32)) hin4 (g := (mkF m 44 #[.val (.long ja), .second, .val (.long jb), .second, .val (.int p2), .val (.int nv), .val (.long mk), .second, .val (.ref b3), .unset, .unset, .unset, .unset] [(.int (((ja &&& mk).toInt32).toUInt32.toUInt16.toUInt32.toInt32)), (.int 0), (.ref b3)])) rfl rfl (hb hby at_44)
  refine own_goH (x' := T4.setTop (mkF m 45 #[.val (.long ja), .second, .val (.long jb), .second, .val (.int p2), .val (.int nv), .val (.long mk), .second, .val (.ref b3), .unset, .unset, .unset, .unset] [])) st4 ?_
  replace Od := Od.wr W4 g_b3
  replace Zs := Nat.le_trans Zs (Keep.of_wr W4).1
  replace hk := Nat.le_trans hk (Keep.of_wr W4).1
  have Sq_b3 := Safe.wr W4 Sf_b3 hR.1 Sf_b3
  replace hR := hR.trans (CHr.wr W4 Sf_b3 hR.1)
  replace Sf_b3 := Sq_b3
  replace Nf := Fr.snoc X4 Nf g_b3
  have V_b3 : Arv Z h4 b3 k3 .char (6 : Int32) [(.int (nar .char (((ja &&& mk).toInt32).toUInt32.toUInt16.toUInt32.toInt32))), (.int 0), (.int 0), (.int 0), (.int 0), (.int 0)] (.int 0) := Arv.set Ar4 q4 Sz4 Nn4 Hh4 Gg4 (fits_nar_char _) W4 0 rfl (Nat.le_of_ble_eq_true rfl)
  refine own_goH (x' := T4.setTop (mkF m 54 #[.val (.long ja), .second, .val (.long jb), .second, .val (.int p2), .val (.int nv), .val (.long mk), .second, .val (.ref b3), .unset, .unset, .unset, .unset] [(.long mk), (.long ((ja.toUInt64 >>> ((16 : Int32) &&& 0x3f).toInt64.toUInt64).toInt64)), (.int 1), (.ref b3)])) (fun _ k => XS.aload X4.here hx rfl (hb hby at_45) rfl rfl (XS.iconst X4.here hx rfl (hb hby at_47) (XS.lloadN X4.here hx rfl (hb hby at_48) rfl (XS.bipush X4.here hx rfl (hb hby at_49) (XS.lushr X4.here hx rfl (hb hby at_51) rfl (XS.lload X4.here hx rfl (hb hby at_52) rfl k)))))) ?_
  refine own_goH (x' := T4.setTop (mkF m 57 #[.val (.long ja), .second, .val (.long jb), .second, .val (.int p2), .val (.int nv), .val (.long mk), .second, .val (.ref b3), .unset, .unset, .unset, .unset] [(.int (((((ja.toUInt64 >>> ((16 : Int32) &&& 0x3f).toInt64.toUInt64).toInt64) &&& mk).toInt32).toUInt32.toUInt16.toUInt32.toInt32)), (.int 1), (.ref b3)])) (fun _ k => XS.land X4.here hx rfl (hb hby at_54) rfl (XS.l2i X4.here hx rfl (hb hby at_55) rfl (XS.i2c X4.here hx rfl (hb hby at_56) rfl k))) ?_
  obtain ⟨cl5, Ar5, q5, Sz5, Nn5, Hh5, Gg5⟩ := V_b3
  have hin5 : ¬ ((1 : Int32) < 0 ∨ cl5.slots.size ≤ ((1 : Int32)).toNatClampNeg) := inb_of Sz5 ⟨by decide, by decide⟩
  obtain ⟨T5, h5, X5, e5, W5, st5⟩ := stC X4 hx hZ e4 Ar5 (j := (1 : Int32)) hin5 (g := (mkF m 57 #[.val (.long ja), .second, .val (.long jb), .second, .val (.int p2), .val (.int nv), .val (.long mk), .second, .val (.ref b3), .unset, .unset, .unset, .unset] [(.int (((((ja.toUInt64 >>> ((16 : Int32) &&& 0x3f).toInt64.toUInt64).toInt64) &&& mk).toInt32).toUInt32.toUInt16.toUInt32.toInt32)), (.int 1), (.ref b3)])) rfl rfl (hb hby at_57)
  refine own_goH (x' := T5.setTop (mkF m 58 #[.val (.long ja), .second, .val (.long jb), .second, .val (.int p2), .val (.int nv), .val (.long mk), .second, .val (.ref b3), .unset, .unset, .unset, .unset] [])) st5 ?_
  replace Od := Od.wr W5 g_b3
  replace Zs := Nat.le_trans Zs (Keep.of_wr W5).1
  replace hk := Nat.le_trans hk (Keep.of_wr W5).1
  have Sq_b3 := Safe.wr W5 Sf_b3 hR.1 Sf_b3
  replace hR := hR.trans (CHr.wr W5 Sf_b3 hR.1)
  replace Sf_b3 := Sq_b3
  replace Nf := Fr.snoc X5 Nf g_b3
  have V_b3 : Arv Z h5 b3 k3 .char (6 : Int32) [(.int (nar .char (((ja &&& mk).toInt32).toUInt32.toUInt16.toUInt32.toInt32))), (.int (nar .char (((((ja.toUInt64 >>> ((16 : Int32) &&& 0x3f).toInt64.toUInt64).toInt64) &&& mk).toInt32).toUInt32.toUInt16.toUInt32.toInt32))), (.int 0), (.int 0), (.int 0), (.int 0)] (.int 0) := Arv.set Ar5 q5 Sz5 Nn5 Hh5 Gg5 (fits_nar_char _) W5 1 rfl (Nat.le_of_ble_eq_true rfl)
  refine own_goH (x' := T5.setTop (mkF m 67 #[.val (.long ja), .second, .val (.long jb), .second, .val (.int p2), .val (.int nv), .val (.long mk), .second, .val (.ref b3), .unset, .unset, .unset, .unset] [(.long mk), (.long ((ja.toUInt64 >>> ((32 : Int32) &&& 0x3f).toInt64.toUInt64).toInt64)), (.int 2), (.ref b3)])) (fun _ k => XS.aload X5.here hx rfl (hb hby at_58) rfl rfl (XS.iconst X5.here hx rfl (hb hby at_60) (XS.lloadN X5.here hx rfl (hb hby at_61) rfl (XS.bipush X5.here hx rfl (hb hby at_62) (XS.lushr X5.here hx rfl (hb hby at_64) rfl (XS.lload X5.here hx rfl (hb hby at_65) rfl k)))))) ?_
  refine own_goH (x' := T5.setTop (mkF m 70 #[.val (.long ja), .second, .val (.long jb), .second, .val (.int p2), .val (.int nv), .val (.long mk), .second, .val (.ref b3), .unset, .unset, .unset, .unset] [(.int (((((ja.toUInt64 >>> ((32 : Int32) &&& 0x3f).toInt64.toUInt64).toInt64) &&& mk).toInt32).toUInt32.toUInt16.toUInt32.toInt32)), (.int 2), (.ref b3)])) (fun _ k => XS.land X5.here hx rfl (hb hby at_67) rfl (XS.l2i X5.here hx rfl (hb hby at_68) rfl (XS.i2c X5.here hx rfl (hb hby at_69) rfl k))) ?_
  obtain ⟨cl6, Ar6, q6, Sz6, Nn6, Hh6, Gg6⟩ := V_b3
  have hin6 : ¬ ((2 : Int32) < 0 ∨ cl6.slots.size ≤ ((2 : Int32)).toNatClampNeg) := inb_of Sz6 ⟨by decide, by decide⟩
  obtain ⟨T6, h6, X6, e6, W6, st6⟩ := stC X5 hx hZ e5 Ar6 (j := (2 : Int32)) hin6 (g := (mkF m 70 #[.val (.long ja), .second, .val (.long jb), .second, .val (.int p2), .val (.int nv), .val (.long mk), .second, .val (.ref b3), .unset, .unset, .unset, .unset] [(.int (((((ja.toUInt64 >>> ((32 : Int32) &&& 0x3f).toInt64.toUInt64).toInt64) &&& mk).toInt32).toUInt32.toUInt16.toUInt32.toInt32)), (.int 2), (.ref b3)])) rfl rfl (hb hby at_70)
  refine own_goH (x' := T6.setTop (mkF m 71 #[.val (.long ja), .second, .val (.long jb), .second, .val (.int p2), .val (.int nv), .val (.long mk), .second, .val (.ref b3), .unset, .unset, .unset, .unset] [])) st6 ?_
  replace Od := Od.wr W6 g_b3
  replace Zs := Nat.le_trans Zs (Keep.of_wr W6).1
  replace hk := Nat.le_trans hk (Keep.of_wr W6).1
  have Sq_b3 := Safe.wr W6 Sf_b3 hR.1 Sf_b3
  replace hR := hR.trans (CHr.wr W6 Sf_b3 hR.1)
  replace Sf_b3 := Sq_b3
  replace Nf := Fr.snoc X6 Nf g_b3
  have V_b3 : Arv Z h6 b3 k3 .char (6 : Int32) [(.int (nar .char (((ja &&& mk).toInt32).toUInt32.toUInt16.toUInt32.toInt32))), (.int (nar .char (((((ja.toUInt64 >>> ((16 : Int32) &&& 0x3f).toInt64.toUInt64).toInt64) &&& mk).toInt32).toUInt32.toUInt16.toUInt32.toInt32))), (.int (nar .char (((((ja.toUInt64 >>> ((32 : Int32) &&& 0x3f).toInt64.toUInt64).toInt64) &&& mk).toInt32).toUInt32.toUInt16.toUInt32.toInt32))), (.int 0), (.int 0), (.int 0)] (.int 0) := Arv.set Ar6 q6 Sz6 Nn6 Hh6 Gg6 (fits_nar_char _) W6 2 rfl (Nat.le_of_ble_eq_true rfl)
  refine own_goH (x' := T6.setTop (mkF m 80 #[.val (.long ja), .second, .val (.long jb), .second, .val (.int p2), .val (.int nv), .val (.long mk), .second, .val (.ref b3), .unset, .unset, .unset, .unset] [(.long mk), (.long ((ja.toUInt64 >>> ((48 : Int32) &&& 0x3f).toInt64.toUInt64).toInt64)), (.int 3), (.ref b3)])) (fun _ k => XS.aload X6.here hx rfl (hb hby at_71) rfl rfl (XS.iconst X6.here hx rfl (hb hby at_73) (XS.lloadN X6.here hx rfl (hb hby at_74) rfl (XS.bipush X6.here hx rfl (hb hby at_75) (XS.lushr X6.here hx rfl (hb hby at_77) rfl (XS.lload X6.here hx rfl (hb hby at_78) rfl k)))))) ?_
  refine own_goH (x' := T6.setTop (mkF m 83 #[.val (.long ja), .second, .val (.long jb), .second, .val (.int p2), .val (.int nv), .val (.long mk), .second, .val (.ref b3), .unset, .unset, .unset, .unset] [(.int (((((ja.toUInt64 >>> ((48 : Int32) &&& 0x3f).toInt64.toUInt64).toInt64) &&& mk).toInt32).toUInt32.toUInt16.toUInt32.toInt32)), (.int 3), (.ref b3)])) (fun _ k => XS.land X6.here hx rfl (hb hby at_80) rfl (XS.l2i X6.here hx rfl (hb hby at_81) rfl (XS.i2c X6.here hx rfl (hb hby at_82) rfl k))) ?_
  obtain ⟨cl7, Ar7, q7, Sz7, Nn7, Hh7, Gg7⟩ := V_b3
  have hin7 : ¬ ((3 : Int32) < 0 ∨ cl7.slots.size ≤ ((3 : Int32)).toNatClampNeg) := inb_of Sz7 ⟨by decide, by decide⟩
  obtain ⟨T7, h7, X7, e7, W7, st7⟩ := stC X6 hx hZ e6 Ar7 (j := (3 : Int32)) hin7 (g := (mkF m 83 #[.val (.long ja), .second, .val (.long jb), .second, .val (.int p2), .val (.int nv), .val (.long mk), .second, .val (.ref b3), .unset, .unset, .unset, .unset] [(.int (((((ja.toUInt64 >>> ((48 : Int32) &&& 0x3f).toInt64.toUInt64).toInt64) &&& mk).toInt32).toUInt32.toUInt16.toUInt32.toInt32)), (.int 3), (.ref b3)])) rfl rfl (hb hby at_83)
  refine own_goH (x' := T7.setTop (mkF m 84 #[.val (.long ja), .second, .val (.long jb), .second, .val (.int p2), .val (.int nv), .val (.long mk), .second, .val (.ref b3), .unset, .unset, .unset, .unset] [])) st7 ?_
  replace Od := Od.wr W7 g_b3
  replace Zs := Nat.le_trans Zs (Keep.of_wr W7).1
  replace hk := Nat.le_trans hk (Keep.of_wr W7).1
  have Sq_b3 := Safe.wr W7 Sf_b3 hR.1 Sf_b3
  replace hR := hR.trans (CHr.wr W7 Sf_b3 hR.1)
  replace Sf_b3 := Sq_b3
  replace Nf := Fr.snoc X7 Nf g_b3
  have V_b3 : Arv Z h7 b3 k3 .char (6 : Int32) [(.int (nar .char (((ja &&& mk).toInt32).toUInt32.toUInt16.toUInt32.toInt32))), (.int (nar .char (((((ja.toUInt64 >>> ((16 : Int32) &&& 0x3f).toInt64.toUInt64).toInt64) &&& mk).toInt32).toUInt32.toUInt16.toUInt32.toInt32))), (.int (nar .char (((((ja.toUInt64 >>> ((32 : Int32) &&& 0x3f).toInt64.toUInt64).toInt64) &&& mk).toInt32).toUInt32.toUInt16.toUInt32.toInt32))), (.int (nar .char (((((ja.toUInt64 >>> ((48 : Int32) &&& 0x3f).toInt64.toUInt64).toInt64) &&& mk).toInt32).toUInt32.toUInt16.toUInt32.toInt32))), (.int 0), (.int 0)] (.int 0) := Arv.set Ar7 q7 Sz7 Nn7 Hh7 Gg7 (fits_nar_char _) W7 3 rfl (Nat.le_of_ble_eq_true rfl)
  refine own_goH (x' := T7.setTop (mkF m 92 #[.val (.long ja), .second, .val (.long jb), .second, .val (.int p2), .val (.int nv), .val (.long mk), .second, .val (.ref b3), .unset, .unset, .unset, .unset] [(.int ((jb &&& mk).toInt32)), (.int 4), (.ref b3)])) (fun _ k => XS.aload X7.here hx rfl (hb hby at_84) rfl rfl (XS.iconst X7.here hx rfl (hb hby at_86) (XS.lloadN X7.here hx rfl (hb hby at_87) rfl (XS.lload X7.here hx rfl (hb hby at_88) rfl (XS.land X7.here hx rfl (hb hby at_90) rfl (XS.l2i X7.here hx rfl (hb hby at_91) rfl k)))))) ?_
  refine own_goH (x' := T7.setTop (mkF m 93 #[.val (.long ja), .second, .val (.long jb), .second, .val (.int p2), .val (.int nv), .val (.long mk), .second, .val (.ref b3), .unset, .unset, .unset, .unset] [(.int (((jb &&& mk).toInt32).toUInt32.toUInt16.toUInt32.toInt32)), (.int 4), (.ref b3)])) (fun _ k => XS.i2c X7.here hx rfl (hb hby at_92) rfl k) ?_
  obtain ⟨cl8, Ar8, q8, Sz8, Nn8, Hh8, Gg8⟩ := V_b3
  have hin8 : ¬ ((4 : Int32) < 0 ∨ cl8.slots.size ≤ ((4 : Int32)).toNatClampNeg) := inb_of Sz8 ⟨by decide, by decide⟩
  obtain ⟨T8, h8, X8, e8, W8, st8⟩ := stC X7 hx hZ e7 Ar8 (j := (4 : Int32)) hin8 (g := (mkF m 93 #[.val (.long ja), .second, .val (.long jb), .second, .val (.int p2), .val (.int nv), .val (.long mk), .second, .val (.ref b3), .unset, .unset, .unset, .unset] [(.int (((jb &&& mk).toInt32).toUInt32.toUInt16.toUInt32.toInt32)), (.int 4), (.ref b3)])) rfl rfl (hb hby at_93)
  refine own_goH (x' := T8.setTop (mkF m 94 #[.val (.long ja), .second, .val (.long jb), .second, .val (.int p2), .val (.int nv), .val (.long mk), .second, .val (.ref b3), .unset, .unset, .unset, .unset] [])) st8 ?_
  replace Od := Od.wr W8 g_b3
  replace Zs := Nat.le_trans Zs (Keep.of_wr W8).1
  replace hk := Nat.le_trans hk (Keep.of_wr W8).1
  have Sq_b3 := Safe.wr W8 Sf_b3 hR.1 Sf_b3
  replace hR := hR.trans (CHr.wr W8 Sf_b3 hR.1)
  replace Sf_b3 := Sq_b3
  replace Nf := Fr.snoc X8 Nf g_b3
  have V_b3 : Arv Z h8 b3 k3 .char (6 : Int32) [(.int (nar .char (((ja &&& mk).toInt32).toUInt32.toUInt16.toUInt32.toInt32))), (.int (nar .char (((((ja.toUInt64 >>> ((16 : Int32) &&& 0x3f).toInt64.toUInt64).toInt64) &&& mk).toInt32).toUInt32.toUInt16.toUInt32.toInt32))), (.int (nar .char (((((ja.toUInt64 >>> ((32 : Int32) &&& 0x3f).toInt64.toUInt64).toInt64) &&& mk).toInt32).toUInt32.toUInt16.toUInt32.toInt32))), (.int (nar .char (((((ja.toUInt64 >>> ((48 : Int32) &&& 0x3f).toInt64.toUInt64).toInt64) &&& mk).toInt32).toUInt32.toUInt16.toUInt32.toInt32))), (.int (nar .char (((jb &&& mk).toInt32).toUInt32.toUInt16.toUInt32.toInt32))), (.int 0)] (.int 0) := Arv.set Ar8 q8 Sz8 Nn8 Hh8 Gg8 (fits_nar_char _) W8 4 rfl (Nat.le_of_ble_eq_true rfl)
  refine own_goH (x' := T8.setTop (mkF m 103 #[.val (.long ja), .second, .val (.long jb), .second, .val (.int p2), .val (.int nv), .val (.long mk), .second, .val (.ref b3), .unset, .unset, .unset, .unset] [(.long mk), (.long ((jb.toUInt64 >>> ((16 : Int32) &&& 0x3f).toInt64.toUInt64).toInt64)), (.int 5), (.ref b3)])) (fun _ k => XS.aload X8.here hx rfl (hb hby at_94) rfl rfl (XS.iconst X8.here hx rfl (hb hby at_96) (XS.lloadN X8.here hx rfl (hb hby at_97) rfl (XS.bipush X8.here hx rfl (hb hby at_98) (XS.lushr X8.here hx rfl (hb hby at_100) rfl (XS.lload X8.here hx rfl (hb hby at_101) rfl k)))))) ?_
  refine own_goH (x' := T8.setTop (mkF m 106 #[.val (.long ja), .second, .val (.long jb), .second, .val (.int p2), .val (.int nv), .val (.long mk), .second, .val (.ref b3), .unset, .unset, .unset, .unset] [(.int (((((jb.toUInt64 >>> ((16 : Int32) &&& 0x3f).toInt64.toUInt64).toInt64) &&& mk).toInt32).toUInt32.toUInt16.toUInt32.toInt32)), (.int 5), (.ref b3)])) (fun _ k => XS.land X8.here hx rfl (hb hby at_103) rfl (XS.l2i X8.here hx rfl (hb hby at_104) rfl (XS.i2c X8.here hx rfl (hb hby at_105) rfl k))) ?_
  obtain ⟨cl9, Ar9, q9, Sz9, Nn9, Hh9, Gg9⟩ := V_b3
  have hin9 : ¬ ((5 : Int32) < 0 ∨ cl9.slots.size ≤ ((5 : Int32)).toNatClampNeg) := inb_of Sz9 ⟨by decide, by decide⟩
  obtain ⟨T9, h9, X9, e9, W9, st9⟩ := stC X8 hx hZ e8 Ar9 (j := (5 : Int32)) hin9 (g := (mkF m 106 #[.val (.long ja), .second, .val (.long jb), .second, .val (.int p2), .val (.int nv), .val (.long mk), .second, .val (.ref b3), .unset, .unset, .unset, .unset] [(.int (((((jb.toUInt64 >>> ((16 : Int32) &&& 0x3f).toInt64.toUInt64).toInt64) &&& mk).toInt32).toUInt32.toUInt16.toUInt32.toInt32)), (.int 5), (.ref b3)])) rfl rfl (hb hby at_106)
  refine own_goH (x' := T9.setTop (mkF m 107 #[.val (.long ja), .second, .val (.long jb), .second, .val (.int p2), .val (.int nv), .val (.long mk), .second, .val (.ref b3), .unset, .unset, .unset, .unset] [])) st9 ?_
  replace Od := Od.wr W9 g_b3
  replace Zs := Nat.le_trans Zs (Keep.of_wr W9).1
  replace hk := Nat.le_trans hk (Keep.of_wr W9).1
  have Sq_b3 := Safe.wr W9 Sf_b3 hR.1 Sf_b3
  replace hR := hR.trans (CHr.wr W9 Sf_b3 hR.1)
  replace Sf_b3 := Sq_b3
  replace Nf := Fr.snoc X9 Nf g_b3
  have V_b3 : Arv Z h9 b3 k3 .char (6 : Int32) [(.int (nar .char (((ja &&& mk).toInt32).toUInt32.toUInt16.toUInt32.toInt32))), (.int (nar .char (((((ja.toUInt64 >>> ((16 : Int32) &&& 0x3f).toInt64.toUInt64).toInt64) &&& mk).toInt32).toUInt32.toUInt16.toUInt32.toInt32))), (.int (nar .char (((((ja.toUInt64 >>> ((32 : Int32) &&& 0x3f).toInt64.toUInt64).toInt64) &&& mk).toInt32).toUInt32.toUInt16.toUInt32.toInt32))), (.int (nar .char (((((ja.toUInt64 >>> ((48 : Int32) &&& 0x3f).toInt64.toUInt64).toInt64) &&& mk).toInt32).toUInt32.toUInt16.toUInt32.toInt32))), (.int (nar .char (((jb &&& mk).toInt32).toUInt32.toUInt16.toUInt32.toInt32))), (.int (nar .char (((((jb.toUInt64 >>> ((16 : Int32) &&& 0x3f).toInt64.toUInt64).toInt64) &&& mk).toInt32).toUInt32.toUInt16.toUInt32.toInt32)))] (.int 0) := Arv.set Ar9 q9 Sz9 Nn9 Hh9 Gg9 (fits_nar_char _) W9 5 rfl (Nat.le_of_ble_eq_true rfl)
  obtain ⟨LL10, X10, Nf⟩ : ∃ LL : List Loc, Stand p l e room_1 (s.setVm _) m _ below meth c T9 LL 1 6 ∧ Fr n0 LL := ⟨_, X9, Nf⟩
  exact segB hx hlk hret hw hby hml hnm ja jb p2 nv mk b3 k3 _ _ _ _ _ _ G1 sf n0 hst hp _ _ _ _ _ X10 e9 Nf Zs hS hk hZ hown hR Od V_b3 g_b3 Sf_b3 (own_nr _) (own_nr _) (own_nr _) (own_nr _) (own_nr _) (own_nr _)
theorem own_rv {t : Term} {args : Array Value} {first s : State} {o : Option Outcome} {idx : List Nat} (h : (Cond.isRef t).value args first o s idx = some true) : ∃ x, t.eval args first o idx s = some x ∧ (x.isRef = true ∧ x.category = 1) := by
  simp only [Cond.value] at h
  cases e : t.eval args first o idx s with
  | none => rw [e] at h; cases h
  | some v =>
    rw [e] at h
    refine ⟨v, rfl, ?_⟩
    cases v <;> simp_all [Value.isRef, Value.category]
set_option maxRecDepth 65536 in
set_option maxHeartbeats 40000000 in
theorem comes_1 {Post : Tables → Env → Array Value → State → Outcome → State → Prop} (hpost : ∀ tb e args s v u, (limb_1_1.after args s (.returned v) u = true ∧ limb_1_2.after args s (.returned v) u = true ∧ True) → ReturnedEndW s (.returned v) u (Jvm.fieldLocs frame_1_writes args s ++ Jvm.arrayLocs frame_1_arrays args s ++ Jvm.staticLocs frame_1_statics s) 24 2240 → Post tb e args s (.returned v) u) :
    ArmFor flags0 classFile x code maxLocals ret World_1 tables_1 room_1 Calls_1 rest_1 Pre_1 Post := by
  intro l hfl _ _ p e ha hc hk s m args below hf hA hF happ hP
  obtain ⟨hcalls, hrest, hpre⟩ := hP
  obtain ⟨-, -, -, hnamed, -, -, -, hat⟩ := (Spec.applies_iff hf).mp happ
  obtain ⟨hg, hn⟩ := and_e (Cond.before_iff.mp (show (Jvm.Cond.and given_1 narrow_1).before args s = true from hpre))
  obtain ⟨gg1, gg2⟩ := and_e hg
  obtain ⟨gg3, gg4⟩ := and_e gg2
  obtain ⟨gg5, gg6⟩ := and_e gg4
  obtain ⟨w0, w1, w2, rfl⟩ : ∃ w0 w1 w2 : Value, args = #[w0, w1, w2] := by
    have hs : args.size = 3 := by simpa [Cond.value, given_1] using gg1
    obtain ⟨L⟩ := args
    match L, hs with
    | [w0, w1, w2], _ => exact ⟨w0, w1, w2, rfl⟩
  have hw := fun d (hd : d ∈ tables_1) => atoms_spec (ws := Jvm.Cond.code x code maxLocals ret :: tables_1) hat d (List.mem_cons_of_mem _ hd)
  have hfit : Fit s := fun {y c} hc i hi => by
    obtain ⟨ha, rfl⟩ := Array.getElem?_eq_some_iff.mp hc
    have q := List.all_eq_true.mp ((Array.all_eq_true_iff_forall_mem.mp hF) _ (Array.getElem_mem ha)) i (List.mem_range.mpr hi)
    simpa [Array.getElem?_eq_getElem hi] using q
  obtain ⟨hsets, hown0⟩ := atoms_of _ (rest_1_c_eq ▸ (show rest_1_c.before _ s = true from hrest))
  have hr0 := Cond.before_iff.mp hown0
  obtain ⟨i0, ei0⟩ := isL_v gg3
  obtain rfl : w0 = (.long i0) := Option.some.inj ei0
  obtain ⟨i1, ei1⟩ := isL_v gg5
  obtain rfl : w1 = (.long i1) := Option.some.inj ei1
  obtain ⟨i2, ei2⟩ := is_v gg6
  obtain rfl : w2 = (.int i2) := Option.some.inj ei2
  have nCS := not_v (Cond.before_iff.mp (hsets _ (List.mem_of_getElem? (i := 2) rfl)))
  obtain ⟨G1, eG1⟩ := is_v (Cond.before_iff.mp (hsets _ (List.mem_of_getElem? (i := 1) rfl)))
  have S_CS : Sta s s.heap "java/lang/String" "COMPACT_STRINGS" "Z" (.int G1) := Sta.start eG1 (Or.inl (hsets _ (List.mem_of_getElem? (i := 0) rfl)))
  have hG : ¬ (G1 = (0 : Int32)) := gotF (Cond.eq_ints eG1 (Term.int_eval (0))) nCS
  have hAD := eqv_i (Term.int_eval (1)) (Cond.before_iff.mp (hsets _ (List.mem_of_getElem? (i := 12) rfl)))
  have hHI := eqv_i (Term.int_eval (0)) (Cond.before_iff.mp (hsets _ (List.mem_of_getElem? (i := 15) rfl)))
  have hLO := eqv_i (Term.int_eval (8)) (Cond.before_iff.mp (hsets _ (List.mem_of_getElem? (i := 18) rfl)))
  obtain ⟨sf, eSF, rSF⟩ := own_rv (Cond.before_iff.mp (hsets _ (List.mem_of_getElem? (i := 8) rfl)))
  have hst : own_St s G1 sf := ⟨S_CS, hG, Sta.start hAD (Or.inl (hsets _ (List.mem_of_getElem? (i := 11) rfl))), Sta.start hHI (Or.inl (hsets _ (List.mem_of_getElem? (i := 14) rfl))), Sta.start hLO (Or.inl (hsets _ (List.mem_of_getElem? (i := 17) rfl))), Sta.start eSF (Or.inl (hsets _ (List.mem_of_getElem? (i := 7) rfl))), rSF.1, rSF.2⟩
  have hCH := CHv.start (own_EW hw) (fun p hp => hcalls.1 p hp) (hsets _ (List.mem_of_getElem? (i := 2) rfl)) (own_w hw 20 rfl) (own_w hw 7 rfl)
  obtain ⟨n, o, h1, h2, h3, _, L, rfl, ⟨rfl, N⟩, -, hq⟩ := rm0 l s _ hw tables_1 i0 i1 i2 G1 sf s.heap s.heap.size (Nat.le_refl _) (Old.start s) hst p e ha hc hk s m _ below hf ((Spec.applies_iff_loose hf).mp happ).1 ⟨rfl, State.Warmed39.refl s, rfl, hCH⟩ trivial
  refine ⟨n, _, h1, h2, h3, hpost _ _ _ _ _ _ ⟨Cond.after_iff.mpr rfl, Cond.after_iff.mpr (eq_i res_at (Term.int_eval (1)) rfl), trivial⟩ ⟨hq.1, hq.2.1, hq.2.2.1, (hq.2.2.2.sift fun y hy => Or.inr (N y hy)).mono (by decide) (by decide)⟩⟩
theorem main_1_1 : Claimed_1_1 := comes_1 fun _ _ _ _ _ _ h hF => ⟨h.1, hF⟩
theorem main_1_2 : Claimed_1_2 := comes_1 fun _ _ _ _ _ _ h hF => ⟨h.2.1, hF⟩
end Jvm.Pilot.@@N@@
namespace Jvm.Pilot.@@N@@
open Jvm Jvm.ClassFile Sem Op Lib Jvm.Free Jvm.Stand Jvm.Pilot.@@N@@.Jvm.D
/-! MADE BY PROGRAM (witnessworld.py) out of the Statement's table words and the real class files: 23 classes; the members and pool entries that the words name. The judged class is class 1, her method 1. -/
namespace start1
open Jvm.ClassFile
def u (s : String) : CpInfo := .utf8 (stringToUtf16 s)
/-- a pool by its gaps: so many unusable entries, then the entry; so many at the end -/
def gap : Nat → List CpInfo → List CpInfo
  | 0, r => r
  | n + 1, r => .unusable :: gap n r
def poolList (es : List (Nat × CpInfo)) (last : Nat) : List CpInfo := es.foldr (fun e r => gap e.1 (e.2 :: r)) (gap last [])
def pool (es : List (Nat × CpInfo)) (last : Nat) : Array CpInfo := ⟨poolList es last⟩
def fileOf (pool : Array CpInfo) (this : Nat) (attrs : Array Attribute := #[]) (ms : Array MethodInfo := #[]) (fl : Nat := 33) (sup : Nat := 0) (ifs : Array Nat := #[]) (fds : Array FieldInfo := #[]) : ClassFile where
  minorVersion := 0
  majorVersion := 65
  constantPool := pool
  accessFlags := fl
  thisClass := this
  superClass := sup
  interfaces := ifs
  fields := fds
  methods := ms
  attributes := attrs
def plain (name : String) (sup : Option ClassId) : Class where
  name := name
  kind := .ordinary
  loader := none
  accessFlags := 33
  super := sup
  interfaces := #[]
  cf := none
  fields := #[]
  methods := #[]
  instanceTypes := #[]
  staticTypes := #[]
  resolved := #[]
  callSites := []
  init := .initialized
  statics := none
  mirror := none

def pool0 : Array CpInfo := pool [(5, u "<init>"), (0, u "()V"), (1, .class_ 10), (1, u "java/lang/Object")] 113

def k0c0 : Code := { maxStack := 0, maxLocals := 1, code := object_method_1_code, exceptionTable := #[], attributes := #[] }
def k0m0 : Method := { name := "<init>", desc := "()V", sig := { parameters := [], returnType := none }, accessFlags := 1, code := some k0c0 }
/-- java/lang/Object -/
def k0 : Class := { plain "java/lang/Object" none with
  accessFlags := 33
  interfaces := #[]
  cf := some (fileOf pool0 8 #[] #[{ accessFlags := 1, nameIndex := 5, descriptorIndex := 6, attributes := #[] }] 33 0 #[] #[])
  fields := #[]
  methods := #[k0m0]
  instanceTypes := #[]
  staticTypes := #[]
  resolved := Array.replicate 124 none
  statics := none }

def pool1 : Array CpInfo := pool [(2, .class_ 4), (1, u "java/lang/Object"), (0, u "<init>"), (0, u "()V"), (0, .long 127), (1, .long 65535), (1, .methodref 12 13), (0, .class_ 14), (0, .nameAndType 15 16), (0, u "com/example/triplewright/triplewright/IriIsAbsolutePinLaw"), (0, u "make"), (0, u "(I[C)Ljava/lang/String;"), (0, .methodref 18 19), (0, .class_ 20), (0, .nameAndType 21 22), (0, u "com/example/triplewright/triplewright/Term$Iri"), (0, u "isAbsolute"), (0, u "(Ljava/lang/String;)Z"), (0, .methodref 12 24), (0, .nameAndType 25 26), (0, u "firstColon"), (0, u "([CI)I"), (0, .methodref 12 28), (0, .nameAndType 29 30), (0, u "posOk"), (0, u "(ICII)Z"), (0, .class_ 32), (0, u "java/lang/String"), (0, .methodref 31 34), (0, .nameAndType 5 35), (0, u "([C)V"), (0, .methodref 12 37), (0, .nameAndType 38 39), (0, u "letter"), (0, u "(C)Z"), (0, .methodref 12 41), (0, .nameAndType 42 39), (0, u "schemeRest"), (0, .methodref 12 44), (0, .nameAndType 45 39), (0, u "forbidden"), (2, u "law"), (0, u "(JJI)Z")] 9

def k1m0 : Method := { name := "<init>", desc := "()V", sig := { parameters := [], returnType := none }, accessFlags := 2, code := none }
def k1c1 : Code := { maxStack := 6, maxLocals := 13, code := code, exceptionTable := #[], attributes := #[] }
def k1m1 : Method := { name := "law", desc := "(JJI)Z", sig := { parameters := [.long, .long, .int], returnType := some .boolean }, accessFlags := 9, code := some k1c1 }
def k1c2 : Code := { maxStack := 7, maxLocals := 2, code := method_3_code, exceptionTable := #[], attributes := #[] }
def k1m2 : Method := { name := "make", desc := "(I[C)Ljava/lang/String;", sig := { parameters := [.int, (.array .char)], returnType := some (.object "java/lang/String") }, accessFlags := 10, code := some k1c2 }
def k1c3 : Code := { maxStack := 2, maxLocals := 2, code := method_4_code, exceptionTable := #[], attributes := #[] }
def k1m3 : Method := { name := "firstColon", desc := "([CI)I", sig := { parameters := [(.array .char), .int], returnType := some .int }, accessFlags := 10, code := some k1c3 }
def k1c4 : Code := { maxStack := 2, maxLocals := 1, code := method_5_code, exceptionTable := #[], attributes := #[] }
def k1m4 : Method := { name := "letter", desc := "(C)Z", sig := { parameters := [.char], returnType := some .boolean }, accessFlags := 10, code := some k1c4 }
def k1c5 : Code := { maxStack := 2, maxLocals := 1, code := method_6_code, exceptionTable := #[], attributes := #[] }
def k1m5 : Method := { name := "schemeRest", desc := "(C)Z", sig := { parameters := [.char], returnType := some .boolean }, accessFlags := 10, code := some k1c5 }
def k1c6 : Code := { maxStack := 2, maxLocals := 1, code := method_7_code, exceptionTable := #[], attributes := #[] }
def k1m6 : Method := { name := "forbidden", desc := "(C)Z", sig := { parameters := [.char], returnType := some .boolean }, accessFlags := 10, code := some k1c6 }
def k1c7 : Code := { maxStack := 2, maxLocals := 4, code := method_8_code, exceptionTable := #[], attributes := #[] }
def k1m7 : Method := { name := "posOk", desc := "(ICII)Z", sig := { parameters := [.int, .char, .int, .int], returnType := some .boolean }, accessFlags := 10, code := some k1c7 }
/-- com/example/triplewright/triplewright/IriIsAbsolutePinLaw -/
def k1 : Class := { plain "com/example/triplewright/triplewright/IriIsAbsolutePinLaw" (some 0) with
  accessFlags := 49
  interfaces := #[]
  cf := some (fileOf pool1 12 #[] #[{ accessFlags := 2, nameIndex := 5, descriptorIndex := 6, attributes := #[] }, { accessFlags := 9, nameIndex := 48, descriptorIndex := 49, attributes := #[] }, { accessFlags := 10, nameIndex := 15, descriptorIndex := 16, attributes := #[] }, { accessFlags := 10, nameIndex := 25, descriptorIndex := 26, attributes := #[] }, { accessFlags := 10, nameIndex := 38, descriptorIndex := 39, attributes := #[] }, { accessFlags := 10, nameIndex := 42, descriptorIndex := 39, attributes := #[] }, { accessFlags := 10, nameIndex := 45, descriptorIndex := 39, attributes := #[] }, { accessFlags := 10, nameIndex := 29, descriptorIndex := 30, attributes := #[] }] 49 2 #[] #[])
  fields := #[]
  methods := #[k1m0, k1m1, k1m2, k1m3, k1m4, k1m5, k1m6, k1m7]
  instanceTypes := #[]
  staticTypes := #[]
  resolved := Array.replicate 59 none
  statics := none }

def pool2 : Array CpInfo := pool [(1, .class_ 2), (0, u "java/io/Serializable"), (0, .class_ 4), (0, u "java/lang/Object")] 2

/-- java/io/Serializable -/
def k2 : Class := { plain "java/io/Serializable" (some 0) with
  accessFlags := 1537
  interfaces := #[]
  cf := some (fileOf pool2 1 #[] #[] 1537 3 #[] #[])
  fields := #[]
  methods := #[]
  instanceTypes := #[]
  staticTypes := #[]
  resolved := Array.replicate 7 none
  statics := none }

def pool3 : Array CpInfo := pool [(1, .class_ 2), (0, u "java/lang/Comparable"), (0, .class_ 4), (0, u "java/lang/Object")] 7

/-- java/lang/Comparable -/
def k3 : Class := { plain "java/lang/Comparable" (some 0) with
  accessFlags := 1537
  interfaces := #[]
  cf := some (fileOf pool3 1 #[] #[] 1537 3 #[] #[])
  fields := #[]
  methods := #[]
  instanceTypes := #[]
  staticTypes := #[]
  resolved := Array.replicate 12 none
  statics := none }

def pool4 : Array CpInfo := pool [(2, .class_ 4), (1, u "java/lang/CharSequence"), (42, .class_ 48), (0, u "java/lang/CharSequence$1CodePointIterator"), (10, .class_ 60), (0, u "java/lang/CharSequence$1CharIterator"), (5, .class_ 67), (0, u "java/lang/Object")] 63

/-- java/lang/CharSequence -/
def k4 : Class := { plain "java/lang/CharSequence" (some 0) with
  accessFlags := 1537
  interfaces := #[]
  cf := some (fileOf pool4 2 #[.nestMembers #[47, 59]] #[] 1537 66 #[] #[])
  fields := #[]
  methods := #[]
  instanceTypes := #[]
  staticTypes := #[]
  resolved := Array.replicate 131 none
  statics := none }

def pool5 : Array CpInfo := pool [(1, .class_ 2), (0, u "java/lang/constant/Constable"), (0, .class_ 4), (0, u "java/lang/Object")] 6

/-- java/lang/constant/Constable -/
def k5 : Class := { plain "java/lang/constant/Constable" (some 0) with
  accessFlags := 1537
  interfaces := #[]
  cf := some (fileOf pool5 1 #[] #[] 1537 3 #[] #[])
  fields := #[]
  methods := #[]
  instanceTypes := #[]
  staticTypes := #[]
  resolved := Array.replicate 11 none
  statics := none }

def pool6 : Array CpInfo := pool [(1, .class_ 2), (0, u "java/lang/constant/ConstantDesc"), (0, .class_ 4), (0, u "java/lang/Object")] 32

/-- java/lang/constant/ConstantDesc -/
def k6 : Class := { plain "java/lang/constant/ConstantDesc" (some 0) with
  accessFlags := 1537
  interfaces := #[]
  cf := some (fileOf pool6 1 #[] #[] 1537 3 #[] #[])
  fields := #[]
  methods := #[]
  instanceTypes := #[]
  staticTypes := #[]
  resolved := Array.replicate 37 none
  statics := none }

def pool7 : Array CpInfo := pool [(1, .methodref 2 3), (0, .class_ 4), (0, .nameAndType 5 6), (0, u "java/lang/Object"), (0, u "<init>"), (0, u "()V"), (0, .string 8), (0, u ""), (0, .fieldref 10 11), (0, .class_ 12), (0, .nameAndType 13 14), (0, u "java/lang/String"), (0, u "value"), (0, u "[B"), (0, .fieldref 10 16), (0, .nameAndType 17 18), (0, u "coder"), (0, u "B"), (2, u "hash"), (0, u "I"), (2, u "hashIsZero"), (0, u "Z"), (0, .methodref 10 28), (0, .nameAndType 5 29), (0, u "([CIILjava/lang/Void;)V"), (8, .fieldref 10 39), (0, .nameAndType 40 26), (0, u "COMPACT_STRINGS"), (1, .class_ 44), (1, u "java/lang/StringUTF16"), (0, u "compress"), (1, .methodref 42 48), (0, .nameAndType 49 50), (0, u "coderFromArrayLen"), (0, u "([BI)B"), (56, .class_ 109), (1, u "java/lang/StringLatin1"), (32, u "()Z"), (34, .methodref 42 178), (0, .nameAndType 45 179), (0, u "([CII)[B"), (154, u "()I"), (0, .methodref 10 336), (0, .nameAndType 17 337), (0, u "()B"), (25, u "([BI)C"), (27, u "(II)V"), (35, u "(I)C"), (64, .methodref 10 493), (0, .nameAndType 494 142), (0, u "isLatin1"), (0, .methodref 107 496), (0, .nameAndType 497 363), (0, u "charAt"), (0, .methodref 42 496), (2, u "checkIndex"), (3, .methodref 10 506), (0, .nameAndType 507 334), (0, u "length"), (5, u "checkFromToIndex"), (9, u "checkBoundsBeginEnd"), (0, u "(III)V"), (50, .class_ 576), (0, u "java/lang/CharSequence"), (22, u "CASE_INSENSITIVE_ORDER"), (0, u "Ljava/util/Comparator;"), (32, .methodref 10 634), (0, .nameAndType 635 636), (0, u "indexOf"), (0, u "(II)I"), (0, .methodref 107 638), (0, .nameAndType 635 639), (0, u "([BIII)I"), (0, .methodref 42 638), (124, u "(I)I"), (244, u "([C)V"), (42, .fieldref 1054 1055), (0, .class_ 1056), (0, .nameAndType 1057 1058), (0, u "jdk/internal/util/Preconditions"), (0, u "SIOOBE_FORMATTER"), (0, u "Ljava/util/function/BiFunction;"), (0, .methodref 1054 1060), (0, .nameAndType 501 1061), (0, u "(IILjava/util/function/BiFunction;)I"), (0, .methodref 1054 1063), (0, .nameAndType 513 1064), (0, u "(IIILjava/util/function/BiFunction;)I"), (36, u "serialPersistentFields"), (0, u "[Ljava/io/ObjectStreamField;"), (0, .class_ 1104), (0, u "java/lang/String$CaseInsensitiveComparator"), (1, .class_ 1107), (0, u "java/io/Serializable"), (0, .class_ 1109), (0, u "java/lang/Comparable"), (0, .class_ 1111), (0, u "java/lang/constant/Constable"), (0, .class_ 1113), (0, u "java/lang/constant/ConstantDesc"), (2, u "serialVersionUID"), (0, u "J"), (3, u "REPL"), (0, u "C"), (2, u "LATIN1"), (1, u "UTF16")] 323

def k7m0 : Method := { name := "<init>", desc := "()V", sig := { parameters := [], returnType := none }, accessFlags := 1, code := none }
def k7c1 : Code := { maxStack := 5, maxLocals := 2, code := jdk_42_method_3_code, exceptionTable := #[], attributes := #[] }
def k7m1 : Method := { name := "<init>", desc := "([C)V", sig := { parameters := [(.array .char)], returnType := none }, accessFlags := 1, code := some k7c1 }
def k7c2 : Code := { maxStack := 2, maxLocals := 1, code := jdk_42_method_54_code, exceptionTable := #[], attributes := #[] }
def k7m2 : Method := { name := "length", desc := "()I", sig := { parameters := [], returnType := some .int }, accessFlags := 1, code := some k7c2 }
def k7c3 : Code := { maxStack := 2, maxLocals := 2, code := jdk_42_method_56_code, exceptionTable := #[], attributes := #[] }
def k7m3 : Method := { name := "charAt", desc := "(I)C", sig := { parameters := [.int], returnType := some .char }, accessFlags := 1, code := some k7c3 }
def k7c4 : Code := { maxStack := 3, maxLocals := 2, code := jdk_42_method_79_code, exceptionTable := #[], attributes := #[] }
def k7m4 : Method := { name := "indexOf", desc := "(I)I", sig := { parameters := [.int], returnType := some .int }, accessFlags := 1, code := some k7c4 }
def k7c5 : Code := { maxStack := 4, maxLocals := 3, code := jdk_42_method_80_code, exceptionTable := #[], attributes := #[] }
def k7m5 : Method := { name := "indexOf", desc := "(II)I", sig := { parameters := [.int, .int], returnType := some .int }, accessFlags := 1, code := some k7c5 }
def k7c6 : Code := { maxStack := 4, maxLocals := 6, code := jdk_42_method_149_code, exceptionTable := #[], attributes := #[] }
def k7m6 : Method := { name := "<init>", desc := "([CIILjava/lang/Void;)V", sig := { parameters := [(.array .char), .int, .int, (.object "java/lang/Void")], returnType := none }, accessFlags := 2, code := some k7c6 }
def k7c7 : Code := { maxStack := 1, maxLocals := 1, code := jdk_42_method_152_code, exceptionTable := #[], attributes := #[] }
def k7m7 : Method := { name := "coder", desc := "()B", sig := { parameters := [], returnType := some .byte }, accessFlags := 0, code := some k7c7 }
def k7c8 : Code := { maxStack := 1, maxLocals := 1, code := jdk_42_method_154_code, exceptionTable := #[], attributes := #[] }
def k7m8 : Method := { name := "isLatin1", desc := "()Z", sig := { parameters := [], returnType := some .boolean }, accessFlags := 0, code := some k7c8 }
def k7c9 : Code := { maxStack := 3, maxLocals := 2, code := jdk_42_method_155_code, exceptionTable := #[], attributes := #[] }
def k7m9 : Method := { name := "checkIndex", desc := "(II)V", sig := { parameters := [.int, .int], returnType := none }, accessFlags := 8, code := some k7c9 }
def k7c10 : Code := { maxStack := 4, maxLocals := 3, code := jdk_42_method_158_code, exceptionTable := #[], attributes := #[] }
def k7m10 : Method := { name := "checkBoundsBeginEnd", desc := "(III)V", sig := { parameters := [.int, .int, .int], returnType := none }, accessFlags := 8, code := some k7c10 }
/-- java/lang/String -/
def k7 : Class := { plain "java/lang/String" (some 0) with
  accessFlags := 49
  interfaces := #[2, 3, 4, 5, 6]
  cf := some (fileOf pool7 10 #[.nestMembers #[1103]] #[{ accessFlags := 1, nameIndex := 5, descriptorIndex := 6, attributes := #[] }, { accessFlags := 1, nameIndex := 5, descriptorIndex := 1010, attributes := #[] }, { accessFlags := 1, nameIndex := 507, descriptorIndex := 334, attributes := #[] }, { accessFlags := 1, nameIndex := 497, descriptorIndex := 427, attributes := #[] }, { accessFlags := 1, nameIndex := 635, descriptorIndex := 765, attributes := #[] }, { accessFlags := 1, nameIndex := 635, descriptorIndex := 636, attributes := #[] }, { accessFlags := 2, nameIndex := 5, descriptorIndex := 29, attributes := #[] }, { accessFlags := 0, nameIndex := 17, descriptorIndex := 337, attributes := #[] }, { accessFlags := 0, nameIndex := 494, descriptorIndex := 142, attributes := #[] }, { accessFlags := 8, nameIndex := 501, descriptorIndex := 391, attributes := #[] }, { accessFlags := 8, nameIndex := 523, descriptorIndex := 524, attributes := #[] }] 49 2 #[1106, 1108, 575, 1110, 1112] #[{ accessFlags := 18, nameIndex := 13, descriptorIndex := 14, attributes := #[] }, { accessFlags := 18, nameIndex := 17, descriptorIndex := 18, attributes := #[] }, { accessFlags := 2, nameIndex := 21, descriptorIndex := 22, attributes := #[] }, { accessFlags := 2, nameIndex := 25, descriptorIndex := 26, attributes := #[] }, { accessFlags := 26, nameIndex := 1116, descriptorIndex := 1117, attributes := #[] }, { accessFlags := 24, nameIndex := 40, descriptorIndex := 26, attributes := #[] }, { accessFlags := 26, nameIndex := 1101, descriptorIndex := 1102, attributes := #[] }, { accessFlags := 26, nameIndex := 1121, descriptorIndex := 1122, attributes := #[] }, { accessFlags := 25, nameIndex := 599, descriptorIndex := 600, attributes := #[] }, { accessFlags := 24, nameIndex := 1125, descriptorIndex := 18, attributes := #[] }, { accessFlags := 24, nameIndex := 1127, descriptorIndex := 18, attributes := #[] }])
  fields := #[{ name := "value", type := (.array .byte), accessFlags := 18, slot := 0, constantValue := 0 }, { name := "coder", type := .byte, accessFlags := 18, slot := 1, constantValue := 0 }, { name := "hash", type := .int, accessFlags := 2, slot := 2, constantValue := 0 }, { name := "hashIsZero", type := .boolean, accessFlags := 2, slot := 3, constantValue := 0 }, { name := "serialVersionUID", type := .long, accessFlags := 26, slot := 0, constantValue := 0 }, { name := "COMPACT_STRINGS", type := .boolean, accessFlags := 24, slot := 1, constantValue := 0 }, { name := "serialPersistentFields", type := (.array (.object "java/io/ObjectStreamField")), accessFlags := 26, slot := 2, constantValue := 0 }, { name := "REPL", type := .char, accessFlags := 26, slot := 3, constantValue := 0 }, { name := "CASE_INSENSITIVE_ORDER", type := (.object "java/util/Comparator"), accessFlags := 25, slot := 4, constantValue := 0 }, { name := "LATIN1", type := .byte, accessFlags := 24, slot := 5, constantValue := 0 }, { name := "UTF16", type := .byte, accessFlags := 24, slot := 6, constantValue := 0 }]
  methods := #[k7m0, k7m1, k7m2, k7m3, k7m4, k7m5, k7m6, k7m7, k7m8, k7m9, k7m10]
  instanceTypes := #[(.array .byte), .byte, .int, .boolean]
  staticTypes := #[.long, .boolean, (.array (.object "java/io/ObjectStreamField")), .char, (.object "java/util/Comparator"), .byte, .byte]
  resolved := Array.replicate 1451 none
  statics := some 0 }

def pool8 : Array CpInfo := pool [(2, .class_ 4), (1, u "java/lang/Object"), (0, u "<init>"), (0, u "()V"), (0, .class_ 8), (0, u "java/lang/Record")] 13

def k8m0 : Method := { name := "<init>", desc := "()V", sig := { parameters := [], returnType := none }, accessFlags := 4, code := none }
/-- java/lang/Record -/
def k8 : Class := { plain "java/lang/Record" (some 0) with
  accessFlags := 1057
  interfaces := #[]
  cf := some (fileOf pool8 7 #[] #[{ accessFlags := 4, nameIndex := 5, descriptorIndex := 6, attributes := #[] }] 1057 2 #[] #[])
  fields := #[]
  methods := #[k8m0]
  instanceTypes := #[]
  staticTypes := #[]
  resolved := Array.replicate 22 none
  statics := none }

def pool9 : Array CpInfo := pool [(1, .class_ 2), (0, u "com/example/triplewright/triplewright/Term"), (0, .class_ 4), (0, u "java/lang/Object"), (5, .class_ 11), (0, u "com/example/triplewright/triplewright/Term$Literal"), (0, .class_ 13), (0, u "com/example/triplewright/triplewright/Term$BlankNode"), (0, .class_ 15), (0, u "com/example/triplewright/triplewright/Term$Iri")] 5

/-- com/example/triplewright/triplewright/Term -/
def k9 : Class := { plain "com/example/triplewright/triplewright/Term" (some 0) with
  accessFlags := 1536
  interfaces := #[]
  cf := some (fileOf pool9 1 #[.nestMembers #[10, 12, 14]] #[] 1536 3 #[] #[])
  fields := #[]
  methods := #[]
  instanceTypes := #[]
  staticTypes := #[]
  resolved := Array.replicate 21 none
  statics := none }

def pool10 : Array CpInfo := pool [(2, .class_ 4), (1, u "java/lang/Record"), (3, .class_ 10), (1, u "com/example/triplewright/triplewright/Term$Iri"), (0, u "value"), (0, u "Ljava/lang/String;"), (9, .methodref 23 24), (0, .class_ 25), (0, .nameAndType 26 27), (0, u "java/lang/String"), (0, u "indexOf"), (0, u "(I)I"), (0, .methodref 23 29), (0, .nameAndType 30 31), (0, u "charAt"), (0, u "(I)C"), (0, .methodref 8 33), (0, .nameAndType 34 35), (0, u "isAsciiLetter"), (0, u "(C)Z"), (0, .methodref 23 37), (0, .nameAndType 38 39), (0, u "length"), (0, u "()I"), (0, .string 41), (0, u "<>\"{}|^`\\"), (34, u "HEX"), (0, u "[C"), (81, u "RDF_TYPE"), (0, u "Lcom/example/triplewright/triplewright/Term$Iri;"), (6, .class_ 168), (0, u "com/example/triplewright/triplewright/Term"), (4, u "isAbsolute"), (0, u "(Ljava/lang/String;)Z")] 26

def k10c0 : Code := { maxStack := 2, maxLocals := 4, code := prog_36_method_3_code, exceptionTable := #[], attributes := #[] }
def k10m0 : Method := { name := "isAbsolute", desc := "(Ljava/lang/String;)Z", sig := { parameters := [(.object "java/lang/String")], returnType := some .boolean }, accessFlags := 8, code := some k10c0 }
def k10c1 : Code := { maxStack := 2, maxLocals := 1, code := prog_36_method_4_code, exceptionTable := #[], attributes := #[] }
def k10m1 : Method := { name := "isAsciiLetter", desc := "(C)Z", sig := { parameters := [.char], returnType := some .boolean }, accessFlags := 10, code := some k10c1 }
/-- com/example/triplewright/triplewright/Term$Iri -/
def k10 : Class := { plain "com/example/triplewright/triplewright/Term$Iri" (some 8) with
  accessFlags := 49
  interfaces := #[9]
  cf := some (fileOf pool10 8 #[.nestHost 167] #[{ accessFlags := 8, nameIndex := 173, descriptorIndex := 174, attributes := #[] }, { accessFlags := 10, nameIndex := 34, descriptorIndex := 35, attributes := #[] }] 49 2 #[167] #[{ accessFlags := 18, nameIndex := 11, descriptorIndex := 12, attributes := #[] }, { accessFlags := 24, nameIndex := 159, descriptorIndex := 160, attributes := #[] }, { accessFlags := 26, nameIndex := 76, descriptorIndex := 77, attributes := #[] }])
  fields := #[{ name := "value", type := (.object "java/lang/String"), accessFlags := 18, slot := 0, constantValue := 0 }, { name := "RDF_TYPE", type := (.object "com/example/triplewright/triplewright/Term$Iri"), accessFlags := 24, slot := 0, constantValue := 0 }, { name := "HEX", type := (.array .char), accessFlags := 26, slot := 1, constantValue := 0 }]
  methods := #[k10m0, k10m1]
  instanceTypes := #[(.object "java/lang/String")]
  staticTypes := #[(.object "com/example/triplewright/triplewright/Term$Iri"), (.array .char)]
  resolved := Array.replicate 201 none
  statics := none }

def pool11 : Array CpInfo := pool [(1, .class_ 2), (0, u "java/lang/String"), (1, .class_ 6), (1, u "java/lang/Object"), (0, u "<init>"), (0, u "()V"), (0, .methodref 1 10), (0, .nameAndType 11 12), (0, u "checkIndex"), (0, u "(II)V"), (1, .class_ 16), (1, u "java/lang/StringLatin1"), (21, .methodref 39 40), (0, .class_ 41), (0, .nameAndType 42 43), (0, u "java/lang/Math"), (0, u "min"), (0, u "(II)I"), (9, u "([BI)C"), (34, .methodref 14 89), (0, .nameAndType 90 91), (0, u "canEncode"), (0, u "(I)Z"), (0, .methodref 39 93), (0, .nameAndType 94 43), (0, u "max"), (0, .methodref 14 96), (0, .nameAndType 97 98), (0, u "indexOfChar"), (0, u "([BIII)I"), (2, u "indexOf"), (19, u "$assertionsDisabled"), (0, u "Z"), (98, .class_ 223), (1, u "java/lang/StringLatin1$LinesSpliterator"), (28, u "charAt"), (137, .class_ 391), (0, u "java/lang/StringLatin1$CharsSpliterator")] 3

def k11m0 : Method := { name := "<init>", desc := "()V", sig := { parameters := [], returnType := none }, accessFlags := 0, code := none }
def k11c1 : Code := { maxStack := 2, maxLocals := 2, code := jdk_43_method_2_code, exceptionTable := #[], attributes := #[] }
def k11m1 : Method := { name := "charAt", desc := "([BI)C", sig := { parameters := [(.array .byte), .int], returnType := some .char }, accessFlags := 9, code := some k11c1 }
def k11c2 : Code := { maxStack := 2, maxLocals := 1, code := jdk_43_method_4_code, exceptionTable := #[], attributes := #[] }
def k11m2 : Method := { name := "canEncode", desc := "(I)Z", sig := { parameters := [.int], returnType := some .boolean }, accessFlags := 9, code := some k11c2 }
def k11c3 : Code := { maxStack := 4, maxLocals := 4, code := jdk_43_method_22_code, exceptionTable := #[], attributes := #[] }
def k11m3 : Method := { name := "indexOf", desc := "([BIII)I", sig := { parameters := [(.array .byte), .int, .int, .int], returnType := some .int }, accessFlags := 9, code := some k11c3 }
def k11c4 : Code := { maxStack := 2, maxLocals := 6, code := jdk_43_method_23_code, exceptionTable := #[], attributes := #[] }
def k11m4 : Method := { name := "indexOfChar", desc := "([BIII)I", sig := { parameters := [(.array .byte), .int, .int, .int], returnType := some .int }, accessFlags := 10, code := some k11c4 }
/-- java/lang/StringLatin1 -/
def k11 : Class := { plain "java/lang/StringLatin1" (some 0) with
  accessFlags := 48
  interfaces := #[]
  cf := some (fileOf pool11 14 #[.nestMembers #[390, 221]] #[{ accessFlags := 0, nameIndex := 7, descriptorIndex := 8, attributes := #[] }, { accessFlags := 9, nameIndex := 252, descriptorIndex := 53, attributes := #[] }, { accessFlags := 9, nameIndex := 90, descriptorIndex := 91, attributes := #[] }, { accessFlags := 9, nameIndex := 101, descriptorIndex := 98, attributes := #[] }, { accessFlags := 10, nameIndex := 97, descriptorIndex := 98, attributes := #[] }] 48 4 #[] #[{ accessFlags := 4120, nameIndex := 121, descriptorIndex := 122, attributes := #[] }])
  fields := #[{ name := "$assertionsDisabled", type := .boolean, accessFlags := 4120, slot := 0, constantValue := 0 }]
  methods := #[k11m0, k11m1, k11m2, k11m3, k11m4]
  instanceTypes := #[]
  staticTypes := #[.boolean]
  resolved := Array.replicate 395 none
  statics := none }

def pool12 : Array CpInfo := pool [(1, .class_ 2), (0, u "java/lang/Math"), (1, .class_ 6), (1, u "java/lang/Object"), (0, u "<init>"), (0, u "()V"), (89, .class_ 100), (1, u "java/lang/Math$RandomNumberGeneratorHolder"), (71, u "negativeZeroFloatBits"), (0, u "J"), (2, u "negativeZeroDoubleBits"), (21, u "max"), (2, u "min"), (43, u "$assertionsDisabled"), (0, u "Z"), (88, u "(II)I"), (2, u "twoToTheDoubleScaleDown"), (0, u "D"), (4, u "twoToTheDoubleScaleUp"), (9, u "E"), (3, u "PI"), (2, u "TAU"), (2, u "DEGREES_TO_RADIANS"), (0, u "RADIANS_TO_DEGREES")] 94

def k12m0 : Method := { name := "<init>", desc := "()V", sig := { parameters := [], returnType := none }, accessFlags := 2, code := none }
def k12c1 : Code := { maxStack := 2, maxLocals := 2, code := jdk_29_method_65_code, exceptionTable := #[], attributes := #[] }
def k12m1 : Method := { name := "max", desc := "(II)I", sig := { parameters := [.int, .int], returnType := some .int }, accessFlags := 9, code := some k12c1 }
def k12c2 : Code := { maxStack := 2, maxLocals := 2, code := jdk_29_method_69_code, exceptionTable := #[], attributes := #[] }
def k12m2 : Method := { name := "min", desc := "(II)I", sig := { parameters := [.int, .int], returnType := some .int }, accessFlags := 9, code := some k12c2 }
/-- java/lang/Math -/
def k12 : Class := { plain "java/lang/Math" (some 0) with
  accessFlags := 49
  interfaces := #[]
  cf := some (fileOf pool12 1 #[.nestMembers #[98]] #[{ accessFlags := 2, nameIndex := 7, descriptorIndex := 8, attributes := #[] }, { accessFlags := 9, nameIndex := 198, descriptorIndex := 335, attributes := #[] }, { accessFlags := 9, nameIndex := 201, descriptorIndex := 335, attributes := #[] }] 49 4 #[] #[{ accessFlags := 25, nameIndex := 354, descriptorIndex := 339, attributes := #[] }, { accessFlags := 25, nameIndex := 358, descriptorIndex := 339, attributes := #[] }, { accessFlags := 25, nameIndex := 361, descriptorIndex := 339, attributes := #[] }, { accessFlags := 26, nameIndex := 364, descriptorIndex := 339, attributes := #[] }, { accessFlags := 26, nameIndex := 365, descriptorIndex := 339, attributes := #[] }, { accessFlags := 26, nameIndex := 172, descriptorIndex := 173, attributes := #[] }, { accessFlags := 26, nameIndex := 176, descriptorIndex := 173, attributes := #[] }, { accessFlags := 8, nameIndex := 344, descriptorIndex := 339, attributes := #[] }, { accessFlags := 8, nameIndex := 338, descriptorIndex := 339, attributes := #[] }, { accessFlags := 4120, nameIndex := 245, descriptorIndex := 246, attributes := #[] }])
  fields := #[{ name := "E", type := .double, accessFlags := 25, slot := 0, constantValue := 0 }, { name := "PI", type := .double, accessFlags := 25, slot := 1, constantValue := 0 }, { name := "TAU", type := .double, accessFlags := 25, slot := 2, constantValue := 0 }, { name := "DEGREES_TO_RADIANS", type := .double, accessFlags := 26, slot := 3, constantValue := 0 }, { name := "RADIANS_TO_DEGREES", type := .double, accessFlags := 26, slot := 4, constantValue := 0 }, { name := "negativeZeroFloatBits", type := .long, accessFlags := 26, slot := 5, constantValue := 0 }, { name := "negativeZeroDoubleBits", type := .long, accessFlags := 26, slot := 6, constantValue := 0 }, { name := "twoToTheDoubleScaleUp", type := .double, accessFlags := 8, slot := 7, constantValue := 0 }, { name := "twoToTheDoubleScaleDown", type := .double, accessFlags := 8, slot := 8, constantValue := 0 }, { name := "$assertionsDisabled", type := .boolean, accessFlags := 4120, slot := 9, constantValue := 0 }]
  methods := #[k12m0, k12m1, k12m2]
  instanceTypes := #[]
  staticTypes := #[.double, .double, .double, .double, .double, .long, .long, .double, .double, .boolean]
  resolved := Array.replicate 460 none
  statics := none }

def pool13 : Array CpInfo := pool [(3, .class_ 4), (0, u "java/lang/String"), (1, .class_ 8), (1, u "java/lang/Object"), (0, u "<init>"), (0, u "()V"), (0, .methodref 12 13), (0, .class_ 14), (0, .nameAndType 15 16), (0, u "java/lang/StringUTF16"), (0, u "newBytesLength"), (0, u "(I)I"), (3, .integer 1073741823), (23, .fieldref 12 45), (0, .nameAndType 46 47), (0, u "$assertionsDisabled"), (0, u "Z"), (0, .methodref 12 49), (0, .nameAndType 50 51), (0, u "length"), (0, u "([B)I"), (7, .fieldref 12 60), (0, .nameAndType 61 62), (0, u "HI_BYTE_SHIFT"), (0, u "I"), (0, .fieldref 12 64), (0, .nameAndType 65 62), (0, u "LO_BYTE_SHIFT"), (1, .methodref 12 68), (0, .nameAndType 69 70), (0, u "checkIndex"), (0, u "(I[B)V"), (0, .methodref 12 72), (0, .nameAndType 73 74), (0, u "getChar"), (0, u "([BI)C"), (21, .methodref 12 97), (0, .nameAndType 98 99), (0, u "checkBoundsBeginEnd"), (0, u "(II[B)V"), (7, .methodref 12 108), (0, .nameAndType 109 110), (0, u "newBytesFor"), (0, u "(I)[B"), (0, .methodref 12 112), (0, .nameAndType 113 114), (0, u "putChar"), (0, u "([BII)V"), (0, .methodref 12 116), (0, .nameAndType 117 118), (0, u "compress"), (0, u "([CI[BII)I"), (0, .methodref 12 120), (0, .nameAndType 121 122), (0, u "toBytes"), (0, u "([CII)[B"), (60, .methodref 184 185), (0, .class_ 186), (0, .nameAndType 187 188), (0, u "java/lang/Math"), (0, u "min"), (0, u "(II)I"), (35, .methodref 184 225), (0, .nameAndType 226 188), (0, u "max"), (0, .integer 65536), (0, .methodref 12 229), (0, .nameAndType 230 231), (0, u "indexOfChar"), (0, u "([BIII)I"), (9, .methodref 3 242), (0, .nameAndType 98 243), (0, u "(III)V"), (0, .methodref 12 245), (0, .nameAndType 246 231), (0, u "indexOfCharUnsafe"), (14, u "coderFromArrayLen"), (0, u "([BI)B"), (5, u "indexOf"), (100, .class_ 371), (1, u "java/lang/StringUTF16$LinesSpliterator"), (20, u "charAt"), (21, .methodref 3 415), (0, .nameAndType 69 416), (0, u "(II)V"), (13, u "MAX_LENGTH"), (196, .class_ 628), (0, u "java/lang/StringUTF16$CodePointsSpliterator"), (0, .class_ 630), (0, u "java/lang/StringUTF16$CharsSpliterator")] 4

def k13m0 : Method := { name := "<init>", desc := "()V", sig := { parameters := [], returnType := none }, accessFlags := 0, code := none }
def k13c1 : Code := { maxStack := 1, maxLocals := 1, code := jdk_52_method_2_code, exceptionTable := #[], attributes := #[] }
def k13m1 : Method := { name := "newBytesFor", desc := "(I)[B", sig := { parameters := [.int], returnType := some (.array .byte) }, accessFlags := 9, code := some k13c1 }
def k13c2 : Code := { maxStack := 4, maxLocals := 1, code := jdk_52_method_3_code, exceptionTable := #[], attributes := #[] }
def k13m2 : Method := { name := "newBytesLength", desc := "(I)I", sig := { parameters := [.int], returnType := some .int }, accessFlags := 9, code := some k13c2 }
def k13c3 : Code := { maxStack := 4, maxLocals := 3, code := jdk_52_method_4_code, exceptionTable := #[], attributes := #[] }
def k13m3 : Method := { name := "putChar", desc := "([BII)V", sig := { parameters := [(.array .byte), .int, .int], returnType := none }, accessFlags := 8, code := some k13c3 }
def k13c4 : Code := { maxStack := 3, maxLocals := 2, code := jdk_52_method_5_code, exceptionTable := #[], attributes := #[] }
def k13m4 : Method := { name := "getChar", desc := "([BI)C", sig := { parameters := [(.array .byte), .int], returnType := some .char }, accessFlags := 8, code := some k13c4 }
def k13c5 : Code := { maxStack := 2, maxLocals := 1, code := jdk_52_method_6_code, exceptionTable := #[], attributes := #[] }
def k13m5 : Method := { name := "length", desc := "([B)I", sig := { parameters := [(.array .byte)], returnType := some .int }, accessFlags := 9, code := some k13c5 }
def k13c6 : Code := { maxStack := 4, maxLocals := 5, code := jdk_52_method_14_code, exceptionTable := #[], attributes := #[] }
def k13m6 : Method := { name := "toBytes", desc := "([CII)[B", sig := { parameters := [(.array .char), .int, .int], returnType := some (.array .byte) }, accessFlags := 9, code := some k13c6 }
def k13c7 : Code := { maxStack := 2, maxLocals := 2, code := jdk_52_method_15_code, exceptionTable := #[], attributes := #[] }
def k13m7 : Method := { name := "coderFromArrayLen", desc := "([BI)B", sig := { parameters := [(.array .byte), .int], returnType := some .byte }, accessFlags := 8, code := some k13c7 }
def k13c8 : Code := { maxStack := 5, maxLocals := 6, code := jdk_52_method_16_code, exceptionTable := #[], attributes := #[] }
def k13m8 : Method := { name := "compress", desc := "([CII)[B", sig := { parameters := [(.array .char), .int, .int], returnType := some (.array .byte) }, accessFlags := 9, code := some k13c8 }
def k13c9 : Code := { maxStack := 3, maxLocals := 7, code := jdk_52_method_21_code, exceptionTable := #[], attributes := #[] }
def k13m9 : Method := { name := "compress", desc := "([CI[BII)I", sig := { parameters := [(.array .char), .int, (.array .byte), .int, .int], returnType := some .int }, accessFlags := 9, code := some k13c9 }
def k13c10 : Code := { maxStack := 4, maxLocals := 4, code := jdk_52_method_40_code, exceptionTable := #[], attributes := #[] }
def k13m10 : Method := { name := "indexOf", desc := "([BIII)I", sig := { parameters := [(.array .byte), .int, .int, .int], returnType := some .int }, accessFlags := 9, code := some k13c10 }
def k13c11 : Code := { maxStack := 4, maxLocals := 4, code := jdk_52_method_47_code, exceptionTable := #[], attributes := #[] }
def k13m11 : Method := { name := "indexOfChar", desc := "([BIII)I", sig := { parameters := [(.array .byte), .int, .int, .int], returnType := some .int }, accessFlags := 10, code := some k13c11 }
def k13c12 : Code := { maxStack := 2, maxLocals := 5, code := jdk_52_method_48_code, exceptionTable := #[], attributes := #[] }
def k13m12 : Method := { name := "indexOfCharUnsafe", desc := "([BIII)I", sig := { parameters := [(.array .byte), .int, .int, .int], returnType := some .int }, accessFlags := 10, code := some k13c12 }
def k13c13 : Code := { maxStack := 2, maxLocals := 2, code := jdk_52_method_83_code, exceptionTable := #[], attributes := #[] }
def k13m13 : Method := { name := "charAt", desc := "([BI)C", sig := { parameters := [(.array .byte), .int], returnType := some .char }, accessFlags := 9, code := some k13c13 }
def k13c14 : Code := { maxStack := 2, maxLocals := 2, code := jdk_52_method_91_code, exceptionTable := #[], attributes := #[] }
def k13m14 : Method := { name := "checkIndex", desc := "(I[B)V", sig := { parameters := [.int, (.array .byte)], returnType := none }, accessFlags := 9, code := some k13c14 }
def k13c15 : Code := { maxStack := 3, maxLocals := 3, code := jdk_52_method_93_code, exceptionTable := #[], attributes := #[] }
def k13m15 : Method := { name := "checkBoundsBeginEnd", desc := "(II[B)V", sig := { parameters := [.int, .int, (.array .byte)], returnType := none }, accessFlags := 9, code := some k13c15 }
/-- java/lang/StringUTF16 -/
def k13 : Class := { plain "java/lang/StringUTF16" (some 0) with
  accessFlags := 48
  interfaces := #[]
  cf := some (fileOf pool13 12 #[.nestMembers #[627, 629, 369]] #[{ accessFlags := 0, nameIndex := 9, descriptorIndex := 10, attributes := #[] }, { accessFlags := 9, nameIndex := 109, descriptorIndex := 110, attributes := #[] }, { accessFlags := 9, nameIndex := 15, descriptorIndex := 16, attributes := #[] }, { accessFlags := 8, nameIndex := 113, descriptorIndex := 114, attributes := #[] }, { accessFlags := 8, nameIndex := 73, descriptorIndex := 74, attributes := #[] }, { accessFlags := 9, nameIndex := 50, descriptorIndex := 51, attributes := #[] }, { accessFlags := 9, nameIndex := 121, descriptorIndex := 122, attributes := #[] }, { accessFlags := 8, nameIndex := 261, descriptorIndex := 262, attributes := #[] }, { accessFlags := 9, nameIndex := 117, descriptorIndex := 122, attributes := #[] }, { accessFlags := 9, nameIndex := 117, descriptorIndex := 118, attributes := #[] }, { accessFlags := 9, nameIndex := 268, descriptorIndex := 231, attributes := #[] }, { accessFlags := 10, nameIndex := 230, descriptorIndex := 231, attributes := #[] }, { accessFlags := 10, nameIndex := 246, descriptorIndex := 231, attributes := #[] }, { accessFlags := 9, nameIndex := 392, descriptorIndex := 74, attributes := #[] }, { accessFlags := 9, nameIndex := 69, descriptorIndex := 70, attributes := #[] }, { accessFlags := 9, nameIndex := 98, descriptorIndex := 99, attributes := #[] }] 48 6 #[] #[{ accessFlags := 26, nameIndex := 61, descriptorIndex := 62, attributes := #[] }, { accessFlags := 26, nameIndex := 65, descriptorIndex := 62, attributes := #[] }, { accessFlags := 24, nameIndex := 430, descriptorIndex := 62, attributes := #[] }, { accessFlags := 4120, nameIndex := 46, descriptorIndex := 47, attributes := #[] }])
  fields := #[{ name := "HI_BYTE_SHIFT", type := .int, accessFlags := 26, slot := 0, constantValue := 0 }, { name := "LO_BYTE_SHIFT", type := .int, accessFlags := 26, slot := 1, constantValue := 0 }, { name := "MAX_LENGTH", type := .int, accessFlags := 24, slot := 2, constantValue := 0 }, { name := "$assertionsDisabled", type := .boolean, accessFlags := 4120, slot := 3, constantValue := 0 }]
  methods := #[k13m0, k13m1, k13m2, k13m3, k13m4, k13m5, k13m6, k13m7, k13m8, k13m9, k13m10, k13m11, k13m12, k13m13, k13m14, k13m15]
  instanceTypes := #[]
  staticTypes := #[.int, .int, .int, .boolean]
  resolved := Array.replicate 635 none
  statics := some 1 }

def pool14 : Array CpInfo := pool [(2, .class_ 4), (1, u "java/lang/Object"), (0, u "<init>"), (0, u "()V"), (17, .class_ 26), (1, u "jdk/internal/util/Preconditions"), (6, u "checkIndex"), (13, u "checkFromToIndex"), (7, .class_ 56), (0, u "jdk/internal/util/Preconditions$4"), (57, .class_ 115), (0, u "jdk/internal/util/Preconditions$1"), (7, u "SIOOBE_FORMATTER"), (0, u "Ljava/util/function/BiFunction;"), (0, .class_ 126), (0, u "jdk/internal/util/Preconditions$2"), (3, u "AIOOBE_FORMATTER"), (0, .class_ 132), (0, u "jdk/internal/util/Preconditions$3"), (3, u "IOOBE_FORMATTER"), (41, u "(IILjava/util/function/BiFunction;)I"), (4, u "(IIILjava/util/function/BiFunction;)I")] 10

def k14m0 : Method := { name := "<init>", desc := "()V", sig := { parameters := [], returnType := none }, accessFlags := 1, code := none }
def k14c1 : Code := { maxStack := 3, maxLocals := 3, code := jdk_41_method_11_code, exceptionTable := #[], attributes := #[] }
def k14m1 : Method := { name := "checkIndex", desc := "(IILjava/util/function/BiFunction;)I", sig := { parameters := [.int, .int, (.object "java/util/function/BiFunction")], returnType := some .int }, accessFlags := 9, code := some k14c1 }
def k14c2 : Code := { maxStack := 4, maxLocals := 4, code := jdk_41_method_12_code, exceptionTable := #[], attributes := #[] }
def k14m2 : Method := { name := "checkFromToIndex", desc := "(IIILjava/util/function/BiFunction;)I", sig := { parameters := [.int, .int, .int, (.object "java/util/function/BiFunction")], returnType := some .int }, accessFlags := 9, code := some k14c2 }
/-- jdk/internal/util/Preconditions -/
def k14 : Class := { plain "jdk/internal/util/Preconditions" (some 0) with
  accessFlags := 33
  interfaces := #[]
  cf := some (fileOf pool14 24 #[.nestMembers #[55, 131, 125, 114]] #[{ accessFlags := 1, nameIndex := 5, descriptorIndex := 6, attributes := #[] }, { accessFlags := 9, nameIndex := 33, descriptorIndex := 178, attributes := #[] }, { accessFlags := 9, nameIndex := 47, descriptorIndex := 183, attributes := #[] }] 33 2 #[] #[{ accessFlags := 25, nameIndex := 123, descriptorIndex := 124, attributes := #[] }, { accessFlags := 25, nameIndex := 130, descriptorIndex := 124, attributes := #[] }, { accessFlags := 25, nameIndex := 136, descriptorIndex := 124, attributes := #[] }])
  fields := #[{ name := "SIOOBE_FORMATTER", type := (.object "java/util/function/BiFunction"), accessFlags := 25, slot := 0, constantValue := 0 }, { name := "AIOOBE_FORMATTER", type := (.object "java/util/function/BiFunction"), accessFlags := 25, slot := 1, constantValue := 0 }, { name := "IOOBE_FORMATTER", type := (.object "java/util/function/BiFunction"), accessFlags := 25, slot := 2, constantValue := 0 }]
  methods := #[k14m0, k14m1, k14m2]
  instanceTypes := #[]
  staticTypes := #[(.object "java/util/function/BiFunction"), (.object "java/util/function/BiFunction"), (.object "java/util/function/BiFunction")]
  resolved := Array.replicate 194 none
  statics := some 2 }

def pool15 : Array CpInfo := pool [(9, u "<init>"), (6, .class_ 18), (1, u "java/lang/Object"), (0, u "()V"), (1, .class_ 23), (1, u "jdk/internal/util/ArraysSupport"), (0, u "LOG2_ARRAY_LONG_INDEX_SCALE"), (0, u "I"), (2, u "U"), (0, u "Ljdk/internal/misc/Unsafe;"), (8, u "BIG_ENDIAN"), (0, u "Z"), (8, u "LOG2_BYTE_BIT_SIZE"), (4, u "LOG2_ARRAY_INT_INDEX_SCALE"), (54, u "JLA"), (0, u "Ljdk/internal/access/JavaLangAccess;"), (11, u "LOG2_ARRAY_BOOLEAN_INDEX_SCALE"), (9, u "LOG2_ARRAY_BYTE_INDEX_SCALE"), (5, u "LOG2_ARRAY_CHAR_INDEX_SCALE"), (5, u "LOG2_ARRAY_SHORT_INDEX_SCALE"), (18, u "LOG2_ARRAY_FLOAT_INDEX_SCALE"), (24, u "LOG2_ARRAY_DOUBLE_INDEX_SCALE"), (89, u "T_BOOLEAN"), (2, u "T_CHAR"), (1, u "T_FLOAT"), (1, u "T_DOUBLE"), (1, u "T_BYTE"), (1, u "T_SHORT"), (1, u "T_INT"), (1, u "T_LONG"), (1, u "SOFT_MAX_ARRAY_LENGTH")] 83

def k15m0 : Method := { name := "<init>", desc := "()V", sig := { parameters := [], returnType := none }, accessFlags := 2, code := none }
/-- jdk/internal/util/ArraysSupport -/
def k15 : Class := { plain "jdk/internal/util/ArraysSupport" (some 0) with
  accessFlags := 33
  interfaces := #[]
  cf := some (fileOf pool15 21 #[] #[{ accessFlags := 2, nameIndex := 9, descriptorIndex := 19, attributes := #[] }] 33 16 #[] #[{ accessFlags := 24, nameIndex := 28, descriptorIndex := 29, attributes := #[] }, { accessFlags := 26, nameIndex := 38, descriptorIndex := 39, attributes := #[] }, { accessFlags := 25, nameIndex := 121, descriptorIndex := 25, attributes := #[] }, { accessFlags := 25, nameIndex := 131, descriptorIndex := 25, attributes := #[] }, { accessFlags := 25, nameIndex := 137, descriptorIndex := 25, attributes := #[] }, { accessFlags := 25, nameIndex := 143, descriptorIndex := 25, attributes := #[] }, { accessFlags := 25, nameIndex := 53, descriptorIndex := 25, attributes := #[] }, { accessFlags := 25, nameIndex := 24, descriptorIndex := 25, attributes := #[] }, { accessFlags := 25, nameIndex := 162, descriptorIndex := 25, attributes := #[] }, { accessFlags := 25, nameIndex := 187, descriptorIndex := 25, attributes := #[] }, { accessFlags := 26, nameIndex := 48, descriptorIndex := 25, attributes := #[] }, { accessFlags := 25, nameIndex := 277, descriptorIndex := 25, attributes := #[] }, { accessFlags := 25, nameIndex := 280, descriptorIndex := 25, attributes := #[] }, { accessFlags := 25, nameIndex := 282, descriptorIndex := 25, attributes := #[] }, { accessFlags := 25, nameIndex := 284, descriptorIndex := 25, attributes := #[] }, { accessFlags := 25, nameIndex := 286, descriptorIndex := 25, attributes := #[] }, { accessFlags := 25, nameIndex := 288, descriptorIndex := 25, attributes := #[] }, { accessFlags := 25, nameIndex := 290, descriptorIndex := 25, attributes := #[] }, { accessFlags := 25, nameIndex := 292, descriptorIndex := 25, attributes := #[] }, { accessFlags := 26, nameIndex := 108, descriptorIndex := 109, attributes := #[] }, { accessFlags := 25, nameIndex := 294, descriptorIndex := 25, attributes := #[] }])
  fields := #[{ name := "U", type := (.object "jdk/internal/misc/Unsafe"), accessFlags := 24, slot := 0, constantValue := 0 }, { name := "BIG_ENDIAN", type := .boolean, accessFlags := 26, slot := 1, constantValue := 0 }, { name := "LOG2_ARRAY_BOOLEAN_INDEX_SCALE", type := .int, accessFlags := 25, slot := 2, constantValue := 0 }, { name := "LOG2_ARRAY_BYTE_INDEX_SCALE", type := .int, accessFlags := 25, slot := 3, constantValue := 0 }, { name := "LOG2_ARRAY_CHAR_INDEX_SCALE", type := .int, accessFlags := 25, slot := 4, constantValue := 0 }, { name := "LOG2_ARRAY_SHORT_INDEX_SCALE", type := .int, accessFlags := 25, slot := 5, constantValue := 0 }, { name := "LOG2_ARRAY_INT_INDEX_SCALE", type := .int, accessFlags := 25, slot := 6, constantValue := 0 }, { name := "LOG2_ARRAY_LONG_INDEX_SCALE", type := .int, accessFlags := 25, slot := 7, constantValue := 0 }, { name := "LOG2_ARRAY_FLOAT_INDEX_SCALE", type := .int, accessFlags := 25, slot := 8, constantValue := 0 }, { name := "LOG2_ARRAY_DOUBLE_INDEX_SCALE", type := .int, accessFlags := 25, slot := 9, constantValue := 0 }, { name := "LOG2_BYTE_BIT_SIZE", type := .int, accessFlags := 26, slot := 10, constantValue := 0 }, { name := "T_BOOLEAN", type := .int, accessFlags := 25, slot := 11, constantValue := 0 }, { name := "T_CHAR", type := .int, accessFlags := 25, slot := 12, constantValue := 0 }, { name := "T_FLOAT", type := .int, accessFlags := 25, slot := 13, constantValue := 0 }, { name := "T_DOUBLE", type := .int, accessFlags := 25, slot := 14, constantValue := 0 }, { name := "T_BYTE", type := .int, accessFlags := 25, slot := 15, constantValue := 0 }, { name := "T_SHORT", type := .int, accessFlags := 25, slot := 16, constantValue := 0 }, { name := "T_INT", type := .int, accessFlags := 25, slot := 17, constantValue := 0 }, { name := "T_LONG", type := .int, accessFlags := 25, slot := 18, constantValue := 0 }, { name := "JLA", type := (.object "jdk/internal/access/JavaLangAccess"), accessFlags := 26, slot := 19, constantValue := 0 }, { name := "SOFT_MAX_ARRAY_LENGTH", type := .int, accessFlags := 25, slot := 20, constantValue := 0 }]
  methods := #[k15m0]
  instanceTypes := #[]
  staticTypes := #[(.object "jdk/internal/misc/Unsafe"), .boolean, .int, .int, .int, .int, .int, .int, .int, .int, .int, .int, .int, .int, .int, .int, .int, .int, .int, (.object "jdk/internal/access/JavaLangAccess"), .int]
  resolved := Array.replicate 378 none
  statics := none }

def pool16 : Array CpInfo := pool [(1, u "java/lang/Cloneable"), (0, .class_ 1), (0, u "java/lang/Object"), (0, .class_ 3)] 3

/-- java/lang/Cloneable -/
def k16 : Class := { plain "java/lang/Cloneable" (some 0) with
  accessFlags := 1537
  interfaces := #[]
  cf := some (fileOf pool16 2 #[] #[] 1537 4 #[] #[])
  fields := #[]
  methods := #[]
  instanceTypes := #[]
  staticTypes := #[]
  resolved := Array.replicate 8 none
  statics := none }

/-- the primitive byte -/
def k17 : Class := { plain "byte" none with kind := .primitive 'B', accessFlags := 0x411 }
/-- [B -/
def k18 : Class := { plain "[B" (some 0) with kind := .array 17 .byte, interfaces := #[16, 2], accessFlags := 1041 }

/-- the primitive char -/
def k19 : Class := { plain "char" none with kind := .primitive 'C', accessFlags := 0x411 }
/-- [C -/
def k20 : Class := { plain "[C" (some 0) with kind := .array 19 .char, interfaces := #[16, 2], accessFlags := 1041 }

/-- the primitive int -/
def k21 : Class := { plain "int" none with kind := .primitive 'I', accessFlags := 0x411 }
/-- [I -/
def k22 : Class := { plain "[I" (some 0) with kind := .array 21 .int, interfaces := #[16, 2], accessFlags := 1041 }

def heap : Heap := #[{ cls := 7, slots := #[.long 0, .int 1, .null, .int 0, .null, .int 0, .int 0], vm := .statics 7 },
  { cls := 13, slots := #[.int 0, .int 8, .int 0, .int 1], vm := .statics 13 },
  { cls := 14, slots := #[.null, .null, .null], vm := .statics 14 }]
def classes : Array Class := #[k0, k1, k2, k3, k4, k5, k6, k7, k8, k9, k10, k11, k12, k13, k14, k15, k16, k17, k18, k19, k20, k21, k22]
def interned : List (Array UInt16 × Addr) := []
def slotsUsed : Nat := 14
def theMethod : MethodId := ⟨1, 1⟩
def args0 : Array Value := #[.long 3, .long 4, .int 5]
def aboutOver (below : List Frame) : State where
  vm := { classes := classes, interned := interned.toArray }
  heap := heap
  slotsUsed := slotsUsed
  threads := #[{ frames := .invoking theMethod args0 :: below }]
def below0 : List Frame := [.native { method := ⟨0, 0⟩, args := #[] }]
def about1 : State := aboutOver below0
def p0 : Program := .bare "" "" ""
def e0 : Env := launch0.env 0 0 0
theorem w_frames : about1.frames = Frame.invoking theMethod args0 :: below0 := rfl
set_option maxRecDepth 65536 in
theorem w_args : argsFit about1.vm theMethod args0 = true := by decide +kernel
set_option maxRecDepth 65536 in
theorem w_heap : heapFits about1 = true := by decide +kernel
set_option maxRecDepth 65536 in
theorem w_runnable : about1.curStatus? = some .runnable := by decide +kernel
set_option maxRecDepth 65536 in
theorem w_alone : about1.alone = true := by decide +kernel
set_option maxRecDepth 65536 in
theorem w_named : about1.methodNamed? x = some theMethod := by decide +kernel
set_option maxRecDepth 65536 in
theorem w_hears : about1.hears theMethod below0 = true := by decide +kernel
set_option maxRecDepth 65536 in
theorem w_ripe : about1.ripe theMethod args0 below0 = true := by decide +kernel
theorem w_running : about1.status = .running := rfl
set_option maxRecDepth 65536 in
theorem w_room : about1.hasRoom e0.platform room_1 = true :=
  launch0.hasRoom_least _ room_1 (by decide +kernel) (by decide +kernel) (by decide +kernel) (by decide +kernel) (by decide +kernel) (by decide +kernel)
theorem allAtoms_all (ts : List Jvm.Cond) (a : Array Jvm.Value) (st : Jvm.State) : (allAtoms ts).before a st = ts.all (fun c => c.before a st) := by
  induction ts with
  | nil => rfl
  | cons c t ih =>
    show (Jvm.Cond.and c (allAtoms t)).before a st = _
    rw [Jvm.Cond.before_and, ih, List.all_cons]
def words1 : List Jvm.Cond := Jvm.Cond.code x code maxLocals ret :: tables_1
/-- a 'code' word, met by the world's own term for the bytes: nothing is compared byte by byte -/
theorem code_word {y : MethodName} {bytes : ByteArray} {mx : Nat} {rt : Option FieldType} {a : Array Value} {s : State} {m : MethodId} {meth : Method} {c : Code} (h1 : s.methodNamed? y = some m) (h2 : s.vm.method? m = some meth) (h3 : meth.code = some c) (h4 : c.code = bytes)
    (h5 : (c.maxLocals == mx && c.exceptionTable.isEmpty && decide (c.maxStack ≤ mostOperands) && decide (meth.sig.returnType = rt) && !meth.locks && decide (parseMethodDescriptor y.desc = some meth.sig)) = true) : (Jvm.Cond.code y bytes mx rt).before a s = true := by
  simp only [Bool.and_eq_true, beq_iff_eq, Bool.not_eq_true', decide_eq_true_eq] at h5
  obtain ⟨⟨⟨⟨⟨g1, g2⟩, g3⟩, g4⟩, g5⟩, g6⟩ := h5
  simp [Cond.before, Cond.holds, Cond.value, h1, h2, h3, h4, g1, g2, g3, g4, g5, g6]
def isCode : Jvm.Cond → Bool
  | .code _ _ _ _ => true
  | _ => false
theorem all_split {L : List Jvm.Cond} {P : Jvm.Cond → Bool} (h1 : L.all (fun c => isCode c || P c) = true) (h2 : ∀ c ∈ L.filter isCode, P c = true) : L.all P = true := by
  refine List.all_eq_true.mpr fun c hc => ?_
  have h := List.all_eq_true.mp h1 c hc
  rcases Bool.eq_false_or_eq_true (isCode c) with hi | hi
  · exact h2 c (List.mem_filter.mpr ⟨hc, hi⟩)
  · simpa [hi] using h
set_option maxRecDepth 65536 in
theorem w_c0 : (Jvm.Cond.code x code maxLocals ret).before args0 about1 = true := code_word (m := ⟨1, 1⟩) (meth := k1m1) (c := k1c1) (by decide +kernel) rfl rfl rfl (by decide +kernel)
set_option maxRecDepth 65536 in
theorem w_c1 : (Jvm.Cond.code ({ cls := "com/example/triplewright/triplewright/IriIsAbsolutePinLaw", name := "make", desc := "(I[C)Ljava/lang/String;" } : Jvm.MethodName) method_3_code (2 : Nat) (Option.some (Jvm.ClassFile.FieldType.object "java/lang/String"))).before args0 about1 = true := code_word (m := ⟨1, 2⟩) (meth := k1m2) (c := k1c2) (by decide +kernel) rfl rfl rfl (by decide +kernel)
set_option maxRecDepth 65536 in
theorem w_c2 : (Jvm.Cond.code ({ cls := "java/lang/String", name := "<init>", desc := "([C)V" } : Jvm.MethodName) jdk_42_method_3_code (2 : Nat) (Option.none : Option Jvm.ClassFile.FieldType)).before args0 about1 = true := code_word (m := ⟨7, 1⟩) (meth := k7m1) (c := k7c1) (by decide +kernel) rfl rfl rfl (by decide +kernel)
set_option maxRecDepth 65536 in
theorem w_c3 : (Jvm.Cond.code ({ cls := "java/lang/String", name := "<init>", desc := "([CIILjava/lang/Void;)V" } : Jvm.MethodName) jdk_42_method_149_code (6 : Nat) (Option.none : Option Jvm.ClassFile.FieldType)).before args0 about1 = true := code_word (m := ⟨7, 6⟩) (meth := k7m6) (c := k7c6) (by decide +kernel) rfl rfl rfl (by decide +kernel)
set_option maxRecDepth 65536 in
theorem w_c4 : (Jvm.Cond.code ({ cls := "java/lang/Object", name := "<init>", desc := "()V" } : Jvm.MethodName) object_method_1_code (1 : Nat) (Option.none : Option Jvm.ClassFile.FieldType)).before args0 about1 = true := code_word (m := ⟨0, 0⟩) (meth := k0m0) (c := k0c0) (by decide +kernel) rfl rfl rfl (by decide +kernel)
set_option maxRecDepth 65536 in
theorem w_c5 : (Jvm.Cond.code ({ cls := "com/example/triplewright/triplewright/Term$Iri", name := "isAbsolute", desc := "(Ljava/lang/String;)Z" } : Jvm.MethodName) prog_36_method_3_code (4 : Nat) (Option.some Jvm.ClassFile.FieldType.boolean)).before args0 about1 = true := code_word (m := ⟨10, 0⟩) (meth := k10m0) (c := k10c0) (by decide +kernel) rfl rfl rfl (by decide +kernel)
set_option maxRecDepth 65536 in
theorem w_c6 : (Jvm.Cond.code ({ cls := "java/lang/String", name := "indexOf", desc := "(I)I" } : Jvm.MethodName) jdk_42_method_79_code (2 : Nat) (Option.some Jvm.ClassFile.FieldType.int)).before args0 about1 = true := code_word (m := ⟨7, 4⟩) (meth := k7m4) (c := k7c4) (by decide +kernel) rfl rfl rfl (by decide +kernel)
set_option maxRecDepth 65536 in
theorem w_c7 : (Jvm.Cond.code ({ cls := "java/lang/String", name := "indexOf", desc := "(II)I" } : Jvm.MethodName) jdk_42_method_80_code (3 : Nat) (Option.some Jvm.ClassFile.FieldType.int)).before args0 about1 = true := code_word (m := ⟨7, 5⟩) (meth := k7m5) (c := k7c5) (by decide +kernel) rfl rfl rfl (by decide +kernel)
set_option maxRecDepth 65536 in
theorem w_c8 : (Jvm.Cond.code ({ cls := "java/lang/String", name := "isLatin1", desc := "()Z" } : Jvm.MethodName) jdk_42_method_154_code (1 : Nat) (Option.some Jvm.ClassFile.FieldType.boolean)).before args0 about1 = true := code_word (m := ⟨7, 8⟩) (meth := k7m8) (c := k7c8) (by decide +kernel) rfl rfl rfl (by decide +kernel)
set_option maxRecDepth 65536 in
theorem w_c9 : (Jvm.Cond.code ({ cls := "java/lang/String", name := "length", desc := "()I" } : Jvm.MethodName) jdk_42_method_54_code (1 : Nat) (Option.some Jvm.ClassFile.FieldType.int)).before args0 about1 = true := code_word (m := ⟨7, 2⟩) (meth := k7m2) (c := k7c2) (by decide +kernel) rfl rfl rfl (by decide +kernel)
set_option maxRecDepth 65536 in
theorem w_c10 : (Jvm.Cond.code ({ cls := "java/lang/String", name := "coder", desc := "()B" } : Jvm.MethodName) jdk_42_method_152_code (1 : Nat) (Option.some Jvm.ClassFile.FieldType.byte)).before args0 about1 = true := code_word (m := ⟨7, 7⟩) (meth := k7m7) (c := k7c7) (by decide +kernel) rfl rfl rfl (by decide +kernel)
set_option maxRecDepth 65536 in
theorem w_c11 : (Jvm.Cond.code ({ cls := "java/lang/StringLatin1", name := "indexOf", desc := "([BIII)I" } : Jvm.MethodName) jdk_43_method_22_code (4 : Nat) (Option.some Jvm.ClassFile.FieldType.int)).before args0 about1 = true := code_word (m := ⟨11, 3⟩) (meth := k11m3) (c := k11c3) (by decide +kernel) rfl rfl rfl (by decide +kernel)
set_option maxRecDepth 65536 in
theorem w_c12 : (Jvm.Cond.code ({ cls := "java/lang/StringLatin1", name := "canEncode", desc := "(I)Z" } : Jvm.MethodName) jdk_43_method_4_code (1 : Nat) (Option.some Jvm.ClassFile.FieldType.boolean)).before args0 about1 = true := code_word (m := ⟨11, 2⟩) (meth := k11m2) (c := k11c2) (by decide +kernel) rfl rfl rfl (by decide +kernel)
set_option maxRecDepth 65536 in
theorem w_c13 : (Jvm.Cond.code ({ cls := "java/lang/Math", name := "max", desc := "(II)I" } : Jvm.MethodName) jdk_29_method_65_code (2 : Nat) (Option.some Jvm.ClassFile.FieldType.int)).before args0 about1 = true := code_word (m := ⟨12, 1⟩) (meth := k12m1) (c := k12c1) (by decide +kernel) rfl rfl rfl (by decide +kernel)
set_option maxRecDepth 65536 in
theorem w_c14 : (Jvm.Cond.code ({ cls := "java/lang/Math", name := "min", desc := "(II)I" } : Jvm.MethodName) jdk_29_method_69_code (2 : Nat) (Option.some Jvm.ClassFile.FieldType.int)).before args0 about1 = true := code_word (m := ⟨12, 2⟩) (meth := k12m2) (c := k12c2) (by decide +kernel) rfl rfl rfl (by decide +kernel)
set_option maxRecDepth 65536 in
theorem w_c15 : (Jvm.Cond.code ({ cls := "com/example/triplewright/triplewright/IriIsAbsolutePinLaw", name := "firstColon", desc := "([CI)I" } : Jvm.MethodName) method_4_code (2 : Nat) (Option.some Jvm.ClassFile.FieldType.int)).before args0 about1 = true := code_word (m := ⟨1, 3⟩) (meth := k1m3) (c := k1c3) (by decide +kernel) rfl rfl rfl (by decide +kernel)
set_option maxRecDepth 65536 in
theorem w_c16 : (Jvm.Cond.code ({ cls := "java/lang/StringUTF16", name := "compress", desc := "([CII)[B" } : Jvm.MethodName) jdk_52_method_16_code (6 : Nat) (Option.some (Jvm.ClassFile.FieldType.array Jvm.ClassFile.FieldType.byte))).before args0 about1 = true := code_word (m := ⟨13, 8⟩) (meth := k13m8) (c := k13c8) (by decide +kernel) rfl rfl rfl (by decide +kernel)
set_option maxRecDepth 65536 in
theorem w_c17 : (Jvm.Cond.code ({ cls := "java/lang/StringUTF16", name := "compress", desc := "([CI[BII)I" } : Jvm.MethodName) jdk_52_method_21_code (7 : Nat) (Option.some Jvm.ClassFile.FieldType.int)).before args0 about1 = true := code_word (m := ⟨13, 9⟩) (meth := k13m9) (c := k13c9) (by decide +kernel) rfl rfl rfl (by decide +kernel)
set_option maxRecDepth 65536 in
theorem w_c18 : (Jvm.Cond.code ({ cls := "java/lang/StringUTF16", name := "coderFromArrayLen", desc := "([BI)B" } : Jvm.MethodName) jdk_52_method_15_code (2 : Nat) (Option.some Jvm.ClassFile.FieldType.byte)).before args0 about1 = true := code_word (m := ⟨13, 7⟩) (meth := k13m7) (c := k13c7) (by decide +kernel) rfl rfl rfl (by decide +kernel)
set_option maxRecDepth 65536 in
theorem w_c19 : (Jvm.Cond.code ({ cls := "java/lang/StringLatin1", name := "indexOfChar", desc := "([BIII)I" } : Jvm.MethodName) jdk_43_method_23_code (6 : Nat) (Option.some Jvm.ClassFile.FieldType.int)).before args0 about1 = true := code_word (m := ⟨11, 4⟩) (meth := k11m4) (c := k11c4) (by decide +kernel) rfl rfl rfl (by decide +kernel)
set_option maxRecDepth 65536 in
theorem w_c20 : (Jvm.Cond.code ({ cls := "java/lang/StringUTF16", name := "toBytes", desc := "([CII)[B" } : Jvm.MethodName) jdk_52_method_14_code (5 : Nat) (Option.some (Jvm.ClassFile.FieldType.array Jvm.ClassFile.FieldType.byte))).before args0 about1 = true := code_word (m := ⟨13, 6⟩) (meth := k13m6) (c := k13c6) (by decide +kernel) rfl rfl rfl (by decide +kernel)
set_option maxRecDepth 65536 in
theorem w_c21 : (Jvm.Cond.code ({ cls := "java/lang/StringUTF16", name := "newBytesFor", desc := "(I)[B" } : Jvm.MethodName) jdk_52_method_2_code (1 : Nat) (Option.some (Jvm.ClassFile.FieldType.array Jvm.ClassFile.FieldType.byte))).before args0 about1 = true := code_word (m := ⟨13, 1⟩) (meth := k13m1) (c := k13c1) (by decide +kernel) rfl rfl rfl (by decide +kernel)
set_option maxRecDepth 65536 in
theorem w_c22 : (Jvm.Cond.code ({ cls := "java/lang/StringUTF16", name := "newBytesLength", desc := "(I)I" } : Jvm.MethodName) jdk_52_method_3_code (1 : Nat) (Option.some Jvm.ClassFile.FieldType.int)).before args0 about1 = true := code_word (m := ⟨13, 2⟩) (meth := k13m2) (c := k13c2) (by decide +kernel) rfl rfl rfl (by decide +kernel)
set_option maxRecDepth 65536 in
theorem w_c23 : (Jvm.Cond.code ({ cls := "java/lang/StringUTF16", name := "putChar", desc := "([BII)V" } : Jvm.MethodName) jdk_52_method_4_code (3 : Nat) (Option.none : Option Jvm.ClassFile.FieldType)).before args0 about1 = true := code_word (m := ⟨13, 3⟩) (meth := k13m3) (c := k13c3) (by decide +kernel) rfl rfl rfl (by decide +kernel)
set_option maxRecDepth 65536 in
theorem w_c24 : (Jvm.Cond.code ({ cls := "java/lang/StringUTF16", name := "getChar", desc := "([BI)C" } : Jvm.MethodName) jdk_52_method_5_code (2 : Nat) (Option.some Jvm.ClassFile.FieldType.char)).before args0 about1 = true := code_word (m := ⟨13, 4⟩) (meth := k13m4) (c := k13c4) (by decide +kernel) rfl rfl rfl (by decide +kernel)
set_option maxRecDepth 65536 in
theorem w_c25 : (Jvm.Cond.code ({ cls := "java/lang/StringUTF16", name := "indexOf", desc := "([BIII)I" } : Jvm.MethodName) jdk_52_method_40_code (4 : Nat) (Option.some Jvm.ClassFile.FieldType.int)).before args0 about1 = true := code_word (m := ⟨13, 10⟩) (meth := k13m10) (c := k13c10) (by decide +kernel) rfl rfl rfl (by decide +kernel)
set_option maxRecDepth 65536 in
theorem w_c26 : (Jvm.Cond.code ({ cls := "java/lang/StringUTF16", name := "indexOfChar", desc := "([BIII)I" } : Jvm.MethodName) jdk_52_method_47_code (4 : Nat) (Option.some Jvm.ClassFile.FieldType.int)).before args0 about1 = true := code_word (m := ⟨13, 11⟩) (meth := k13m11) (c := k13c11) (by decide +kernel) rfl rfl rfl (by decide +kernel)
set_option maxRecDepth 65536 in
theorem w_c27 : (Jvm.Cond.code ({ cls := "java/lang/StringUTF16", name := "checkBoundsBeginEnd", desc := "(II[B)V" } : Jvm.MethodName) jdk_52_method_93_code (3 : Nat) (Option.none : Option Jvm.ClassFile.FieldType)).before args0 about1 = true := code_word (m := ⟨13, 15⟩) (meth := k13m15) (c := k13c15) (by decide +kernel) rfl rfl rfl (by decide +kernel)
set_option maxRecDepth 65536 in
theorem w_c28 : (Jvm.Cond.code ({ cls := "java/lang/StringUTF16", name := "length", desc := "([B)I" } : Jvm.MethodName) jdk_52_method_6_code (1 : Nat) (Option.some Jvm.ClassFile.FieldType.int)).before args0 about1 = true := code_word (m := ⟨13, 5⟩) (meth := k13m5) (c := k13c5) (by decide +kernel) rfl rfl rfl (by decide +kernel)
set_option maxRecDepth 65536 in
theorem w_c29 : (Jvm.Cond.code ({ cls := "java/lang/String", name := "checkBoundsBeginEnd", desc := "(III)V" } : Jvm.MethodName) jdk_42_method_158_code (3 : Nat) (Option.none : Option Jvm.ClassFile.FieldType)).before args0 about1 = true := code_word (m := ⟨7, 10⟩) (meth := k7m10) (c := k7c10) (by decide +kernel) rfl rfl rfl (by decide +kernel)
set_option maxRecDepth 65536 in
theorem w_c30 : (Jvm.Cond.code ({ cls := "jdk/internal/util/Preconditions", name := "checkFromToIndex", desc := "(IIILjava/util/function/BiFunction;)I" } : Jvm.MethodName) jdk_41_method_12_code (4 : Nat) (Option.some Jvm.ClassFile.FieldType.int)).before args0 about1 = true := code_word (m := ⟨14, 2⟩) (meth := k14m2) (c := k14c2) (by decide +kernel) rfl rfl rfl (by decide +kernel)
set_option maxRecDepth 65536 in
theorem w_c31 : (Jvm.Cond.code ({ cls := "java/lang/StringUTF16", name := "indexOfCharUnsafe", desc := "([BIII)I" } : Jvm.MethodName) jdk_52_method_48_code (5 : Nat) (Option.some Jvm.ClassFile.FieldType.int)).before args0 about1 = true := code_word (m := ⟨13, 12⟩) (meth := k13m12) (c := k13c12) (by decide +kernel) rfl rfl rfl (by decide +kernel)
set_option maxRecDepth 65536 in
theorem w_c32 : (Jvm.Cond.code ({ cls := "java/lang/String", name := "charAt", desc := "(I)C" } : Jvm.MethodName) jdk_42_method_56_code (2 : Nat) (Option.some Jvm.ClassFile.FieldType.char)).before args0 about1 = true := code_word (m := ⟨7, 3⟩) (meth := k7m3) (c := k7c3) (by decide +kernel) rfl rfl rfl (by decide +kernel)
set_option maxRecDepth 65536 in
theorem w_c33 : (Jvm.Cond.code ({ cls := "java/lang/StringLatin1", name := "charAt", desc := "([BI)C" } : Jvm.MethodName) jdk_43_method_2_code (2 : Nat) (Option.some Jvm.ClassFile.FieldType.char)).before args0 about1 = true := code_word (m := ⟨11, 1⟩) (meth := k11m1) (c := k11c1) (by decide +kernel) rfl rfl rfl (by decide +kernel)
set_option maxRecDepth 65536 in
theorem w_c34 : (Jvm.Cond.code ({ cls := "java/lang/String", name := "checkIndex", desc := "(II)V" } : Jvm.MethodName) jdk_42_method_155_code (2 : Nat) (Option.none : Option Jvm.ClassFile.FieldType)).before args0 about1 = true := code_word (m := ⟨7, 9⟩) (meth := k7m9) (c := k7c9) (by decide +kernel) rfl rfl rfl (by decide +kernel)
set_option maxRecDepth 65536 in
theorem w_c35 : (Jvm.Cond.code ({ cls := "jdk/internal/util/Preconditions", name := "checkIndex", desc := "(IILjava/util/function/BiFunction;)I" } : Jvm.MethodName) jdk_41_method_11_code (3 : Nat) (Option.some Jvm.ClassFile.FieldType.int)).before args0 about1 = true := code_word (m := ⟨14, 1⟩) (meth := k14m1) (c := k14c1) (by decide +kernel) rfl rfl rfl (by decide +kernel)
set_option maxRecDepth 65536 in
theorem w_c36 : (Jvm.Cond.code ({ cls := "com/example/triplewright/triplewright/Term$Iri", name := "isAsciiLetter", desc := "(C)Z" } : Jvm.MethodName) prog_36_method_4_code (1 : Nat) (Option.some Jvm.ClassFile.FieldType.boolean)).before args0 about1 = true := code_word (m := ⟨10, 1⟩) (meth := k10m1) (c := k10c1) (by decide +kernel) rfl rfl rfl (by decide +kernel)
set_option maxRecDepth 65536 in
theorem w_c37 : (Jvm.Cond.code ({ cls := "com/example/triplewright/triplewright/IriIsAbsolutePinLaw", name := "posOk", desc := "(ICII)Z" } : Jvm.MethodName) method_8_code (4 : Nat) (Option.some Jvm.ClassFile.FieldType.boolean)).before args0 about1 = true := code_word (m := ⟨1, 7⟩) (meth := k1m7) (c := k1c7) (by decide +kernel) rfl rfl rfl (by decide +kernel)
set_option maxRecDepth 65536 in
theorem w_c38 : (Jvm.Cond.code ({ cls := "com/example/triplewright/triplewright/IriIsAbsolutePinLaw", name := "letter", desc := "(C)Z" } : Jvm.MethodName) method_5_code (1 : Nat) (Option.some Jvm.ClassFile.FieldType.boolean)).before args0 about1 = true := code_word (m := ⟨1, 4⟩) (meth := k1m4) (c := k1c4) (by decide +kernel) rfl rfl rfl (by decide +kernel)
set_option maxRecDepth 65536 in
theorem w_c39 : (Jvm.Cond.code ({ cls := "java/lang/StringUTF16", name := "charAt", desc := "([BI)C" } : Jvm.MethodName) jdk_52_method_83_code (2 : Nat) (Option.some Jvm.ClassFile.FieldType.char)).before args0 about1 = true := code_word (m := ⟨13, 13⟩) (meth := k13m13) (c := k13c13) (by decide +kernel) rfl rfl rfl (by decide +kernel)
set_option maxRecDepth 65536 in
theorem w_c40 : (Jvm.Cond.code ({ cls := "java/lang/StringUTF16", name := "checkIndex", desc := "(I[B)V" } : Jvm.MethodName) jdk_52_method_91_code (2 : Nat) (Option.none : Option Jvm.ClassFile.FieldType)).before args0 about1 = true := code_word (m := ⟨13, 14⟩) (meth := k13m14) (c := k13c14) (by decide +kernel) rfl rfl rfl (by decide +kernel)
set_option maxRecDepth 65536 in
theorem w_c41 : (Jvm.Cond.code ({ cls := "com/example/triplewright/triplewright/IriIsAbsolutePinLaw", name := "schemeRest", desc := "(C)Z" } : Jvm.MethodName) method_6_code (1 : Nat) (Option.some Jvm.ClassFile.FieldType.boolean)).before args0 about1 = true := code_word (m := ⟨1, 5⟩) (meth := k1m5) (c := k1c5) (by decide +kernel) rfl rfl rfl (by decide +kernel)
set_option maxRecDepth 65536 in
theorem w_c42 : (Jvm.Cond.code ({ cls := "com/example/triplewright/triplewright/IriIsAbsolutePinLaw", name := "forbidden", desc := "(C)Z" } : Jvm.MethodName) method_7_code (1 : Nat) (Option.some Jvm.ClassFile.FieldType.boolean)).before args0 about1 = true := code_word (m := ⟨1, 6⟩) (meth := k1m6) (c := k1c6) (by decide +kernel) rfl rfl rfl (by decide +kernel)
def codes1 : List Jvm.Cond := [Jvm.Cond.code x code maxLocals ret, Jvm.Cond.code ({ cls := "com/example/triplewright/triplewright/IriIsAbsolutePinLaw", name := "make", desc := "(I[C)Ljava/lang/String;" } : Jvm.MethodName) method_3_code (2 : Nat) (Option.some (Jvm.ClassFile.FieldType.object "java/lang/String")), Jvm.Cond.code ({ cls := "java/lang/String", name := "<init>", desc := "([C)V" } : Jvm.MethodName) jdk_42_method_3_code (2 : Nat) (Option.none : Option Jvm.ClassFile.FieldType), Jvm.Cond.code ({ cls := "java/lang/String", name := "<init>", desc := "([CIILjava/lang/Void;)V" } : Jvm.MethodName) jdk_42_method_149_code (6 : Nat) (Option.none : Option Jvm.ClassFile.FieldType), Jvm.Cond.code ({ cls := "java/lang/Object", name := "<init>", desc := "()V" } : Jvm.MethodName) object_method_1_code (1 : Nat) (Option.none : Option Jvm.ClassFile.FieldType), Jvm.Cond.code ({ cls := "com/example/triplewright/triplewright/Term$Iri", name := "isAbsolute", desc := "(Ljava/lang/String;)Z" } : Jvm.MethodName) prog_36_method_3_code (4 : Nat) (Option.some Jvm.ClassFile.FieldType.boolean), Jvm.Cond.code ({ cls := "java/lang/String", name := "indexOf", desc := "(I)I" } : Jvm.MethodName) jdk_42_method_79_code (2 : Nat) (Option.some Jvm.ClassFile.FieldType.int), Jvm.Cond.code ({ cls := "java/lang/String", name := "indexOf", desc := "(II)I" } : Jvm.MethodName) jdk_42_method_80_code (3 : Nat) (Option.some Jvm.ClassFile.FieldType.int), Jvm.Cond.code ({ cls := "java/lang/String", name := "isLatin1", desc := "()Z" } : Jvm.MethodName) jdk_42_method_154_code (1 : Nat) (Option.some Jvm.ClassFile.FieldType.boolean), Jvm.Cond.code ({ cls := "java/lang/String", name := "length", desc := "()I" } : Jvm.MethodName) jdk_42_method_54_code (1 : Nat) (Option.some Jvm.ClassFile.FieldType.int), Jvm.Cond.code ({ cls := "java/lang/String", name := "coder", desc := "()B" } : Jvm.MethodName) jdk_42_method_152_code (1 : Nat) (Option.some Jvm.ClassFile.FieldType.byte), Jvm.Cond.code ({ cls := "java/lang/StringLatin1", name := "indexOf", desc := "([BIII)I" } : Jvm.MethodName) jdk_43_method_22_code (4 : Nat) (Option.some Jvm.ClassFile.FieldType.int), Jvm.Cond.code ({ cls := "java/lang/StringLatin1", name := "canEncode", desc := "(I)Z" } : Jvm.MethodName) jdk_43_method_4_code (1 : Nat) (Option.some Jvm.ClassFile.FieldType.boolean), Jvm.Cond.code ({ cls := "java/lang/Math", name := "max", desc := "(II)I" } : Jvm.MethodName) jdk_29_method_65_code (2 : Nat) (Option.some Jvm.ClassFile.FieldType.int), Jvm.Cond.code ({ cls := "java/lang/Math", name := "min", desc := "(II)I" } : Jvm.MethodName) jdk_29_method_69_code (2 : Nat) (Option.some Jvm.ClassFile.FieldType.int), Jvm.Cond.code ({ cls := "com/example/triplewright/triplewright/IriIsAbsolutePinLaw", name := "firstColon", desc := "([CI)I" } : Jvm.MethodName) method_4_code (2 : Nat) (Option.some Jvm.ClassFile.FieldType.int), Jvm.Cond.code ({ cls := "java/lang/StringUTF16", name := "compress", desc := "([CII)[B" } : Jvm.MethodName) jdk_52_method_16_code (6 : Nat) (Option.some (Jvm.ClassFile.FieldType.array Jvm.ClassFile.FieldType.byte)), Jvm.Cond.code ({ cls := "java/lang/StringUTF16", name := "compress", desc := "([CI[BII)I" } : Jvm.MethodName) jdk_52_method_21_code (7 : Nat) (Option.some Jvm.ClassFile.FieldType.int), Jvm.Cond.code ({ cls := "java/lang/StringUTF16", name := "coderFromArrayLen", desc := "([BI)B" } : Jvm.MethodName) jdk_52_method_15_code (2 : Nat) (Option.some Jvm.ClassFile.FieldType.byte), Jvm.Cond.code ({ cls := "java/lang/StringLatin1", name := "indexOfChar", desc := "([BIII)I" } : Jvm.MethodName) jdk_43_method_23_code (6 : Nat) (Option.some Jvm.ClassFile.FieldType.int), Jvm.Cond.code ({ cls := "java/lang/StringUTF16", name := "toBytes", desc := "([CII)[B" } : Jvm.MethodName) jdk_52_method_14_code (5 : Nat) (Option.some (Jvm.ClassFile.FieldType.array Jvm.ClassFile.FieldType.byte)), Jvm.Cond.code ({ cls := "java/lang/StringUTF16", name := "newBytesFor", desc := "(I)[B" } : Jvm.MethodName) jdk_52_method_2_code (1 : Nat) (Option.some (Jvm.ClassFile.FieldType.array Jvm.ClassFile.FieldType.byte)), Jvm.Cond.code ({ cls := "java/lang/StringUTF16", name := "newBytesLength", desc := "(I)I" } : Jvm.MethodName) jdk_52_method_3_code (1 : Nat) (Option.some Jvm.ClassFile.FieldType.int), Jvm.Cond.code ({ cls := "java/lang/StringUTF16", name := "putChar", desc := "([BII)V" } : Jvm.MethodName) jdk_52_method_4_code (3 : Nat) (Option.none : Option Jvm.ClassFile.FieldType), Jvm.Cond.code ({ cls := "java/lang/StringUTF16", name := "getChar", desc := "([BI)C" } : Jvm.MethodName) jdk_52_method_5_code (2 : Nat) (Option.some Jvm.ClassFile.FieldType.char), Jvm.Cond.code ({ cls := "java/lang/StringUTF16", name := "indexOf", desc := "([BIII)I" } : Jvm.MethodName) jdk_52_method_40_code (4 : Nat) (Option.some Jvm.ClassFile.FieldType.int), Jvm.Cond.code ({ cls := "java/lang/StringUTF16", name := "indexOfChar", desc := "([BIII)I" } : Jvm.MethodName) jdk_52_method_47_code (4 : Nat) (Option.some Jvm.ClassFile.FieldType.int), Jvm.Cond.code ({ cls := "java/lang/StringUTF16", name := "checkBoundsBeginEnd", desc := "(II[B)V" } : Jvm.MethodName) jdk_52_method_93_code (3 : Nat) (Option.none : Option Jvm.ClassFile.FieldType), Jvm.Cond.code ({ cls := "java/lang/StringUTF16", name := "length", desc := "([B)I" } : Jvm.MethodName) jdk_52_method_6_code (1 : Nat) (Option.some Jvm.ClassFile.FieldType.int), Jvm.Cond.code ({ cls := "java/lang/String", name := "checkBoundsBeginEnd", desc := "(III)V" } : Jvm.MethodName) jdk_42_method_158_code (3 : Nat) (Option.none : Option Jvm.ClassFile.FieldType), Jvm.Cond.code ({ cls := "jdk/internal/util/Preconditions", name := "checkFromToIndex", desc := "(IIILjava/util/function/BiFunction;)I" } : Jvm.MethodName) jdk_41_method_12_code (4 : Nat) (Option.some Jvm.ClassFile.FieldType.int), Jvm.Cond.code ({ cls := "java/lang/StringUTF16", name := "indexOfCharUnsafe", desc := "([BIII)I" } : Jvm.MethodName) jdk_52_method_48_code (5 : Nat) (Option.some Jvm.ClassFile.FieldType.int), Jvm.Cond.code ({ cls := "java/lang/String", name := "charAt", desc := "(I)C" } : Jvm.MethodName) jdk_42_method_56_code (2 : Nat) (Option.some Jvm.ClassFile.FieldType.char), Jvm.Cond.code ({ cls := "java/lang/StringLatin1", name := "charAt", desc := "([BI)C" } : Jvm.MethodName) jdk_43_method_2_code (2 : Nat) (Option.some Jvm.ClassFile.FieldType.char), Jvm.Cond.code ({ cls := "java/lang/String", name := "checkIndex", desc := "(II)V" } : Jvm.MethodName) jdk_42_method_155_code (2 : Nat) (Option.none : Option Jvm.ClassFile.FieldType), Jvm.Cond.code ({ cls := "jdk/internal/util/Preconditions", name := "checkIndex", desc := "(IILjava/util/function/BiFunction;)I" } : Jvm.MethodName) jdk_41_method_11_code (3 : Nat) (Option.some Jvm.ClassFile.FieldType.int), Jvm.Cond.code ({ cls := "com/example/triplewright/triplewright/Term$Iri", name := "isAsciiLetter", desc := "(C)Z" } : Jvm.MethodName) prog_36_method_4_code (1 : Nat) (Option.some Jvm.ClassFile.FieldType.boolean), Jvm.Cond.code ({ cls := "com/example/triplewright/triplewright/IriIsAbsolutePinLaw", name := "posOk", desc := "(ICII)Z" } : Jvm.MethodName) method_8_code (4 : Nat) (Option.some Jvm.ClassFile.FieldType.boolean), Jvm.Cond.code ({ cls := "com/example/triplewright/triplewright/IriIsAbsolutePinLaw", name := "letter", desc := "(C)Z" } : Jvm.MethodName) method_5_code (1 : Nat) (Option.some Jvm.ClassFile.FieldType.boolean), Jvm.Cond.code ({ cls := "java/lang/StringUTF16", name := "charAt", desc := "([BI)C" } : Jvm.MethodName) jdk_52_method_83_code (2 : Nat) (Option.some Jvm.ClassFile.FieldType.char), Jvm.Cond.code ({ cls := "java/lang/StringUTF16", name := "checkIndex", desc := "(I[B)V" } : Jvm.MethodName) jdk_52_method_91_code (2 : Nat) (Option.none : Option Jvm.ClassFile.FieldType), Jvm.Cond.code ({ cls := "com/example/triplewright/triplewright/IriIsAbsolutePinLaw", name := "schemeRest", desc := "(C)Z" } : Jvm.MethodName) method_6_code (1 : Nat) (Option.some Jvm.ClassFile.FieldType.boolean), Jvm.Cond.code ({ cls := "com/example/triplewright/triplewright/IriIsAbsolutePinLaw", name := "forbidden", desc := "(C)Z" } : Jvm.MethodName) method_7_code (1 : Nat) (Option.some Jvm.ClassFile.FieldType.boolean)]
set_option maxRecDepth 65536 in
theorem codes_eq : words1.filter isCode = codes1 := rfl
theorem w_codes : ∀ c ∈ words1.filter isCode, c.before args0 about1 = true := by
  rw [codes_eq]
  intro c hc
  simp only [codes1, List.mem_cons, List.not_mem_nil, or_false] at hc
  rcases hc with rfl | rfl | rfl | rfl | rfl | rfl | rfl | rfl | rfl | rfl | rfl | rfl | rfl | rfl | rfl | rfl | rfl | rfl | rfl | rfl | rfl | rfl | rfl | rfl | rfl | rfl | rfl | rfl | rfl | rfl | rfl | rfl | rfl | rfl | rfl | rfl | rfl | rfl | rfl | rfl | rfl | rfl | rfl
  · exact w_c0
  · exact w_c1
  · exact w_c2
  · exact w_c3
  · exact w_c4
  · exact w_c5
  · exact w_c6
  · exact w_c7
  · exact w_c8
  · exact w_c9
  · exact w_c10
  · exact w_c11
  · exact w_c12
  · exact w_c13
  · exact w_c14
  · exact w_c15
  · exact w_c16
  · exact w_c17
  · exact w_c18
  · exact w_c19
  · exact w_c20
  · exact w_c21
  · exact w_c22
  · exact w_c23
  · exact w_c24
  · exact w_c25
  · exact w_c26
  · exact w_c27
  · exact w_c28
  · exact w_c29
  · exact w_c30
  · exact w_c31
  · exact w_c32
  · exact w_c33
  · exact w_c34
  · exact w_c35
  · exact w_c36
  · exact w_c37
  · exact w_c38
  · exact w_c39
  · exact w_c40
  · exact w_c41
  · exact w_c42
set_option maxRecDepth 65536 in
theorem w_t1 : (words1.take 24).all (fun c => isCode c || c.before args0 about1) = true := by decide +kernel
set_option maxRecDepth 65536 in
theorem w_t2 : ((words1.drop 24).take 24).all (fun c => isCode c || c.before args0 about1) = true := by decide +kernel
set_option maxRecDepth 65536 in
theorem w_t3 : (((words1.drop 24).drop 24).take 24).all (fun c => isCode c || c.before args0 about1) = true := by decide +kernel
set_option maxRecDepth 65536 in
theorem w_t4 : ((((words1.drop 24).drop 24).drop 24).take 24).all (fun c => isCode c || c.before args0 about1) = true := by decide +kernel
set_option maxRecDepth 65536 in
theorem w_t5 : (((((words1.drop 24).drop 24).drop 24).drop 24).take 24).all (fun c => isCode c || c.before args0 about1) = true := by decide +kernel
set_option maxRecDepth 65536 in
theorem w_t6 : ((((((words1.drop 24).drop 24).drop 24).drop 24).drop 24).take 24).all (fun c => isCode c || c.before args0 about1) = true := by decide +kernel
set_option maxRecDepth 65536 in
theorem w_t7 : (((((((words1.drop 24).drop 24).drop 24).drop 24).drop 24).drop 24).take 24).all (fun c => isCode c || c.before args0 about1) = true := by decide +kernel
set_option maxRecDepth 65536 in
theorem w_t8 : (((((((words1.drop 24).drop 24).drop 24).drop 24).drop 24).drop 24).drop 24).all (fun c => isCode c || c.before args0 about1) = true := by decide +kernel
theorem w_tables : (allAtoms (Jvm.Cond.code x code maxLocals ret :: tables_1)).before args0 about1 = true := by
  rw [allAtoms_all]
  show words1.all (fun c => c.before args0 about1) = true
  refine all_split ?_ w_codes
  rw [← List.take_append_drop 24 words1, List.all_append, w_t1, ← List.take_append_drop 24 (words1.drop 24), List.all_append, w_t2, ← List.take_append_drop 24 ((words1.drop 24).drop 24), List.all_append, w_t3, ← List.take_append_drop 24 (((words1.drop 24).drop 24).drop 24), List.all_append, w_t4, ← List.take_append_drop 24 ((((words1.drop 24).drop 24).drop 24).drop 24), List.all_append, w_t5, ← List.take_append_drop 24 (((((words1.drop 24).drop 24).drop 24).drop 24).drop 24), List.all_append, w_t6, ← List.take_append_drop 24 ((((((words1.drop 24).drop 24).drop 24).drop 24).drop 24).drop 24), List.all_append, w_t7, w_t8]
  rfl
set_option maxRecDepth 65536 in
theorem w_rest : rest_1_c.before args0 about1 = true := by decide +kernel
set_option maxRecDepth 65536 in
theorem w_case : (Jvm.Cond.and given_1 narrow_1).before args0 about1 = true := by decide +kernel
set_option maxRecDepth 65536 in
theorem w_consts : constsHeld consts_1 about1 := Jvm.Lit.constsHeldB_iff.mp (by decide +kernel)
theorem w_applies : (headSpec (Jvm.Cond.code x code maxLocals ret :: tables_1) room_1).applies x e0.platform about1 = true :=
  (Spec.applies_iff w_frames).mpr ⟨w_running, w_runnable, w_alone, w_named, w_hears, w_ripe, w_room, w_tables⟩
theorem atStart : AtStart classFile x code maxLocals ret World_1 tables_1 room_1 Calls_1 rest_1 Pre_1 launch0 p0 e0 about1 theMethod args0 below0 :=
  ⟨lists_1, trivial, launch0.admits_env _ _ _, launch0.least_env, fairChoices_fair.cas, fairChoices_fair.clock, w_frames, w_args, w_heap, w_applies, ⟨w_consts, trivial⟩, w_rest, w_case⟩
end start1
theorem witness_1 : WitnessClaimed_1 := ⟨start1.p0, start1.e0, start1.about1, start1.theMethod, start1.args0, start1.below0, start1.atStart⟩
end Jvm.Pilot.@@N@@
