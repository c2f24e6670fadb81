import JvmDerived
import JvmDerived.Pilot.@@N@@Statement
import JvmDerived.Pilot.@@N@@Code
set_option linter.unusedVariables false
set_option linter.unusedSimpArgs false
namespace Jvm.Pilot.@@N@@
open Jvm Jvm.ClassFile Sem Op Lib Jvm.Free Jvm.Stand Jvm.LawKit Jvm.RoadKit Bundle Jvm.Pilot.@@N@@.Jvm.D
section OwnKit
variable {p : Program} {l : Launch} {e : Env} {R : Room} {s : State} {m : MethodId} {args : Array Value} {below : List Frame} {meth : Method} {c : Code} {T : State} {locs : List Loc} {cells slots : Nat} {Q : Option Value → Heap → List Loc → Prop} {C S : Nat}
/-- from x the run ends, returning, with what Q says -/
def own_End (p : Program) (e : Env) (below : List Frame) (s : State) (Q : Option Value → Heap → List Loc → Prop) (C S : Nat) (x : State) : Prop :=
  ∃ t o, Steps p.tables e below x t ∧ t.status = .running ∧ Ended t below o ∧ ∃ v L, o = .returned v ∧ Q v t.heap L ∧ FrameEnd s o t L C S
theorem own_go {x x' : State} (h : ∀ t, Steps p.tables e below x' t → Steps p.tables e below x t) (k : own_End p e below s Q C S x') : own_End p e below s Q C S x := by
  obtain ⟨t, o, h1, h2⟩ := k
  exact ⟨t, o, h t h1, h2⟩
theorem own_mono {Q' : Option Value → Heap → List Loc → Prop} {x : State} (h : ∀ v h L, Q v h L → Q' v h L) (k : own_End p e below s Q C S x) : own_End p e below s Q' C S x := by
  obtain ⟨t, o, h1, h2, h3, v, L, h4, h5, h6⟩ := k
  exact ⟨t, o, h1, h2, h3, v, L, h4, h _ _ _ h5, h6⟩
theorem own_out (X : Stand p l e R s m args below meth c T locs cells slots) (hlk : meth.locks = false) {v : Option Value} (hv : meth.sig.returnType = none → v = none) {x : State}
    (h : ∀ fs, (∀ (f : JFrame) (acts : List Action), f.method = m → f.locked = none → f.entered = [] → (doReturn e (T.setTop f) acts v).1 = T.setFrames fs) → Steps p.tables e below x (T.setFrames fs))
    (hq : Q v T.heap locs) (hc : cells ≤ C) (hs : slots ≤ S) : own_End p e below s Q C S x := by
  obtain ⟨fs, hr, hrun, hended, hW, hsame⟩ := X.leave hv hlk
  exact ⟨_, _, h fs hr, hrun, hended, _, _, rfl, hq, ⟨_, rfl⟩, hW, hsame.mono hc hs⟩
theorem own_retV (X : Stand p l e R s m args below meth c T locs cells slots) (hx : p.tables.exec = Jvm.exec) (hlk : meth.locks = false) {pc : Nat} {Ls : Array Slot} (hret : meth.sig.returnType = none) (hd : decode c.code pc = .ok (.return_, 1))
    (hq : Q none T.heap locs) (hc : cells ≤ C) (hs : slots ≤ S) : own_End p e below s Q C S (T.setTop (mkF m pc Ls [])) :=
  own_out X hlk (fun _ => rfl) (fun fs hr => X.returnOut hx hret hd hr) hq hc hs
theorem own_retN (X : Stand p l e R s m args below meth c T locs cells slots) (hx : p.tables.exec = Jvm.exec) (hlk : meth.locks = false) {pc : Nat} {Ls : Array Slot} {z w : Int32} {t : FieldType} {rest : List Value} (hret : meth.sig.returnType = some t) (ht : t = .boolean ∨ t = .byte ∨ t = .char ∨ t = .short) (hd : decode c.code pc = .ok (.ireturn, 1))
    (hz : nar t z = w) (hq : Q (some (.int w)) T.heap locs) (hc : cells ≤ C) (hs : slots ≤ S) : own_End p e below s Q C S (T.setTop (mkF m pc Ls (.int z :: rest))) := by
  subst hz
  exact own_out X hlk (fun h => by rw [hret] at h; cases h) (fun fs hr => retN X hx hret ht hd hr) hq hc hs
theorem own_retI (X : Stand p l e R s m args below meth c T locs cells slots) (hx : p.tables.exec = Jvm.exec) (hlk : meth.locks = false) {pc : Nat} {Ls : Array Slot} {z : Int32} {rest : List Value} (hret : meth.sig.returnType = some .int) (hd : decode c.code pc = .ok (.ireturn, 1))
    (hq : Q (some (.int z)) T.heap locs) (hc : cells ≤ C) (hs : slots ≤ S) : own_End p e below s Q C S (T.setTop (mkF m pc Ls (.int z :: rest))) :=
  own_out X hlk (fun h => by rw [hret] at h; cases h) (fun fs hr => retOut X hx hret rfl (Or.inl ⟨rfl, Or.inl rfl, _, rfl⟩) hd hr) hq hc hs
theorem own_retJ (X : Stand p l e R s m args below meth c T locs cells slots) (hx : p.tables.exec = Jvm.exec) (hlk : meth.locks = false) {pc : Nat} {Ls : Array Slot} {z : Int64} {rest : List Value} (hret : meth.sig.returnType = some .long) (hd : decode c.code pc = .ok (.lreturn, 1))
    (hq : Q (some (.long z)) T.heap locs) (hc : cells ≤ C) (hs : slots ≤ S) : own_End p e below s Q C S (T.setTop (mkF m pc Ls (.long z :: rest))) :=
  own_out X hlk (fun h => by rw [hret] at h; cases h) (fun fs hr => retOut X hx hret rfl (Or.inr (Or.inl ⟨rfl, rfl, _, rfl⟩)) hd hr) hq hc hs
theorem own_retR (X : Stand p l e R s m args below meth c T locs cells slots) (hx : p.tables.exec = Jvm.exec) (hlk : meth.locks = false) {pc : Nat} {Ls : Array Slot} {z : Value} {t : FieldType} {rest : List Value} (hret : meth.sig.returnType = some t) (ht : t.isReference = true) (hv : z.isRef = true) (hd : decode c.code pc = .ok (.areturn, 1))
    (hq : Q (some z) T.heap locs) (hc : cells ≤ C) (hs : slots ≤ S) : own_End p e below s Q C S (T.setTop (mkF m pc Ls (z :: rest))) :=
  own_out X hlk (fun h => by rw [hret] at h; cases h) (fun fs hr => retOut X hx hret (by cases t <;> first | rfl | cases ht) (Or.inr (Or.inr (Or.inr (Or.inr ⟨rfl, ht, hv⟩)))) hd hr) hq hc hs
theorem own_w {a0 : Array Value} {Z : State} (hw : ∀ d ∈ tables_1, d.before a0 Z = true) (i : Nat) {d : Jvm.Cond} (h : tables_1[i]? = some d) : d.before a0 Z = true := hw _ (List.mem_of_getElem? h)
theorem own_self {a0 : Array Value} {Z : State} {y : MethodName} {n : Nat} (wi : (Jvm.Cond.instantiable y.cls n).before a0 Z = true) (wm : (Jvm.Cond.instanceMethod y).before a0 Z = true) (wp : (Jvm.Cond.privateMethod y).before a0 Z = true) (hy : y.cls ≠ "java/lang/invoke/MethodHandle" ∧ y.cls ≠ "java/lang/invoke/VarHandle") : (Jvm.Cond.selects y.cls y y).before a0 Z = true := by
  obtain ⟨c, k, h1, h2, -, h4, -⟩ := Cond.instantiable_spec wi
  have h5 : k.isInterface = false := by
    cases hq : k.isInterface
    · rfl
    · rw [hq] at h4; cases h4
  exact selects_self_of_private h1 h2 h5 (Cond.privateMethod_at wp) wm hy
end OwnKit
section OwnWide
variable {p : Program} {l : Launch} {e : Env} {R : Room} {s : State} {vm0 : Vm} {k0 : Nat} {m : MethodId} {args : Array Value} {below : List Frame} {meth : Method} {c : Code} {T : State} {locs : List Loc} {cells slots : Nat} {Q : Option Value → Heap → List Loc → Prop} {C S : Nat}
/-- as own_End, in the wide frame (String constants may have been loaded) -/
def own_EndW (p : Program) (e : Env) (below : List Frame) (s : State) (Q : Option Value → Heap → List Loc → Prop) (C S : Nat) (x : State) : Prop :=
  ∃ t o, Steps p.tables e below x t ∧ t.status = .running ∧ Ended t below o ∧ ∃ v L, o = .returned v ∧ Q v t.heap L ∧ ReturnedEndW s o t L C S
theorem own_goW {x x' : State} (h : ∀ t, Steps p.tables e below x' t → Steps p.tables e below x t) (k : own_EndW p e below s Q C S x') : own_EndW p e below s Q C S x := by
  obtain ⟨t, o, h1, h2⟩ := k
  exact ⟨t, o, h t h1, h2⟩
theorem own_hk {h : Heap} {k : Nat} (eT : T.heap = h) (hk : k ≤ h.size) : k ≤ T.heap.size := eT ▸ hk
theorem own_outW (X : Stand p l e R (s.setVm vm0) m args below meth c T locs cells slots) (hS : s.Since vm0 k0) (hk : k0 ≤ T.heap.size) (hlk : meth.locks = false) {v : Option Value} (hv : meth.sig.returnType = none → v = none) {x : State}
    (h : ∀ fs, (∀ (f : JFrame) (acts : List Action), f.method = m → f.locked = none → f.entered = [] → (doReturn e (T.setTop f) acts v).1 = T.setFrames fs) → Steps p.tables e below x (T.setFrames fs))
    (hq : Q v T.heap locs) (hc : cells ≤ C) (hs : slots ≤ S) : own_EndW p e below s Q C S x := by
  obtain ⟨fs, hr, hrun, hended, hE⟩ := X.leaveW hS hk hv hlk
  exact ⟨_, _, h fs hr, hrun, hended, _, _, rfl, hq, hE.1, hE.2.1, hE.2.2.1, hE.2.2.2.mono hc hs⟩
theorem own_retVW (X : Stand p l e R (s.setVm vm0) m args below meth c T locs cells slots) (hS : s.Since vm0 k0) (hk : k0 ≤ T.heap.size) (hx : p.tables.exec = Jvm.exec) (hlk : meth.locks = false) {pc : Nat} {Ls : Array Slot} (hret : meth.sig.returnType = none) (hd : decode c.code pc = .ok (.return_, 1))
    (hq : Q none T.heap locs) (hc : cells ≤ C) (hs : slots ≤ S) : own_EndW p e below s Q C S (T.setTop (mkF m pc Ls [])) :=
  own_outW X hS hk hlk (fun _ => rfl) (fun fs hr => X.returnOut hx hret hd hr) hq hc hs
theorem own_retNW (X : Stand p l e R (s.setVm vm0) m args below meth c T locs cells slots) (hS : s.Since vm0 k0) (hk : k0 ≤ T.heap.size) (hx : p.tables.exec = Jvm.exec) (hlk : meth.locks = false) {pc : Nat} {Ls : Array Slot} {z w : Int32} {t : FieldType} {rest : List Value} (hret : meth.sig.returnType = some t) (ht : t = .boolean ∨ t = .byte ∨ t = .char ∨ t = .short) (hd : decode c.code pc = .ok (.ireturn, 1))
    (hz : nar t z = w) (hq : Q (some (.int w)) T.heap locs) (hc : cells ≤ C) (hs : slots ≤ S) : own_EndW p e below s Q C S (T.setTop (mkF m pc Ls (.int z :: rest))) := by
  subst hz
  exact own_outW X hS hk hlk (fun h => by rw [hret] at h; cases h) (fun fs hr => retN X hx hret ht hd hr) hq hc hs
theorem own_retIW (X : Stand p l e R (s.setVm vm0) m args below meth c T locs cells slots) (hS : s.Since vm0 k0) (hk : k0 ≤ T.heap.size) (hx : p.tables.exec = Jvm.exec) (hlk : meth.locks = false) {pc : Nat} {Ls : Array Slot} {z : Int32} {rest : List Value} (hret : meth.sig.returnType = some .int) (hd : decode c.code pc = .ok (.ireturn, 1))
    (hq : Q (some (.int z)) T.heap locs) (hc : cells ≤ C) (hs : slots ≤ S) : own_EndW p e below s Q C S (T.setTop (mkF m pc Ls (.int z :: rest))) :=
  own_outW X hS hk hlk (fun h => by rw [hret] at h; cases h) (fun fs hr => retOut X hx hret rfl (Or.inl ⟨rfl, Or.inl rfl, _, rfl⟩) hd hr) hq hc hs
theorem own_retRW (X : Stand p l e R (s.setVm vm0) m args below meth c T locs cells slots) (hS : s.Since vm0 k0) (hk : k0 ≤ T.heap.size) (hx : p.tables.exec = Jvm.exec) (hlk : meth.locks = false) {pc : Nat} {Ls : Array Slot} {z : Value} {t : FieldType} {rest : List Value} (hret : meth.sig.returnType = some t) (ht : t.isReference = true) (hv : z.isRef = true) (hd : decode c.code pc = .ok (.areturn, 1))
    (hq : Q (some z) T.heap locs) (hc : cells ≤ C) (hs : slots ≤ S) : own_EndW p e below s Q C S (T.setTop (mkF m pc Ls (z :: rest))) :=
  own_outW X hS hk hlk (fun h => by rw [hret] at h; cases h) (fun fs hr => retOut X hx hret (by cases t <;> first | rfl | cases ht) (Or.inr (Or.inr (Or.inr (Or.inr ⟨rfl, ht, hv⟩)))) hd hr) hq hc hs
theorem own_wS {a0 : Array Value} {Z : State} (hw : ∀ d ∈ tables_1, d.before a0 Z = true) : ∀ a ∈ Bundle.stringAtoms, a.before a0 Z = true := fun d hd => by
  simp only [Bundle.stringAtoms, List.mem_cons, List.not_mem_nil, or_false] at hd
  rcases hd with rfl | rfl | rfl | rfl | rfl | rfl | rfl
  · exact (own_w hw 38 rfl)
  · exact (own_w hw 37 rfl)
  · exact (own_w hw 52 rfl)
  · exact (own_w hw 62 rfl)
  · exact (own_w hw 60 rfl)
  · exact (own_w hw 64 rfl)
  · exact (own_w hw 65 rfl)
end OwnWide
section OwnHeld
variable {p : Program} {l : Launch} {e : Env} {R : Room} {s : State} {vm0 vm : Vm} {k0 : Nat} {m : MethodId} {args : Array Value} {below : List Frame} {meth : Method} {c : Code} {T Z : State} {a0 : Array Value} {EL : List (String × Nat)} {locs : List Loc} {cells slots : Nat} {Q : Option Value → Heap → List Loc → Prop} {C S : Nat} {h : Heap}
/-- as own_EndW; and the booked constants stand -/
def own_EndH (Z : State) (EL : List (String × Nat)) (p : Program) (e : Env) (below : List Frame) (s : State) (Q : Option Value → Heap → List Loc → Prop) (C S : Nat) (x : State) : Prop :=
  ∃ t o, Steps p.tables e below x t ∧ t.status = .running ∧ Ended t below o ∧ ∃ v L, o = .returned v ∧ Q v t.heap L ∧ CHr Z EL s.vm s.heap t.vm t.heap ∧ ReturnedEndW s o t L C S
theorem own_goH {x x' : State} (h : ∀ t, Steps p.tables e below x' t → Steps p.tables e below x t) (k : own_EndH Z EL p e below s Q C S x') : own_EndH Z EL p e below s Q C S x := by
  obtain ⟨t, o, h1, h2⟩ := k
  exact ⟨t, o, h t h1, h2⟩
theorem own_monoH {Q' : Option Value → Heap → List Loc → Prop} {x : State} (h : ∀ v h L, Q v h L → Q' v h L) (k : own_EndH Z EL p e below s Q C S x) : own_EndH Z EL p e below s Q' C S x := by
  obtain ⟨t, o, h1, h2, h3, v, L, h4, h5, h6⟩ := k
  exact ⟨t, o, h1, h2, h3, v, L, h4, h _ _ _ h5, h6⟩
theorem own_hr (eT : T.heap = h) (hR : CHr Z EL s.vm s.heap vm0 h) : CHr Z EL s.vm s.heap vm0 T.heap := eT ▸ hR
theorem own_sfn {x : Addr} (hR : CHr Z EL s.vm s.heap vm0 h) (hx : h.size ≤ x) : Safe Z EL vm0 h x := Safe.new hx
theorem own_outH (X : Stand p l e R (s.setVm vm0) m args below meth c T locs cells slots) (hS : s.Since vm0 k0) (hk : k0 ≤ T.heap.size) (hR : CHr Z EL s.vm s.heap vm0 T.heap) (hZ : Z.Warmed39 vm0) (hEL : EW Z a0 EL) (hlk : meth.locks = false) {v : Option Value} (hv : meth.sig.returnType = none → v = none) {x : State}
    (h : ∀ fs, (∀ (f : JFrame) (acts : List Action), f.method = m → f.locked = none → f.entered = [] → (doReturn e (T.setTop f) acts v).1 = T.setFrames fs) → Steps p.tables e below x (T.setFrames fs))
    (hq : Q v T.heap locs) (hc : cells ≤ C) (hs : slots ≤ S) : own_EndH Z EL p e below s Q C S x := by
  have hC := hR.trans (CHv.at X hZ hEL hR.1)
  obtain ⟨fs, hr, hrun, hended, hE⟩ := X.leaveW hS hk hv hlk
  exact ⟨_, _, h fs hr, hrun, hended, _, _, rfl, hq, hC, hE.1, hE.2.1, hE.2.2.1, hE.2.2.2.mono hc hs⟩
theorem own_retVH (X : Stand p l e R (s.setVm vm0) m args below meth c T locs cells slots) (hS : s.Since vm0 k0) (hk : k0 ≤ T.heap.size) (hR : CHr Z EL s.vm s.heap vm0 T.heap) (hZ : Z.Warmed39 vm0) (hEL : EW Z a0 EL) (hx : p.tables.exec = Jvm.exec) (hlk : meth.locks = false) {pc : Nat} {Ls : Array Slot} (hret : meth.sig.returnType = none) (hd : decode c.code pc = .ok (.return_, 1))
    (hq : Q none T.heap locs) (hc : cells ≤ C) (hs : slots ≤ S) : own_EndH Z EL p e below s Q C S (T.setTop (mkF m pc Ls [])) :=
  own_outH X hS hk hR hZ hEL hlk (fun _ => rfl) (fun fs hr => X.returnOut hx hret hd hr) hq hc hs
theorem own_retNH (X : Stand p l e R (s.setVm vm0) m args below meth c T locs cells slots) (hS : s.Since vm0 k0) (hk : k0 ≤ T.heap.size) (hR : CHr Z EL s.vm s.heap vm0 T.heap) (hZ : Z.Warmed39 vm0) (hEL : EW Z a0 EL) (hx : p.tables.exec = Jvm.exec) (hlk : meth.locks = false) {pc : Nat} {Ls : Array Slot} {z w : Int32} {t : FieldType} {rest : List Value} (hret : meth.sig.returnType = some t) (ht : t = .boolean ∨ t = .byte ∨ t = .char ∨ t = .short) (hd : decode c.code pc = .ok (.ireturn, 1))
    (hz : nar t z = w) (hq : Q (some (.int w)) T.heap locs) (hc : cells ≤ C) (hs : slots ≤ S) : own_EndH Z EL p e below s Q C S (T.setTop (mkF m pc Ls (.int z :: rest))) := by
  subst hz
  exact own_outH X hS hk hR hZ hEL hlk (fun h => by rw [hret] at h; cases h) (fun fs hr => retN X hx hret ht hd hr) hq hc hs
theorem own_retRH (X : Stand p l e R (s.setVm vm0) m args below meth c T locs cells slots) (hS : s.Since vm0 k0) (hk : k0 ≤ T.heap.size) (hR : CHr Z EL s.vm s.heap vm0 T.heap) (hZ : Z.Warmed39 vm0) (hEL : EW Z a0 EL) (hx : p.tables.exec = Jvm.exec) (hlk : meth.locks = false) {pc : Nat} {Ls : Array Slot} {z : Value} {t : FieldType} {rest : List Value} (hret : meth.sig.returnType = some t) (ht : t.isReference = true) (hv : z.isRef = true) (hd : decode c.code pc = .ok (.areturn, 1))
    (hq : Q (some z) T.heap locs) (hc : cells ≤ C) (hs : slots ≤ S) : own_EndH Z EL p e below s Q C S (T.setTop (mkF m pc Ls (z :: rest))) :=
  own_outH X hS hk hR hZ hEL hlk (fun h => by rw [hret] at h; cases h) (fun fs hr => retOut X hx hret (by cases t <;> first | rfl | cases ht) (Or.inr (Or.inr (Or.inr (Or.inr ⟨rfl, ht, hv⟩)))) hd hr) hq hc hs
def own_EL : List (String × Nat) := [("java/lang/String", 7)]
theorem own_EW {a0 : Array Value} {Z : State} (hw : ∀ d ∈ tables_1, d.before a0 Z = true) : EW Z a0 own_EL := (EW.cons (own_w hw 63 rfl) (by decide) EW.nil)
/-- a String whose value is still null is none that the tables book -/
theorem own_sfN {x : Addr} (hal : Z.vm.Alike vm) (E : Exa Z h x "java/lang/String") (F0 : Fld Z h x "java/lang/String" "value" "[B" .null) : Safe Z EL vm h x := fun B => by
  obtain ⟨p, -, u, a, -, q, -, F, rfl | rfl⟩ := B
  · obtain ⟨cell, cf, k, i, f, e1, e2, -, -, -, e3⟩ := F0
    cases (show h[q.sa]? = some q.sC from F.ha).symm.trans e1
    obtain ⟨cS, ⟨⟨-, -, -, ⟨c1, k1, i1, f1, -⟩, -, -, -, v1, -⟩, -⟩, -⟩ := F
    obtain ⟨k3, e4, -⟩ := State.fieldFound?_setVm (s := Z) hal e2
    have e5 := (show (Wst Z vm h).fieldFound? "java/lang/String" "value" "[B" = _ from e4).symm.trans f1
    simp only [Option.some.injEq, Prod.mk.injEq] at e5
    rw [← e5.2.2.2] at v1
    simp_all
  · obtain ⟨cell, k, e1, e2, e3, -, -⟩ := E
    cases (show h[q.sd]? = some q.SA from F.hd).symm.trans e1
    obtain ⟨cS, -, -, f, -⟩ := F
    rw [show (Wst Z vm h).vm.findClass "[B" = Z.vm.findClass "[B" from hal.findClass _ _] at f
    obtain ⟨k1, q1, q2⟩ := Vm.findClass_spec f
    obtain ⟨k2, q3, q4⟩ := Vm.findClass_spec e2
    cases q1.symm.trans q3
    exact absurd (q2.symm.trans q4) (by decide)
end OwnHeld
theorem own_c8 (y : Int32) : ¬ (255 : Int32) < nar .char ((y &&& (255 : Int32)).toUInt32.toUInt16.toUInt32.toInt32) := by
  show ¬ (255 : Int32) < ((y &&& (255 : Int32)).toUInt32.toUInt16.toUInt32.toInt32).toUInt32.toUInt16.toUInt32.toInt32
  rw [i2c_mask, i2c_mask]
  have h := c_and y 255 (by decide)
  have e : (255 : Int32).toInt = 255 := by decide
  exact mt Int32.lt_iff_toInt_lt.mp (by omega)
theorem d12_0 : decode jdk_52_method_15_code 0 = .ok (.iload_n 1, 1) := by decide +kernel
theorem d12_1 : decode jdk_52_method_15_code 1 = .ok (.aload_n 0, 1) := by decide +kernel
theorem d12_2 : decode jdk_52_method_15_code 2 = .ok (.arraylength, 1) := by decide +kernel
theorem d12_3 : decode jdk_52_method_15_code 3 = .ok (.isub, 1) := by decide +kernel
theorem d12_4 : decode jdk_52_method_15_code 4 = .ok (.bipush 31, 2) := by decide +kernel
theorem d12_6 : decode jdk_52_method_15_code 6 = .ok (.iushr, 1) := by decide +kernel
theorem d12_7 : decode jdk_52_method_15_code 7 = .ok (.i2b, 1) := by decide +kernel
theorem d12_8 : decode jdk_52_method_15_code 8 = .ok (.ireturn, 1) := by decide +kernel
def Q_rm_cod_1 (Z : State) (ao0 : Addr) (ky : ClassId) (ys : List Value) (h0 : Heap) (n0 : Nat) (v : Option Value) (h : Heap) (L : List Loc) : Prop := v = some (.int (0 : Int32)) ∧ Fr n0 L ∧ h = h0
theorem pn_rm_cod_1 : plainName "java/lang/StringUTF16" = true := by first | (simp [plainName, overriddenIn]; done) | decide +kernel
theorem ef_rm_cod_1 (m : MethodId) (x0 : Addr) (x1 : Int32) : entryFrame m #[(.ref x0), (.int x1)] 2 = mkF m 0 #[.val (.ref x0), .val (.int x1)] [] := by first | (simp [entryFrame, mkF, argsToLocals, Value.category]; done) | rfl
set_option maxRecDepth 65536 in
set_option maxHeartbeats 40000000 in
theorem rm_cod_1 (l : Launch) (Z : State) (a0 : Array Value) (hw : ∀ d ∈ tables_1, d.before a0 Z = true) (ws : List Jvm.Cond) (ao0 : Addr) (ky : ClassId) (ys : List Value) (h0 : Heap) (n0 : Nat) (Z0 : n0 ≤ h0.size) (V_ao0 : Arv Z h0 ao0 ky .byte (1 : Int32) ys (.int (0 : Int32))) :
    MetFree l (⟨"java/lang/StringUTF16", "coderFromArrayLen", "([BI)B"⟩ : MethodName) (head1 (Jvm.Cond.code (⟨"java/lang/StringUTF16", "coderFromArrayLen", "([BI)B"⟩ : MethodName) jdk_52_method_15_code 2 (some .byte) :: ws) ({ frames := 0, cells := 0, slots := 0, locals := 0 } : Room)) (fun a U => a = #[(.ref ao0), (.int 1)] ∧ Z.Warmed39 U.vm ∧ U.heap = h0) (fun _ _ _ _ _ => True) (fun _ U o U' => ∃ v L, o = .returned v ∧ (Q_rm_cod_1 Z ao0 ky ys h0 n0) v U'.heap L ∧ FrameEnd U o U' L ({ frames := 0, cells := 0, slots := 0, locals := 0 } : Room).cells ({ frames := 0, cells := 0, slots := 0, locals := 0 } : Room).slots) := by
  refine MetFree.of_bodySF (plainFor_of_name pn_rm_cod_1) hisR ?_
  intro p e s m args below meth c s₁ Bd hml0 hP hK
  obtain ⟨rfl, hZ, hh⟩ := hP
  have hx := Bd.exec
  have hby := Bd.bytes
  have hlk := BodyLoose.notSynchronized Bd
  have hret := Bd.returns
  have hml : c.maxLocals = 2 := hml0
  have hown : s.vm.findClass "java/lang/StringUTF16" = some m.cls := findClass_of_methodNamed Bd.named
  have hnm := (name_of_methodNamed Bd.named Bd.method).1
  have X0 : Stand p l e ({ frames := 0, cells := 0, slots := 0, locals := 0 } : Room) s m #[(.ref ao0), (.int 1)] below meth c s₁ [] 0 0 := Stand.of_body Bd
  have e0 : s₁.heap = h0 := by rw [← hh, Bd.state]; rfl
  have Nf := Fr.nil n0
  have Zs := Z0
  have Kp : Keep h0 h0 [] := Keep.refl _ _
  show own_End p e below s (Q_rm_cod_1 Z ao0 ky ys h0 n0) ({ frames := 0, cells := 0, slots := 0, locals := 0 } : Room).cells ({ frames := 0, cells := 0, slots := 0, locals := 0 } : Room).slots (s₁.setTop (entryFrame m #[(.ref ao0), (.int 1)] 2))
  refine own_go (x' := s₁.setTop (mkF m 0 #[.val (.ref ao0), .val (.int 1)] [])) (fun t k => castTop (ef_rm_cod_1 m ao0 (1 : Int32)) k) ?_
  refine own_go (x' := s₁.setTop (mkF m 2 #[.val (.ref ao0), .val (.int 1)] [(.ref ao0), (.int 1)])) (fun _ k => XS.iloadN X0.here hx rfl (hb hby d12_0) rfl (XS.aloadN X0.here hx rfl (hb hby d12_1) rfl rfl k)) ?_
  obtain ⟨cl1, Ar1, -, Sz1, Nn1, -, -⟩ := id V_ao0
  refine own_go (x' := s₁.setTop (mkF m 3 #[.val (.ref ao0), .val (.int 1)] [(.int 1), (.int 1)])) (fun t k => X0.arraylength hx (Eq.trans (congrArg (fun h_ => h_[_]?) e0) Ar1.1) (State.isArrayOf_alike hZ.alike Ar1.2.1) (g := (mkF m 2 #[.val (.ref ao0), .val (.int 1)] [(.ref ao0), (.int 1)])) rfl rfl (hb hby d12_2) t (by rw [len_of Sz1 Nn1]; exact k)) ?_
  refine own_go (x' := s₁.setTop (mkF m 8 #[.val (.ref ao0), .val (.int 1)] [(.int (((((1 : Int32) - (1 : Int32)).toUInt32 >>> ((31 : Int32) &&& 31).toUInt32).toInt32).toInt8.toInt32))])) (fun _ k => XS.isub X0.here hx rfl (hb hby d12_3) rfl (XS.bipush X0.here hx rfl (hb hby d12_4) (XS.iushr X0.here hx rfl (hb hby d12_6) rfl (XS.i2b X0.here hx rfl (hb hby d12_7) rfl k)))) ?_
  rw [show (((((1 : Int32) - (1 : Int32)).toUInt32 >>> ((31 : Int32) &&& 31).toUInt32).toInt32).toInt8.toInt32) = (0 : Int32) from by decide +kernel]
  refine own_retN X0 hx hlk (t := .byte) hret (by simp) (hb hby d12_8) (w := (0 : Int32)) rfl ?_ (by decide) (by decide)
  rw [e0]
  exact ⟨rfl, Nf, rfl⟩
theorem d11_0 : decode jdk_52_method_21_code 0 = .ok (.iconst 0, 1) := by decide +kernel
theorem d11_1 : decode jdk_52_method_21_code 1 = .ok (.istore 5, 2) := by decide +kernel
theorem d11_3 : decode jdk_52_method_21_code 3 = .ok (.iload 5, 2) := by decide +kernel
theorem d11_5 : decode jdk_52_method_21_code 5 = .ok (.iload 4, 2) := by decide +kernel
theorem d11_7 : decode jdk_52_method_21_code 7 = .ok (.if_icmp .ge 37, 3) := by decide +kernel
theorem d11_10 : decode jdk_52_method_21_code 10 = .ok (.aload_n 0, 1) := by decide +kernel
theorem d11_11 : decode jdk_52_method_21_code 11 = .ok (.iload_n 1, 1) := by decide +kernel
theorem d11_12 : decode jdk_52_method_21_code 12 = .ok (.caload, 1) := by decide +kernel
theorem d11_13 : decode jdk_52_method_21_code 13 = .ok (.istore 6, 2) := by decide +kernel
theorem d11_15 : decode jdk_52_method_21_code 15 = .ok (.iload 6, 2) := by decide +kernel
theorem d11_17 : decode jdk_52_method_21_code 17 = .ok (.sipush 255, 3) := by decide +kernel
theorem d11_20 : decode jdk_52_method_21_code 20 = .ok (.if_icmp .le 6, 3) := by decide +kernel
theorem d11_26 : decode jdk_52_method_21_code 26 = .ok (.aload_n 2, 1) := by decide +kernel
theorem d11_27 : decode jdk_52_method_21_code 27 = .ok (.iload_n 3, 1) := by decide +kernel
theorem d11_28 : decode jdk_52_method_21_code 28 = .ok (.iload 6, 2) := by decide +kernel
theorem d11_30 : decode jdk_52_method_21_code 30 = .ok (.i2b, 1) := by decide +kernel
theorem d11_31 : decode jdk_52_method_21_code 31 = .ok (.bastore, 1) := by decide +kernel
theorem d11_32 : decode jdk_52_method_21_code 32 = .ok (.iinc 1 1, 3) := by decide +kernel
theorem d11_35 : decode jdk_52_method_21_code 35 = .ok (.iinc 3 1, 3) := by decide +kernel
theorem d11_38 : decode jdk_52_method_21_code 38 = .ok (.iinc 5 1, 3) := by decide +kernel
theorem d11_41 : decode jdk_52_method_21_code 41 = .ok (.goto (-38), 3) := by decide +kernel
theorem d11_44 : decode jdk_52_method_21_code 44 = .ok (.iload 4, 2) := by decide +kernel
theorem d11_46 : decode jdk_52_method_21_code 46 = .ok (.ireturn, 1) := by decide +kernel
def Q_rm_cmp_1 (Z : State) (ao0 ao2 : Addr) (kx ky : ClassId) (x0 : Int32) (h0 : Heap) (n0 : Nat) (v : Option Value) (h : Heap) (L : List Loc) : Prop := v = some (.int (1 : Int32)) ∧ Fr n0 L ∧ Keep h0 h [ao2] ∧ Arv Z h ao2 ky .byte (1 : Int32) [(.int (nar .byte (x0.toInt8.toInt32)))] (.int (0 : Int32))
theorem pn_rm_cmp_1 : plainName "java/lang/StringUTF16" = true := by first | (simp [plainName, overriddenIn]; done) | decide +kernel
theorem ef_rm_cmp_1 (m : MethodId) (x0 : Addr) (x1 : Int32) (x2 : Addr) (x3 : Int32) (x4 : Int32) : entryFrame m #[(.ref x0), (.int x1), (.ref x2), (.int x3), (.int x4)] 7 = mkF m 0 #[.val (.ref x0), .val (.int x1), .val (.ref x2), .val (.int x3), .val (.int x4), .unset, .unset] [] := by first | (simp [entryFrame, mkF, argsToLocals, Value.category]; done) | rfl
set_option maxRecDepth 65536 in
set_option maxHeartbeats 40000000 in
theorem rm_cmp_1 (l : Launch) (Z : State) (a0 : Array Value) (hw : ∀ d ∈ tables_1, d.before a0 Z = true) (ws : List Jvm.Cond) (ao0 ao2 : Addr) (kx ky : ClassId) (x0 : Int32) (h0 : Heap) (n0 : Nat) (Z0 : n0 ≤ h0.size) (V_ao0 : Arv Z h0 ao0 kx .char (1 : Int32) [.int x0] (.int (0 : Int32))) (V_ao2 : Arv Z h0 ao2 ky .byte (1 : Int32) [(.int (0 : Int32))] (.int (0 : Int32))) (hx0 : ¬ (255 : Int32) < x0) (ne_ao0_ao2 : ao0 ≠ ao2) (g_ao2 : n0 ≤ ao2) :
    MetFree l (⟨"java/lang/StringUTF16", "compress", "([CI[BII)I"⟩ : MethodName) (head1 (Jvm.Cond.code (⟨"java/lang/StringUTF16", "compress", "([CI[BII)I"⟩ : MethodName) jdk_52_method_21_code 7 (some .int) :: ws) ({ frames := 0, cells := 0, slots := 0, locals := 0 } : Room)) (fun a U => a = #[(.ref ao0), (.int 0), (.ref ao2), (.int 0), (.int 1)] ∧ Z.Warmed39 U.vm ∧ U.heap = h0) (fun _ _ _ _ _ => True) (fun _ U o U' => ∃ v L, o = .returned v ∧ (Q_rm_cmp_1 Z ao0 ao2 kx ky x0 h0 n0) v U'.heap L ∧ FrameEnd U o U' L ({ frames := 0, cells := 0, slots := 0, locals := 0 } : Room).cells ({ frames := 0, cells := 0, slots := 0, locals := 0 } : Room).slots) := by
  refine MetFree.of_bodySF (plainFor_of_name pn_rm_cmp_1) hisR ?_
  intro p e s m args below meth c s₁ Bd hml0 hP hK
  obtain ⟨rfl, hZ, hh⟩ := hP
  have hx := Bd.exec
  have hby := Bd.bytes
  have hlk := BodyLoose.notSynchronized Bd
  have hret := Bd.returns
  have hml : c.maxLocals = 7 := hml0
  have hown : s.vm.findClass "java/lang/StringUTF16" = some m.cls := findClass_of_methodNamed Bd.named
  have hnm := (name_of_methodNamed Bd.named Bd.method).1
  have X0 : Stand p l e ({ frames := 0, cells := 0, slots := 0, locals := 0 } : Room) s m #[(.ref ao0), (.int 0), (.ref ao2), (.int 0), (.int 1)] below meth c s₁ [] 0 0 := Stand.of_body Bd
  have e0 : s₁.heap = h0 := by rw [← hh, Bd.state]; rfl
  have Nf := Fr.nil n0
  have Zs := Z0
  have Kp : Keep h0 h0 [ao2] := Keep.refl _ _
  show own_End p e below s (Q_rm_cmp_1 Z ao0 ao2 kx ky x0 h0 n0) ({ frames := 0, cells := 0, slots := 0, locals := 0 } : Room).cells ({ frames := 0, cells := 0, slots := 0, locals := 0 } : Room).slots (s₁.setTop (entryFrame m #[(.ref ao0), (.int 0), (.ref ao2), (.int 0), (.int 1)] 7))
  refine own_go (x' := s₁.setTop (mkF m 0 #[.val (.ref ao0), .val (.int 0), .val (.ref ao2), .val (.int 0), .val (.int 1), .unset, .unset] [])) (fun t k => castTop (ef_rm_cmp_1 m ao0 (0 : Int32) ao2 (0 : Int32) (1 : Int32)) k) ?_
  refine own_go (x' := s₁.setTop (mkF m 11 #[.val (.ref ao0), .val (.int 0), .val (.ref ao2), .val (.int 0), .val (.int 1), .val (.int 0), .unset] [(.ref ao0)])) (fun _ k => XS.iconst X0.here hx rfl (hb hby d11_0) (XS.istore X0.here hx rfl (hb hby d11_1) rfl (l' := #[.val (.ref ao0), .val (.int 0), .val (.ref ao2), .val (.int 0), .val (.int 1), .val (.int 0), .unset]) rfl (XS.iload X0.here hx rfl (hb hby d11_3) rfl (XS.iload X0.here hx rfl (hb hby d11_5) rfl (XS.icmpNo X0.here hx rfl (hb hby d11_7) rfl (tlt (by decide +kernel : ((0 : Int32) < (1 : Int32)))).2.1 (XS.aloadN X0.here hx rfl (hb hby d11_10) rfl rfl k)))))) ?_
  refine own_go (x' := s₁.setTop (mkF m 12 #[.val (.ref ao0), .val (.int 0), .val (.ref ao2), .val (.int 0), .val (.int 1), .val (.int 0), .unset] [(.int 0), (.ref ao0)])) (fun _ k => XS.iloadN X0.here hx rfl (hb hby d11_11) rfl k) ?_
  obtain ⟨cl1, Ar1, q1, Sz1, Nn1, Hh1, Gg1⟩ := id V_ao0
  have hin1 : ¬ ((0 : Int32) < 0 ∨ cl1.slots.size ≤ ((0 : Int32)).toNatClampNeg) := inb_of Sz1 ⟨by decide, by decide⟩
  refine own_go (x' := s₁.setTop (mkF m 13 #[.val (.ref ao0), .val (.int 0), .val (.ref ao2), .val (.int 0), .val (.int 1), .val (.int 0), .unset] [(.int x0)])) (X0.caload hx (j := (0 : Int32)) (v := (.int x0)) (Eq.trans (congrArg (fun h_ => h_[_]?) e0) Ar1.1) (State.isArrayOf_alike hZ.alike Ar1.2.1) Ar1.2.2 hin1 (Hh1.at hin1 rfl) (g := (mkF m 12 #[.val (.ref ao0), .val (.int 0), .val (.ref ao2), .val (.int 0), .val (.int 1), .val (.int 0), .unset] [(.int 0), (.ref ao0)])) rfl rfl (hb hby d11_12)) ?_
  refine own_go (x' := s₁.setTop (mkF m 28 #[.val (.ref ao0), .val (.int 0), .val (.ref ao2), .val (.int 0), .val (.int 1), .val (.int 0), .val (.int x0)] [(.int 0), (.ref ao2)])) (fun _ k => XS.istore X0.here hx rfl (hb hby d11_13) rfl (l' := #[.val (.ref ao0), .val (.int 0), .val (.ref ao2), .val (.int 0), .val (.int 1), .val (.int 0), .val (.int x0)]) rfl (XS.iload X0.here hx rfl (hb hby d11_15) rfl (XS.sipush X0.here hx rfl (hb hby d11_17) (XS.icmpYes X0.here hx rfl (pc0 := 20) (pc' := 26) rfl (hb hby d11_20) rfl (flt hx0).2.2.2 (by decide) (by decide) (XS.aloadN X0.here hx rfl (hb hby d11_26) rfl rfl (XS.iloadN X0.here hx rfl (hb hby d11_27) rfl k)))))) ?_
  refine own_go (x' := s₁.setTop (mkF m 31 #[.val (.ref ao0), .val (.int 0), .val (.ref ao2), .val (.int 0), .val (.int 1), .val (.int 0), .val (.int x0)] [(.int (x0.toInt8.toInt32)), (.int 0), (.ref ao2)])) (fun _ k => XS.iload X0.here hx rfl (hb hby d11_28) rfl (XS.i2b X0.here hx rfl (hb hby d11_30) rfl k)) ?_
  obtain ⟨cl2, Ar2, q2, Sz2, Nn2, Hh2, Gg2⟩ := V_ao2
  have hin2 : ¬ ((0 : Int32) < 0 ∨ cl2.slots.size ≤ ((0 : Int32)).toNatClampNeg) := inb_of Sz2 ⟨by decide, by decide⟩
  obtain ⟨T2, h2, X2, e2, W2, st2⟩ := stB X0 hx hZ e0 Ar2 (j := (0 : Int32)) hin2 (g := (mkF m 31 #[.val (.ref ao0), .val (.int 0), .val (.ref ao2), .val (.int 0), .val (.int 1), .val (.int 0), .val (.int x0)] [(.int (x0.toInt8.toInt32)), (.int 0), (.ref ao2)])) rfl rfl (hb hby d11_31)
  refine own_go (x' := T2.setTop (mkF m 32 #[.val (.ref ao0), .val (.int 0), .val (.ref ao2), .val (.int 0), .val (.int 1), .val (.int 0), .val (.int x0)] [])) st2 ?_
  replace V_ao0 := V_ao0.other W2 ne_ao0_ao2
  replace Zs := Nat.le_trans Zs (Keep.of_wr W2).1
  replace Nf := Fr.snoc X2 Nf g_ao2
  replace Kp := Kp.wr W2 (Or.inl (by simp))
  have V_ao2 : Arv Z h2 ao2 ky .byte (1 : Int32) [(.int (nar .byte (x0.toInt8.toInt32)))] (.int 0) := Arv.set Ar2 q2 Sz2 Nn2 Hh2 Gg2 (fits_nar_byte _) W2 0 rfl (Nat.le_of_ble_eq_true rfl)
  refine own_go (x' := T2.setTop (mkF m 3 #[.val (.ref ao0), .val (.int ((0 : Int32) + (1 : Int32))), .val (.ref ao2), .val (.int ((0 : Int32) + (1 : Int32))), .val (.int 1), .val (.int ((0 : Int32) + (1 : Int32))), .val (.int x0)] [])) (fun _ k => XS.iinc X2.here hx rfl (hb hby d11_32) rfl (l' := #[.val (.ref ao0), .val (.int ((0 : Int32) + (1 : Int32))), .val (.ref ao2), .val (.int 0), .val (.int 1), .val (.int 0), .val (.int x0)]) rfl (XS.iinc X2.here hx rfl (hb hby d11_35) rfl (l' := #[.val (.ref ao0), .val (.int ((0 : Int32) + (1 : Int32))), .val (.ref ao2), .val (.int ((0 : Int32) + (1 : Int32))), .val (.int 1), .val (.int 0), .val (.int x0)]) rfl (XS.iinc X2.here hx rfl (hb hby d11_38) rfl (l' := #[.val (.ref ao0), .val (.int ((0 : Int32) + (1 : Int32))), .val (.ref ao2), .val (.int ((0 : Int32) + (1 : Int32))), .val (.int 1), .val (.int ((0 : Int32) + (1 : Int32))), .val (.int x0)]) rfl (XS.goto X2.here hx rfl (pc0 := 41) (pc' := 3) rfl (hb hby d11_41) (by decide) (by decide) k)))) ?_
  rw [show ((0 : Int32) + (1 : Int32)) = (1 : Int32) from by decide +kernel]
  refine own_go (x' := T2.setTop (mkF m 46 #[.val (.ref ao0), .val (.int 1), .val (.ref ao2), .val (.int 1), .val (.int 1), .val (.int 1), .val (.int x0)] [(.int 1)])) (fun _ k => XS.iload X2.here hx rfl (hb hby d11_3) rfl (XS.iload X2.here hx rfl (hb hby d11_5) rfl (XS.icmpYes X2.here hx rfl (pc0 := 7) (pc' := 44) rfl (hb hby d11_7) rfl (flt (Int32.lt_irrefl)).2.1 (by decide) (by decide) (XS.iload X2.here hx rfl (hb hby d11_44) rfl k)))) ?_
  refine own_retI X2 hx hlk hret (hb hby d11_46) ?_ (by decide) (by decide)
  rw [e2]
  exact ⟨rfl, Nf, Kp, V_ao2⟩
theorem pd_0 : parseMethodDescriptor "([CI[BII)I" = some ⟨[(.array .char), .int, (.array .byte), .int, .int], some .int⟩ := by decide +kernel
theorem d10_0 : decode jdk_52_method_16_code 0 = .ok (.iload_n 2, 1) := by decide +kernel
theorem d10_1 : decode jdk_52_method_16_code 1 = .ok (.newarray .byte, 2) := by decide +kernel
theorem d10_3 : decode jdk_52_method_16_code 3 = .ok (.astore_n 3, 1) := by decide +kernel
theorem d10_4 : decode jdk_52_method_16_code 4 = .ok (.aload_n 0, 1) := by decide +kernel
theorem d10_5 : decode jdk_52_method_16_code 5 = .ok (.iload_n 1, 1) := by decide +kernel
theorem d10_6 : decode jdk_52_method_16_code 6 = .ok (.aload_n 3, 1) := by decide +kernel
theorem d10_7 : decode jdk_52_method_16_code 7 = .ok (.iconst 0, 1) := by decide +kernel
theorem d10_8 : decode jdk_52_method_16_code 8 = .ok (.iload_n 2, 1) := by decide +kernel
theorem d10_9 : decode jdk_52_method_16_code 9 = .ok (.invokestatic 115, 3) := by decide +kernel
theorem d10_12 : decode jdk_52_method_16_code 12 = .ok (.istore 4, 2) := by decide +kernel
theorem d10_14 : decode jdk_52_method_16_code 14 = .ok (.iload 4, 2) := by decide +kernel
theorem d10_16 : decode jdk_52_method_16_code 16 = .ok (.iload_n 2, 1) := by decide +kernel
theorem d10_17 : decode jdk_52_method_16_code 17 = .ok (.if_icmp .eq 40, 3) := by decide +kernel
theorem d10_57 : decode jdk_52_method_16_code 57 = .ok (.aload_n 3, 1) := by decide +kernel
theorem d10_58 : decode jdk_52_method_16_code 58 = .ok (.areturn, 1) := by decide +kernel
def Q_rm_cmpb_1 (Z : State) (ao0 : Addr) (kx : ClassId) (x0 : Int32) (h0 : Heap) (n0 : Nat) (v : Option Value) (h : Heap) (L : List Loc) : Prop := ∃ (b : Addr) (kb : ClassId), v = some (.ref b) ∧ Fr n0 L ∧ Keep h0 h [] ∧ h0.size ≤ b ∧ n0 ≤ b ∧ Arv Z h b kb .byte (1 : Int32) [(.int (nar .byte (x0.toInt8.toInt32)))] (.int (0 : Int32))
theorem pn_rm_cmpb_1 : plainName "java/lang/StringUTF16" = true := by first | (simp [plainName, overriddenIn]; done) | decide +kernel
theorem ef_rm_cmpb_1 (m : MethodId) (x0 : Addr) (x1 : Int32) (x2 : Int32) : entryFrame m #[(.ref x0), (.int x1), (.int x2)] 6 = mkF m 0 #[.val (.ref x0), .val (.int x1), .val (.int x2), .unset, .unset, .unset] [] := by first | (simp [entryFrame, mkF, argsToLocals, Value.category]; done) | rfl
set_option maxRecDepth 65536 in
set_option maxHeartbeats 40000000 in
theorem rm_cmpb_1 (l : Launch) (Z : State) (a0 : Array Value) (hw : ∀ d ∈ tables_1, d.before a0 Z = true) (ws : List Jvm.Cond) (ao0 : Addr) (kx : ClassId) (x0 : Int32) (h0 : Heap) (n0 : Nat) (Z0 : n0 ≤ h0.size) (V_ao0 : Arv Z h0 ao0 kx .char (1 : Int32) [.int x0] (.int (0 : Int32))) (hx0 : ¬ (255 : Int32) < x0) :
    MetFree l (⟨"java/lang/StringUTF16", "compress", "([CII)[B"⟩ : MethodName) (head1 (Jvm.Cond.code (⟨"java/lang/StringUTF16", "compress", "([CII)[B"⟩ : MethodName) jdk_52_method_16_code 6 (some (.array .byte)) :: ws) ({ frames := 1, cells := 1, slots := 1, locals := 18 } : Room)) (fun a U => a = #[(.ref ao0), (.int 0), (.int 1)] ∧ Z.Warmed39 U.vm ∧ U.heap = h0) (fun _ _ _ _ _ => True) (fun _ U o U' => ∃ v L, o = .returned v ∧ (Q_rm_cmpb_1 Z ao0 kx x0 h0 n0) v U'.heap L ∧ FrameEnd U o U' L ({ frames := 1, cells := 1, slots := 1, locals := 18 } : Room).cells ({ frames := 1, cells := 1, slots := 1, locals := 18 } : Room).slots) := by
  refine MetFree.of_bodySF (plainFor_of_name pn_rm_cmpb_1) hisR ?_
  intro p e s m args below meth c s₁ Bd hml0 hP hK
  obtain ⟨rfl, hZ, hh⟩ := hP
  have hx := Bd.exec
  have hby := Bd.bytes
  have hlk := BodyLoose.notSynchronized Bd
  have hret := Bd.returns
  have hml : c.maxLocals = 6 := hml0
  have hown : s.vm.findClass "java/lang/StringUTF16" = some m.cls := findClass_of_methodNamed Bd.named
  have hnm := (name_of_methodNamed Bd.named Bd.method).1
  have X0 : Stand p l e ({ frames := 1, cells := 1, slots := 1, locals := 18 } : Room) s m #[(.ref ao0), (.int 0), (.int 1)] below meth c s₁ [] 0 0 := Stand.of_body Bd
  have e0 : s₁.heap = h0 := by rw [← hh, Bd.state]; rfl
  have Nf := Fr.nil n0
  have Zs := Z0
  have Kp : Keep h0 h0 [] := Keep.refl _ _
  show own_End p e below s (Q_rm_cmpb_1 Z ao0 kx x0 h0 n0) ({ frames := 1, cells := 1, slots := 1, locals := 18 } : Room).cells ({ frames := 1, cells := 1, slots := 1, locals := 18 } : Room).slots (s₁.setTop (entryFrame m #[(.ref ao0), (.int 0), (.int 1)] 6))
  refine own_go (x' := s₁.setTop (mkF m 0 #[.val (.ref ao0), .val (.int 0), .val (.int 1), .unset, .unset, .unset] [])) (fun t k => castTop (ef_rm_cmpb_1 m ao0 (0 : Int32) (1 : Int32)) k) ?_
  refine own_go (x' := s₁.setTop (mkF m 1 #[.val (.ref ao0), .val (.int 0), .val (.int 1), .unset, .unset, .unset] [(.int 1)])) (fun _ k => XS.iloadN X0.here hx rfl (hb hby d10_0) rfl k) ?_
  obtain ⟨T1, h1, k1, X1, e1, E1, A1, st1⟩ := newP X0 hx hZ (own_w hw 52 rfl) e0 (g := (mkF m 1 #[.val (.ref ao0), .val (.int 0), .val (.int 1), .unset, .unset, .unset] [(.int 1)])) rfl (hb hby d10_1) rfl (by decide) (cap := 1) (by decide) (by decide) (by decide) (by decide)
  obtain ⟨b1, g1⟩ : ∃ z, z = h0.size := ⟨_, rfl⟩
  rw [← g1] at A1 st1
  have ne_ao0_b1 : ao0 ≠ b1 := Nat.ne_of_lt (Nat.lt_of_lt_of_le V_ao0.lt (Nat.le_of_eq g1.symm))
  have g_b1 : n0 ≤ b1 := Nat.le_trans Zs (Nat.le_of_eq g1.symm)
  have sz_b1 : h0.size ≤ b1 := Nat.le_trans Kp.1 (Nat.le_of_eq g1.symm)
  replace V_ao0 := V_ao0.ext E1
  replace Zs := Nat.le_trans Zs E1.1
  replace Kp := Kp.ext E1
  have V_b1 : Arv Z h1 b1 k1 .byte (1 : Int32) [(.int 0)] (.int 0) := (Arv.new A1 (by decide)).pad (pad_rep [] (.int 0) 1)
  refine own_go (x' := T1.setTop (mkF m 3 #[.val (.ref ao0), .val (.int 0), .val (.int 1), .unset, .unset, .unset] [(.ref b1)])) st1 ?_
  refine own_go (x' := T1.setTop (mkF m 9 #[.val (.ref ao0), .val (.int 0), .val (.int 1), .val (.ref b1), .unset, .unset] [(.int 1), (.int 0), (.ref b1), (.int 0), (.ref ao0)])) (fun _ k => XS.astoreN X1.here hx rfl (hb hby d10_3) rfl rfl (l' := #[.val (.ref ao0), .val (.int 0), .val (.int 1), .val (.ref b1), .unset, .unset]) rfl (XS.aloadN X1.here hx rfl (hb hby d10_4) rfl rfl (XS.iloadN X1.here hx rfl (hb hby d10_5) rfl (XS.aloadN X1.here hx rfl (hb hby d10_6) rfl rfl (XS.iconst X1.here hx rfl (hb hby d10_7) (XS.iloadN X1.here hx rfl (hb hby d10_8) rfl k)))))) ?_
  obtain ⟨_, _, ⟨T2, L2, k2, n2⟩, -, X2, ⟨Lc2, hQ2, l2, y2, z2⟩, st2⟩ := Jvm.LawKit.callS X1 hx (y := (⟨"java/lang/StringUTF16", "compress", "([CI[BII)I"⟩ : MethodName)) hown (mvT hZ (own_w hw 53 rfl)) (mvT hZ (own_w hw 54 rfl)) (mvT hZ (own_w hw 50 rfl)) (mvT hZ (own_w hw 55 rfl)) (by decide) (backOf (W := 0) (rm_cmp_1 l Z a0 hw [] ao0 b1 kx k1 x0 h1 n0 Zs V_ao0 V_b1 hx0 ne_ao0_b1 g_b1) hZ (own_w hw 55 rfl) (own_w hw 50 rfl) (by decide) (by decide)) (g := (mkF m 9 #[.val (.ref ao0), .val (.int 0), .val (.int 1), .val (.ref b1), .unset, .unset] [(.int 1), (.int 0), (.ref b1), (.int 0), (.ref ao0)])) rfl (by rw [hml]; rfl) (argsL := [(.ref ao0), (.int 0), (.ref b1), (.int 0), (.int 1)]) (rest := []) (lenOf pd_0 rfl) rfl (by show 2 * 0 + _ ≤ _; exact Nat.le_of_eq rfl) (hb hby d10_9) (fun _ _ => ⟨rfl, e1, (by decide : 1 + 0 ≤ _), (by decide : 1 + 0 ≤ _)⟩)
  dsimp only [Pt.U, Pt.locs, Pt.cells, Pt.slots] at X2 l2 y2 z2 st2 hQ2
  subst l2 y2 z2
  obtain ⟨hv2, Nq2, K2, Vb2⟩ := hQ2
  subst hv2
  replace Nf := Fr.app Nf Nq2
  replace V_ao0 := V_ao0.keep K2 (ninS ne_ao0_b1 nin0)
  replace Zs := Nat.le_trans Zs K2.1
  replace Kp := Kp.trans K2 (allS (Or.inr sz_b1) all0)
  replace V_b1 := Vb2
  refine own_go (x' := T2.setTop (mkF m 12 #[.val (.ref ao0), .val (.int 0), .val (.int 1), .val (.ref b1), .unset, .unset] [(.int 1)])) st2 ?_
  refine own_go (x' := T2.setTop (mkF m 58 #[.val (.ref ao0), .val (.int 0), .val (.int 1), .val (.ref b1), .val (.int 1), .unset] [(.ref b1)])) (fun _ k => XS.istore X2.here hx rfl (hb hby d10_12) rfl (l' := #[.val (.ref ao0), .val (.int 0), .val (.int 1), .val (.ref b1), .val (.int 1), .unset]) rfl (XS.iload X2.here hx rfl (hb hby d10_14) rfl (XS.iloadN X2.here hx rfl (hb hby d10_16) rfl (XS.icmpYes X2.here hx rfl (pc0 := 17) (pc' := 57) rfl (hb hby d10_17) rfl (teq rfl).1 (by decide) (by decide) (XS.aloadN X2.here hx rfl (hb hby d10_57) rfl rfl k))))) ?_
  refine own_retR X2 hx hlk hret rfl rfl (hb hby d10_58) ?_ (by decide) (by decide)
  exact ⟨b1, k1, rfl, Nf, Kp, sz_b1, g_b1, V_b1⟩
theorem pd_1 : parseMethodDescriptor "([CII)[B" = some ⟨[(.array .char), .int, .int], some (.array .byte)⟩ := by decide +kernel
theorem pd_2 : parseMethodDescriptor "([BI)B" = some ⟨[(.array .byte), .int], some .byte⟩ := by decide +kernel
theorem d9_0 : decode jdk_42_method_149_code 0 = .ok (.aload_n 0, 1) := by decide +kernel
theorem d9_1 : decode jdk_42_method_149_code 1 = .ok (.invokespecial 1, 3) := by decide +kernel
theorem d9_4 : decode jdk_42_method_149_code 4 = .ok (.iload_n 3, 1) := by decide +kernel
theorem d9_5 : decode jdk_42_method_149_code 5 = .ok (.ifCond .ne 22, 3) := by decide +kernel
theorem d9_27 : decode jdk_42_method_149_code 27 = .ok (.getstatic 38, 3) := by decide +kernel
theorem d9_30 : decode jdk_42_method_149_code 30 = .ok (.ifCond .eq 28, 3) := by decide +kernel
theorem d9_33 : decode jdk_42_method_149_code 33 = .ok (.aload_n 1, 1) := by decide +kernel
theorem d9_34 : decode jdk_42_method_149_code 34 = .ok (.iload_n 2, 1) := by decide +kernel
theorem d9_35 : decode jdk_42_method_149_code 35 = .ok (.iload_n 3, 1) := by decide +kernel
theorem d9_36 : decode jdk_42_method_149_code 36 = .ok (.invokestatic 177, 3) := by decide +kernel
theorem d9_39 : decode jdk_42_method_149_code 39 = .ok (.astore 5, 2) := by decide +kernel
theorem d9_41 : decode jdk_42_method_149_code 41 = .ok (.aload_n 0, 1) := by decide +kernel
theorem d9_42 : decode jdk_42_method_149_code 42 = .ok (.aload 5, 2) := by decide +kernel
theorem d9_44 : decode jdk_42_method_149_code 44 = .ok (.iload_n 3, 1) := by decide +kernel
theorem d9_45 : decode jdk_42_method_149_code 45 = .ok (.invokestatic 47, 3) := by decide +kernel
theorem d9_48 : decode jdk_42_method_149_code 48 = .ok (.putfield 15, 3) := by decide +kernel
theorem d9_51 : decode jdk_42_method_149_code 51 = .ok (.aload_n 0, 1) := by decide +kernel
theorem d9_52 : decode jdk_42_method_149_code 52 = .ok (.aload 5, 2) := by decide +kernel
theorem d9_54 : decode jdk_42_method_149_code 54 = .ok (.putfield 9, 3) := by decide +kernel
theorem d9_57 : decode jdk_42_method_149_code 57 = .ok (.return_, 1) := by decide +kernel
def Q_rm_new4_1 (Z : State) (ao0 ao1 : Addr) (kx : ClassId) (x0 : Int32) (G1 : Int32) (h0 : Heap) (n0 : Nat) (v : Option Value) (h : Heap) (L : List Loc) : Prop := ∃ (b : Addr) (kb : ClassId), v = none ∧ Fr n0 L ∧ Keep h0 h [ao0] ∧ h0.size ≤ b ∧ n0 ≤ b ∧ Exa Z h ao0 "java/lang/String" ∧ Fld Z h ao0 "java/lang/String" "value" "[B" (.ref b) ∧ Fld Z h ao0 "java/lang/String" "coder" "B" (.int (nar .byte (0 : Int32))) ∧ Arv Z h b kb .byte (1 : Int32) [(.int (nar .byte (x0.toInt8.toInt32)))] (.int (0 : Int32))
theorem pn_rm_new4_1 : plainName "java/lang/String" = true := by first | (simp [plainName, overriddenIn]; done) | decide +kernel
theorem ef_rm_new4_1 (m : MethodId) (x0 : Addr) (x1 : Addr) (x2 : Int32) (x3 : Int32) : entryFrame m #[(.ref x0), (.ref x1), (.int x2), (.int x3), .null] 6 = mkF m 0 #[.val (.ref x0), .val (.ref x1), .val (.int x2), .val (.int x3), .val .null, .unset] [] := by first | (simp [entryFrame, mkF, argsToLocals, Value.category]; done) | rfl
set_option maxRecDepth 65536 in
set_option maxHeartbeats 40000000 in
theorem rm_new4_1 (l : Launch) (Z : State) (a0 : Array Value) (hw : ∀ d ∈ tables_1, d.before a0 Z = true) (ws : List Jvm.Cond) (ao0 ao1 : Addr) (kx : ClassId) (x0 : Int32) (G1 : Int32) (h0 : Heap) (n0 : Nat) (Z0 : n0 ≤ h0.size) (E_ao0 : Exa Z h0 ao0 "java/lang/String") (F_ao0_value : Fld Z h0 ao0 "java/lang/String" "value" "[B" .null) (F_ao0_coder : Fld Z h0 ao0 "java/lang/String" "coder" "B" (.int 0)) (V_ao1 : Arv Z h0 ao1 kx .char (1 : Int32) [.int x0] (.int (0 : Int32))) (hx0 : ¬ (255 : Int32) < x0) (Od : Old Z n0 h0) (S_COMPACT_STRINGS : Sta Z Z.heap "java/lang/String" "COMPACT_STRINGS" "Z" (.int G1)) (hG : ¬ G1 = (0 : Int32)) (ne_ao0_ao1 : ao0 ≠ ao1) (g_ao0 : n0 ≤ ao0) :
    MetFree l (⟨"java/lang/String", "<init>", "([CIILjava/lang/Void;)V"⟩ : MethodName) (head1 (Jvm.Cond.code (⟨"java/lang/String", "<init>", "([CIILjava/lang/Void;)V"⟩ : MethodName) jdk_42_method_149_code 6 none :: ws) ({ frames := 2, cells := 1, slots := 1, locals := 35 } : Room)) (fun a U => a = #[(.ref ao0), (.ref ao1), (.int 0), (.int 1), .null] ∧ Z.Warmed39 U.vm ∧ U.heap = h0) (fun _ _ _ _ _ => True) (fun _ U o U' => ∃ v L, o = .returned v ∧ (Q_rm_new4_1 Z ao0 ao1 kx x0 G1 h0 n0) v U'.heap L ∧ FrameEnd U o U' L ({ frames := 2, cells := 1, slots := 1, locals := 35 } : Room).cells ({ frames := 2, cells := 1, slots := 1, locals := 35 } : Room).slots) := by
  refine MetFree.of_bodySF (plainFor_of_name pn_rm_new4_1) hisR ?_
  intro p e s m args below meth c s₁ Bd hml0 hP hK
  obtain ⟨rfl, hZ, hh⟩ := hP
  have hx := Bd.exec
  have hby := Bd.bytes
  have hlk := BodyLoose.notSynchronized Bd
  have hret := Bd.returns
  have hml : c.maxLocals = 6 := hml0
  have hown : s.vm.findClass "java/lang/String" = some m.cls := findClass_of_methodNamed Bd.named
  have hnm := (name_of_methodNamed Bd.named Bd.method).1
  have X0 : Stand p l e ({ frames := 2, cells := 1, slots := 1, locals := 35 } : Room) s m #[(.ref ao0), (.ref ao1), (.int 0), (.int 1), .null] below meth c s₁ [] 0 0 := Stand.of_body Bd
  have e0 : s₁.heap = h0 := by rw [← hh, Bd.state]; rfl
  have Nf := Fr.nil n0
  have Zs := Z0
  have Kp : Keep h0 h0 [ao0] := Keep.refl _ _
  show own_End p e below s (Q_rm_new4_1 Z ao0 ao1 kx x0 G1 h0 n0) ({ frames := 2, cells := 1, slots := 1, locals := 35 } : Room).cells ({ frames := 2, cells := 1, slots := 1, locals := 35 } : Room).slots (s₁.setTop (entryFrame m #[(.ref ao0), (.ref ao1), (.int 0), (.int 1), .null] 6))
  refine own_go (x' := s₁.setTop (mkF m 0 #[.val (.ref ao0), .val (.ref ao1), .val (.int 0), .val (.int 1), .val .null, .unset] [])) (fun t k => castTop (ef_rm_new4_1 m ao0 ao1 (0 : Int32) (1 : Int32)) k) ?_
  refine own_go (x' := s₁.setTop (mkF m 1 #[.val (.ref ao0), .val (.ref ao1), .val (.int 0), .val (.int 1), .val .null, .unset] [(.ref ao0)])) (fun _ k => XS.aloadN X0.here hx rfl (hb hby d9_0) rfl rfl k) ?_
  obtain ⟨T1, X1, e1, st1⟩ := initO X0 hx hZ hown (own_w hw 46 rfl) (own_w hw 16 rfl) (own_w hw 17 rfl) e0 (g := (mkF m 1 #[.val (.ref ao0), .val (.ref ao1), .val (.int 0), .val (.int 1), .val .null, .unset] [(.ref ao0)])) rfl (by rw [hml]; rfl) rfl (hb hby d9_1) (by decide) (W := 0) (by show 2 * 0 + _ ≤ _; exact Nat.le_of_eq rfl) (by decide)
  refine own_go (x' := T1.setTop (mkF m 4 #[.val (.ref ao0), .val (.ref ao1), .val (.int 0), .val (.int 1), .val .null, .unset] [])) st1 ?_
  refine own_go (x' := T1.setTop (mkF m 27 #[.val (.ref ao0), .val (.ref ao1), .val (.int 0), .val (.int 1), .val .null, .unset] [])) (fun _ k => XS.iloadN X1.here hx rfl (hb hby d9_4) rfl (XS.ifYes X1.here hx rfl (pc0 := 5) (pc' := 27) rfl (hb hby d9_5) rfl ((if0 _ _).trans (feq (by decide +kernel : ¬ ((1 : Int32) = (0 : Int32)))).2) (by decide) (by decide) k)) ?_
  obtain ⟨T2, X2, e2, st2⟩ := getS2 X1 hx hZ hown (host := "") (Or.inl (own_w hw 47 rfl)) Via.refl e1 (Sta.ext Od.2 S_COMPACT_STRINGS) (g := (mkF m 27 #[.val (.ref ao0), .val (.ref ao1), .val (.int 0), .val (.int 1), .val .null, .unset] [])) rfl (hb hby d9_27)
  refine own_go (x' := T2.setTop (mkF m 30 #[.val (.ref ao0), .val (.ref ao1), .val (.int 0), .val (.int 1), .val .null, .unset] [(.int G1)])) st2 ?_
  refine own_go (x' := T2.setTop (mkF m 36 #[.val (.ref ao0), .val (.ref ao1), .val (.int 0), .val (.int 1), .val .null, .unset] [(.int 1), (.int 0), (.ref ao1)])) (fun _ k => XS.ifNo X2.here hx rfl (hb hby d9_30) rfl ((if0 _ _).trans (feq hG).1) (XS.aloadN X2.here hx rfl (hb hby d9_33) rfl rfl (XS.iloadN X2.here hx rfl (hb hby d9_34) rfl (XS.iloadN X2.here hx rfl (hb hby d9_35) rfl k)))) ?_
  obtain ⟨_, _, ⟨T3, L3, k3, n3⟩, -, X3, ⟨Lc3, hQ3, l3, y3, z3⟩, st3⟩ := Jvm.LawKit.callS X2 hx (y := (⟨"java/lang/StringUTF16", "compress", "([CII)[B"⟩ : MethodName)) hown (mvT hZ (own_w hw 48 rfl)) (mvT hZ (own_w hw 49 rfl)) (mvT hZ (own_w hw 50 rfl)) (mvT hZ (own_w hw 51 rfl)) (by decide) (backOf (W := 0) (rm_cmpb_1 l Z a0 hw [] ao1 kx x0 h0 n0 Zs V_ao1 hx0) hZ (own_w hw 51 rfl) (own_w hw 50 rfl) (by decide) (by decide)) (g := (mkF m 36 #[.val (.ref ao0), .val (.ref ao1), .val (.int 0), .val (.int 1), .val .null, .unset] [(.int 1), (.int 0), (.ref ao1)])) rfl (by rw [hml]; rfl) (argsL := [(.ref ao1), (.int 0), (.int 1)]) (rest := []) (lenOf pd_1 rfl) rfl (by show 2 * 0 + _ ≤ _; exact Nat.le_of_eq rfl) (hb hby d9_36) (fun _ _ => ⟨rfl, e2, (by decide : 0 + 1 ≤ _), (by decide : 0 + 1 ≤ _)⟩)
  dsimp only [Pt.U, Pt.locs, Pt.cells, Pt.slots] at X3 l3 y3 z3 st3 hQ3
  subst l3 y3 z3
  obtain ⟨b3, kb3, hv3, Nq3, K3, sq3, g_b3, V_b3⟩ := hQ3
  subst hv3
  replace Nf := Fr.app Nf Nq3
  have ne_ao0_b3 : ao0 ≠ b3 := Nat.ne_of_lt (Nat.lt_of_lt_of_le E_ao0.lt sq3)
  have ne_ao1_b3 : ao1 ≠ b3 := Nat.ne_of_lt (Nat.lt_of_lt_of_le V_ao1.lt sq3)
  have sz_b3 : h0.size ≤ b3 := Nat.le_trans Kp.1 sq3
  replace E_ao0 := E_ao0.keep K3
  replace F_ao0_value := F_ao0_value.keep K3 nin0
  replace F_ao0_coder := F_ao0_coder.keep K3 nin0
  replace V_ao1 := V_ao1.keep K3 nin0
  replace Od := Od.keep K3 all0
  replace Zs := Nat.le_trans Zs K3.1
  replace Kp := Kp.trans K3 all0
  refine own_go (x' := T3.setTop (mkF m 39 #[.val (.ref ao0), .val (.ref ao1), .val (.int 0), .val (.int 1), .val .null, .unset] [(.ref b3)])) st3 ?_
  refine own_go (x' := T3.setTop (mkF m 45 #[.val (.ref ao0), .val (.ref ao1), .val (.int 0), .val (.int 1), .val .null, .val (.ref b3)] [(.int 1), (.ref b3), (.ref ao0)])) (fun _ k => XS.astore X3.here hx rfl (hb hby d9_39) rfl rfl (l' := #[.val (.ref ao0), .val (.ref ao1), .val (.int 0), .val (.int 1), .val .null, .val (.ref b3)]) rfl (XS.aloadN X3.here hx rfl (hb hby d9_41) rfl rfl (XS.aload X3.here hx rfl (hb hby d9_42) rfl rfl (XS.iloadN X3.here hx rfl (hb hby d9_44) rfl k)))) ?_
  obtain ⟨_, _, ⟨T4, L4, k4, n4⟩, -, X4, ⟨Lc4, hQ4, l4, y4, z4⟩, st4⟩ := Jvm.LawKit.callS X3 hx (y := (⟨"java/lang/StringUTF16", "coderFromArrayLen", "([BI)B"⟩ : MethodName)) hown (mvT hZ (own_w hw 56 rfl)) (mvT hZ (own_w hw 57 rfl)) (mvT hZ (own_w hw 50 rfl)) (mvT hZ (own_w hw 58 rfl)) (by decide) (backOf (W := 1) (rm_cod_1 l Z a0 hw [] b3 kb3 _ T3.heap n0 Zs V_b3) hZ (own_w hw 58 rfl) (own_w hw 50 rfl) (by decide) (by decide)) (g := (mkF m 45 #[.val (.ref ao0), .val (.ref ao1), .val (.int 0), .val (.int 1), .val .null, .val (.ref b3)] [(.int 1), (.ref b3), (.ref ao0)])) rfl (by rw [hml]; rfl) (argsL := [(.ref b3), (.int 1)]) (rest := [(.ref ao0)]) (lenOf pd_2 rfl) rfl (by show 2 * 0 + _ ≤ _; exact Nat.le_of_eq rfl) (hb hby d9_45) (fun _ _ => ⟨rfl, rfl, (by decide : 1 + 0 ≤ _), (by decide : 1 + 0 ≤ _)⟩)
  dsimp only [Pt.U, Pt.locs, Pt.cells, Pt.slots] at X4 l4 y4 z4 st4 hQ4
  subst l4 y4 z4
  obtain ⟨hv4, Nq4, eq4⟩ := hQ4
  subst hv4
  replace Nf := Fr.app Nf Nq4
  refine own_go (x' := T4.setTop (mkF m 48 #[.val (.ref ao0), .val (.ref ao1), .val (.int 0), .val (.int 1), .val .null, .val (.ref b3)] [(.int 0), (.ref ao0)])) st4 ?_
  obtain ⟨T5, h5, X5, e5, W5, st5⟩ := putFN X4 hx hZ hown (own_w hw 59 rfl) Via.refl eq4 F_ao0_coder E_ao0 (Or.inr ⟨(own_w hw 60 rfl), rfl, hnm⟩) (own_w hw 37 rfl) (ty := .byte) (v' := (.int (nar .byte (0 : Int32)))) (by decide) rfl (fits_nar_byte _) (g := (mkF m 48 #[.val (.ref ao0), .val (.ref ao1), .val (.int 0), .val (.int 1), .val .null, .val (.ref b3)] [(.int 0), (.ref ao0)])) rfl rfl (hb hby d9_48)
  refine own_go (x' := T5.setTop (mkF m 51 #[.val (.ref ao0), .val (.ref ao1), .val (.int 0), .val (.int 1), .val .null, .val (.ref b3)] [])) st5 ?_
  replace E_ao0 := Exa.wr W5 E_ao0
  replace F_ao0_value := Fld.other W5 F_ao0_value (Or.inr (slot_ne (Or.inr (own_w hw 62 rfl)) (Or.inr (own_w hw 60 rfl)) (by decide) (t := (.array .byte)) (t' := .byte) (by decide) (by decide)))
  replace F_ao0_coder := Fld.same W5 F_ao0_coder
  replace V_ao1 := V_ao1.other W5 (Ne.symm ne_ao0_ao1)
  replace Od := Od.wr W5 g_ao0
  replace V_b3 := V_b3.other W5 (Ne.symm ne_ao0_b3)
  replace Zs := Nat.le_trans Zs (Keep.of_wr W5).1
  replace Nf := Fr.snoc X5 Nf g_ao0
  replace Kp := Kp.wr W5 (Or.inl (by simp))
  refine own_go (x' := T5.setTop (mkF m 54 #[.val (.ref ao0), .val (.ref ao1), .val (.int 0), .val (.int 1), .val .null, .val (.ref b3)] [(.ref b3), (.ref ao0)])) (fun _ k => XS.aloadN X5.here hx rfl (hb hby d9_51) rfl rfl (XS.aload X5.here hx rfl (hb hby d9_52) rfl rfl k)) ?_
  obtain ⟨T6, h6, X6, e6, W6, st6⟩ := putF X5 hx hZ hown (host := "") (Or.inl (own_w hw 61 rfl)) Via.refl e5 F_ao0_value E_ao0 (Or.inr ⟨(own_w hw 62 rfl), rfl, hnm⟩) (own_w hw 37 rfl) (ty := (.array .byte)) (by decide) rfl rfl (g := (mkF m 54 #[.val (.ref ao0), .val (.ref ao1), .val (.int 0), .val (.int 1), .val .null, .val (.ref b3)] [(.ref b3), (.ref ao0)])) rfl rfl (hb hby d9_54)
  refine own_go (x' := T6.setTop (mkF m 57 #[.val (.ref ao0), .val (.ref ao1), .val (.int 0), .val (.int 1), .val .null, .val (.ref b3)] [])) st6 ?_
  replace E_ao0 := Exa.wr W6 E_ao0
  replace F_ao0_value := Fld.same W6 F_ao0_value
  replace F_ao0_coder := Fld.other W6 F_ao0_coder (Or.inr (slot_ne (Or.inr (own_w hw 60 rfl)) (Or.inr (own_w hw 62 rfl)) (by decide) (t := .byte) (t' := (.array .byte)) (by decide) (by decide)))
  replace V_ao1 := V_ao1.other W6 (Ne.symm ne_ao0_ao1)
  replace Od := Od.wr W6 g_ao0
  replace V_b3 := V_b3.other W6 (Ne.symm ne_ao0_b3)
  replace Zs := Nat.le_trans Zs (Keep.of_wr W6).1
  replace Nf := Fr.snoc X6 Nf g_ao0
  replace Kp := Kp.wr W6 (Or.inl (by simp))
  refine own_retV X6 hx hlk hret (hb hby d9_57) ?_ (by decide) (by decide)
  rw [e6]
  exact ⟨b3, kb3, rfl, Nf, Kp, sz_b3, g_b3, E_ao0, F_ao0_value, F_ao0_coder, V_b3⟩
theorem pd_3 : parseMethodDescriptor "([CIILjava/lang/Void;)V" = some ⟨[(.array .char), .int, .int, (.object "java/lang/Void")], none⟩ := by decide +kernel
theorem d8_0 : decode jdk_42_method_3_code 0 = .ok (.aload_n 0, 1) := by decide +kernel
theorem d8_1 : decode jdk_42_method_3_code 1 = .ok (.aload_n 1, 1) := by decide +kernel
theorem d8_2 : decode jdk_42_method_3_code 2 = .ok (.iconst 0, 1) := by decide +kernel
theorem d8_3 : decode jdk_42_method_3_code 3 = .ok (.aload_n 1, 1) := by decide +kernel
theorem d8_4 : decode jdk_42_method_3_code 4 = .ok (.arraylength, 1) := by decide +kernel
theorem d8_5 : decode jdk_42_method_3_code 5 = .ok (.aconst_null, 1) := by decide +kernel
theorem d8_6 : decode jdk_42_method_3_code 6 = .ok (.invokespecial 27, 3) := by decide +kernel
theorem d8_9 : decode jdk_42_method_3_code 9 = .ok (.return_, 1) := by decide +kernel
def Q_rm_new_1 (Z : State) (ao0 ao1 : Addr) (kx : ClassId) (x0 : Int32) (G1 : Int32) (h0 : Heap) (n0 : Nat) (v : Option Value) (h : Heap) (L : List Loc) : Prop := ∃ (b : Addr) (kb : ClassId), v = none ∧ Fr n0 L ∧ Keep h0 h [ao0] ∧ h0.size ≤ b ∧ n0 ≤ b ∧ Exa Z h ao0 "java/lang/String" ∧ Fld Z h ao0 "java/lang/String" "value" "[B" (.ref b) ∧ Fld Z h ao0 "java/lang/String" "coder" "B" (.int (nar .byte (0 : Int32))) ∧ Arv Z h b kb .byte (1 : Int32) [(.int (nar .byte (x0.toInt8.toInt32)))] (.int (0 : Int32))
theorem pn_rm_new_1 : plainName "java/lang/String" = true := by first | (simp [plainName, overriddenIn]; done) | decide +kernel
theorem ef_rm_new_1 (m : MethodId) (x0 : Addr) (x1 : Addr) : entryFrame m #[(.ref x0), (.ref x1)] 2 = mkF m 0 #[.val (.ref x0), .val (.ref x1)] [] := by first | (simp [entryFrame, mkF, argsToLocals, Value.category]; done) | rfl
set_option maxRecDepth 65536 in
set_option maxHeartbeats 40000000 in
theorem rm_new_1 (l : Launch) (Z : State) (a0 : Array Value) (hw : ∀ d ∈ tables_1, d.before a0 Z = true) (ws : List Jvm.Cond) (ao0 ao1 : Addr) (kx : ClassId) (x0 : Int32) (G1 : Int32) (h0 : Heap) (n0 : Nat) (Z0 : n0 ≤ h0.size) (E_ao0 : Exa Z h0 ao0 "java/lang/String") (F_ao0_value : Fld Z h0 ao0 "java/lang/String" "value" "[B" .null) (F_ao0_coder : Fld Z h0 ao0 "java/lang/String" "coder" "B" (.int 0)) (V_ao1 : Arv Z h0 ao1 kx .char (1 : Int32) [.int x0] (.int (0 : Int32))) (hx0 : ¬ (255 : Int32) < x0) (Od : Old Z n0 h0) (S_COMPACT_STRINGS : Sta Z Z.heap "java/lang/String" "COMPACT_STRINGS" "Z" (.int G1)) (hG : ¬ G1 = (0 : Int32)) (ne_ao0_ao1 : ao0 ≠ ao1) (g_ao0 : n0 ≤ ao0) :
    MetFree l (⟨"java/lang/String", "<init>", "([C)V"⟩ : MethodName) (head1 (Jvm.Cond.code (⟨"java/lang/String", "<init>", "([C)V"⟩ : MethodName) jdk_42_method_3_code 2 none :: ws) ({ frames := 3, cells := 1, slots := 1, locals := 52 } : Room)) (fun a U => a = #[(.ref ao0), (.ref ao1)] ∧ Z.Warmed39 U.vm ∧ U.heap = h0) (fun _ _ _ _ _ => True) (fun _ U o U' => ∃ v L, o = .returned v ∧ (Q_rm_new_1 Z ao0 ao1 kx x0 G1 h0 n0) v U'.heap L ∧ FrameEnd U o U' L ({ frames := 3, cells := 1, slots := 1, locals := 52 } : Room).cells ({ frames := 3, cells := 1, slots := 1, locals := 52 } : Room).slots) := by
  refine MetFree.of_bodySF (plainFor_of_name pn_rm_new_1) hisR ?_
  intro p e s m args below meth c s₁ Bd hml0 hP hK
  obtain ⟨rfl, hZ, hh⟩ := hP
  have hx := Bd.exec
  have hby := Bd.bytes
  have hlk := BodyLoose.notSynchronized Bd
  have hret := Bd.returns
  have hml : c.maxLocals = 2 := hml0
  have hown : s.vm.findClass "java/lang/String" = some m.cls := findClass_of_methodNamed Bd.named
  have hnm := (name_of_methodNamed Bd.named Bd.method).1
  have X0 : Stand p l e ({ frames := 3, cells := 1, slots := 1, locals := 52 } : Room) s m #[(.ref ao0), (.ref ao1)] below meth c s₁ [] 0 0 := Stand.of_body Bd
  have e0 : s₁.heap = h0 := by rw [← hh, Bd.state]; rfl
  have Nf := Fr.nil n0
  have Zs := Z0
  have Kp : Keep h0 h0 [ao0] := Keep.refl _ _
  show own_End p e below s (Q_rm_new_1 Z ao0 ao1 kx x0 G1 h0 n0) ({ frames := 3, cells := 1, slots := 1, locals := 52 } : Room).cells ({ frames := 3, cells := 1, slots := 1, locals := 52 } : Room).slots (s₁.setTop (entryFrame m #[(.ref ao0), (.ref ao1)] 2))
  refine own_go (x' := s₁.setTop (mkF m 0 #[.val (.ref ao0), .val (.ref ao1)] [])) (fun t k => castTop (ef_rm_new_1 m ao0 ao1) k) ?_
  refine own_go (x' := s₁.setTop (mkF m 4 #[.val (.ref ao0), .val (.ref ao1)] [(.ref ao1), (.int 0), (.ref ao1), (.ref ao0)])) (fun _ k => XS.aloadN X0.here hx rfl (hb hby d8_0) rfl rfl (XS.aloadN X0.here hx rfl (hb hby d8_1) rfl rfl (XS.iconst X0.here hx rfl (hb hby d8_2) (XS.aloadN X0.here hx rfl (hb hby d8_3) rfl rfl k)))) ?_
  obtain ⟨cl1, Ar1, -, Sz1, Nn1, -, -⟩ := id V_ao1
  refine own_go (x' := s₁.setTop (mkF m 5 #[.val (.ref ao0), .val (.ref ao1)] [(.int 1), (.int 0), (.ref ao1), (.ref ao0)])) (fun t k => X0.arraylength hx (Eq.trans (congrArg (fun h_ => h_[_]?) e0) Ar1.1) (State.isArrayOf_alike hZ.alike Ar1.2.1) (g := (mkF m 4 #[.val (.ref ao0), .val (.ref ao1)] [(.ref ao1), (.int 0), (.ref ao1), (.ref ao0)])) rfl rfl (hb hby d8_4) t (by rw [len_of Sz1 Nn1]; exact k)) ?_
  refine own_go (x' := s₁.setTop (mkF m 6 #[.val (.ref ao0), .val (.ref ao1)] [.null, (.int 1), (.int 0), (.ref ao1), (.ref ao0)])) (fun _ k => XS.aconstNull X0.here hx rfl (hb hby d8_5) k) ?_
  obtain ⟨_, _, ⟨T2, L2, k2, n2⟩, -, X2, ⟨Lc2, hQ2, l2, y2, z2⟩, st2⟩ := X0.specialBack hx (y := (⟨"java/lang/String", "<init>", "([CIILjava/lang/Void;)V"⟩ : MethodName)) rfl hown (mvT hZ (own_w hw 42 rfl)) (mvT hZ (own_w hw 43 rfl)) (mvT hZ (own_w hw 45 rfl)) (by decide) (backOf (W := 0) (rm_new4_1 l Z a0 hw [] ao0 ao1 kx x0 G1 h0 n0 Zs E_ao0 F_ao0_value F_ao0_coder V_ao1 hx0 Od S_COMPACT_STRINGS hG ne_ao0_ao1 g_ao0) hZ (own_w hw 45 rfl) (own_w hw 38 rfl) (by decide) (by decide)) (g := (mkF m 6 #[.val (.ref ao0), .val (.ref ao1)] [.null, (.int 1), (.int 0), (.ref ao1), (.ref ao0)])) rfl (by rw [hml]; rfl) (Steps.refl _) (a := ao0) (argsL := [(.ref ao1), (.int 0), (.int 1), .null]) (rest := []) (lenOf pd_3 rfl) rfl (by show 2 * 0 + _ ≤ _; exact Nat.le_of_eq rfl) (hb hby d8_6) (fun _ _ => ⟨rfl, e0, (by decide : 0 + 1 ≤ _), (by decide : 0 + 1 ≤ _)⟩)
  dsimp only [Pt.U, Pt.locs, Pt.cells, Pt.slots] at X2 l2 y2 z2 st2 hQ2
  subst l2 y2 z2
  obtain ⟨b2, kb2, hv2, Nq2, K2, sq2, g_b2, Eo2, Fv2, Fc2, V_b2⟩ := hQ2
  subst hv2
  replace Nf := Fr.app Nf Nq2
  have ne_ao0_b2 : ao0 ≠ b2 := Nat.ne_of_lt (Nat.lt_of_lt_of_le E_ao0.lt sq2)
  have ne_ao1_b2 : ao1 ≠ b2 := Nat.ne_of_lt (Nat.lt_of_lt_of_le V_ao1.lt sq2)
  have sz_b2 : h0.size ≤ b2 := Nat.le_trans Kp.1 sq2
  replace V_ao1 := V_ao1.keep K2 (ninS (Ne.symm ne_ao0_ao1) nin0)
  replace Od := Od.keep K2 (allS g_ao0 all0)
  replace Zs := Nat.le_trans Zs K2.1
  replace Kp := Kp.trans K2 (allS (Or.inl (by simp)) all0)
  replace E_ao0 := Eo2
  replace F_ao0_value := Fv2
  replace F_ao0_coder := Fc2
  refine own_go (x' := T2.setTop (mkF m 9 #[.val (.ref ao0), .val (.ref ao1)] [])) (fun _ k => st2.trans k) ?_
  refine own_retV X2 hx hlk hret (hb hby d8_9) ?_ (by decide) (by decide)
  exact ⟨b2, kb2, rfl, Nf, Kp, sz_b2, g_b2, E_ao0, F_ao0_value, F_ao0_coder, V_b2⟩
def Q_rm_cod_2 (Z : State) (ao0 : Addr) (ky : ClassId) (ys : List Value) (h0 : Heap) (n0 : Nat) (v : Option Value) (h : Heap) (L : List Loc) : Prop := v = some (.int (0 : Int32)) ∧ Fr n0 L ∧ h = h0
theorem pn_rm_cod_2 : plainName "java/lang/StringUTF16" = true := by first | (simp [plainName, overriddenIn]; done) | decide +kernel
theorem ef_rm_cod_2 (m : MethodId) (x0 : Addr) (x1 : Int32) : entryFrame m #[(.ref x0), (.int x1)] 2 = mkF m 0 #[.val (.ref x0), .val (.int x1)] [] := by first | (simp [entryFrame, mkF, argsToLocals, Value.category]; done) | rfl
set_option maxRecDepth 65536 in
set_option maxHeartbeats 40000000 in
theorem rm_cod_2 (l : Launch) (Z : State) (a0 : Array Value) (hw : ∀ d ∈ tables_1, d.before a0 Z = true) (ws : List Jvm.Cond) (ao0 : Addr) (ky : ClassId) (ys : List Value) (h0 : Heap) (n0 : Nat) (Z0 : n0 ≤ h0.size) (V_ao0 : Arv Z h0 ao0 ky .byte (2 : Int32) ys (.int (0 : Int32))) :
    MetFree l (⟨"java/lang/StringUTF16", "coderFromArrayLen", "([BI)B"⟩ : MethodName) (head1 (Jvm.Cond.code (⟨"java/lang/StringUTF16", "coderFromArrayLen", "([BI)B"⟩ : MethodName) jdk_52_method_15_code 2 (some .byte) :: ws) ({ frames := 0, cells := 0, slots := 0, locals := 0 } : Room)) (fun a U => a = #[(.ref ao0), (.int 2)] ∧ Z.Warmed39 U.vm ∧ U.heap = h0) (fun _ _ _ _ _ => True) (fun _ U o U' => ∃ v L, o = .returned v ∧ (Q_rm_cod_2 Z ao0 ky ys h0 n0) v U'.heap L ∧ FrameEnd U o U' L ({ frames := 0, cells := 0, slots := 0, locals := 0 } : Room).cells ({ frames := 0, cells := 0, slots := 0, locals := 0 } : Room).slots) := by
  refine MetFree.of_bodySF (plainFor_of_name pn_rm_cod_2) hisR ?_
  intro p e s m args below meth c s₁ Bd hml0 hP hK
  obtain ⟨rfl, hZ, hh⟩ := hP
  have hx := Bd.exec
  have hby := Bd.bytes
  have hlk := BodyLoose.notSynchronized Bd
  have hret := Bd.returns
  have hml : c.maxLocals = 2 := hml0
  have hown : s.vm.findClass "java/lang/StringUTF16" = some m.cls := findClass_of_methodNamed Bd.named
  have hnm := (name_of_methodNamed Bd.named Bd.method).1
  have X0 : Stand p l e ({ frames := 0, cells := 0, slots := 0, locals := 0 } : Room) s m #[(.ref ao0), (.int 2)] below meth c s₁ [] 0 0 := Stand.of_body Bd
  have e0 : s₁.heap = h0 := by rw [← hh, Bd.state]; rfl
  have Nf := Fr.nil n0
  have Zs := Z0
  have Kp : Keep h0 h0 [] := Keep.refl _ _
  show own_End p e below s (Q_rm_cod_2 Z ao0 ky ys h0 n0) ({ frames := 0, cells := 0, slots := 0, locals := 0 } : Room).cells ({ frames := 0, cells := 0, slots := 0, locals := 0 } : Room).slots (s₁.setTop (entryFrame m #[(.ref ao0), (.int 2)] 2))
  refine own_go (x' := s₁.setTop (mkF m 0 #[.val (.ref ao0), .val (.int 2)] [])) (fun t k => castTop (ef_rm_cod_2 m ao0 (2 : Int32)) k) ?_
  refine own_go (x' := s₁.setTop (mkF m 2 #[.val (.ref ao0), .val (.int 2)] [(.ref ao0), (.int 2)])) (fun _ k => XS.iloadN X0.here hx rfl (hb hby d12_0) rfl (XS.aloadN X0.here hx rfl (hb hby d12_1) rfl rfl k)) ?_
  obtain ⟨cl1, Ar1, -, Sz1, Nn1, -, -⟩ := id V_ao0
  refine own_go (x' := s₁.setTop (mkF m 3 #[.val (.ref ao0), .val (.int 2)] [(.int 2), (.int 2)])) (fun t k => X0.arraylength hx (Eq.trans (congrArg (fun h_ => h_[_]?) e0) Ar1.1) (State.isArrayOf_alike hZ.alike Ar1.2.1) (g := (mkF m 2 #[.val (.ref ao0), .val (.int 2)] [(.ref ao0), (.int 2)])) rfl rfl (hb hby d12_2) t (by rw [len_of Sz1 Nn1]; exact k)) ?_
  refine own_go (x' := s₁.setTop (mkF m 8 #[.val (.ref ao0), .val (.int 2)] [(.int (((((2 : Int32) - (2 : Int32)).toUInt32 >>> ((31 : Int32) &&& 31).toUInt32).toInt32).toInt8.toInt32))])) (fun _ k => XS.isub X0.here hx rfl (hb hby d12_3) rfl (XS.bipush X0.here hx rfl (hb hby d12_4) (XS.iushr X0.here hx rfl (hb hby d12_6) rfl (XS.i2b X0.here hx rfl (hb hby d12_7) rfl k)))) ?_
  rw [show (((((2 : Int32) - (2 : Int32)).toUInt32 >>> ((31 : Int32) &&& 31).toUInt32).toInt32).toInt8.toInt32) = (0 : Int32) from by decide +kernel]
  refine own_retN X0 hx hlk (t := .byte) hret (by simp) (hb hby d12_8) (w := (0 : Int32)) rfl ?_ (by decide) (by decide)
  rw [e0]
  exact ⟨rfl, Nf, rfl⟩
def Q_rm_cmp_2 (Z : State) (ao0 ao2 : Addr) (kx ky : ClassId) (x0 x1 : Int32) (h0 : Heap) (n0 : Nat) (v : Option Value) (h : Heap) (L : List Loc) : Prop := v = some (.int (2 : Int32)) ∧ Fr n0 L ∧ Keep h0 h [ao2] ∧ Arv Z h ao2 ky .byte (2 : Int32) [(.int (nar .byte (x0.toInt8.toInt32))), (.int (nar .byte (x1.toInt8.toInt32)))] (.int (0 : Int32))
theorem pn_rm_cmp_2 : plainName "java/lang/StringUTF16" = true := by first | (simp [plainName, overriddenIn]; done) | decide +kernel
theorem ef_rm_cmp_2 (m : MethodId) (x0 : Addr) (x1 : Int32) (x2 : Addr) (x3 : Int32) (x4 : Int32) : entryFrame m #[(.ref x0), (.int x1), (.ref x2), (.int x3), (.int x4)] 7 = mkF m 0 #[.val (.ref x0), .val (.int x1), .val (.ref x2), .val (.int x3), .val (.int x4), .unset, .unset] [] := by first | (simp [entryFrame, mkF, argsToLocals, Value.category]; done) | rfl
set_option maxRecDepth 65536 in
set_option maxHeartbeats 40000000 in
theorem rm_cmp_2 (l : Launch) (Z : State) (a0 : Array Value) (hw : ∀ d ∈ tables_1, d.before a0 Z = true) (ws : List Jvm.Cond) (ao0 ao2 : Addr) (kx ky : ClassId) (x0 x1 : Int32) (h0 : Heap) (n0 : Nat) (Z0 : n0 ≤ h0.size) (V_ao0 : Arv Z h0 ao0 kx .char (2 : Int32) [.int x0, .int x1] (.int (0 : Int32))) (V_ao2 : Arv Z h0 ao2 ky .byte (2 : Int32) [(.int (0 : Int32)), (.int (0 : Int32))] (.int (0 : Int32))) (hx0 : ¬ (255 : Int32) < x0) (hx1 : ¬ (255 : Int32) < x1) (ne_ao0_ao2 : ao0 ≠ ao2) (g_ao2 : n0 ≤ ao2) :
    MetFree l (⟨"java/lang/StringUTF16", "compress", "([CI[BII)I"⟩ : MethodName) (head1 (Jvm.Cond.code (⟨"java/lang/StringUTF16", "compress", "([CI[BII)I"⟩ : MethodName) jdk_52_method_21_code 7 (some .int) :: ws) ({ frames := 0, cells := 0, slots := 0, locals := 0 } : Room)) (fun a U => a = #[(.ref ao0), (.int 0), (.ref ao2), (.int 0), (.int 2)] ∧ Z.Warmed39 U.vm ∧ U.heap = h0) (fun _ _ _ _ _ => True) (fun _ U o U' => ∃ v L, o = .returned v ∧ (Q_rm_cmp_2 Z ao0 ao2 kx ky x0 x1 h0 n0) v U'.heap L ∧ FrameEnd U o U' L ({ frames := 0, cells := 0, slots := 0, locals := 0 } : Room).cells ({ frames := 0, cells := 0, slots := 0, locals := 0 } : Room).slots) := by
  refine MetFree.of_bodySF (plainFor_of_name pn_rm_cmp_2) hisR ?_
  intro p e s m args below meth c s₁ Bd hml0 hP hK
  obtain ⟨rfl, hZ, hh⟩ := hP
  have hx := Bd.exec
  have hby := Bd.bytes
  have hlk := BodyLoose.notSynchronized Bd
  have hret := Bd.returns
  have hml : c.maxLocals = 7 := hml0
  have hown : s.vm.findClass "java/lang/StringUTF16" = some m.cls := findClass_of_methodNamed Bd.named
  have hnm := (name_of_methodNamed Bd.named Bd.method).1
  have X0 : Stand p l e ({ frames := 0, cells := 0, slots := 0, locals := 0 } : Room) s m #[(.ref ao0), (.int 0), (.ref ao2), (.int 0), (.int 2)] below meth c s₁ [] 0 0 := Stand.of_body Bd
  have e0 : s₁.heap = h0 := by rw [← hh, Bd.state]; rfl
  have Nf := Fr.nil n0
  have Zs := Z0
  have Kp : Keep h0 h0 [ao2] := Keep.refl _ _
  show own_End p e below s (Q_rm_cmp_2 Z ao0 ao2 kx ky x0 x1 h0 n0) ({ frames := 0, cells := 0, slots := 0, locals := 0 } : Room).cells ({ frames := 0, cells := 0, slots := 0, locals := 0 } : Room).slots (s₁.setTop (entryFrame m #[(.ref ao0), (.int 0), (.ref ao2), (.int 0), (.int 2)] 7))
  refine own_go (x' := s₁.setTop (mkF m 0 #[.val (.ref ao0), .val (.int 0), .val (.ref ao2), .val (.int 0), .val (.int 2), .unset, .unset] [])) (fun t k => castTop (ef_rm_cmp_2 m ao0 (0 : Int32) ao2 (0 : Int32) (2 : Int32)) k) ?_
  refine own_go (x' := s₁.setTop (mkF m 11 #[.val (.ref ao0), .val (.int 0), .val (.ref ao2), .val (.int 0), .val (.int 2), .val (.int 0), .unset] [(.ref ao0)])) (fun _ k => XS.iconst X0.here hx rfl (hb hby d11_0) (XS.istore X0.here hx rfl (hb hby d11_1) rfl (l' := #[.val (.ref ao0), .val (.int 0), .val (.ref ao2), .val (.int 0), .val (.int 2), .val (.int 0), .unset]) rfl (XS.iload X0.here hx rfl (hb hby d11_3) rfl (XS.iload X0.here hx rfl (hb hby d11_5) rfl (XS.icmpNo X0.here hx rfl (hb hby d11_7) rfl (tlt (by decide +kernel : ((0 : Int32) < (2 : Int32)))).2.1 (XS.aloadN X0.here hx rfl (hb hby d11_10) rfl rfl k)))))) ?_
  refine own_go (x' := s₁.setTop (mkF m 12 #[.val (.ref ao0), .val (.int 0), .val (.ref ao2), .val (.int 0), .val (.int 2), .val (.int 0), .unset] [(.int 0), (.ref ao0)])) (fun _ k => XS.iloadN X0.here hx rfl (hb hby d11_11) rfl k) ?_
  obtain ⟨cl1, Ar1, q1, Sz1, Nn1, Hh1, Gg1⟩ := id V_ao0
  have hin1 : ¬ ((0 : Int32) < 0 ∨ cl1.slots.size ≤ ((0 : Int32)).toNatClampNeg) := inb_of Sz1 ⟨by decide, by decide⟩
  refine own_go (x' := s₁.setTop (mkF m 13 #[.val (.ref ao0), .val (.int 0), .val (.ref ao2), .val (.int 0), .val (.int 2), .val (.int 0), .unset] [(.int x0)])) (X0.caload hx (j := (0 : Int32)) (v := (.int x0)) (Eq.trans (congrArg (fun h_ => h_[_]?) e0) Ar1.1) (State.isArrayOf_alike hZ.alike Ar1.2.1) Ar1.2.2 hin1 (Hh1.at hin1 rfl) (g := (mkF m 12 #[.val (.ref ao0), .val (.int 0), .val (.ref ao2), .val (.int 0), .val (.int 2), .val (.int 0), .unset] [(.int 0), (.ref ao0)])) rfl rfl (hb hby d11_12)) ?_
  refine own_go (x' := s₁.setTop (mkF m 28 #[.val (.ref ao0), .val (.int 0), .val (.ref ao2), .val (.int 0), .val (.int 2), .val (.int 0), .val (.int x0)] [(.int 0), (.ref ao2)])) (fun _ k => XS.istore X0.here hx rfl (hb hby d11_13) rfl (l' := #[.val (.ref ao0), .val (.int 0), .val (.ref ao2), .val (.int 0), .val (.int 2), .val (.int 0), .val (.int x0)]) rfl (XS.iload X0.here hx rfl (hb hby d11_15) rfl (XS.sipush X0.here hx rfl (hb hby d11_17) (XS.icmpYes X0.here hx rfl (pc0 := 20) (pc' := 26) rfl (hb hby d11_20) rfl (flt hx0).2.2.2 (by decide) (by decide) (XS.aloadN X0.here hx rfl (hb hby d11_26) rfl rfl (XS.iloadN X0.here hx rfl (hb hby d11_27) rfl k)))))) ?_
  refine own_go (x' := s₁.setTop (mkF m 31 #[.val (.ref ao0), .val (.int 0), .val (.ref ao2), .val (.int 0), .val (.int 2), .val (.int 0), .val (.int x0)] [(.int (x0.toInt8.toInt32)), (.int 0), (.ref ao2)])) (fun _ k => XS.iload X0.here hx rfl (hb hby d11_28) rfl (XS.i2b X0.here hx rfl (hb hby d11_30) rfl k)) ?_
  obtain ⟨cl2, Ar2, q2, Sz2, Nn2, Hh2, Gg2⟩ := V_ao2
  have hin2 : ¬ ((0 : Int32) < 0 ∨ cl2.slots.size ≤ ((0 : Int32)).toNatClampNeg) := inb_of Sz2 ⟨by decide, by decide⟩
  obtain ⟨T2, h2, X2, e2, W2, st2⟩ := stB X0 hx hZ e0 Ar2 (j := (0 : Int32)) hin2 (g := (mkF m 31 #[.val (.ref ao0), .val (.int 0), .val (.ref ao2), .val (.int 0), .val (.int 2), .val (.int 0), .val (.int x0)] [(.int (x0.toInt8.toInt32)), (.int 0), (.ref ao2)])) rfl rfl (hb hby d11_31)
  refine own_go (x' := T2.setTop (mkF m 32 #[.val (.ref ao0), .val (.int 0), .val (.ref ao2), .val (.int 0), .val (.int 2), .val (.int 0), .val (.int x0)] [])) st2 ?_
  replace V_ao0 := V_ao0.other W2 ne_ao0_ao2
  replace Zs := Nat.le_trans Zs (Keep.of_wr W2).1
  replace Nf := Fr.snoc X2 Nf g_ao2
  replace Kp := Kp.wr W2 (Or.inl (by simp))
  have V_ao2 : Arv Z h2 ao2 ky .byte (2 : Int32) [(.int (nar .byte (x0.toInt8.toInt32))), (.int 0)] (.int 0) := Arv.set Ar2 q2 Sz2 Nn2 Hh2 Gg2 (fits_nar_byte _) W2 0 rfl (Nat.le_of_ble_eq_true rfl)
  refine own_go (x' := T2.setTop (mkF m 3 #[.val (.ref ao0), .val (.int ((0 : Int32) + (1 : Int32))), .val (.ref ao2), .val (.int ((0 : Int32) + (1 : Int32))), .val (.int 2), .val (.int ((0 : Int32) + (1 : Int32))), .val (.int x0)] [])) (fun _ k => XS.iinc X2.here hx rfl (hb hby d11_32) rfl (l' := #[.val (.ref ao0), .val (.int ((0 : Int32) + (1 : Int32))), .val (.ref ao2), .val (.int 0), .val (.int 2), .val (.int 0), .val (.int x0)]) rfl (XS.iinc X2.here hx rfl (hb hby d11_35) rfl (l' := #[.val (.ref ao0), .val (.int ((0 : Int32) + (1 : Int32))), .val (.ref ao2), .val (.int ((0 : Int32) + (1 : Int32))), .val (.int 2), .val (.int 0), .val (.int x0)]) rfl (XS.iinc X2.here hx rfl (hb hby d11_38) rfl (l' := #[.val (.ref ao0), .val (.int ((0 : Int32) + (1 : Int32))), .val (.ref ao2), .val (.int ((0 : Int32) + (1 : Int32))), .val (.int 2), .val (.int ((0 : Int32) + (1 : Int32))), .val (.int x0)]) rfl (XS.goto X2.here hx rfl (pc0 := 41) (pc' := 3) rfl (hb hby d11_41) (by decide) (by decide) k)))) ?_
  rw [show ((0 : Int32) + (1 : Int32)) = (1 : Int32) from by decide +kernel]
  refine own_go (x' := T2.setTop (mkF m 12 #[.val (.ref ao0), .val (.int 1), .val (.ref ao2), .val (.int 1), .val (.int 2), .val (.int 1), .val (.int x0)] [(.int 1), (.ref ao0)])) (fun _ k => XS.iload X2.here hx rfl (hb hby d11_3) rfl (XS.iload X2.here hx rfl (hb hby d11_5) rfl (XS.icmpNo X2.here hx rfl (hb hby d11_7) rfl (tlt (by decide +kernel : ((1 : Int32) < (2 : Int32)))).2.1 (XS.aloadN X2.here hx rfl (hb hby d11_10) rfl rfl (XS.iloadN X2.here hx rfl (hb hby d11_11) rfl k))))) ?_
  obtain ⟨cl3, Ar3, q3, Sz3, Nn3, Hh3, Gg3⟩ := id V_ao0
  have hin3 : ¬ ((1 : Int32) < 0 ∨ cl3.slots.size ≤ ((1 : Int32)).toNatClampNeg) := inb_of Sz3 ⟨by decide, by decide⟩
  refine own_go (x' := T2.setTop (mkF m 13 #[.val (.ref ao0), .val (.int 1), .val (.ref ao2), .val (.int 1), .val (.int 2), .val (.int 1), .val (.int x0)] [(.int x1)])) (X2.caload hx (j := (1 : Int32)) (v := (.int x1)) (Eq.trans (congrArg (fun h_ => h_[_]?) e2) Ar3.1) (State.isArrayOf_alike hZ.alike Ar3.2.1) Ar3.2.2 hin3 (Hh3.at hin3 rfl) (g := (mkF m 12 #[.val (.ref ao0), .val (.int 1), .val (.ref ao2), .val (.int 1), .val (.int 2), .val (.int 1), .val (.int x0)] [(.int 1), (.ref ao0)])) rfl rfl (hb hby d11_12)) ?_
  refine own_go (x' := T2.setTop (mkF m 28 #[.val (.ref ao0), .val (.int 1), .val (.ref ao2), .val (.int 1), .val (.int 2), .val (.int 1), .val (.int x1)] [(.int 1), (.ref ao2)])) (fun _ k => XS.istore X2.here hx rfl (hb hby d11_13) rfl (l' := #[.val (.ref ao0), .val (.int 1), .val (.ref ao2), .val (.int 1), .val (.int 2), .val (.int 1), .val (.int x1)]) rfl (XS.iload X2.here hx rfl (hb hby d11_15) rfl (XS.sipush X2.here hx rfl (hb hby d11_17) (XS.icmpYes X2.here hx rfl (pc0 := 20) (pc' := 26) rfl (hb hby d11_20) rfl (flt hx1).2.2.2 (by decide) (by decide) (XS.aloadN X2.here hx rfl (hb hby d11_26) rfl rfl (XS.iloadN X2.here hx rfl (hb hby d11_27) rfl k)))))) ?_
  refine own_go (x' := T2.setTop (mkF m 31 #[.val (.ref ao0), .val (.int 1), .val (.ref ao2), .val (.int 1), .val (.int 2), .val (.int 1), .val (.int x1)] [(.int (x1.toInt8.toInt32)), (.int 1), (.ref ao2)])) (fun _ k => XS.iload X2.here hx rfl (hb hby d11_28) rfl (XS.i2b X2.here hx rfl (hb hby d11_30) rfl k)) ?_
  obtain ⟨cl4, Ar4, q4, Sz4, Nn4, Hh4, Gg4⟩ := V_ao2
  have hin4 : ¬ ((1 : Int32) < 0 ∨ cl4.slots.size ≤ ((1 : Int32)).toNatClampNeg) := inb_of Sz4 ⟨by decide, by decide⟩
  obtain ⟨T4, h4, X4, e4, W4, st4⟩ := stB X2 hx hZ e2 Ar4 (j := (1 : Int32)) hin4 (g := (mkF m 31 #[.val (.ref ao0), .val (.int 1), .val (.ref ao2), .val (.int 1), .val (.int 2), .val (.int 1), .val (.int x1)] [(.int (x1.toInt8.toInt32)), (.int 1), (.ref ao2)])) rfl rfl (hb hby d11_31)
  refine own_go (x' := T4.setTop (mkF m 32 #[.val (.ref ao0), .val (.int 1), .val (.ref ao2), .val (.int 1), .val (.int 2), .val (.int 1), .val (.int x1)] [])) st4 ?_
  replace V_ao0 := V_ao0.other W4 ne_ao0_ao2
  replace Zs := Nat.le_trans Zs (Keep.of_wr W4).1
  replace Nf := Fr.snoc X4 Nf g_ao2
  replace Kp := Kp.wr W4 (Or.inl (by simp))
  have V_ao2 : Arv Z h4 ao2 ky .byte (2 : Int32) [(.int (nar .byte (x0.toInt8.toInt32))), (.int (nar .byte (x1.toInt8.toInt32)))] (.int 0) := Arv.set Ar4 q4 Sz4 Nn4 Hh4 Gg4 (fits_nar_byte _) W4 1 rfl (Nat.le_of_ble_eq_true rfl)
  refine own_go (x' := T4.setTop (mkF m 3 #[.val (.ref ao0), .val (.int ((1 : Int32) + (1 : Int32))), .val (.ref ao2), .val (.int ((1 : Int32) + (1 : Int32))), .val (.int 2), .val (.int ((1 : Int32) + (1 : Int32))), .val (.int x1)] [])) (fun _ k => XS.iinc X4.here hx rfl (hb hby d11_32) rfl (l' := #[.val (.ref ao0), .val (.int ((1 : Int32) + (1 : Int32))), .val (.ref ao2), .val (.int 1), .val (.int 2), .val (.int 1), .val (.int x1)]) rfl (XS.iinc X4.here hx rfl (hb hby d11_35) rfl (l' := #[.val (.ref ao0), .val (.int ((1 : Int32) + (1 : Int32))), .val (.ref ao2), .val (.int ((1 : Int32) + (1 : Int32))), .val (.int 2), .val (.int 1), .val (.int x1)]) rfl (XS.iinc X4.here hx rfl (hb hby d11_38) rfl (l' := #[.val (.ref ao0), .val (.int ((1 : Int32) + (1 : Int32))), .val (.ref ao2), .val (.int ((1 : Int32) + (1 : Int32))), .val (.int 2), .val (.int ((1 : Int32) + (1 : Int32))), .val (.int x1)]) rfl (XS.goto X4.here hx rfl (pc0 := 41) (pc' := 3) rfl (hb hby d11_41) (by decide) (by decide) k)))) ?_
  rw [show ((1 : Int32) + (1 : Int32)) = (2 : Int32) from by decide +kernel]
  refine own_go (x' := T4.setTop (mkF m 46 #[.val (.ref ao0), .val (.int 2), .val (.ref ao2), .val (.int 2), .val (.int 2), .val (.int 2), .val (.int x1)] [(.int 2)])) (fun _ k => XS.iload X4.here hx rfl (hb hby d11_3) rfl (XS.iload X4.here hx rfl (hb hby d11_5) rfl (XS.icmpYes X4.here hx rfl (pc0 := 7) (pc' := 44) rfl (hb hby d11_7) rfl (flt (Int32.lt_irrefl)).2.1 (by decide) (by decide) (XS.iload X4.here hx rfl (hb hby d11_44) rfl k)))) ?_
  refine own_retI X4 hx hlk hret (hb hby d11_46) ?_ (by decide) (by decide)
  rw [e4]
  exact ⟨rfl, Nf, Kp, V_ao2⟩
def Q_rm_cmpb_2 (Z : State) (ao0 : Addr) (kx : ClassId) (x0 x1 : Int32) (h0 : Heap) (n0 : Nat) (v : Option Value) (h : Heap) (L : List Loc) : Prop := ∃ (b : Addr) (kb : ClassId), v = some (.ref b) ∧ Fr n0 L ∧ Keep h0 h [] ∧ h0.size ≤ b ∧ n0 ≤ b ∧ Arv Z h b kb .byte (2 : Int32) [(.int (nar .byte (x0.toInt8.toInt32))), (.int (nar .byte (x1.toInt8.toInt32)))] (.int (0 : Int32))
theorem pn_rm_cmpb_2 : plainName "java/lang/StringUTF16" = true := by first | (simp [plainName, overriddenIn]; done) | decide +kernel
theorem ef_rm_cmpb_2 (m : MethodId) (x0 : Addr) (x1 : Int32) (x2 : Int32) : entryFrame m #[(.ref x0), (.int x1), (.int x2)] 6 = mkF m 0 #[.val (.ref x0), .val (.int x1), .val (.int x2), .unset, .unset, .unset] [] := by first | (simp [entryFrame, mkF, argsToLocals, Value.category]; done) | rfl
set_option maxRecDepth 65536 in
set_option maxHeartbeats 40000000 in
theorem rm_cmpb_2 (l : Launch) (Z : State) (a0 : Array Value) (hw : ∀ d ∈ tables_1, d.before a0 Z = true) (ws : List Jvm.Cond) (ao0 : Addr) (kx : ClassId) (x0 x1 : Int32) (h0 : Heap) (n0 : Nat) (Z0 : n0 ≤ h0.size) (V_ao0 : Arv Z h0 ao0 kx .char (2 : Int32) [.int x0, .int x1] (.int (0 : Int32))) (hx0 : ¬ (255 : Int32) < x0) (hx1 : ¬ (255 : Int32) < x1) :
    MetFree l (⟨"java/lang/StringUTF16", "compress", "([CII)[B"⟩ : MethodName) (head1 (Jvm.Cond.code (⟨"java/lang/StringUTF16", "compress", "([CII)[B"⟩ : MethodName) jdk_52_method_16_code 6 (some (.array .byte)) :: ws) ({ frames := 1, cells := 1, slots := 2, locals := 18 } : Room)) (fun a U => a = #[(.ref ao0), (.int 0), (.int 2)] ∧ Z.Warmed39 U.vm ∧ U.heap = h0) (fun _ _ _ _ _ => True) (fun _ U o U' => ∃ v L, o = .returned v ∧ (Q_rm_cmpb_2 Z ao0 kx x0 x1 h0 n0) v U'.heap L ∧ FrameEnd U o U' L ({ frames := 1, cells := 1, slots := 2, locals := 18 } : Room).cells ({ frames := 1, cells := 1, slots := 2, locals := 18 } : Room).slots) := by
  refine MetFree.of_bodySF (plainFor_of_name pn_rm_cmpb_2) hisR ?_
  intro p e s m args below meth c s₁ Bd hml0 hP hK
  obtain ⟨rfl, hZ, hh⟩ := hP
  have hx := Bd.exec
  have hby := Bd.bytes
  have hlk := BodyLoose.notSynchronized Bd
  have hret := Bd.returns
  have hml : c.maxLocals = 6 := hml0
  have hown : s.vm.findClass "java/lang/StringUTF16" = some m.cls := findClass_of_methodNamed Bd.named
  have hnm := (name_of_methodNamed Bd.named Bd.method).1
  have X0 : Stand p l e ({ frames := 1, cells := 1, slots := 2, locals := 18 } : Room) s m #[(.ref ao0), (.int 0), (.int 2)] below meth c s₁ [] 0 0 := Stand.of_body Bd
  have e0 : s₁.heap = h0 := by rw [← hh, Bd.state]; rfl
  have Nf := Fr.nil n0
  have Zs := Z0
  have Kp : Keep h0 h0 [] := Keep.refl _ _
  show own_End p e below s (Q_rm_cmpb_2 Z ao0 kx x0 x1 h0 n0) ({ frames := 1, cells := 1, slots := 2, locals := 18 } : Room).cells ({ frames := 1, cells := 1, slots := 2, locals := 18 } : Room).slots (s₁.setTop (entryFrame m #[(.ref ao0), (.int 0), (.int 2)] 6))
  refine own_go (x' := s₁.setTop (mkF m 0 #[.val (.ref ao0), .val (.int 0), .val (.int 2), .unset, .unset, .unset] [])) (fun t k => castTop (ef_rm_cmpb_2 m ao0 (0 : Int32) (2 : Int32)) k) ?_
  refine own_go (x' := s₁.setTop (mkF m 1 #[.val (.ref ao0), .val (.int 0), .val (.int 2), .unset, .unset, .unset] [(.int 2)])) (fun _ k => XS.iloadN X0.here hx rfl (hb hby d10_0) rfl k) ?_
  obtain ⟨T1, h1, k1, X1, e1, E1, A1, st1⟩ := newP X0 hx hZ (own_w hw 52 rfl) e0 (g := (mkF m 1 #[.val (.ref ao0), .val (.int 0), .val (.int 2), .unset, .unset, .unset] [(.int 2)])) rfl (hb hby d10_1) rfl (by decide) (cap := 2) (by decide) (by decide) (by decide) (by decide)
  obtain ⟨b1, g1⟩ : ∃ z, z = h0.size := ⟨_, rfl⟩
  rw [← g1] at A1 st1
  have ne_ao0_b1 : ao0 ≠ b1 := Nat.ne_of_lt (Nat.lt_of_lt_of_le V_ao0.lt (Nat.le_of_eq g1.symm))
  have g_b1 : n0 ≤ b1 := Nat.le_trans Zs (Nat.le_of_eq g1.symm)
  have sz_b1 : h0.size ≤ b1 := Nat.le_trans Kp.1 (Nat.le_of_eq g1.symm)
  replace V_ao0 := V_ao0.ext E1
  replace Zs := Nat.le_trans Zs E1.1
  replace Kp := Kp.ext E1
  have V_b1 : Arv Z h1 b1 k1 .byte (2 : Int32) [(.int 0), (.int 0)] (.int 0) := (Arv.new A1 (by decide)).pad (pad_rep [] (.int 0) 2)
  refine own_go (x' := T1.setTop (mkF m 3 #[.val (.ref ao0), .val (.int 0), .val (.int 2), .unset, .unset, .unset] [(.ref b1)])) st1 ?_
  refine own_go (x' := T1.setTop (mkF m 9 #[.val (.ref ao0), .val (.int 0), .val (.int 2), .val (.ref b1), .unset, .unset] [(.int 2), (.int 0), (.ref b1), (.int 0), (.ref ao0)])) (fun _ k => XS.astoreN X1.here hx rfl (hb hby d10_3) rfl rfl (l' := #[.val (.ref ao0), .val (.int 0), .val (.int 2), .val (.ref b1), .unset, .unset]) rfl (XS.aloadN X1.here hx rfl (hb hby d10_4) rfl rfl (XS.iloadN X1.here hx rfl (hb hby d10_5) rfl (XS.aloadN X1.here hx rfl (hb hby d10_6) rfl rfl (XS.iconst X1.here hx rfl (hb hby d10_7) (XS.iloadN X1.here hx rfl (hb hby d10_8) rfl k)))))) ?_
  obtain ⟨_, _, ⟨T2, L2, k2, n2⟩, -, X2, ⟨Lc2, hQ2, l2, y2, z2⟩, st2⟩ := Jvm.LawKit.callS X1 hx (y := (⟨"java/lang/StringUTF16", "compress", "([CI[BII)I"⟩ : MethodName)) hown (mvT hZ (own_w hw 53 rfl)) (mvT hZ (own_w hw 54 rfl)) (mvT hZ (own_w hw 50 rfl)) (mvT hZ (own_w hw 55 rfl)) (by decide) (backOf (W := 0) (rm_cmp_2 l Z a0 hw [] ao0 b1 kx k1 x0 x1 h1 n0 Zs V_ao0 V_b1 hx0 hx1 ne_ao0_b1 g_b1) hZ (own_w hw 55 rfl) (own_w hw 50 rfl) (by decide) (by decide)) (g := (mkF m 9 #[.val (.ref ao0), .val (.int 0), .val (.int 2), .val (.ref b1), .unset, .unset] [(.int 2), (.int 0), (.ref b1), (.int 0), (.ref ao0)])) rfl (by rw [hml]; rfl) (argsL := [(.ref ao0), (.int 0), (.ref b1), (.int 0), (.int 2)]) (rest := []) (lenOf pd_0 rfl) rfl (by show 2 * 0 + _ ≤ _; exact Nat.le_of_eq rfl) (hb hby d10_9) (fun _ _ => ⟨rfl, e1, (by decide : 1 + 0 ≤ _), (by decide : 2 + 0 ≤ _)⟩)
  dsimp only [Pt.U, Pt.locs, Pt.cells, Pt.slots] at X2 l2 y2 z2 st2 hQ2
  subst l2 y2 z2
  obtain ⟨hv2, Nq2, K2, Vb2⟩ := hQ2
  subst hv2
  replace Nf := Fr.app Nf Nq2
  replace V_ao0 := V_ao0.keep K2 (ninS ne_ao0_b1 nin0)
  replace Zs := Nat.le_trans Zs K2.1
  replace Kp := Kp.trans K2 (allS (Or.inr sz_b1) all0)
  replace V_b1 := Vb2
  refine own_go (x' := T2.setTop (mkF m 12 #[.val (.ref ao0), .val (.int 0), .val (.int 2), .val (.ref b1), .unset, .unset] [(.int 2)])) st2 ?_
  refine own_go (x' := T2.setTop (mkF m 58 #[.val (.ref ao0), .val (.int 0), .val (.int 2), .val (.ref b1), .val (.int 2), .unset] [(.ref b1)])) (fun _ k => XS.istore X2.here hx rfl (hb hby d10_12) rfl (l' := #[.val (.ref ao0), .val (.int 0), .val (.int 2), .val (.ref b1), .val (.int 2), .unset]) rfl (XS.iload X2.here hx rfl (hb hby d10_14) rfl (XS.iloadN X2.here hx rfl (hb hby d10_16) rfl (XS.icmpYes X2.here hx rfl (pc0 := 17) (pc' := 57) rfl (hb hby d10_17) rfl (teq rfl).1 (by decide) (by decide) (XS.aloadN X2.here hx rfl (hb hby d10_57) rfl rfl k))))) ?_
  refine own_retR X2 hx hlk hret rfl rfl (hb hby d10_58) ?_ (by decide) (by decide)
  exact ⟨b1, k1, rfl, Nf, Kp, sz_b1, g_b1, V_b1⟩
def Q_rm_new4_2 (Z : State) (ao0 ao1 : Addr) (kx : ClassId) (x0 x1 : Int32) (G1 : Int32) (h0 : Heap) (n0 : Nat) (v : Option Value) (h : Heap) (L : List Loc) : Prop := ∃ (b : Addr) (kb : ClassId), v = none ∧ Fr n0 L ∧ Keep h0 h [ao0] ∧ h0.size ≤ b ∧ n0 ≤ b ∧ Exa Z h ao0 "java/lang/String" ∧ Fld Z h ao0 "java/lang/String" "value" "[B" (.ref b) ∧ Fld Z h ao0 "java/lang/String" "coder" "B" (.int (nar .byte (0 : Int32))) ∧ Arv Z h b kb .byte (2 : Int32) [(.int (nar .byte (x0.toInt8.toInt32))), (.int (nar .byte (x1.toInt8.toInt32)))] (.int (0 : Int32))
theorem pn_rm_new4_2 : plainName "java/lang/String" = true := by first | (simp [plainName, overriddenIn]; done) | decide +kernel
theorem ef_rm_new4_2 (m : MethodId) (x0 : Addr) (x1 : Addr) (x2 : Int32) (x3 : Int32) : entryFrame m #[(.ref x0), (.ref x1), (.int x2), (.int x3), .null] 6 = mkF m 0 #[.val (.ref x0), .val (.ref x1), .val (.int x2), .val (.int x3), .val .null, .unset] [] := by first | (simp [entryFrame, mkF, argsToLocals, Value.category]; done) | rfl
set_option maxRecDepth 65536 in
set_option maxHeartbeats 40000000 in
theorem rm_new4_2 (l : Launch) (Z : State) (a0 : Array Value) (hw : ∀ d ∈ tables_1, d.before a0 Z = true) (ws : List Jvm.Cond) (ao0 ao1 : Addr) (kx : ClassId) (x0 x1 : Int32) (G1 : Int32) (h0 : Heap) (n0 : Nat) (Z0 : n0 ≤ h0.size) (E_ao0 : Exa Z h0 ao0 "java/lang/String") (F_ao0_value : Fld Z h0 ao0 "java/lang/String" "value" "[B" .null) (F_ao0_coder : Fld Z h0 ao0 "java/lang/String" "coder" "B" (.int 0)) (V_ao1 : Arv Z h0 ao1 kx .char (2 : Int32) [.int x0, .int x1] (.int (0 : Int32))) (hx0 : ¬ (255 : Int32) < x0) (hx1 : ¬ (255 : Int32) < x1) (Od : Old Z n0 h0) (S_COMPACT_STRINGS : Sta Z Z.heap "java/lang/String" "COMPACT_STRINGS" "Z" (.int G1)) (hG : ¬ G1 = (0 : Int32)) (ne_ao0_ao1 : ao0 ≠ ao1) (g_ao0 : n0 ≤ ao0) :
    MetFree l (⟨"java/lang/String", "<init>", "([CIILjava/lang/Void;)V"⟩ : MethodName) (head1 (Jvm.Cond.code (⟨"java/lang/String", "<init>", "([CIILjava/lang/Void;)V"⟩ : MethodName) jdk_42_method_149_code 6 none :: ws) ({ frames := 2, cells := 1, slots := 2, locals := 35 } : Room)) (fun a U => a = #[(.ref ao0), (.ref ao1), (.int 0), (.int 2), .null] ∧ Z.Warmed39 U.vm ∧ U.heap = h0) (fun _ _ _ _ _ => True) (fun _ U o U' => ∃ v L, o = .returned v ∧ (Q_rm_new4_2 Z ao0 ao1 kx x0 x1 G1 h0 n0) v U'.heap L ∧ FrameEnd U o U' L ({ frames := 2, cells := 1, slots := 2, locals := 35 } : Room).cells ({ frames := 2, cells := 1, slots := 2, locals := 35 } : Room).slots) := by
  refine MetFree.of_bodySF (plainFor_of_name pn_rm_new4_2) hisR ?_
  intro p e s m args below meth c s₁ Bd hml0 hP hK
  obtain ⟨rfl, hZ, hh⟩ := hP
  have hx := Bd.exec
  have hby := Bd.bytes
  have hlk := BodyLoose.notSynchronized Bd
  have hret := Bd.returns
  have hml : c.maxLocals = 6 := hml0
  have hown : s.vm.findClass "java/lang/String" = some m.cls := findClass_of_methodNamed Bd.named
  have hnm := (name_of_methodNamed Bd.named Bd.method).1
  have X0 : Stand p l e ({ frames := 2, cells := 1, slots := 2, locals := 35 } : Room) s m #[(.ref ao0), (.ref ao1), (.int 0), (.int 2), .null] below meth c s₁ [] 0 0 := Stand.of_body Bd
  have e0 : s₁.heap = h0 := by rw [← hh, Bd.state]; rfl
  have Nf := Fr.nil n0
  have Zs := Z0
  have Kp : Keep h0 h0 [ao0] := Keep.refl _ _
  show own_End p e below s (Q_rm_new4_2 Z ao0 ao1 kx x0 x1 G1 h0 n0) ({ frames := 2, cells := 1, slots := 2, locals := 35 } : Room).cells ({ frames := 2, cells := 1, slots := 2, locals := 35 } : Room).slots (s₁.setTop (entryFrame m #[(.ref ao0), (.ref ao1), (.int 0), (.int 2), .null] 6))
  refine own_go (x' := s₁.setTop (mkF m 0 #[.val (.ref ao0), .val (.ref ao1), .val (.int 0), .val (.int 2), .val .null, .unset] [])) (fun t k => castTop (ef_rm_new4_2 m ao0 ao1 (0 : Int32) (2 : Int32)) k) ?_
  refine own_go (x' := s₁.setTop (mkF m 1 #[.val (.ref ao0), .val (.ref ao1), .val (.int 0), .val (.int 2), .val .null, .unset] [(.ref ao0)])) (fun _ k => XS.aloadN X0.here hx rfl (hb hby d9_0) rfl rfl k) ?_
  obtain ⟨T1, X1, e1, st1⟩ := initO X0 hx hZ hown (own_w hw 46 rfl) (own_w hw 16 rfl) (own_w hw 17 rfl) e0 (g := (mkF m 1 #[.val (.ref ao0), .val (.ref ao1), .val (.int 0), .val (.int 2), .val .null, .unset] [(.ref ao0)])) rfl (by rw [hml]; rfl) rfl (hb hby d9_1) (by decide) (W := 0) (by show 2 * 0 + _ ≤ _; exact Nat.le_of_eq rfl) (by decide)
  refine own_go (x' := T1.setTop (mkF m 4 #[.val (.ref ao0), .val (.ref ao1), .val (.int 0), .val (.int 2), .val .null, .unset] [])) st1 ?_
  refine own_go (x' := T1.setTop (mkF m 27 #[.val (.ref ao0), .val (.ref ao1), .val (.int 0), .val (.int 2), .val .null, .unset] [])) (fun _ k => XS.iloadN X1.here hx rfl (hb hby d9_4) rfl (XS.ifYes X1.here hx rfl (pc0 := 5) (pc' := 27) rfl (hb hby d9_5) rfl ((if0 _ _).trans (feq (by decide +kernel : ¬ ((2 : Int32) = (0 : Int32)))).2) (by decide) (by decide) k)) ?_
  obtain ⟨T2, X2, e2, st2⟩ := getS2 X1 hx hZ hown (host := "") (Or.inl (own_w hw 47 rfl)) Via.refl e1 (Sta.ext Od.2 S_COMPACT_STRINGS) (g := (mkF m 27 #[.val (.ref ao0), .val (.ref ao1), .val (.int 0), .val (.int 2), .val .null, .unset] [])) rfl (hb hby d9_27)
  refine own_go (x' := T2.setTop (mkF m 30 #[.val (.ref ao0), .val (.ref ao1), .val (.int 0), .val (.int 2), .val .null, .unset] [(.int G1)])) st2 ?_
  refine own_go (x' := T2.setTop (mkF m 36 #[.val (.ref ao0), .val (.ref ao1), .val (.int 0), .val (.int 2), .val .null, .unset] [(.int 2), (.int 0), (.ref ao1)])) (fun _ k => XS.ifNo X2.here hx rfl (hb hby d9_30) rfl ((if0 _ _).trans (feq hG).1) (XS.aloadN X2.here hx rfl (hb hby d9_33) rfl rfl (XS.iloadN X2.here hx rfl (hb hby d9_34) rfl (XS.iloadN X2.here hx rfl (hb hby d9_35) rfl k)))) ?_
  obtain ⟨_, _, ⟨T3, L3, k3, n3⟩, -, X3, ⟨Lc3, hQ3, l3, y3, z3⟩, st3⟩ := Jvm.LawKit.callS X2 hx (y := (⟨"java/lang/StringUTF16", "compress", "([CII)[B"⟩ : MethodName)) hown (mvT hZ (own_w hw 48 rfl)) (mvT hZ (own_w hw 49 rfl)) (mvT hZ (own_w hw 50 rfl)) (mvT hZ (own_w hw 51 rfl)) (by decide) (backOf (W := 0) (rm_cmpb_2 l Z a0 hw [] ao1 kx x0 x1 h0 n0 Zs V_ao1 hx0 hx1) hZ (own_w hw 51 rfl) (own_w hw 50 rfl) (by decide) (by decide)) (g := (mkF m 36 #[.val (.ref ao0), .val (.ref ao1), .val (.int 0), .val (.int 2), .val .null, .unset] [(.int 2), (.int 0), (.ref ao1)])) rfl (by rw [hml]; rfl) (argsL := [(.ref ao1), (.int 0), (.int 2)]) (rest := []) (lenOf pd_1 rfl) rfl (by show 2 * 0 + _ ≤ _; exact Nat.le_of_eq rfl) (hb hby d9_36) (fun _ _ => ⟨rfl, e2, (by decide : 0 + 1 ≤ _), (by decide : 0 + 2 ≤ _)⟩)
  dsimp only [Pt.U, Pt.locs, Pt.cells, Pt.slots] at X3 l3 y3 z3 st3 hQ3
  subst l3 y3 z3
  obtain ⟨b3, kb3, hv3, Nq3, K3, sq3, g_b3, V_b3⟩ := hQ3
  subst hv3
  replace Nf := Fr.app Nf Nq3
  have ne_ao0_b3 : ao0 ≠ b3 := Nat.ne_of_lt (Nat.lt_of_lt_of_le E_ao0.lt sq3)
  have ne_ao1_b3 : ao1 ≠ b3 := Nat.ne_of_lt (Nat.lt_of_lt_of_le V_ao1.lt sq3)
  have sz_b3 : h0.size ≤ b3 := Nat.le_trans Kp.1 sq3
  replace E_ao0 := E_ao0.keep K3
  replace F_ao0_value := F_ao0_value.keep K3 nin0
  replace F_ao0_coder := F_ao0_coder.keep K3 nin0
  replace V_ao1 := V_ao1.keep K3 nin0
  replace Od := Od.keep K3 all0
  replace Zs := Nat.le_trans Zs K3.1
  replace Kp := Kp.trans K3 all0
  refine own_go (x' := T3.setTop (mkF m 39 #[.val (.ref ao0), .val (.ref ao1), .val (.int 0), .val (.int 2), .val .null, .unset] [(.ref b3)])) st3 ?_
  refine own_go (x' := T3.setTop (mkF m 45 #[.val (.ref ao0), .val (.ref ao1), .val (.int 0), .val (.int 2), .val .null, .val (.ref b3)] [(.int 2), (.ref b3), (.ref ao0)])) (fun _ k => XS.astore X3.here hx rfl (hb hby d9_39) rfl rfl (l' := #[.val (.ref ao0), .val (.ref ao1), .val (.int 0), .val (.int 2), .val .null, .val (.ref b3)]) rfl (XS.aloadN X3.here hx rfl (hb hby d9_41) rfl rfl (XS.aload X3.here hx rfl (hb hby d9_42) rfl rfl (XS.iloadN X3.here hx rfl (hb hby d9_44) rfl k)))) ?_
  obtain ⟨_, _, ⟨T4, L4, k4, n4⟩, -, X4, ⟨Lc4, hQ4, l4, y4, z4⟩, st4⟩ := Jvm.LawKit.callS X3 hx (y := (⟨"java/lang/StringUTF16", "coderFromArrayLen", "([BI)B"⟩ : MethodName)) hown (mvT hZ (own_w hw 56 rfl)) (mvT hZ (own_w hw 57 rfl)) (mvT hZ (own_w hw 50 rfl)) (mvT hZ (own_w hw 58 rfl)) (by decide) (backOf (W := 1) (rm_cod_2 l Z a0 hw [] b3 kb3 _ T3.heap n0 Zs V_b3) hZ (own_w hw 58 rfl) (own_w hw 50 rfl) (by decide) (by decide)) (g := (mkF m 45 #[.val (.ref ao0), .val (.ref ao1), .val (.int 0), .val (.int 2), .val .null, .val (.ref b3)] [(.int 2), (.ref b3), (.ref ao0)])) rfl (by rw [hml]; rfl) (argsL := [(.ref b3), (.int 2)]) (rest := [(.ref ao0)]) (lenOf pd_2 rfl) rfl (by show 2 * 0 + _ ≤ _; exact Nat.le_of_eq rfl) (hb hby d9_45) (fun _ _ => ⟨rfl, rfl, (by decide : 1 + 0 ≤ _), (by decide : 2 + 0 ≤ _)⟩)
  dsimp only [Pt.U, Pt.locs, Pt.cells, Pt.slots] at X4 l4 y4 z4 st4 hQ4
  subst l4 y4 z4
  obtain ⟨hv4, Nq4, eq4⟩ := hQ4
  subst hv4
  replace Nf := Fr.app Nf Nq4
  refine own_go (x' := T4.setTop (mkF m 48 #[.val (.ref ao0), .val (.ref ao1), .val (.int 0), .val (.int 2), .val .null, .val (.ref b3)] [(.int 0), (.ref ao0)])) st4 ?_
  obtain ⟨T5, h5, X5, e5, W5, st5⟩ := putFN X4 hx hZ hown (own_w hw 59 rfl) Via.refl eq4 F_ao0_coder E_ao0 (Or.inr ⟨(own_w hw 60 rfl), rfl, hnm⟩) (own_w hw 37 rfl) (ty := .byte) (v' := (.int (nar .byte (0 : Int32)))) (by decide) rfl (fits_nar_byte _) (g := (mkF m 48 #[.val (.ref ao0), .val (.ref ao1), .val (.int 0), .val (.int 2), .val .null, .val (.ref b3)] [(.int 0), (.ref ao0)])) rfl rfl (hb hby d9_48)
  refine own_go (x' := T5.setTop (mkF m 51 #[.val (.ref ao0), .val (.ref ao1), .val (.int 0), .val (.int 2), .val .null, .val (.ref b3)] [])) st5 ?_
  replace E_ao0 := Exa.wr W5 E_ao0
  replace F_ao0_value := Fld.other W5 F_ao0_value (Or.inr (slot_ne (Or.inr (own_w hw 62 rfl)) (Or.inr (own_w hw 60 rfl)) (by decide) (t := (.array .byte)) (t' := .byte) (by decide) (by decide)))
  replace F_ao0_coder := Fld.same W5 F_ao0_coder
  replace V_ao1 := V_ao1.other W5 (Ne.symm ne_ao0_ao1)
  replace Od := Od.wr W5 g_ao0
  replace V_b3 := V_b3.other W5 (Ne.symm ne_ao0_b3)
  replace Zs := Nat.le_trans Zs (Keep.of_wr W5).1
  replace Nf := Fr.snoc X5 Nf g_ao0
  replace Kp := Kp.wr W5 (Or.inl (by simp))
  refine own_go (x' := T5.setTop (mkF m 54 #[.val (.ref ao0), .val (.ref ao1), .val (.int 0), .val (.int 2), .val .null, .val (.ref b3)] [(.ref b3), (.ref ao0)])) (fun _ k => XS.aloadN X5.here hx rfl (hb hby d9_51) rfl rfl (XS.aload X5.here hx rfl (hb hby d9_52) rfl rfl k)) ?_
  obtain ⟨T6, h6, X6, e6, W6, st6⟩ := putF X5 hx hZ hown (host := "") (Or.inl (own_w hw 61 rfl)) Via.refl e5 F_ao0_value E_ao0 (Or.inr ⟨(own_w hw 62 rfl), rfl, hnm⟩) (own_w hw 37 rfl) (ty := (.array .byte)) (by decide) rfl rfl (g := (mkF m 54 #[.val (.ref ao0), .val (.ref ao1), .val (.int 0), .val (.int 2), .val .null, .val (.ref b3)] [(.ref b3), (.ref ao0)])) rfl rfl (hb hby d9_54)
  refine own_go (x' := T6.setTop (mkF m 57 #[.val (.ref ao0), .val (.ref ao1), .val (.int 0), .val (.int 2), .val .null, .val (.ref b3)] [])) st6 ?_
  replace E_ao0 := Exa.wr W6 E_ao0
  replace F_ao0_value := Fld.same W6 F_ao0_value
  replace F_ao0_coder := Fld.other W6 F_ao0_coder (Or.inr (slot_ne (Or.inr (own_w hw 60 rfl)) (Or.inr (own_w hw 62 rfl)) (by decide) (t := .byte) (t' := (.array .byte)) (by decide) (by decide)))
  replace V_ao1 := V_ao1.other W6 (Ne.symm ne_ao0_ao1)
  replace Od := Od.wr W6 g_ao0
  replace V_b3 := V_b3.other W6 (Ne.symm ne_ao0_b3)
  replace Zs := Nat.le_trans Zs (Keep.of_wr W6).1
  replace Nf := Fr.snoc X6 Nf g_ao0
  replace Kp := Kp.wr W6 (Or.inl (by simp))
  refine own_retV X6 hx hlk hret (hb hby d9_57) ?_ (by decide) (by decide)
  rw [e6]
  exact ⟨b3, kb3, rfl, Nf, Kp, sz_b3, g_b3, E_ao0, F_ao0_value, F_ao0_coder, V_b3⟩
def Q_rm_new_2 (Z : State) (ao0 ao1 : Addr) (kx : ClassId) (x0 x1 : Int32) (G1 : Int32) (h0 : Heap) (n0 : Nat) (v : Option Value) (h : Heap) (L : List Loc) : Prop := ∃ (b : Addr) (kb : ClassId), v = none ∧ Fr n0 L ∧ Keep h0 h [ao0] ∧ h0.size ≤ b ∧ n0 ≤ b ∧ Exa Z h ao0 "java/lang/String" ∧ Fld Z h ao0 "java/lang/String" "value" "[B" (.ref b) ∧ Fld Z h ao0 "java/lang/String" "coder" "B" (.int (nar .byte (0 : Int32))) ∧ Arv Z h b kb .byte (2 : Int32) [(.int (nar .byte (x0.toInt8.toInt32))), (.int (nar .byte (x1.toInt8.toInt32)))] (.int (0 : Int32))
theorem pn_rm_new_2 : plainName "java/lang/String" = true := by first | (simp [plainName, overriddenIn]; done) | decide +kernel
theorem ef_rm_new_2 (m : MethodId) (x0 : Addr) (x1 : Addr) : entryFrame m #[(.ref x0), (.ref x1)] 2 = mkF m 0 #[.val (.ref x0), .val (.ref x1)] [] := by first | (simp [entryFrame, mkF, argsToLocals, Value.category]; done) | rfl
set_option maxRecDepth 65536 in
set_option maxHeartbeats 40000000 in
theorem rm_new_2 (l : Launch) (Z : State) (a0 : Array Value) (hw : ∀ d ∈ tables_1, d.before a0 Z = true) (ws : List Jvm.Cond) (ao0 ao1 : Addr) (kx : ClassId) (x0 x1 : Int32) (G1 : Int32) (h0 : Heap) (n0 : Nat) (Z0 : n0 ≤ h0.size) (E_ao0 : Exa Z h0 ao0 "java/lang/String") (F_ao0_value : Fld Z h0 ao0 "java/lang/String" "value" "[B" .null) (F_ao0_coder : Fld Z h0 ao0 "java/lang/String" "coder" "B" (.int 0)) (V_ao1 : Arv Z h0 ao1 kx .char (2 : Int32) [.int x0, .int x1] (.int (0 : Int32))) (hx0 : ¬ (255 : Int32) < x0) (hx1 : ¬ (255 : Int32) < x1) (Od : Old Z n0 h0) (S_COMPACT_STRINGS : Sta Z Z.heap "java/lang/String" "COMPACT_STRINGS" "Z" (.int G1)) (hG : ¬ G1 = (0 : Int32)) (ne_ao0_ao1 : ao0 ≠ ao1) (g_ao0 : n0 ≤ ao0) :
    MetFree l (⟨"java/lang/String", "<init>", "([C)V"⟩ : MethodName) (head1 (Jvm.Cond.code (⟨"java/lang/String", "<init>", "([C)V"⟩ : MethodName) jdk_42_method_3_code 2 none :: ws) ({ frames := 3, cells := 1, slots := 2, locals := 52 } : Room)) (fun a U => a = #[(.ref ao0), (.ref ao1)] ∧ Z.Warmed39 U.vm ∧ U.heap = h0) (fun _ _ _ _ _ => True) (fun _ U o U' => ∃ v L, o = .returned v ∧ (Q_rm_new_2 Z ao0 ao1 kx x0 x1 G1 h0 n0) v U'.heap L ∧ FrameEnd U o U' L ({ frames := 3, cells := 1, slots := 2, locals := 52 } : Room).cells ({ frames := 3, cells := 1, slots := 2, locals := 52 } : Room).slots) := by
  refine MetFree.of_bodySF (plainFor_of_name pn_rm_new_2) hisR ?_
  intro p e s m args below meth c s₁ Bd hml0 hP hK
  obtain ⟨rfl, hZ, hh⟩ := hP
  have hx := Bd.exec
  have hby := Bd.bytes
  have hlk := BodyLoose.notSynchronized Bd
  have hret := Bd.returns
  have hml : c.maxLocals = 2 := hml0
  have hown : s.vm.findClass "java/lang/String" = some m.cls := findClass_of_methodNamed Bd.named
  have hnm := (name_of_methodNamed Bd.named Bd.method).1
  have X0 : Stand p l e ({ frames := 3, cells := 1, slots := 2, locals := 52 } : Room) s m #[(.ref ao0), (.ref ao1)] below meth c s₁ [] 0 0 := Stand.of_body Bd
  have e0 : s₁.heap = h0 := by rw [← hh, Bd.state]; rfl
  have Nf := Fr.nil n0
  have Zs := Z0
  have Kp : Keep h0 h0 [ao0] := Keep.refl _ _
  show own_End p e below s (Q_rm_new_2 Z ao0 ao1 kx x0 x1 G1 h0 n0) ({ frames := 3, cells := 1, slots := 2, locals := 52 } : Room).cells ({ frames := 3, cells := 1, slots := 2, locals := 52 } : Room).slots (s₁.setTop (entryFrame m #[(.ref ao0), (.ref ao1)] 2))
  refine own_go (x' := s₁.setTop (mkF m 0 #[.val (.ref ao0), .val (.ref ao1)] [])) (fun t k => castTop (ef_rm_new_2 m ao0 ao1) k) ?_
  refine own_go (x' := s₁.setTop (mkF m 4 #[.val (.ref ao0), .val (.ref ao1)] [(.ref ao1), (.int 0), (.ref ao1), (.ref ao0)])) (fun _ k => XS.aloadN X0.here hx rfl (hb hby d8_0) rfl rfl (XS.aloadN X0.here hx rfl (hb hby d8_1) rfl rfl (XS.iconst X0.here hx rfl (hb hby d8_2) (XS.aloadN X0.here hx rfl (hb hby d8_3) rfl rfl k)))) ?_
  obtain ⟨cl1, Ar1, -, Sz1, Nn1, -, -⟩ := id V_ao1
  refine own_go (x' := s₁.setTop (mkF m 5 #[.val (.ref ao0), .val (.ref ao1)] [(.int 2), (.int 0), (.ref ao1), (.ref ao0)])) (fun t k => X0.arraylength hx (Eq.trans (congrArg (fun h_ => h_[_]?) e0) Ar1.1) (State.isArrayOf_alike hZ.alike Ar1.2.1) (g := (mkF m 4 #[.val (.ref ao0), .val (.ref ao1)] [(.ref ao1), (.int 0), (.ref ao1), (.ref ao0)])) rfl rfl (hb hby d8_4) t (by rw [len_of Sz1 Nn1]; exact k)) ?_
  refine own_go (x' := s₁.setTop (mkF m 6 #[.val (.ref ao0), .val (.ref ao1)] [.null, (.int 2), (.int 0), (.ref ao1), (.ref ao0)])) (fun _ k => XS.aconstNull X0.here hx rfl (hb hby d8_5) k) ?_
  obtain ⟨_, _, ⟨T2, L2, k2, n2⟩, -, X2, ⟨Lc2, hQ2, l2, y2, z2⟩, st2⟩ := X0.specialBack hx (y := (⟨"java/lang/String", "<init>", "([CIILjava/lang/Void;)V"⟩ : MethodName)) rfl hown (mvT hZ (own_w hw 42 rfl)) (mvT hZ (own_w hw 43 rfl)) (mvT hZ (own_w hw 45 rfl)) (by decide) (backOf (W := 0) (rm_new4_2 l Z a0 hw [] ao0 ao1 kx x0 x1 G1 h0 n0 Zs E_ao0 F_ao0_value F_ao0_coder V_ao1 hx0 hx1 Od S_COMPACT_STRINGS hG ne_ao0_ao1 g_ao0) hZ (own_w hw 45 rfl) (own_w hw 38 rfl) (by decide) (by decide)) (g := (mkF m 6 #[.val (.ref ao0), .val (.ref ao1)] [.null, (.int 2), (.int 0), (.ref ao1), (.ref ao0)])) rfl (by rw [hml]; rfl) (Steps.refl _) (a := ao0) (argsL := [(.ref ao1), (.int 0), (.int 2), .null]) (rest := []) (lenOf pd_3 rfl) rfl (by show 2 * 0 + _ ≤ _; exact Nat.le_of_eq rfl) (hb hby d8_6) (fun _ _ => ⟨rfl, e0, (by decide : 0 + 1 ≤ _), (by decide : 0 + 2 ≤ _)⟩)
  dsimp only [Pt.U, Pt.locs, Pt.cells, Pt.slots] at X2 l2 y2 z2 st2 hQ2
  subst l2 y2 z2
  obtain ⟨b2, kb2, hv2, Nq2, K2, sq2, g_b2, Eo2, Fv2, Fc2, V_b2⟩ := hQ2
  subst hv2
  replace Nf := Fr.app Nf Nq2
  have ne_ao0_b2 : ao0 ≠ b2 := Nat.ne_of_lt (Nat.lt_of_lt_of_le E_ao0.lt sq2)
  have ne_ao1_b2 : ao1 ≠ b2 := Nat.ne_of_lt (Nat.lt_of_lt_of_le V_ao1.lt sq2)
  have sz_b2 : h0.size ≤ b2 := Nat.le_trans Kp.1 sq2
  replace V_ao1 := V_ao1.keep K2 (ninS (Ne.symm ne_ao0_ao1) nin0)
  replace Od := Od.keep K2 (allS g_ao0 all0)
  replace Zs := Nat.le_trans Zs K2.1
  replace Kp := Kp.trans K2 (allS (Or.inl (by simp)) all0)
  replace E_ao0 := Eo2
  replace F_ao0_value := Fv2
  replace F_ao0_coder := Fc2
  refine own_go (x' := T2.setTop (mkF m 9 #[.val (.ref ao0), .val (.ref ao1)] [])) (fun _ k => st2.trans k) ?_
  refine own_retV X2 hx hlk hret (hb hby d8_9) ?_ (by decide) (by decide)
  exact ⟨b2, kb2, rfl, Nf, Kp, sz_b2, g_b2, E_ao0, F_ao0_value, F_ao0_coder, V_b2⟩
theorem d9_8 : decode jdk_42_method_149_code 8 = .ok (.aload_n 0, 1) := by decide +kernel
theorem d9_9 : decode jdk_42_method_149_code 9 = .ok (.ldc 7, 2) := by decide +kernel
theorem d9_11 : decode jdk_42_method_149_code 11 = .ok (.getfield 9, 3) := by decide +kernel
theorem d9_14 : decode jdk_42_method_149_code 14 = .ok (.putfield 9, 3) := by decide +kernel
theorem d9_17 : decode jdk_42_method_149_code 17 = .ok (.aload_n 0, 1) := by decide +kernel
theorem d9_18 : decode jdk_42_method_149_code 18 = .ok (.ldc 7, 2) := by decide +kernel
theorem d9_20 : decode jdk_42_method_149_code 20 = .ok (.getfield 15, 3) := by decide +kernel
theorem d9_23 : decode jdk_42_method_149_code 23 = .ok (.putfield 15, 3) := by decide +kernel
theorem d9_26 : decode jdk_42_method_149_code 26 = .ok (.return_, 1) := by decide +kernel
def Q_rm_new4_0 (Z : State) (ao0 ao1 : Addr) (h0 : Heap) (n0 : Nat) (v : Option Value) (h : Heap) (L : List Loc) : Prop := v = none ∧ Fr n0 L ∧ Keep h0 h [ao0]
theorem pn_rm_new4_0 : plainName "java/lang/String" = true := by first | (simp [plainName, overriddenIn]; done) | decide +kernel
theorem ef_rm_new4_0 (m : MethodId) (x0 : Addr) (x1 : Addr) (x2 : Int32) (x3 : Int32) : entryFrame m #[(.ref x0), (.ref x1), (.int x2), (.int x3), .null] 6 = mkF m 0 #[.val (.ref x0), .val (.ref x1), .val (.int x2), .val (.int x3), .val .null, .unset] [] := by first | (simp [entryFrame, mkF, argsToLocals, Value.category]; done) | rfl
set_option maxRecDepth 65536 in
set_option maxHeartbeats 40000000 in
theorem rm_new4_0 (l : Launch) (Z : State) (a0 : Array Value) (hw : ∀ d ∈ tables_1, d.before a0 Z = true) (ws : List Jvm.Cond) (ao0 ao1 : Addr) (h0 : Heap) (n0 : Nat) (Z0 : n0 ≤ h0.size) (E_ao0 : Exa Z h0 ao0 "java/lang/String") (F_ao0_value : Fld Z h0 ao0 "java/lang/String" "value" "[B" .null) (F_ao0_coder : Fld Z h0 ao0 "java/lang/String" "coder" "B" (.int 0)) (g_ao0 : n0 ≤ ao0) :
    MetFree l (⟨"java/lang/String", "<init>", "([CIILjava/lang/Void;)V"⟩ : MethodName) (head1 (Jvm.Cond.code (⟨"java/lang/String", "<init>", "([CIILjava/lang/Void;)V"⟩ : MethodName) jdk_42_method_149_code 6 none :: ws) ({ frames := 1, cells := 4, slots := 8, locals := 12 } : Room)) (fun a U => a = #[(.ref ao0), (.ref ao1), (.int 0), (.int 0), .null] ∧ Z.Warmed39 U.vm ∧ U.heap = h0 ∧ CHv Z own_EL U.vm h0) (fun _ _ _ _ _ => True) (fun _ U o U' => ∃ v L, o = .returned v ∧ (Q_rm_new4_0 Z ao0 ao1 h0 n0) v U'.heap L ∧ CHr Z own_EL U.vm U.heap U'.vm U'.heap ∧ ReturnedEndW U o U' L ({ frames := 1, cells := 4, slots := 8, locals := 12 } : Room).cells ({ frames := 1, cells := 4, slots := 8, locals := 12 } : Room).slots) := by
  refine MetFree.of_bodySF (plainFor_of_name pn_rm_new4_0) hisR ?_
  intro p e s m args below meth c s₁ Bd hml0 hP hK
  obtain ⟨rfl, hZ, hh, hC⟩ := hP
  have hx := Bd.exec
  have hby := Bd.bytes
  have hlk := BodyLoose.notSynchronized Bd
  have hret := Bd.returns
  have hml : c.maxLocals = 6 := hml0
  have hown : s.vm.findClass "java/lang/String" = some m.cls := findClass_of_methodNamed Bd.named
  have hnm := (name_of_methodNamed Bd.named Bd.method).1
  have X0 : Stand p l e ({ frames := 1, cells := 4, slots := 8, locals := 12 } : Room) s m #[(.ref ao0), (.ref ao1), (.int 0), (.int 0), .null] below meth c s₁ [] 0 0 := Stand.of_body Bd
  have e0 : s₁.heap = h0 := by rw [← hh, Bd.state]; rfl
  have Nf := Fr.nil n0
  have Zs := Z0
  have Kp : Keep h0 h0 [ao0] := Keep.refl _ _
  obtain ⟨vm0, k0, X0, hS, hk, hZ, hown, hR⟩ : ∃ (vm0 : Vm) (k0 : Nat), Stand p l e ({ frames := 1, cells := 4, slots := 8, locals := 12 } : Room) (s.setVm vm0) m #[(.ref ao0), (.ref ao1), (.int 0), (.int 0), .null] below meth c s₁ [] 0 0 ∧ s.Since vm0 k0 ∧ k0 ≤ h0.size ∧ Z.Warmed39 (s.setVm vm0).vm ∧ (s.setVm vm0).vm.findClass "java/lang/String" = some m.cls ∧ CHr Z own_EL s.vm s.heap vm0 h0 := ⟨s.vm, s.heap.size, X0, (State.WarmedH.refl s).since _, Nat.le_of_eq (congrArg Array.size hh), hZ, hown, by rw [hh]; exact CHr.refl hC⟩
  have Sf_ao0 := own_sfN (EL := own_EL) (vm := vm0) hZ.alike E_ao0 F_ao0_value
  show own_EndH Z own_EL p e below s (Q_rm_new4_0 Z ao0 ao1 h0 n0) ({ frames := 1, cells := 4, slots := 8, locals := 12 } : Room).cells ({ frames := 1, cells := 4, slots := 8, locals := 12 } : Room).slots (s₁.setTop (entryFrame m #[(.ref ao0), (.ref ao1), (.int 0), (.int 0), .null] 6))
  refine own_goH (x' := s₁.setTop (mkF m 0 #[.val (.ref ao0), .val (.ref ao1), .val (.int 0), .val (.int 0), .val .null, .unset] [])) (fun t k => castTop (ef_rm_new4_0 m ao0 ao1 (0 : Int32) (0 : Int32)) k) ?_
  refine own_goH (x' := s₁.setTop (mkF m 1 #[.val (.ref ao0), .val (.ref ao1), .val (.int 0), .val (.int 0), .val .null, .unset] [(.ref ao0)])) (fun _ k => XS.aloadN X0.here hx rfl (hb hby d9_0) rfl rfl k) ?_
  obtain ⟨T1, X1, e1, st1⟩ := initO X0 hx hZ hown (own_w hw 46 rfl) (own_w hw 16 rfl) (own_w hw 17 rfl) e0 (g := (mkF m 1 #[.val (.ref ao0), .val (.ref ao1), .val (.int 0), .val (.int 0), .val .null, .unset] [(.ref ao0)])) rfl (by rw [hml]; rfl) rfl (hb hby d9_1) (by decide) (W := 0) (by show 2 * 0 + _ ≤ _; exact Nat.le_of_eq rfl) (by decide)
  refine own_goH (x' := T1.setTop (mkF m 4 #[.val (.ref ao0), .val (.ref ao1), .val (.int 0), .val (.int 0), .val .null, .unset] [])) st1 ?_
  refine own_goH (x' := T1.setTop (mkF m 9 #[.val (.ref ao0), .val (.ref ao1), .val (.int 0), .val (.int 0), .val .null, .unset] [(.ref ao0)])) (fun _ k => XS.iloadN X1.here hx rfl (hb hby d9_4) rfl (XS.ifNo X1.here hx rfl (hb hby d9_5) rfl ((if0 _ _).trans (teq rfl).2) (XS.aloadN X1.here hx rfl (hb hby d9_8) rfl rfl k))) ?_
  obtain ⟨c2, T2, h2, kk2, d2, kd2, X2, e2, E2, hS, hk', hZ, hown, E_c2, F_c2_coder, F_c2_value, V_d2, -, -, C2, -, sf2, st2⟩ := ldcCH X1 hx hZ hown (own_w hw 63 rfl) (own_wS hw) e1 hS hk (own_EW hw) (by decide) hR.1 (vs := []) (z := (0 : Int32)) ⟨by decide, by decide⟩ (by decide) (by decide) (g := (mkF m 9 #[.val (.ref ao0), .val (.ref ao1), .val (.int 0), .val (.int 0), .val .null, .unset] [(.ref ao0)])) rfl (hb hby d9_9) (n := 0) (by decide) (by decide) (by decide) (by decide)
  replace Sf_ao0 := C2.safe E_ao0.lt Sf_ao0
  replace hR := hR.trans C2
  replace E_ao0 := Exa.ext E2 E_ao0
  replace F_ao0_value := Fld.ext E2 F_ao0_value
  replace F_ao0_coder := Fld.ext E2 F_ao0_coder
  replace Zs := Nat.le_trans Zs E2.1
  replace hk := Nat.le_trans hk E2.1
  replace Kp := Kp.ext E2
  replace hk := hk'
  have ne_ao0_c2 := (sf2 _ Sf_ao0).1
  have ne_ao0_d2 := (sf2 _ Sf_ao0).2
  refine own_goH (x' := T2.setTop (mkF m 11 #[.val (.ref ao0), .val (.ref ao1), .val (.int 0), .val (.int 0), .val .null, .unset] [(.ref c2), (.ref ao0)])) st2 ?_
  obtain ⟨T3, X3, e3, st3⟩ := getF X2 hx hZ hown (host := "") (Or.inl (own_w hw 61 rfl)) Via.refl e2 F_c2_value (g := (mkF m 11 #[.val (.ref ao0), .val (.ref ao1), .val (.int 0), .val (.int 0), .val .null, .unset] [(.ref c2), (.ref ao0)])) rfl rfl (hb hby d9_11)
  refine own_goH (x' := T3.setTop (mkF m 14 #[.val (.ref ao0), .val (.ref ao1), .val (.int 0), .val (.int 0), .val .null, .unset] [(.ref d2), (.ref ao0)])) st3 ?_
  obtain ⟨T4, h4, X4, e4, W4, st4⟩ := putF X3 hx hZ hown (host := "") (Or.inl (own_w hw 61 rfl)) Via.refl e3 F_ao0_value E_ao0 (Or.inr ⟨(own_w hw 62 rfl), rfl, hnm⟩) (own_w hw 37 rfl) (ty := (.array .byte)) (by decide) rfl rfl (g := (mkF m 14 #[.val (.ref ao0), .val (.ref ao1), .val (.int 0), .val (.int 0), .val .null, .unset] [(.ref d2), (.ref ao0)])) rfl rfl (hb hby d9_14)
  refine own_goH (x' := T4.setTop (mkF m 17 #[.val (.ref ao0), .val (.ref ao1), .val (.int 0), .val (.int 0), .val .null, .unset] [])) st4 ?_
  replace E_ao0 := Exa.wr W4 E_ao0
  replace F_ao0_value := Fld.same W4 F_ao0_value
  replace F_ao0_coder := Fld.other W4 F_ao0_coder (Or.inr (slot_ne (Or.inr (own_w hw 60 rfl)) (Or.inr (own_w hw 62 rfl)) (by decide) (t := .byte) (t' := (.array .byte)) (by decide) (by decide)))
  replace E_c2 := Exa.wr W4 E_c2
  replace F_c2_coder := Fld.other W4 F_c2_coder (Or.inl (Ne.symm ne_ao0_c2))
  replace F_c2_value := Fld.other W4 F_c2_value (Or.inl (Ne.symm ne_ao0_c2))
  replace V_d2 := V_d2.other W4 (Ne.symm ne_ao0_d2)
  replace Zs := Nat.le_trans Zs (Keep.of_wr W4).1
  replace hk := Nat.le_trans hk (Keep.of_wr W4).1
  have Sq_ao0 := Safe.wr W4 Sf_ao0 hR.1 Sf_ao0
  replace hR := hR.trans (CHr.wr W4 Sf_ao0 hR.1)
  replace Sf_ao0 := Sq_ao0
  replace Nf := Fr.snoc X4 Nf g_ao0
  replace Kp := Kp.wr W4 (Or.inl (by simp))
  refine own_goH (x' := T4.setTop (mkF m 18 #[.val (.ref ao0), .val (.ref ao1), .val (.int 0), .val (.int 0), .val .null, .unset] [(.ref ao0)])) (fun _ k => XS.aloadN X4.here hx rfl (hb hby d9_17) rfl rfl k) ?_
  obtain ⟨c5, T5, h5, kk5, d5, kd5, X5, e5, E5, hS, hk', hZ, hown, E_c5, F_c5_coder, F_c5_value, V_d5, -, -, C5, -, sf5, st5⟩ := ldcCH X4 hx hZ hown (own_w hw 63 rfl) (own_wS hw) e4 hS hk (own_EW hw) (by decide) hR.1 (vs := []) (z := (0 : Int32)) ⟨by decide, by decide⟩ (by decide) (by decide) (g := (mkF m 18 #[.val (.ref ao0), .val (.ref ao1), .val (.int 0), .val (.int 0), .val .null, .unset] [(.ref ao0)])) rfl (hb hby d9_18) (n := 0) (by decide) (by decide) (by decide) (by decide)
  replace Sf_ao0 := C5.safe E_ao0.lt Sf_ao0
  replace hR := hR.trans C5
  replace E_ao0 := Exa.ext E5 E_ao0
  replace F_ao0_value := Fld.ext E5 F_ao0_value
  replace F_ao0_coder := Fld.ext E5 F_ao0_coder
  replace E_c2 := Exa.ext E5 E_c2
  replace F_c2_coder := Fld.ext E5 F_c2_coder
  replace F_c2_value := Fld.ext E5 F_c2_value
  replace V_d2 := V_d2.ext E5
  replace Zs := Nat.le_trans Zs E5.1
  replace hk := Nat.le_trans hk E5.1
  replace Kp := Kp.ext E5
  replace hk := hk'
  have ne_ao0_c5 := (sf5 _ Sf_ao0).1
  have ne_ao0_d5 := (sf5 _ Sf_ao0).2
  refine own_goH (x' := T5.setTop (mkF m 20 #[.val (.ref ao0), .val (.ref ao1), .val (.int 0), .val (.int 0), .val .null, .unset] [(.ref c5), (.ref ao0)])) st5 ?_
  obtain ⟨T6, X6, e6, st6⟩ := getF X5 hx hZ hown (host := "") (Or.inl (own_w hw 59 rfl)) Via.refl e5 F_c5_coder (g := (mkF m 20 #[.val (.ref ao0), .val (.ref ao1), .val (.int 0), .val (.int 0), .val .null, .unset] [(.ref c5), (.ref ao0)])) rfl rfl (hb hby d9_20)
  refine own_goH (x' := T6.setTop (mkF m 23 #[.val (.ref ao0), .val (.ref ao1), .val (.int 0), .val (.int 0), .val .null, .unset] [(.int 0), (.ref ao0)])) st6 ?_
  obtain ⟨T7, h7, X7, e7, W7, st7⟩ := putFN X6 hx hZ hown (own_w hw 59 rfl) Via.refl e6 F_ao0_coder E_ao0 (Or.inr ⟨(own_w hw 60 rfl), rfl, hnm⟩) (own_w hw 37 rfl) (ty := .byte) (v' := (.int (nar .byte 0))) (by decide) rfl (fits_nar_byte _) (g := (mkF m 23 #[.val (.ref ao0), .val (.ref ao1), .val (.int 0), .val (.int 0), .val .null, .unset] [(.int 0), (.ref ao0)])) rfl rfl (hb hby d9_23)
  refine own_goH (x' := T7.setTop (mkF m 26 #[.val (.ref ao0), .val (.ref ao1), .val (.int 0), .val (.int 0), .val .null, .unset] [])) st7 ?_
  replace E_ao0 := Exa.wr W7 E_ao0
  replace F_ao0_value := Fld.other W7 F_ao0_value (Or.inr (slot_ne (Or.inr (own_w hw 62 rfl)) (Or.inr (own_w hw 60 rfl)) (by decide) (t := (.array .byte)) (t' := .byte) (by decide) (by decide)))
  replace F_ao0_coder := Fld.same W7 F_ao0_coder
  replace E_c2 := Exa.wr W7 E_c2
  replace F_c2_coder := Fld.other W7 F_c2_coder (Or.inl (Ne.symm ne_ao0_c2))
  replace F_c2_value := Fld.other W7 F_c2_value (Or.inl (Ne.symm ne_ao0_c2))
  replace V_d2 := V_d2.other W7 (Ne.symm ne_ao0_d2)
  replace E_c5 := Exa.wr W7 E_c5
  replace F_c5_coder := Fld.other W7 F_c5_coder (Or.inl (Ne.symm ne_ao0_c5))
  replace F_c5_value := Fld.other W7 F_c5_value (Or.inl (Ne.symm ne_ao0_c5))
  replace V_d5 := V_d5.other W7 (Ne.symm ne_ao0_d5)
  replace Zs := Nat.le_trans Zs (Keep.of_wr W7).1
  replace hk := Nat.le_trans hk (Keep.of_wr W7).1
  have Sq_ao0 := Safe.wr W7 Sf_ao0 hR.1 Sf_ao0
  replace hR := hR.trans (CHr.wr W7 Sf_ao0 hR.1)
  replace Sf_ao0 := Sq_ao0
  replace Nf := Fr.snoc X7 Nf g_ao0
  replace Kp := Kp.wr W7 (Or.inl (by simp))
  refine own_retVH X7 hS (own_hk e7 hk) (own_hr e7 hR) hZ (own_EW hw) hx hlk hret (hb hby d9_26) ?_ (by decide) (by decide)
  rw [e7]
  exact ⟨rfl, Nf, Kp⟩
def Q_rm_new_0 (Z : State) (ao0 ao1 : Addr) (kx : ClassId) (h0 : Heap) (n0 : Nat) (v : Option Value) (h : Heap) (L : List Loc) : Prop := v = none ∧ Fr n0 L ∧ Keep h0 h [ao0]
theorem pn_rm_new_0 : plainName "java/lang/String" = true := by first | (simp [plainName, overriddenIn]; done) | decide +kernel
theorem ef_rm_new_0 (m : MethodId) (x0 : Addr) (x1 : Addr) : entryFrame m #[(.ref x0), (.ref x1)] 2 = mkF m 0 #[.val (.ref x0), .val (.ref x1)] [] := by first | (simp [entryFrame, mkF, argsToLocals, Value.category]; done) | rfl
set_option maxRecDepth 65536 in
set_option maxHeartbeats 40000000 in
theorem rm_new_0 (l : Launch) (Z : State) (a0 : Array Value) (hw : ∀ d ∈ tables_1, d.before a0 Z = true) (ws : List Jvm.Cond) (ao0 ao1 : Addr) (kx : ClassId) (h0 : Heap) (n0 : Nat) (Z0 : n0 ≤ h0.size) (E_ao0 : Exa Z h0 ao0 "java/lang/String") (F_ao0_value : Fld Z h0 ao0 "java/lang/String" "value" "[B" .null) (F_ao0_coder : Fld Z h0 ao0 "java/lang/String" "coder" "B" (.int 0)) (V_ao1 : Arv Z h0 ao1 kx .char (0 : Int32) [] (.int (0 : Int32))) (ne_ao0_ao1 : ao0 ≠ ao1) (g_ao0 : n0 ≤ ao0) :
    MetFree l (⟨"java/lang/String", "<init>", "([C)V"⟩ : MethodName) (head1 (Jvm.Cond.code (⟨"java/lang/String", "<init>", "([C)V"⟩ : MethodName) jdk_42_method_3_code 2 none :: ws) ({ frames := 2, cells := 4, slots := 8, locals := 29 } : Room)) (fun a U => a = #[(.ref ao0), (.ref ao1)] ∧ Z.Warmed39 U.vm ∧ U.heap = h0 ∧ CHv Z own_EL U.vm h0) (fun _ _ _ _ _ => True) (fun _ U o U' => ∃ v L, o = .returned v ∧ (Q_rm_new_0 Z ao0 ao1 kx h0 n0) v U'.heap L ∧ CHr Z own_EL U.vm U.heap U'.vm U'.heap ∧ ReturnedEndW U o U' L ({ frames := 2, cells := 4, slots := 8, locals := 29 } : Room).cells ({ frames := 2, cells := 4, slots := 8, locals := 29 } : Room).slots) := by
  refine MetFree.of_bodySF (plainFor_of_name pn_rm_new_0) hisR ?_
  intro p e s m args below meth c s₁ Bd hml0 hP hK
  obtain ⟨rfl, hZ, hh, hC⟩ := hP
  have hx := Bd.exec
  have hby := Bd.bytes
  have hlk := BodyLoose.notSynchronized Bd
  have hret := Bd.returns
  have hml : c.maxLocals = 2 := hml0
  have hown : s.vm.findClass "java/lang/String" = some m.cls := findClass_of_methodNamed Bd.named
  have hnm := (name_of_methodNamed Bd.named Bd.method).1
  have X0 : Stand p l e ({ frames := 2, cells := 4, slots := 8, locals := 29 } : Room) s m #[(.ref ao0), (.ref ao1)] below meth c s₁ [] 0 0 := Stand.of_body Bd
  have e0 : s₁.heap = h0 := by rw [← hh, Bd.state]; rfl
  have Nf := Fr.nil n0
  have Zs := Z0
  have Kp : Keep h0 h0 [ao0] := Keep.refl _ _
  obtain ⟨vm0, k0, X0, hS, hk, hZ, hown, hR⟩ : ∃ (vm0 : Vm) (k0 : Nat), Stand p l e ({ frames := 2, cells := 4, slots := 8, locals := 29 } : Room) (s.setVm vm0) m #[(.ref ao0), (.ref ao1)] below meth c s₁ [] 0 0 ∧ s.Since vm0 k0 ∧ k0 ≤ h0.size ∧ Z.Warmed39 (s.setVm vm0).vm ∧ (s.setVm vm0).vm.findClass "java/lang/String" = some m.cls ∧ CHr Z own_EL s.vm s.heap vm0 h0 := ⟨s.vm, s.heap.size, X0, (State.WarmedH.refl s).since _, Nat.le_of_eq (congrArg Array.size hh), hZ, hown, by rw [hh]; exact CHr.refl hC⟩
  show own_EndH Z own_EL p e below s (Q_rm_new_0 Z ao0 ao1 kx h0 n0) ({ frames := 2, cells := 4, slots := 8, locals := 29 } : Room).cells ({ frames := 2, cells := 4, slots := 8, locals := 29 } : Room).slots (s₁.setTop (entryFrame m #[(.ref ao0), (.ref ao1)] 2))
  refine own_goH (x' := s₁.setTop (mkF m 0 #[.val (.ref ao0), .val (.ref ao1)] [])) (fun t k => castTop (ef_rm_new_0 m ao0 ao1) k) ?_
  refine own_goH (x' := s₁.setTop (mkF m 4 #[.val (.ref ao0), .val (.ref ao1)] [(.ref ao1), (.int 0), (.ref ao1), (.ref ao0)])) (fun _ k => XS.aloadN X0.here hx rfl (hb hby d8_0) rfl rfl (XS.aloadN X0.here hx rfl (hb hby d8_1) rfl rfl (XS.iconst X0.here hx rfl (hb hby d8_2) (XS.aloadN X0.here hx rfl (hb hby d8_3) rfl rfl k)))) ?_
  obtain ⟨cl1, Ar1, -, Sz1, Nn1, -, -⟩ := id V_ao1
  refine own_goH (x' := s₁.setTop (mkF m 5 #[.val (.ref ao0), .val (.ref ao1)] [(.int 0), (.int 0), (.ref ao1), (.ref ao0)])) (fun t k => X0.arraylength hx (Eq.trans (congrArg (fun h_ => h_[_]?) e0) Ar1.1) (State.isArrayOf_alike hZ.alike Ar1.2.1) (g := (mkF m 4 #[.val (.ref ao0), .val (.ref ao1)] [(.ref ao1), (.int 0), (.ref ao1), (.ref ao0)])) rfl rfl (hb hby d8_4) t (by rw [len_of Sz1 Nn1]; exact k)) ?_
  refine own_goH (x' := s₁.setTop (mkF m 6 #[.val (.ref ao0), .val (.ref ao1)] [.null, (.int 0), (.int 0), (.ref ao1), (.ref ao0)])) (fun _ k => XS.aconstNull X0.here hx rfl (hb hby d8_5) k) ?_
  obtain ⟨_, _, ⟨T2, L2, k2, n2⟩, -, X2, Sw2, Gw2, ⟨Lc2, hQ2, l2, y2, z2, Cw2⟩, st2⟩ := X0.specialBackS hx (y := (⟨"java/lang/String", "<init>", "([CIILjava/lang/Void;)V"⟩ : MethodName)) rfl hown (mvT hZ (own_w hw 42 rfl)) (mvT hZ (own_w hw 43 rfl)) (mvT hZ (own_w hw 45 rfl)) (by decide) (backOfSH (W := 0) (rm_new4_0 l Z a0 hw [] ao0 ao1 h0 n0 Zs E_ao0 F_ao0_value F_ao0_coder g_ao0) hZ (own_w hw 45 rfl) (own_w hw 38 rfl) (by decide) (by decide) (own_EW hw) hR.1) (g := (mkF m 6 #[.val (.ref ao0), .val (.ref ao1)] [.null, (.int 0), (.int 0), (.ref ao1), (.ref ao0)])) rfl (by rw [hml]; rfl) (Steps.refl _) (a := ao0) (argsL := [(.ref ao1), (.int 0), (.int 0), .null]) (rest := []) (lenOf pd_3 rfl) rfl (by show 2 * 0 + _ ≤ _; exact Nat.le_of_eq rfl) (hb hby d8_6) (fun _ _ => ⟨rfl, e0, (by decide : 0 + 4 ≤ _), (by decide : 0 + 8 ≤ _)⟩)
  dsimp only [Pt.U, Pt.locs, Pt.cells, Pt.slots] at X2 l2 y2 z2 st2 hQ2 Sw2 Gw2 Cw2
  subst l2 y2 z2
  obtain ⟨X2, Sw2, hZ, hown⟩ := rebS hS (own_hk e0 hk) X2 Sw2 Gw2 hZ hown
  replace hR := hR.trans Cw2
  obtain ⟨hv2, Nq2, K2⟩ := hQ2
  subst hv2
  replace Nf := Fr.app Nf Nq2
  replace E_ao0 := E_ao0.keep K2
  replace V_ao1 := V_ao1.keep K2 (ninS (Ne.symm ne_ao0_ao1) nin0)
  replace Zs := Nat.le_trans Zs K2.1
  replace hk := Nat.le_trans hk K2.1
  replace Kp := Kp.trans K2 (allS (Or.inl (by simp)) all0)
  replace hS := Sw2
  replace hk := Nat.le_refl (Array.size T2.heap)
  refine own_goH (x' := T2.setTop (mkF m 9 #[.val (.ref ao0), .val (.ref ao1)] [])) (fun _ k => st2.trans k) ?_
  refine own_retVH X2 hS (own_hk rfl hk) (own_hr rfl hR) hZ (own_EW hw) hx hlk hret (hb hby d8_9) ?_ (by decide) (by decide)
  exact ⟨rfl, Nf, Kp⟩
theorem d1_0 : decode method_2_code 0 = .ok (.iload_n 0, 1) := by decide +kernel
theorem d1_1 : decode method_2_code 1 = .ok (.ifCond .ne 5, 3) := by decide +kernel
theorem d1_4 : decode method_2_code 4 = .ok (.aconst_null, 1) := by decide +kernel
theorem d1_5 : decode method_2_code 5 = .ok (.areturn, 1) := by decide +kernel
def Q_rm1_0 (Z : State) (p1 p2 : Int32) (G1 : Int32) (h0 : Heap) (n0 : Nat) (v : Option Value) (h : Heap) (L : List Loc) : Prop := v = some .null ∧ Fr n0 L ∧ h = h0
theorem pn_rm1_0 : plainName "com/example/lean_bus/leanbus/api/CallerIsRootPinLaw" = true := by first | (simp [plainName, overriddenIn]; done) | decide +kernel
theorem ef_rm1_0 (m : MethodId) (x0 : Int32) (x1 : Int32) (x2 : Int32) : entryFrame m #[(.int x0), (.int x1), (.int x2)] 4 = mkF m 0 #[.val (.int x0), .val (.int x1), .val (.int x2), .unset] [] := by first | (simp [entryFrame, mkF, argsToLocals, Value.category]; done) | rfl
set_option maxRecDepth 65536 in
set_option maxHeartbeats 40000000 in
theorem rm1_0 (l : Launch) (Z : State) (a0 : Array Value) (hw : ∀ d ∈ tables_1, d.before a0 Z = true) (ws : List Jvm.Cond) (p1 p2 : Int32) (G1 : Int32) (h0 : Heap) (n0 : Nat) (Z0 : n0 ≤ h0.size) (Od : Old Z n0 h0) (S_COMPACT_STRINGS : Sta Z Z.heap "java/lang/String" "COMPACT_STRINGS" "Z" (.int G1)) (hG : ¬ G1 = (0 : Int32)) :
    MetFree l (⟨"com/example/lean_bus/leanbus/api/CallerIsRootPinLaw", "draw", "(III)Ljava/lang/String;"⟩ : MethodName) (head1 (Jvm.Cond.code (⟨"com/example/lean_bus/leanbus/api/CallerIsRootPinLaw", "draw", "(III)Ljava/lang/String;"⟩ : MethodName) method_2_code 4 (some (.object "java/lang/String")) :: ws) ({ frames := 0, cells := 0, slots := 0, locals := 0 } : Room)) (fun a U => a = #[(.int 0), (.int p1), (.int p2)] ∧ Z.Warmed39 U.vm ∧ U.heap = h0) (fun _ _ _ _ _ => True) (fun _ U o U' => ∃ v L, o = .returned v ∧ (Q_rm1_0 Z p1 p2 G1 h0 n0) v U'.heap L ∧ FrameEnd U o U' L ({ frames := 0, cells := 0, slots := 0, locals := 0 } : Room).cells ({ frames := 0, cells := 0, slots := 0, locals := 0 } : Room).slots) := by
  refine MetFree.of_bodySF (plainFor_of_name pn_rm1_0) hisR ?_
  intro p e s m args below meth c s₁ Bd hml0 hP hK
  obtain ⟨rfl, hZ, hh⟩ := hP
  have hx := Bd.exec
  have hby := Bd.bytes
  have hlk := BodyLoose.notSynchronized Bd
  have hret := Bd.returns
  have hml : c.maxLocals = 4 := hml0
  have hown : s.vm.findClass "com/example/lean_bus/leanbus/api/CallerIsRootPinLaw" = some m.cls := findClass_of_methodNamed Bd.named
  have hnm := (name_of_methodNamed Bd.named Bd.method).1
  have X0 : Stand p l e ({ frames := 0, cells := 0, slots := 0, locals := 0 } : Room) s m #[(.int 0), (.int p1), (.int p2)] below meth c s₁ [] 0 0 := Stand.of_body Bd
  have e0 : s₁.heap = h0 := by rw [← hh, Bd.state]; rfl
  have Nf := Fr.nil n0
  have Zs := Z0
  have Kp : Keep h0 h0 [] := Keep.refl _ _
  show own_End p e below s (Q_rm1_0 Z p1 p2 G1 h0 n0) ({ frames := 0, cells := 0, slots := 0, locals := 0 } : Room).cells ({ frames := 0, cells := 0, slots := 0, locals := 0 } : Room).slots (s₁.setTop (entryFrame m #[(.int 0), (.int p1), (.int p2)] 4))
  refine own_go (x' := s₁.setTop (mkF m 0 #[.val (.int 0), .val (.int p1), .val (.int p2), .unset] [])) (fun t k => castTop (ef_rm1_0 m (0 : Int32) p1 p2) k) ?_
  refine own_go (x' := s₁.setTop (mkF m 5 #[.val (.int 0), .val (.int p1), .val (.int p2), .unset] [.null])) (fun _ k => XS.iloadN X0.here hx rfl (hb hby d1_0) rfl (XS.ifNo X0.here hx rfl (hb hby d1_1) rfl ((if0 _ _).trans (teq rfl).2) (XS.aconstNull X0.here hx rfl (hb hby d1_4) k))) ?_
  refine own_retR X0 hx hlk hret rfl rfl (hb hby d1_5) ?_ (by decide) (by decide)
  rw [e0]
  exact ⟨rfl, Nf, rfl⟩
theorem pd_4 : parseMethodDescriptor "([C)V" = some ⟨[(.array .char)], none⟩ := by decide +kernel
theorem d1_6 : decode method_2_code 6 = .ok (.iload_n 0, 1) := by decide +kernel
theorem d1_7 : decode method_2_code 7 = .ok (.iconst 1, 1) := by decide +kernel
theorem d1_8 : decode method_2_code 8 = .ok (.if_icmp .ne 14, 3) := by decide +kernel
theorem d1_11 : decode method_2_code 11 = .ok (.new 7, 3) := by decide +kernel
theorem d1_14 : decode method_2_code 14 = .ok (.dup, 1) := by decide +kernel
theorem d1_15 : decode method_2_code 15 = .ok (.iconst 0, 1) := by decide +kernel
theorem d1_16 : decode method_2_code 16 = .ok (.newarray .char, 2) := by decide +kernel
theorem d1_18 : decode method_2_code 18 = .ok (.invokespecial 9, 3) := by decide +kernel
theorem d1_21 : decode method_2_code 21 = .ok (.areturn, 1) := by decide +kernel
def Q_rm1_1 (Z : State) (p1 p2 : Int32) (G1 : Int32) (h0 : Heap) (n0 : Nat) (v : Option Value) (h : Heap) (L : List Loc) : Prop := ∃ b : Addr, v = some (.ref b) ∧ Fr n0 L ∧ Keep h0 h []
theorem pn_rm1_1 : plainName "com/example/lean_bus/leanbus/api/CallerIsRootPinLaw" = true := by first | (simp [plainName, overriddenIn]; done) | decide +kernel
theorem ef_rm1_1 (m : MethodId) (x0 : Int32) (x1 : Int32) (x2 : Int32) : entryFrame m #[(.int x0), (.int x1), (.int x2)] 4 = mkF m 0 #[.val (.int x0), .val (.int x1), .val (.int x2), .unset] [] := by first | (simp [entryFrame, mkF, argsToLocals, Value.category]; done) | rfl
set_option maxRecDepth 65536 in
set_option maxHeartbeats 40000000 in
theorem rm1_1 (l : Launch) (Z : State) (a0 : Array Value) (hw : ∀ d ∈ tables_1, d.before a0 Z = true) (ws : List Jvm.Cond) (p1 p2 : Int32) (G1 : Int32) (h0 : Heap) (n0 : Nat) (Z0 : n0 ≤ h0.size) (Od : Old Z n0 h0) (S_COMPACT_STRINGS : Sta Z Z.heap "java/lang/String" "COMPACT_STRINGS" "Z" (.int G1)) (hG : ¬ G1 = (0 : Int32)) :
    MetFree l (⟨"com/example/lean_bus/leanbus/api/CallerIsRootPinLaw", "draw", "(III)Ljava/lang/String;"⟩ : MethodName) (head1 (Jvm.Cond.code (⟨"com/example/lean_bus/leanbus/api/CallerIsRootPinLaw", "draw", "(III)Ljava/lang/String;"⟩ : MethodName) method_2_code 4 (some (.object "java/lang/String")) :: ws) ({ frames := 3, cells := 6, slots := 12, locals := 43 } : Room)) (fun a U => a = #[(.int 1), (.int p1), (.int p2)] ∧ Z.Warmed39 U.vm ∧ U.heap = h0 ∧ CHv Z own_EL U.vm h0) (fun _ _ _ _ _ => True) (fun _ U o U' => ∃ v L, o = .returned v ∧ (Q_rm1_1 Z p1 p2 G1 h0 n0) v U'.heap L ∧ CHr Z own_EL U.vm U.heap U'.vm U'.heap ∧ ReturnedEndW U o U' L ({ frames := 3, cells := 6, slots := 12, locals := 43 } : Room).cells ({ frames := 3, cells := 6, slots := 12, locals := 43 } : Room).slots) := by
  refine MetFree.of_bodySF (plainFor_of_name pn_rm1_1) hisR ?_
  intro p e s m args below meth c s₁ Bd hml0 hP hK
  obtain ⟨rfl, hZ, hh, hC⟩ := hP
  have hx := Bd.exec
  have hby := Bd.bytes
  have hlk := BodyLoose.notSynchronized Bd
  have hret := Bd.returns
  have hml : c.maxLocals = 4 := hml0
  have hown : s.vm.findClass "com/example/lean_bus/leanbus/api/CallerIsRootPinLaw" = some m.cls := findClass_of_methodNamed Bd.named
  have hnm := (name_of_methodNamed Bd.named Bd.method).1
  have X0 : Stand p l e ({ frames := 3, cells := 6, slots := 12, locals := 43 } : Room) s m #[(.int 1), (.int p1), (.int p2)] below meth c s₁ [] 0 0 := Stand.of_body Bd
  have e0 : s₁.heap = h0 := by rw [← hh, Bd.state]; rfl
  have Nf := Fr.nil n0
  have Zs := Z0
  have Kp : Keep h0 h0 [] := Keep.refl _ _
  obtain ⟨vm0, k0, X0, hS, hk, hZ, hown, hR⟩ : ∃ (vm0 : Vm) (k0 : Nat), Stand p l e ({ frames := 3, cells := 6, slots := 12, locals := 43 } : Room) (s.setVm vm0) m #[(.int 1), (.int p1), (.int p2)] below meth c s₁ [] 0 0 ∧ s.Since vm0 k0 ∧ k0 ≤ h0.size ∧ Z.Warmed39 (s.setVm vm0).vm ∧ (s.setVm vm0).vm.findClass "com/example/lean_bus/leanbus/api/CallerIsRootPinLaw" = some m.cls ∧ CHr Z own_EL s.vm s.heap vm0 h0 := ⟨s.vm, s.heap.size, X0, (State.WarmedH.refl s).since _, Nat.le_of_eq (congrArg Array.size hh), hZ, hown, by rw [hh]; exact CHr.refl hC⟩
  show own_EndH Z own_EL p e below s (Q_rm1_1 Z p1 p2 G1 h0 n0) ({ frames := 3, cells := 6, slots := 12, locals := 43 } : Room).cells ({ frames := 3, cells := 6, slots := 12, locals := 43 } : Room).slots (s₁.setTop (entryFrame m #[(.int 1), (.int p1), (.int p2)] 4))
  refine own_goH (x' := s₁.setTop (mkF m 0 #[.val (.int 1), .val (.int p1), .val (.int p2), .unset] [])) (fun t k => castTop (ef_rm1_1 m (1 : Int32) p1 p2) k) ?_
  refine own_goH (x' := s₁.setTop (mkF m 11 #[.val (.int 1), .val (.int p1), .val (.int p2), .unset] [])) (fun _ k => XS.iloadN X0.here hx rfl (hb hby d1_0) rfl (XS.ifYes X0.here hx rfl (pc0 := 1) (pc' := 6) rfl (hb hby d1_1) rfl ((if0 _ _).trans (feq (by decide +kernel : ¬ ((1 : Int32) = (0 : Int32)))).2) (by decide) (by decide) (XS.iloadN X0.here hx rfl (hb hby d1_6) rfl (XS.iconst X0.here hx rfl (hb hby d1_7) (XS.icmpNo X0.here hx rfl (hb hby d1_8) rfl (teq rfl).2 k))))) ?_
  obtain ⟨T1, h1, X1, e1, E1, A1, D1, -, st1⟩ := newO X0 hx hZ hown (own_w hw 36 rfl) (own_w hw 37 rfl) (own_w hw 38 rfl) e0 (g := (mkF m 11 #[.val (.int 1), .val (.int p1), .val (.int p2), .unset] [])) rfl (hb hby d1_11) (by decide) (by decide)
  obtain ⟨b1, g1⟩ : ∃ z, z = h0.size := ⟨_, rfl⟩
  rw [← g1] at A1 D1 st1
  have g_b1 : n0 ≤ b1 := Nat.le_trans Zs (Nat.le_of_eq g1.symm)
  have Sf_b1 := own_sfn hR (Nat.le_of_eq g1.symm)
  have sz_b1 : h0.size ≤ b1 := Nat.le_trans Kp.1 (Nat.le_of_eq g1.symm)
  replace Od := Od.ext E1
  replace Zs := Nat.le_trans Zs E1.1
  replace hk := Nat.le_trans hk E1.1
  have Sq_b1 := Safe.ext E1 hR.1 Sf_b1
  replace hR := hR.trans (CHr.ext E1 hR.1)
  replace Sf_b1 := Sq_b1
  replace Kp := Kp.ext E1
  have E_b1 := A1
  have F_b1_coder : Fld Z h1 b1 "java/lang/String" "coder" "B" (.int 0) := D1 (Or.inr (own_w hw 60 rfl)) (ty := .byte) (by decide)
  have F_b1_value : Fld Z h1 b1 "java/lang/String" "value" "[B" .null := D1 (Or.inr (own_w hw 62 rfl)) (ty := (.array .byte)) (by decide)
  refine own_goH (x' := T1.setTop (mkF m 14 #[.val (.int 1), .val (.int p1), .val (.int p2), .unset] [(.ref b1)])) st1 ?_
  refine own_goH (x' := T1.setTop (mkF m 16 #[.val (.int 1), .val (.int p1), .val (.int p2), .unset] [(.int 0), (.ref b1), (.ref b1)])) (fun _ k => XS.dup X1.here hx rfl (hb hby d1_14) rfl rfl (XS.iconst X1.here hx rfl (hb hby d1_15) k)) ?_
  obtain ⟨T2, h2, k2, X2, e2, E2, A2, st2⟩ := newP X1 hx hZ (own_w hw 35 rfl) e1 (g := (mkF m 16 #[.val (.int 1), .val (.int p1), .val (.int p2), .unset] [(.int 0), (.ref b1), (.ref b1)])) rfl (hb hby d1_16) rfl (by decide) (cap := 0) (by decide) (by decide) (by decide) (by decide)
  obtain ⟨b2, g2⟩ : ∃ z, z = h1.size := ⟨_, rfl⟩
  rw [← g2] at A2 st2
  have ne_b1_b2 : b1 ≠ b2 := Nat.ne_of_lt (Nat.lt_of_lt_of_le E_b1.lt (Nat.le_of_eq g2.symm))
  have g_b2 : n0 ≤ b2 := Nat.le_trans Zs (Nat.le_of_eq g2.symm)
  have Sf_b2 := own_sfn hR (Nat.le_of_eq g2.symm)
  have sz_b2 : h0.size ≤ b2 := Nat.le_trans Kp.1 (Nat.le_of_eq g2.symm)
  replace Od := Od.ext E2
  replace E_b1 := Exa.ext E2 E_b1
  replace F_b1_coder := Fld.ext E2 F_b1_coder
  replace F_b1_value := Fld.ext E2 F_b1_value
  replace Zs := Nat.le_trans Zs E2.1
  replace hk := Nat.le_trans hk E2.1
  have Sq_b1 := Safe.ext E2 hR.1 Sf_b1
  have Sq_b2 := Safe.ext E2 hR.1 Sf_b2
  replace hR := hR.trans (CHr.ext E2 hR.1)
  replace Sf_b1 := Sq_b1
  replace Sf_b2 := Sq_b2
  replace Kp := Kp.ext E2
  have V_b2 : Arv Z h2 b2 k2 .char (0 : Int32) [] (.int 0) := (Arv.new A2 (by decide)).pad (pad_rep [] (.int 0) 0)
  refine own_goH (x' := T2.setTop (mkF m 18 #[.val (.int 1), .val (.int p1), .val (.int p2), .unset] [(.ref b2), (.ref b1), (.ref b1)])) st2 ?_
  obtain ⟨_, _, ⟨T3, L3, k3, n3⟩, -, X3, Sw3, Gw3, ⟨Lc3, hQ3, l3, y3, z3, Cw3⟩, st3⟩ := X2.specialBackS hx (y := (⟨"java/lang/String", "<init>", "([C)V"⟩ : MethodName)) rfl hown (mvT hZ (own_w hw 39 rfl)) (mvT hZ (own_w hw 40 rfl)) (mvT hZ (own_w hw 41 rfl)) (by decide) (backOfSH (W := 1) (rm_new_0 l Z a0 hw [] b1 b2 k2 h2 n0 Zs E_b1 F_b1_value F_b1_coder V_b2 ne_b1_b2 g_b1) hZ (own_w hw 41 rfl) (own_w hw 38 rfl) (by decide) (by decide) (own_EW hw) hR.1) (g := (mkF m 18 #[.val (.int 1), .val (.int p1), .val (.int p2), .unset] [(.ref b2), (.ref b1), (.ref b1)])) rfl (by rw [hml]; rfl) (Steps.refl _) (a := b1) (argsL := [(.ref b2)]) (rest := [(.ref b1)]) (lenOf pd_4 rfl) rfl (by show 2 * 0 + _ ≤ _; exact Nat.le_of_eq rfl) (hb hby d1_18) (fun _ _ => ⟨rfl, e2, (by decide : 2 + 4 ≤ _), (by decide : 4 + 8 ≤ _)⟩)
  dsimp only [Pt.U, Pt.locs, Pt.cells, Pt.slots] at X3 l3 y3 z3 st3 hQ3 Sw3 Gw3 Cw3
  subst l3 y3 z3
  obtain ⟨X3, Sw3, hZ, hown⟩ := rebS hS (own_hk e2 hk) X3 Sw3 Gw3 hZ hown
  replace Sf_b1 := Cw3.safe E_b1.lt Sf_b1
  replace Sf_b2 := Cw3.safe V_b2.lt Sf_b2
  replace hR := hR.trans Cw3
  obtain ⟨hv3, Nq3, K3⟩ := hQ3
  subst hv3
  replace Nf := Fr.app Nf Nq3
  replace Od := Od.keep K3 (allS g_b1 all0)
  replace E_b1 := E_b1.keep K3
  replace V_b2 := V_b2.keep K3 (ninS (Ne.symm ne_b1_b2) nin0)
  replace Zs := Nat.le_trans Zs K3.1
  replace hk := Nat.le_trans hk K3.1
  replace Kp := Kp.trans K3 (allS (Or.inr sz_b1) all0)
  replace hS := Sw3
  replace hk := Nat.le_refl (Array.size T3.heap)
  refine own_goH (x' := T3.setTop (mkF m 21 #[.val (.int 1), .val (.int p1), .val (.int p2), .unset] [(.ref b1)])) (fun _ k => st3.trans k) ?_
  refine own_retRH X3 hS (own_hk rfl hk) (own_hr rfl hR) hZ (own_EW hw) hx hlk hret rfl rfl (hb hby d1_21) ?_ (by decide) (by decide)
  exact ⟨_, rfl, Nf, Kp⟩
theorem d1_22 : decode method_2_code 22 = .ok (.iload_n 0, 1) := by decide +kernel
theorem d1_23 : decode method_2_code 23 = .ok (.iconst 2, 1) := by decide +kernel
theorem d1_24 : decode method_2_code 24 = .ok (.if_icmp .ne 25, 3) := by decide +kernel
theorem d1_27 : decode method_2_code 27 = .ok (.iconst 1, 1) := by decide +kernel
theorem d1_28 : decode method_2_code 28 = .ok (.newarray .char, 2) := by decide +kernel
theorem d1_30 : decode method_2_code 30 = .ok (.astore_n 3, 1) := by decide +kernel
theorem d1_31 : decode method_2_code 31 = .ok (.aload_n 3, 1) := by decide +kernel
theorem d1_32 : decode method_2_code 32 = .ok (.iconst 0, 1) := by decide +kernel
theorem d1_33 : decode method_2_code 33 = .ok (.iload_n 1, 1) := by decide +kernel
theorem d1_34 : decode method_2_code 34 = .ok (.sipush 255, 3) := by decide +kernel
theorem d1_37 : decode method_2_code 37 = .ok (.iand, 1) := by decide +kernel
theorem d1_38 : decode method_2_code 38 = .ok (.i2c, 1) := by decide +kernel
theorem d1_39 : decode method_2_code 39 = .ok (.castore, 1) := by decide +kernel
theorem d1_40 : decode method_2_code 40 = .ok (.new 7, 3) := by decide +kernel
theorem d1_43 : decode method_2_code 43 = .ok (.dup, 1) := by decide +kernel
theorem d1_44 : decode method_2_code 44 = .ok (.aload_n 3, 1) := by decide +kernel
theorem d1_45 : decode method_2_code 45 = .ok (.invokespecial 9, 3) := by decide +kernel
theorem d1_48 : decode method_2_code 48 = .ok (.areturn, 1) := by decide +kernel
def Q_rm1_2 (Z : State) (p1 p2 : Int32) (G1 : Int32) (h0 : Heap) (n0 : Nat) (v : Option Value) (h : Heap) (L : List Loc) : Prop := ∃ b : Addr, v = some (.ref b) ∧ Fr n0 L ∧ Keep h0 h []
theorem pn_rm1_2 : plainName "com/example/lean_bus/leanbus/api/CallerIsRootPinLaw" = true := by first | (simp [plainName, overriddenIn]; done) | decide +kernel
theorem ef_rm1_2 (m : MethodId) (x0 : Int32) (x1 : Int32) (x2 : Int32) : entryFrame m #[(.int x0), (.int x1), (.int x2)] 4 = mkF m 0 #[.val (.int x0), .val (.int x1), .val (.int x2), .unset] [] := by first | (simp [entryFrame, mkF, argsToLocals, Value.category]; done) | rfl
set_option maxRecDepth 65536 in
set_option maxHeartbeats 40000000 in
theorem rm1_2 (l : Launch) (Z : State) (a0 : Array Value) (hw : ∀ d ∈ tables_1, d.before a0 Z = true) (ws : List Jvm.Cond) (p1 p2 : Int32) (G1 : Int32) (h0 : Heap) (n0 : Nat) (Z0 : n0 ≤ h0.size) (Od : Old Z n0 h0) (S_COMPACT_STRINGS : Sta Z Z.heap "java/lang/String" "COMPACT_STRINGS" "Z" (.int G1)) (hG : ¬ G1 = (0 : Int32)) :
    MetFree l (⟨"com/example/lean_bus/leanbus/api/CallerIsRootPinLaw", "draw", "(III)Ljava/lang/String;"⟩ : MethodName) (head1 (Jvm.Cond.code (⟨"com/example/lean_bus/leanbus/api/CallerIsRootPinLaw", "draw", "(III)Ljava/lang/String;"⟩ : MethodName) method_2_code 4 (some (.object "java/lang/String")) :: ws) ({ frames := 4, cells := 3, slots := 6, locals := 66 } : Room)) (fun a U => a = #[(.int 2), (.int p1), (.int p2)] ∧ Z.Warmed39 U.vm ∧ U.heap = h0 ∧ CHv Z own_EL U.vm h0) (fun _ _ _ _ _ => True) (fun _ U o U' => ∃ v L, o = .returned v ∧ (Q_rm1_2 Z p1 p2 G1 h0 n0) v U'.heap L ∧ CHr Z own_EL U.vm U.heap U'.vm U'.heap ∧ ReturnedEndW U o U' L ({ frames := 4, cells := 3, slots := 6, locals := 66 } : Room).cells ({ frames := 4, cells := 3, slots := 6, locals := 66 } : Room).slots) := by
  refine MetFree.of_bodySF (plainFor_of_name pn_rm1_2) hisR ?_
  intro p e s m args below meth c s₁ Bd hml0 hP hK
  obtain ⟨rfl, hZ, hh, hC⟩ := hP
  have hx := Bd.exec
  have hby := Bd.bytes
  have hlk := BodyLoose.notSynchronized Bd
  have hret := Bd.returns
  have hml : c.maxLocals = 4 := hml0
  have hown : s.vm.findClass "com/example/lean_bus/leanbus/api/CallerIsRootPinLaw" = some m.cls := findClass_of_methodNamed Bd.named
  have hnm := (name_of_methodNamed Bd.named Bd.method).1
  have X0 : Stand p l e ({ frames := 4, cells := 3, slots := 6, locals := 66 } : Room) s m #[(.int 2), (.int p1), (.int p2)] below meth c s₁ [] 0 0 := Stand.of_body Bd
  have e0 : s₁.heap = h0 := by rw [← hh, Bd.state]; rfl
  have Nf := Fr.nil n0
  have Zs := Z0
  have Kp : Keep h0 h0 [] := Keep.refl _ _
  obtain ⟨vm0, k0, X0, hS, hk, hZ, hown, hR⟩ : ∃ (vm0 : Vm) (k0 : Nat), Stand p l e ({ frames := 4, cells := 3, slots := 6, locals := 66 } : Room) (s.setVm vm0) m #[(.int 2), (.int p1), (.int p2)] below meth c s₁ [] 0 0 ∧ s.Since vm0 k0 ∧ k0 ≤ h0.size ∧ Z.Warmed39 (s.setVm vm0).vm ∧ (s.setVm vm0).vm.findClass "com/example/lean_bus/leanbus/api/CallerIsRootPinLaw" = some m.cls ∧ CHr Z own_EL s.vm s.heap vm0 h0 := ⟨s.vm, s.heap.size, X0, (State.WarmedH.refl s).since _, Nat.le_of_eq (congrArg Array.size hh), hZ, hown, by rw [hh]; exact CHr.refl hC⟩
  show own_EndH Z own_EL p e below s (Q_rm1_2 Z p1 p2 G1 h0 n0) ({ frames := 4, cells := 3, slots := 6, locals := 66 } : Room).cells ({ frames := 4, cells := 3, slots := 6, locals := 66 } : Room).slots (s₁.setTop (entryFrame m #[(.int 2), (.int p1), (.int p2)] 4))
  refine own_goH (x' := s₁.setTop (mkF m 0 #[.val (.int 2), .val (.int p1), .val (.int p2), .unset] [])) (fun t k => castTop (ef_rm1_2 m (2 : Int32) p1 p2) k) ?_
  refine own_goH (x' := s₁.setTop (mkF m 23 #[.val (.int 2), .val (.int p1), .val (.int p2), .unset] [(.int 2)])) (fun _ k => XS.iloadN X0.here hx rfl (hb hby d1_0) rfl (XS.ifYes X0.here hx rfl (pc0 := 1) (pc' := 6) rfl (hb hby d1_1) rfl ((if0 _ _).trans (feq (by decide +kernel : ¬ ((2 : Int32) = (0 : Int32)))).2) (by decide) (by decide) (XS.iloadN X0.here hx rfl (hb hby d1_6) rfl (XS.iconst X0.here hx rfl (hb hby d1_7) (XS.icmpYes X0.here hx rfl (pc0 := 8) (pc' := 22) rfl (hb hby d1_8) rfl (feq (by decide +kernel : ¬ ((2 : Int32) = (1 : Int32)))).2 (by decide) (by decide) (XS.iloadN X0.here hx rfl (hb hby d1_22) rfl k)))))) ?_
  refine own_goH (x' := s₁.setTop (mkF m 28 #[.val (.int 2), .val (.int p1), .val (.int p2), .unset] [(.int 1)])) (fun _ k => XS.iconst X0.here hx rfl (hb hby d1_23) (XS.icmpNo X0.here hx rfl (hb hby d1_24) rfl (teq rfl).2 (XS.iconst X0.here hx rfl (hb hby d1_27) k))) ?_
  obtain ⟨T1, h1, k1, X1, e1, E1, A1, st1⟩ := newP X0 hx hZ (own_w hw 35 rfl) e0 (g := (mkF m 28 #[.val (.int 2), .val (.int p1), .val (.int p2), .unset] [(.int 1)])) rfl (hb hby d1_28) rfl (by decide) (cap := 1) (by decide) (by decide) (by decide) (by decide)
  obtain ⟨b1, g1⟩ : ∃ z, z = h0.size := ⟨_, rfl⟩
  rw [← g1] at A1 st1
  have g_b1 : n0 ≤ b1 := Nat.le_trans Zs (Nat.le_of_eq g1.symm)
  have Sf_b1 := own_sfn hR (Nat.le_of_eq g1.symm)
  have sz_b1 : h0.size ≤ b1 := Nat.le_trans Kp.1 (Nat.le_of_eq g1.symm)
  replace Od := Od.ext E1
  replace Zs := Nat.le_trans Zs E1.1
  replace hk := Nat.le_trans hk E1.1
  have Sq_b1 := Safe.ext E1 hR.1 Sf_b1
  replace hR := hR.trans (CHr.ext E1 hR.1)
  replace Sf_b1 := Sq_b1
  replace Kp := Kp.ext E1
  have V_b1 : Arv Z h1 b1 k1 .char (1 : Int32) [(.int 0)] (.int 0) := (Arv.new A1 (by decide)).pad (pad_rep [] (.int 0) 1)
  refine own_goH (x' := T1.setTop (mkF m 30 #[.val (.int 2), .val (.int p1), .val (.int p2), .unset] [(.ref b1)])) st1 ?_
  refine own_goH (x' := T1.setTop (mkF m 38 #[.val (.int 2), .val (.int p1), .val (.int p2), .val (.ref b1)] [(.int (p1 &&& (255 : Int32))), (.int 0), (.ref b1)])) (fun _ k => XS.astoreN X1.here hx rfl (hb hby d1_30) rfl rfl (l' := #[.val (.int 2), .val (.int p1), .val (.int p2), .val (.ref b1)]) rfl (XS.aloadN X1.here hx rfl (hb hby d1_31) rfl rfl (XS.iconst X1.here hx rfl (hb hby d1_32) (XS.iloadN X1.here hx rfl (hb hby d1_33) rfl (XS.sipush X1.here hx rfl (hb hby d1_34) (XS.iand X1.here hx rfl (hb hby d1_37) rfl k)))))) ?_
  refine own_goH (x' := T1.setTop (mkF m 39 #[.val (.int 2), .val (.int p1), .val (.int p2), .val (.ref b1)] [(.int ((p1 &&& (255 : Int32)).toUInt32.toUInt16.toUInt32.toInt32)), (.int 0), (.ref b1)])) (fun _ k => XS.i2c X1.here hx rfl (hb hby d1_38) rfl k) ?_
  obtain ⟨cl2, Ar2, q2, Sz2, Nn2, Hh2, Gg2⟩ := V_b1
  have hin2 : ¬ ((0 : Int32) < 0 ∨ cl2.slots.size ≤ ((0 : Int32)).toNatClampNeg) := inb_of Sz2 ⟨by decide, by decide⟩
  obtain ⟨T2, h2, X2, e2, W2, st2⟩ := stC X1 hx hZ e1 Ar2 (j := (0 : Int32)) hin2 (g := (mkF m 39 #[.val (.int 2), .val (.int p1), .val (.int p2), .val (.ref b1)] [(.int ((p1 &&& (255 : Int32)).toUInt32.toUInt16.toUInt32.toInt32)), (.int 0), (.ref b1)])) rfl rfl (hb hby d1_39)
  refine own_goH (x' := T2.setTop (mkF m 40 #[.val (.int 2), .val (.int p1), .val (.int p2), .val (.ref b1)] [])) st2 ?_
  replace Od := Od.wr W2 g_b1
  replace Zs := Nat.le_trans Zs (Keep.of_wr W2).1
  replace hk := Nat.le_trans hk (Keep.of_wr W2).1
  have Sq_b1 := Safe.wr W2 Sf_b1 hR.1 Sf_b1
  replace hR := hR.trans (CHr.wr W2 Sf_b1 hR.1)
  replace Sf_b1 := Sq_b1
  replace Nf := Fr.snoc X2 Nf g_b1
  replace Kp := Kp.wr W2 (Or.inr sz_b1)
  have V_b1 : Arv Z h2 b1 k1 .char (1 : Int32) [(.int (nar .char ((p1 &&& (255 : Int32)).toUInt32.toUInt16.toUInt32.toInt32)))] (.int 0) := Arv.set Ar2 q2 Sz2 Nn2 Hh2 Gg2 (fits_nar_char _) W2 0 rfl (Nat.le_of_ble_eq_true rfl)
  obtain ⟨T3, h3, X3, e3, E3, A3, D3, -, st3⟩ := newO X2 hx hZ hown (own_w hw 36 rfl) (own_w hw 37 rfl) (own_w hw 38 rfl) e2 (g := (mkF m 40 #[.val (.int 2), .val (.int p1), .val (.int p2), .val (.ref b1)] [])) rfl (hb hby d1_40) (by decide) (by decide)
  obtain ⟨b3, g3⟩ : ∃ z, z = h2.size := ⟨_, rfl⟩
  rw [← g3] at A3 D3 st3
  have ne_b1_b3 : b1 ≠ b3 := Nat.ne_of_lt (Nat.lt_of_lt_of_le V_b1.lt (Nat.le_of_eq g3.symm))
  have g_b3 : n0 ≤ b3 := Nat.le_trans Zs (Nat.le_of_eq g3.symm)
  have Sf_b3 := own_sfn hR (Nat.le_of_eq g3.symm)
  have sz_b3 : h0.size ≤ b3 := Nat.le_trans Kp.1 (Nat.le_of_eq g3.symm)
  replace Od := Od.ext E3
  replace V_b1 := V_b1.ext E3
  replace Zs := Nat.le_trans Zs E3.1
  replace hk := Nat.le_trans hk E3.1
  have Sq_b1 := Safe.ext E3 hR.1 Sf_b1
  have Sq_b3 := Safe.ext E3 hR.1 Sf_b3
  replace hR := hR.trans (CHr.ext E3 hR.1)
  replace Sf_b1 := Sq_b1
  replace Sf_b3 := Sq_b3
  replace Kp := Kp.ext E3
  have E_b3 := A3
  have F_b3_coder : Fld Z h3 b3 "java/lang/String" "coder" "B" (.int 0) := D3 (Or.inr (own_w hw 60 rfl)) (ty := .byte) (by decide)
  have F_b3_value : Fld Z h3 b3 "java/lang/String" "value" "[B" .null := D3 (Or.inr (own_w hw 62 rfl)) (ty := (.array .byte)) (by decide)
  refine own_goH (x' := T3.setTop (mkF m 43 #[.val (.int 2), .val (.int p1), .val (.int p2), .val (.ref b1)] [(.ref b3)])) st3 ?_
  refine own_goH (x' := T3.setTop (mkF m 45 #[.val (.int 2), .val (.int p1), .val (.int p2), .val (.ref b1)] [(.ref b1), (.ref b3), (.ref b3)])) (fun _ k => XS.dup X3.here hx rfl (hb hby d1_43) rfl rfl (XS.aloadN X3.here hx rfl (hb hby d1_44) rfl rfl k)) ?_
  obtain ⟨_, _, ⟨T4, L4, k4, n4⟩, -, X4, ⟨Lc4, hQ4, l4, y4, z4⟩, st4⟩ := X3.specialBack hx (y := (⟨"java/lang/String", "<init>", "([C)V"⟩ : MethodName)) rfl hown (mvT hZ (own_w hw 39 rfl)) (mvT hZ (own_w hw 40 rfl)) (mvT hZ (own_w hw 41 rfl)) (by decide) (backOf (W := 1) (rm_new_1 l Z a0 hw [] b3 b1 k1 (nar .char ((p1 &&& (255 : Int32)).toUInt32.toUInt16.toUInt32.toInt32)) G1 h3 n0 Zs E_b3 F_b3_value F_b3_coder V_b1 (own_c8 _) Od S_COMPACT_STRINGS hG (Ne.symm ne_b1_b3) g_b3) hZ (own_w hw 41 rfl) (own_w hw 38 rfl) (by decide) (by decide)) (g := (mkF m 45 #[.val (.int 2), .val (.int p1), .val (.int p2), .val (.ref b1)] [(.ref b1), (.ref b3), (.ref b3)])) rfl (by rw [hml]; rfl) (Steps.refl _) (a := b3) (argsL := [(.ref b1)]) (rest := [(.ref b3)]) (lenOf pd_4 rfl) rfl (by show 2 * 0 + _ ≤ _; exact Nat.le_of_eq rfl) (hb hby d1_45) (fun _ _ => ⟨rfl, e3, (by decide : 2 + 1 ≤ _), (by decide : 5 + 1 ≤ _)⟩)
  dsimp only [Pt.U, Pt.locs, Pt.cells, Pt.slots] at X4 l4 y4 z4 st4 hQ4
  subst l4 y4 z4
  obtain ⟨b4, kb4, hv4, Nq4, K4, sq4, g_b4, Eo4, Fv4, Fc4, V_b4⟩ := hQ4
  subst hv4
  replace Nf := Fr.app Nf Nq4
  have ne_b1_b4 : b1 ≠ b4 := Nat.ne_of_lt (Nat.lt_of_lt_of_le V_b1.lt sq4)
  have ne_b3_b4 : b3 ≠ b4 := Nat.ne_of_lt (Nat.lt_of_lt_of_le E_b3.lt sq4)
  have sz_b4 : h0.size ≤ b4 := Nat.le_trans Kp.1 sq4
  replace Od := Od.keep K4 (allS g_b3 all0)
  replace V_b1 := V_b1.keep K4 (ninS ne_b1_b3 nin0)
  replace Zs := Nat.le_trans Zs K4.1
  replace hk := Nat.le_trans hk K4.1
  have Sq_b1 := Safe.keep K4 (allS Sf_b3 all0) hR.1 Sf_b1
  have Sq_b3 := Safe.keep K4 (allS Sf_b3 all0) hR.1 Sf_b3
  replace hR := hR.trans (CHr.keep K4 (allS Sf_b3 all0) hR.1)
  replace Sf_b1 := Sq_b1
  replace Sf_b3 := Sq_b3
  replace Kp := Kp.trans K4 (allS (Or.inr sz_b3) all0)
  replace E_b3 := Eo4
  replace F_b3_value := Fv4
  replace F_b3_coder := Fc4
  refine own_goH (x' := T4.setTop (mkF m 48 #[.val (.int 2), .val (.int p1), .val (.int p2), .val (.ref b1)] [(.ref b3)])) (fun _ k => st4.trans k) ?_
  refine own_retRH X4 hS (own_hk rfl hk) (own_hr rfl hR) hZ (own_EW hw) hx hlk hret rfl rfl (hb hby d1_48) ?_ (by decide) (by decide)
  exact ⟨_, rfl, Nf, Kp⟩
theorem d1_49 : decode method_2_code 49 = .ok (.iconst 2, 1) := by decide +kernel
theorem d1_50 : decode method_2_code 50 = .ok (.newarray .char, 2) := by decide +kernel
theorem d1_52 : decode method_2_code 52 = .ok (.astore_n 3, 1) := by decide +kernel
theorem d1_53 : decode method_2_code 53 = .ok (.aload_n 3, 1) := by decide +kernel
theorem d1_54 : decode method_2_code 54 = .ok (.iconst 0, 1) := by decide +kernel
theorem d1_55 : decode method_2_code 55 = .ok (.iload_n 1, 1) := by decide +kernel
theorem d1_56 : decode method_2_code 56 = .ok (.sipush 255, 3) := by decide +kernel
theorem d1_59 : decode method_2_code 59 = .ok (.iand, 1) := by decide +kernel
theorem d1_60 : decode method_2_code 60 = .ok (.i2c, 1) := by decide +kernel
theorem d1_61 : decode method_2_code 61 = .ok (.castore, 1) := by decide +kernel
theorem d1_62 : decode method_2_code 62 = .ok (.aload_n 3, 1) := by decide +kernel
theorem d1_63 : decode method_2_code 63 = .ok (.iconst 1, 1) := by decide +kernel
theorem d1_64 : decode method_2_code 64 = .ok (.iload_n 2, 1) := by decide +kernel
theorem d1_65 : decode method_2_code 65 = .ok (.sipush 255, 3) := by decide +kernel
theorem d1_68 : decode method_2_code 68 = .ok (.iand, 1) := by decide +kernel
theorem d1_69 : decode method_2_code 69 = .ok (.i2c, 1) := by decide +kernel
theorem d1_70 : decode method_2_code 70 = .ok (.castore, 1) := by decide +kernel
theorem d1_71 : decode method_2_code 71 = .ok (.new 7, 3) := by decide +kernel
theorem d1_74 : decode method_2_code 74 = .ok (.dup, 1) := by decide +kernel
theorem d1_75 : decode method_2_code 75 = .ok (.aload_n 3, 1) := by decide +kernel
theorem d1_76 : decode method_2_code 76 = .ok (.invokespecial 9, 3) := by decide +kernel
theorem d1_79 : decode method_2_code 79 = .ok (.areturn, 1) := by decide +kernel
def Q_rm1_3 (Z : State) (p1 p2 : Int32) (G1 : Int32) (h0 : Heap) (n0 : Nat) (v : Option Value) (h : Heap) (L : List Loc) : Prop := ∃ b : Addr, v = some (.ref b) ∧ Fr n0 L ∧ Keep h0 h []
theorem pn_rm1_3 : plainName "com/example/lean_bus/leanbus/api/CallerIsRootPinLaw" = true := by first | (simp [plainName, overriddenIn]; done) | decide +kernel
theorem ef_rm1_3 (m : MethodId) (x0 : Int32) (x1 : Int32) (x2 : Int32) : entryFrame m #[(.int x0), (.int x1), (.int x2)] 4 = mkF m 0 #[.val (.int x0), .val (.int x1), .val (.int x2), .unset] [] := by first | (simp [entryFrame, mkF, argsToLocals, Value.category]; done) | rfl
set_option maxRecDepth 65536 in
set_option maxHeartbeats 40000000 in
theorem rm1_3 (l : Launch) (Z : State) (a0 : Array Value) (hw : ∀ d ∈ tables_1, d.before a0 Z = true) (ws : List Jvm.Cond) (p1 p2 : Int32) (G1 : Int32) (h0 : Heap) (n0 : Nat) (Z0 : n0 ≤ h0.size) (Od : Old Z n0 h0) (S_COMPACT_STRINGS : Sta Z Z.heap "java/lang/String" "COMPACT_STRINGS" "Z" (.int G1)) (hG : ¬ G1 = (0 : Int32)) :
    MetFree l (⟨"com/example/lean_bus/leanbus/api/CallerIsRootPinLaw", "draw", "(III)Ljava/lang/String;"⟩ : MethodName) (head1 (Jvm.Cond.code (⟨"com/example/lean_bus/leanbus/api/CallerIsRootPinLaw", "draw", "(III)Ljava/lang/String;"⟩ : MethodName) method_2_code 4 (some (.object "java/lang/String")) :: ws) ({ frames := 4, cells := 3, slots := 8, locals := 66 } : Room)) (fun a U => a = #[(.int 3), (.int p1), (.int p2)] ∧ Z.Warmed39 U.vm ∧ U.heap = h0 ∧ CHv Z own_EL U.vm h0) (fun _ _ _ _ _ => True) (fun _ U o U' => ∃ v L, o = .returned v ∧ (Q_rm1_3 Z p1 p2 G1 h0 n0) v U'.heap L ∧ CHr Z own_EL U.vm U.heap U'.vm U'.heap ∧ ReturnedEndW U o U' L ({ frames := 4, cells := 3, slots := 8, locals := 66 } : Room).cells ({ frames := 4, cells := 3, slots := 8, locals := 66 } : Room).slots) := by
  refine MetFree.of_bodySF (plainFor_of_name pn_rm1_3) hisR ?_
  intro p e s m args below meth c s₁ Bd hml0 hP hK
  obtain ⟨rfl, hZ, hh, hC⟩ := hP
  have hx := Bd.exec
  have hby := Bd.bytes
  have hlk := BodyLoose.notSynchronized Bd
  have hret := Bd.returns
  have hml : c.maxLocals = 4 := hml0
  have hown : s.vm.findClass "com/example/lean_bus/leanbus/api/CallerIsRootPinLaw" = some m.cls := findClass_of_methodNamed Bd.named
  have hnm := (name_of_methodNamed Bd.named Bd.method).1
  have X0 : Stand p l e ({ frames := 4, cells := 3, slots := 8, locals := 66 } : Room) s m #[(.int 3), (.int p1), (.int p2)] below meth c s₁ [] 0 0 := Stand.of_body Bd
  have e0 : s₁.heap = h0 := by rw [← hh, Bd.state]; rfl
  have Nf := Fr.nil n0
  have Zs := Z0
  have Kp : Keep h0 h0 [] := Keep.refl _ _
  obtain ⟨vm0, k0, X0, hS, hk, hZ, hown, hR⟩ : ∃ (vm0 : Vm) (k0 : Nat), Stand p l e ({ frames := 4, cells := 3, slots := 8, locals := 66 } : Room) (s.setVm vm0) m #[(.int 3), (.int p1), (.int p2)] below meth c s₁ [] 0 0 ∧ s.Since vm0 k0 ∧ k0 ≤ h0.size ∧ Z.Warmed39 (s.setVm vm0).vm ∧ (s.setVm vm0).vm.findClass "com/example/lean_bus/leanbus/api/CallerIsRootPinLaw" = some m.cls ∧ CHr Z own_EL s.vm s.heap vm0 h0 := ⟨s.vm, s.heap.size, X0, (State.WarmedH.refl s).since _, Nat.le_of_eq (congrArg Array.size hh), hZ, hown, by rw [hh]; exact CHr.refl hC⟩
  show own_EndH Z own_EL p e below s (Q_rm1_3 Z p1 p2 G1 h0 n0) ({ frames := 4, cells := 3, slots := 8, locals := 66 } : Room).cells ({ frames := 4, cells := 3, slots := 8, locals := 66 } : Room).slots (s₁.setTop (entryFrame m #[(.int 3), (.int p1), (.int p2)] 4))
  refine own_goH (x' := s₁.setTop (mkF m 0 #[.val (.int 3), .val (.int p1), .val (.int p2), .unset] [])) (fun t k => castTop (ef_rm1_3 m (3 : Int32) p1 p2) k) ?_
  refine own_goH (x' := s₁.setTop (mkF m 23 #[.val (.int 3), .val (.int p1), .val (.int p2), .unset] [(.int 3)])) (fun _ k => XS.iloadN X0.here hx rfl (hb hby d1_0) rfl (XS.ifYes X0.here hx rfl (pc0 := 1) (pc' := 6) rfl (hb hby d1_1) rfl ((if0 _ _).trans (feq (by decide +kernel : ¬ ((3 : Int32) = (0 : Int32)))).2) (by decide) (by decide) (XS.iloadN X0.here hx rfl (hb hby d1_6) rfl (XS.iconst X0.here hx rfl (hb hby d1_7) (XS.icmpYes X0.here hx rfl (pc0 := 8) (pc' := 22) rfl (hb hby d1_8) rfl (feq (by decide +kernel : ¬ ((3 : Int32) = (1 : Int32)))).2 (by decide) (by decide) (XS.iloadN X0.here hx rfl (hb hby d1_22) rfl k)))))) ?_
  refine own_goH (x' := s₁.setTop (mkF m 50 #[.val (.int 3), .val (.int p1), .val (.int p2), .unset] [(.int 2)])) (fun _ k => XS.iconst X0.here hx rfl (hb hby d1_23) (XS.icmpYes X0.here hx rfl (pc0 := 24) (pc' := 49) rfl (hb hby d1_24) rfl (feq (by decide +kernel : ¬ ((3 : Int32) = (2 : Int32)))).2 (by decide) (by decide) (XS.iconst X0.here hx rfl (hb hby d1_49) k))) ?_
  obtain ⟨T1, h1, k1, X1, e1, E1, A1, st1⟩ := newP X0 hx hZ (own_w hw 35 rfl) e0 (g := (mkF m 50 #[.val (.int 3), .val (.int p1), .val (.int p2), .unset] [(.int 2)])) rfl (hb hby d1_50) rfl (by decide) (cap := 2) (by decide) (by decide) (by decide) (by decide)
  obtain ⟨b1, g1⟩ : ∃ z, z = h0.size := ⟨_, rfl⟩
  rw [← g1] at A1 st1
  have g_b1 : n0 ≤ b1 := Nat.le_trans Zs (Nat.le_of_eq g1.symm)
  have Sf_b1 := own_sfn hR (Nat.le_of_eq g1.symm)
  have sz_b1 : h0.size ≤ b1 := Nat.le_trans Kp.1 (Nat.le_of_eq g1.symm)
  replace Od := Od.ext E1
  replace Zs := Nat.le_trans Zs E1.1
  replace hk := Nat.le_trans hk E1.1
  have Sq_b1 := Safe.ext E1 hR.1 Sf_b1
  replace hR := hR.trans (CHr.ext E1 hR.1)
  replace Sf_b1 := Sq_b1
  replace Kp := Kp.ext E1
  have V_b1 : Arv Z h1 b1 k1 .char (2 : Int32) [(.int 0), (.int 0)] (.int 0) := (Arv.new A1 (by decide)).pad (pad_rep [] (.int 0) 2)
  refine own_goH (x' := T1.setTop (mkF m 52 #[.val (.int 3), .val (.int p1), .val (.int p2), .unset] [(.ref b1)])) st1 ?_
  refine own_goH (x' := T1.setTop (mkF m 60 #[.val (.int 3), .val (.int p1), .val (.int p2), .val (.ref b1)] [(.int (p1 &&& (255 : Int32))), (.int 0), (.ref b1)])) (fun _ k => XS.astoreN X1.here hx rfl (hb hby d1_52) rfl rfl (l' := #[.val (.int 3), .val (.int p1), .val (.int p2), .val (.ref b1)]) rfl (XS.aloadN X1.here hx rfl (hb hby d1_53) rfl rfl (XS.iconst X1.here hx rfl (hb hby d1_54) (XS.iloadN X1.here hx rfl (hb hby d1_55) rfl (XS.sipush X1.here hx rfl (hb hby d1_56) (XS.iand X1.here hx rfl (hb hby d1_59) rfl k)))))) ?_
  refine own_goH (x' := T1.setTop (mkF m 61 #[.val (.int 3), .val (.int p1), .val (.int p2), .val (.ref b1)] [(.int ((p1 &&& (255 : Int32)).toUInt32.toUInt16.toUInt32.toInt32)), (.int 0), (.ref b1)])) (fun _ k => XS.i2c X1.here hx rfl (hb hby d1_60) rfl k) ?_
  obtain ⟨cl2, Ar2, q2, Sz2, Nn2, Hh2, Gg2⟩ := V_b1
  have hin2 : ¬ ((0 : Int32) < 0 ∨ cl2.slots.size ≤ ((0 : Int32)).toNatClampNeg) := inb_of Sz2 ⟨by decide, by decide⟩
  obtain ⟨T2, h2, X2, e2, W2, st2⟩ := stC X1 hx hZ e1 Ar2 (j := (0 : Int32)) hin2 (g := (mkF m 61 #[.val (.int 3), .val (.int p1), .val (.int p2), .val (.ref b1)] [(.int ((p1 &&& (255 : Int32)).toUInt32.toUInt16.toUInt32.toInt32)), (.int 0), (.ref b1)])) rfl rfl (hb hby d1_61)
  refine own_goH (x' := T2.setTop (mkF m 62 #[.val (.int 3), .val (.int p1), .val (.int p2), .val (.ref b1)] [])) st2 ?_
  replace Od := Od.wr W2 g_b1
  replace Zs := Nat.le_trans Zs (Keep.of_wr W2).1
  replace hk := Nat.le_trans hk (Keep.of_wr W2).1
  have Sq_b1 := Safe.wr W2 Sf_b1 hR.1 Sf_b1
  replace hR := hR.trans (CHr.wr W2 Sf_b1 hR.1)
  replace Sf_b1 := Sq_b1
  replace Nf := Fr.snoc X2 Nf g_b1
  replace Kp := Kp.wr W2 (Or.inr sz_b1)
  have V_b1 : Arv Z h2 b1 k1 .char (2 : Int32) [(.int (nar .char ((p1 &&& (255 : Int32)).toUInt32.toUInt16.toUInt32.toInt32))), (.int 0)] (.int 0) := Arv.set Ar2 q2 Sz2 Nn2 Hh2 Gg2 (fits_nar_char _) W2 0 rfl (Nat.le_of_ble_eq_true rfl)
  refine own_goH (x' := T2.setTop (mkF m 70 #[.val (.int 3), .val (.int p1), .val (.int p2), .val (.ref b1)] [(.int ((p2 &&& (255 : Int32)).toUInt32.toUInt16.toUInt32.toInt32)), (.int 1), (.ref b1)])) (fun _ k => XS.aloadN X2.here hx rfl (hb hby d1_62) rfl rfl (XS.iconst X2.here hx rfl (hb hby d1_63) (XS.iloadN X2.here hx rfl (hb hby d1_64) rfl (XS.sipush X2.here hx rfl (hb hby d1_65) (XS.iand X2.here hx rfl (hb hby d1_68) rfl (XS.i2c X2.here hx rfl (hb hby d1_69) rfl k)))))) ?_
  obtain ⟨cl3, Ar3, q3, Sz3, Nn3, Hh3, Gg3⟩ := V_b1
  have hin3 : ¬ ((1 : Int32) < 0 ∨ cl3.slots.size ≤ ((1 : Int32)).toNatClampNeg) := inb_of Sz3 ⟨by decide, by decide⟩
  obtain ⟨T3, h3, X3, e3, W3, st3⟩ := stC X2 hx hZ e2 Ar3 (j := (1 : Int32)) hin3 (g := (mkF m 70 #[.val (.int 3), .val (.int p1), .val (.int p2), .val (.ref b1)] [(.int ((p2 &&& (255 : Int32)).toUInt32.toUInt16.toUInt32.toInt32)), (.int 1), (.ref b1)])) rfl rfl (hb hby d1_70)
  refine own_goH (x' := T3.setTop (mkF m 71 #[.val (.int 3), .val (.int p1), .val (.int p2), .val (.ref b1)] [])) st3 ?_
  replace Od := Od.wr W3 g_b1
  replace Zs := Nat.le_trans Zs (Keep.of_wr W3).1
  replace hk := Nat.le_trans hk (Keep.of_wr W3).1
  have Sq_b1 := Safe.wr W3 Sf_b1 hR.1 Sf_b1
  replace hR := hR.trans (CHr.wr W3 Sf_b1 hR.1)
  replace Sf_b1 := Sq_b1
  replace Nf := Fr.snoc X3 Nf g_b1
  replace Kp := Kp.wr W3 (Or.inr sz_b1)
  have V_b1 : Arv Z h3 b1 k1 .char (2 : Int32) [(.int (nar .char ((p1 &&& (255 : Int32)).toUInt32.toUInt16.toUInt32.toInt32))), (.int (nar .char ((p2 &&& (255 : Int32)).toUInt32.toUInt16.toUInt32.toInt32)))] (.int 0) := Arv.set Ar3 q3 Sz3 Nn3 Hh3 Gg3 (fits_nar_char _) W3 1 rfl (Nat.le_of_ble_eq_true rfl)
  obtain ⟨T4, h4, X4, e4, E4, A4, D4, -, st4⟩ := newO X3 hx hZ hown (own_w hw 36 rfl) (own_w hw 37 rfl) (own_w hw 38 rfl) e3 (g := (mkF m 71 #[.val (.int 3), .val (.int p1), .val (.int p2), .val (.ref b1)] [])) rfl (hb hby d1_71) (by decide) (by decide)
  obtain ⟨b4, g4⟩ : ∃ z, z = h3.size := ⟨_, rfl⟩
  rw [← g4] at A4 D4 st4
  have ne_b1_b4 : b1 ≠ b4 := Nat.ne_of_lt (Nat.lt_of_lt_of_le V_b1.lt (Nat.le_of_eq g4.symm))
  have g_b4 : n0 ≤ b4 := Nat.le_trans Zs (Nat.le_of_eq g4.symm)
  have Sf_b4 := own_sfn hR (Nat.le_of_eq g4.symm)
  have sz_b4 : h0.size ≤ b4 := Nat.le_trans Kp.1 (Nat.le_of_eq g4.symm)
  replace Od := Od.ext E4
  replace V_b1 := V_b1.ext E4
  replace Zs := Nat.le_trans Zs E4.1
  replace hk := Nat.le_trans hk E4.1
  have Sq_b1 := Safe.ext E4 hR.1 Sf_b1
  have Sq_b4 := Safe.ext E4 hR.1 Sf_b4
  replace hR := hR.trans (CHr.ext E4 hR.1)
  replace Sf_b1 := Sq_b1
  replace Sf_b4 := Sq_b4
  replace Kp := Kp.ext E4
  have E_b4 := A4
  have F_b4_coder : Fld Z h4 b4 "java/lang/String" "coder" "B" (.int 0) := D4 (Or.inr (own_w hw 60 rfl)) (ty := .byte) (by decide)
  have F_b4_value : Fld Z h4 b4 "java/lang/String" "value" "[B" .null := D4 (Or.inr (own_w hw 62 rfl)) (ty := (.array .byte)) (by decide)
  refine own_goH (x' := T4.setTop (mkF m 74 #[.val (.int 3), .val (.int p1), .val (.int p2), .val (.ref b1)] [(.ref b4)])) st4 ?_
  refine own_goH (x' := T4.setTop (mkF m 76 #[.val (.int 3), .val (.int p1), .val (.int p2), .val (.ref b1)] [(.ref b1), (.ref b4), (.ref b4)])) (fun _ k => XS.dup X4.here hx rfl (hb hby d1_74) rfl rfl (XS.aloadN X4.here hx rfl (hb hby d1_75) rfl rfl k)) ?_
  obtain ⟨_, _, ⟨T5, L5, k5, n5⟩, -, X5, ⟨Lc5, hQ5, l5, y5, z5⟩, st5⟩ := X4.specialBack hx (y := (⟨"java/lang/String", "<init>", "([C)V"⟩ : MethodName)) rfl hown (mvT hZ (own_w hw 39 rfl)) (mvT hZ (own_w hw 40 rfl)) (mvT hZ (own_w hw 41 rfl)) (by decide) (backOf (W := 1) (rm_new_2 l Z a0 hw [] b4 b1 k1 (nar .char ((p1 &&& (255 : Int32)).toUInt32.toUInt16.toUInt32.toInt32)) (nar .char ((p2 &&& (255 : Int32)).toUInt32.toUInt16.toUInt32.toInt32)) G1 h4 n0 Zs E_b4 F_b4_value F_b4_coder V_b1 (own_c8 _) (own_c8 _) Od S_COMPACT_STRINGS hG (Ne.symm ne_b1_b4) g_b4) hZ (own_w hw 41 rfl) (own_w hw 38 rfl) (by decide) (by decide)) (g := (mkF m 76 #[.val (.int 3), .val (.int p1), .val (.int p2), .val (.ref b1)] [(.ref b1), (.ref b4), (.ref b4)])) rfl (by rw [hml]; rfl) (Steps.refl _) (a := b4) (argsL := [(.ref b1)]) (rest := [(.ref b4)]) (lenOf pd_4 rfl) rfl (by show 2 * 0 + _ ≤ _; exact Nat.le_of_eq rfl) (hb hby d1_76) (fun _ _ => ⟨rfl, e4, (by decide : 2 + 1 ≤ _), (by decide : 6 + 2 ≤ _)⟩)
  dsimp only [Pt.U, Pt.locs, Pt.cells, Pt.slots] at X5 l5 y5 z5 st5 hQ5
  subst l5 y5 z5
  obtain ⟨b5, kb5, hv5, Nq5, K5, sq5, g_b5, Eo5, Fv5, Fc5, V_b5⟩ := hQ5
  subst hv5
  replace Nf := Fr.app Nf Nq5
  have ne_b1_b5 : b1 ≠ b5 := Nat.ne_of_lt (Nat.lt_of_lt_of_le V_b1.lt sq5)
  have ne_b4_b5 : b4 ≠ b5 := Nat.ne_of_lt (Nat.lt_of_lt_of_le E_b4.lt sq5)
  have sz_b5 : h0.size ≤ b5 := Nat.le_trans Kp.1 sq5
  replace Od := Od.keep K5 (allS g_b4 all0)
  replace V_b1 := V_b1.keep K5 (ninS ne_b1_b4 nin0)
  replace Zs := Nat.le_trans Zs K5.1
  replace hk := Nat.le_trans hk K5.1
  have Sq_b1 := Safe.keep K5 (allS Sf_b4 all0) hR.1 Sf_b1
  have Sq_b4 := Safe.keep K5 (allS Sf_b4 all0) hR.1 Sf_b4
  replace hR := hR.trans (CHr.keep K5 (allS Sf_b4 all0) hR.1)
  replace Sf_b1 := Sq_b1
  replace Sf_b4 := Sq_b4
  replace Kp := Kp.trans K5 (allS (Or.inr sz_b4) all0)
  replace E_b4 := Eo5
  replace F_b4_value := Fv5
  replace F_b4_coder := Fc5
  refine own_goH (x' := T5.setTop (mkF m 79 #[.val (.int 3), .val (.int p1), .val (.int p2), .val (.ref b1)] [(.ref b4)])) (fun _ k => st5.trans k) ?_
  refine own_retRH X5 hS (own_hk rfl hk) (own_hr rfl hR) hZ (own_EW hw) hx hlk hret rfl rfl (hb hby d1_79) ?_ (by decide) (by decide)
  exact ⟨_, rfl, Nf, Kp⟩
theorem d3_0 : decode jdk_30_method_1_code 0 = .ok (.aload_n 0, 1) := by decide +kernel
theorem d3_1 : decode jdk_30_method_1_code 1 = .ok (.invokespecial 1, 3) := by decide +kernel
theorem d3_4 : decode jdk_30_method_1_code 4 = .ok (.return_, 1) := by decide +kernel
def Q_rm3 (Z : State) (ao0 : Addr) (h0 : Heap) (n0 : Nat) (v : Option Value) (h : Heap) (L : List Loc) : Prop := v = none ∧ Fr n0 L ∧ h = h0
theorem pn_rm3 : plainName "java/lang/Record" = true := by first | (simp [plainName, overriddenIn]; done) | decide +kernel
theorem ef_rm3 (m : MethodId) (x0 : Addr) : entryFrame m #[(.ref x0)] 1 = mkF m 0 #[.val (.ref x0)] [] := by first | (simp [entryFrame, mkF, argsToLocals, Value.category]; done) | rfl
set_option maxRecDepth 65536 in
set_option maxHeartbeats 40000000 in
theorem rm3 (l : Launch) (Z : State) (a0 : Array Value) (hw : ∀ d ∈ tables_1, d.before a0 Z = true) (ws : List Jvm.Cond) (ao0 : Addr) (h0 : Heap) (n0 : Nat) (Z0 : n0 ≤ h0.size) :
    MetFree l (⟨"java/lang/Record", "<init>", "()V"⟩ : MethodName) (head1 (Jvm.Cond.code (⟨"java/lang/Record", "<init>", "()V"⟩ : MethodName) jdk_30_method_1_code 1 none :: ws) ({ frames := 1, cells := 0, slots := 0, locals := 12 } : Room)) (fun a U => a = #[(.ref ao0)] ∧ Z.Warmed39 U.vm ∧ U.heap = h0) (fun _ _ _ _ _ => True) (fun _ U o U' => ∃ v L, o = .returned v ∧ (Q_rm3 Z ao0 h0 n0) v U'.heap L ∧ FrameEnd U o U' L ({ frames := 1, cells := 0, slots := 0, locals := 12 } : Room).cells ({ frames := 1, cells := 0, slots := 0, locals := 12 } : Room).slots) := by
  refine MetFree.of_bodySF (plainFor_of_name pn_rm3) hisR ?_
  intro p e s m args below meth c s₁ Bd hml0 hP hK
  obtain ⟨rfl, hZ, hh⟩ := hP
  have hx := Bd.exec
  have hby := Bd.bytes
  have hlk := BodyLoose.notSynchronized Bd
  have hret := Bd.returns
  have hml : c.maxLocals = 1 := hml0
  have hown : s.vm.findClass "java/lang/Record" = some m.cls := findClass_of_methodNamed Bd.named
  have hnm := (name_of_methodNamed Bd.named Bd.method).1
  have X0 : Stand p l e ({ frames := 1, cells := 0, slots := 0, locals := 12 } : Room) s m #[(.ref ao0)] below meth c s₁ [] 0 0 := Stand.of_body Bd
  have e0 : s₁.heap = h0 := by rw [← hh, Bd.state]; rfl
  have Nf := Fr.nil n0
  have Zs := Z0
  have Kp : Keep h0 h0 [] := Keep.refl _ _
  show own_End p e below s (Q_rm3 Z ao0 h0 n0) ({ frames := 1, cells := 0, slots := 0, locals := 12 } : Room).cells ({ frames := 1, cells := 0, slots := 0, locals := 12 } : Room).slots (s₁.setTop (entryFrame m #[(.ref ao0)] 1))
  refine own_go (x' := s₁.setTop (mkF m 0 #[.val (.ref ao0)] [])) (fun t k => castTop (ef_rm3 m ao0) k) ?_
  refine own_go (x' := s₁.setTop (mkF m 1 #[.val (.ref ao0)] [(.ref ao0)])) (fun _ k => XS.aloadN X0.here hx rfl (hb hby d3_0) rfl rfl k) ?_
  obtain ⟨T1, X1, e1, st1⟩ := initO X0 hx hZ hown (own_w hw 15 rfl) (own_w hw 16 rfl) (own_w hw 17 rfl) e0 (g := (mkF m 1 #[.val (.ref ao0)] [(.ref ao0)])) rfl (by rw [hml]; rfl) rfl (hb hby d3_1) (by decide) (W := 0) (by show 2 * 0 + _ ≤ _; exact Nat.le_of_eq rfl) (by decide)
  refine own_go (x' := T1.setTop (mkF m 4 #[.val (.ref ao0)] [])) st1 ?_
  refine own_retV X1 hx hlk hret (hb hby d3_4) ?_ (by decide) (by decide)
  rw [e1]
  exact ⟨rfl, Nf, rfl⟩
theorem pd_5 : parseMethodDescriptor "()V" = some ⟨[], none⟩ := by decide +kernel
theorem d2_0 : decode prog_2_method_1_code 0 = .ok (.aload_n 0, 1) := by decide +kernel
theorem d2_1 : decode prog_2_method_1_code 1 = .ok (.invokespecial 1, 3) := by decide +kernel
theorem d2_4 : decode prog_2_method_1_code 4 = .ok (.aload_n 0, 1) := by decide +kernel
theorem d2_5 : decode prog_2_method_1_code 5 = .ok (.aload_n 1, 1) := by decide +kernel
theorem d2_6 : decode prog_2_method_1_code 6 = .ok (.putfield 7, 3) := by decide +kernel
theorem d2_9 : decode prog_2_method_1_code 9 = .ok (.aload_n 0, 1) := by decide +kernel
theorem d2_10 : decode prog_2_method_1_code 10 = .ok (.aload_n 2, 1) := by decide +kernel
theorem d2_11 : decode prog_2_method_1_code 11 = .ok (.putfield 13, 3) := by decide +kernel
theorem d2_14 : decode prog_2_method_1_code 14 = .ok (.return_, 1) := by decide +kernel
def Q_rm2RR (Z : State) (ao0 ao1 ao2 : Addr) (h0 : Heap) (n0 : Nat) (v : Option Value) (h : Heap) (L : List Loc) : Prop := v = none ∧ Fr n0 L ∧ Keep h0 h [ao0] ∧ Exa Z h ao0 "com/example/lean_bus/leanbus/api/Caller" ∧ Fld Z h ao0 "com/example/lean_bus/leanbus/api/Caller" "token" "Ljava/lang/String;" (.ref ao1) ∧ Fld Z h ao0 "com/example/lean_bus/leanbus/api/Caller" "name" "Ljava/lang/String;" (.ref ao2)
theorem pn_rm2RR : plainName "com/example/lean_bus/leanbus/api/Caller" = true := by first | (simp [plainName, overriddenIn]; done) | decide +kernel
theorem ef_rm2RR (m : MethodId) (x0 : Addr) (x1 : Addr) (x2 : Addr) : entryFrame m #[(.ref x0), (.ref x1), (.ref x2)] 3 = mkF m 0 #[.val (.ref x0), .val (.ref x1), .val (.ref x2)] [] := by first | (simp [entryFrame, mkF, argsToLocals, Value.category]; done) | rfl
set_option maxRecDepth 65536 in
set_option maxHeartbeats 40000000 in
theorem rm2RR (l : Launch) (Z : State) (a0 : Array Value) (hw : ∀ d ∈ tables_1, d.before a0 Z = true) (ws : List Jvm.Cond) (ao0 ao1 ao2 : Addr) (h0 : Heap) (n0 : Nat) (Z0 : n0 ≤ h0.size) (E_ao0 : Exa Z h0 ao0 "com/example/lean_bus/leanbus/api/Caller") (F_ao0_token : Fld Z h0 ao0 "com/example/lean_bus/leanbus/api/Caller" "token" "Ljava/lang/String;" .null) (F_ao0_name : Fld Z h0 ao0 "com/example/lean_bus/leanbus/api/Caller" "name" "Ljava/lang/String;" .null) (g_ao0 : n0 ≤ ao0) :
    MetFree l (⟨"com/example/lean_bus/leanbus/api/Caller", "<init>", "(Ljava/lang/String;Ljava/lang/String;)V"⟩ : MethodName) (head1 (Jvm.Cond.code (⟨"com/example/lean_bus/leanbus/api/Caller", "<init>", "(Ljava/lang/String;Ljava/lang/String;)V"⟩ : MethodName) prog_2_method_1_code 3 none :: ws) ({ frames := 2, cells := 0, slots := 0, locals := 24 } : Room)) (fun a U => a = #[(.ref ao0), (.ref ao1), (.ref ao2)] ∧ Z.Warmed39 U.vm ∧ U.heap = h0) (fun _ _ _ _ _ => True) (fun _ U o U' => ∃ v L, o = .returned v ∧ (Q_rm2RR Z ao0 ao1 ao2 h0 n0) v U'.heap L ∧ FrameEnd U o U' L ({ frames := 2, cells := 0, slots := 0, locals := 24 } : Room).cells ({ frames := 2, cells := 0, slots := 0, locals := 24 } : Room).slots) := by
  refine MetFree.of_bodySF (plainFor_of_name pn_rm2RR) hisR ?_
  intro p e s m args below meth c s₁ Bd hml0 hP hK
  obtain ⟨rfl, hZ, hh⟩ := hP
  have hx := Bd.exec
  have hby := Bd.bytes
  have hlk := BodyLoose.notSynchronized Bd
  have hret := Bd.returns
  have hml : c.maxLocals = 3 := hml0
  have hown : s.vm.findClass "com/example/lean_bus/leanbus/api/Caller" = some m.cls := findClass_of_methodNamed Bd.named
  have hnm := (name_of_methodNamed Bd.named Bd.method).1
  have X0 : Stand p l e ({ frames := 2, cells := 0, slots := 0, locals := 24 } : Room) s m #[(.ref ao0), (.ref ao1), (.ref ao2)] below meth c s₁ [] 0 0 := Stand.of_body Bd
  have e0 : s₁.heap = h0 := by rw [← hh, Bd.state]; rfl
  have Nf := Fr.nil n0
  have Zs := Z0
  have Kp : Keep h0 h0 [ao0] := Keep.refl _ _
  show own_End p e below s (Q_rm2RR Z ao0 ao1 ao2 h0 n0) ({ frames := 2, cells := 0, slots := 0, locals := 24 } : Room).cells ({ frames := 2, cells := 0, slots := 0, locals := 24 } : Room).slots (s₁.setTop (entryFrame m #[(.ref ao0), (.ref ao1), (.ref ao2)] 3))
  refine own_go (x' := s₁.setTop (mkF m 0 #[.val (.ref ao0), .val (.ref ao1), .val (.ref ao2)] [])) (fun t k => castTop (ef_rm2RR m ao0 ao1 ao2) k) ?_
  refine own_go (x' := s₁.setTop (mkF m 1 #[.val (.ref ao0), .val (.ref ao1), .val (.ref ao2)] [(.ref ao0)])) (fun _ k => XS.aloadN X0.here hx rfl (hb hby d2_0) rfl rfl k) ?_
  obtain ⟨_, _, ⟨T1, L1, k1, n1⟩, -, X1, ⟨Lc1, hQ1, l1, y1, z1⟩, st1⟩ := X0.specialBack hx (y := (⟨"java/lang/Record", "<init>", "()V"⟩ : MethodName)) rfl hown (mvT hZ (own_w hw 10 rfl)) (mvT hZ (own_w hw 11 rfl)) (mvT hZ (own_w hw 14 rfl)) (by decide) (backOf (W := 0) (rm3 l Z a0 hw [] ao0 h0 n0 Zs ) hZ (own_w hw 14 rfl) (own_w hw 13 rfl) (by decide) (by decide)) (g := (mkF m 1 #[.val (.ref ao0), .val (.ref ao1), .val (.ref ao2)] [(.ref ao0)])) rfl (by rw [hml]; rfl) (Steps.refl _) (a := ao0) (argsL := []) (rest := []) (lenOf pd_5 rfl) rfl (by show 2 * 0 + _ ≤ _; exact Nat.le_of_eq rfl) (hb hby d2_1) (fun _ _ => ⟨rfl, e0, (by decide : 0 + 0 ≤ _), (by decide : 0 + 0 ≤ _)⟩)
  dsimp only [Pt.U, Pt.locs, Pt.cells, Pt.slots] at X1 l1 y1 z1 st1 hQ1
  subst l1 y1 z1
  obtain ⟨hv1, Nq1, eq1⟩ := hQ1
  subst hv1
  replace Nf := Fr.app Nf Nq1
  refine own_go (x' := T1.setTop (mkF m 4 #[.val (.ref ao0), .val (.ref ao1), .val (.ref ao2)] [])) (fun _ k => st1.trans k) ?_
  refine own_go (x' := T1.setTop (mkF m 6 #[.val (.ref ao0), .val (.ref ao1), .val (.ref ao2)] [(.ref ao1), (.ref ao0)])) (fun _ k => XS.aloadN X1.here hx rfl (hb hby d2_4) rfl rfl (XS.aloadN X1.here hx rfl (hb hby d2_5) rfl rfl k)) ?_
  obtain ⟨T2, h2, X2, e2, W2, st2⟩ := putF X1 hx hZ hown (host := "") (Or.inl (own_w hw 18 rfl)) Via.refl eq1 F_ao0_token E_ao0 (Or.inr ⟨(own_w hw 19 rfl), rfl, hnm⟩) (own_w hw 5 rfl) (ty := (.object "java/lang/String")) (by decide) rfl rfl (g := (mkF m 6 #[.val (.ref ao0), .val (.ref ao1), .val (.ref ao2)] [(.ref ao1), (.ref ao0)])) rfl rfl (hb hby d2_6)
  refine own_go (x' := T2.setTop (mkF m 9 #[.val (.ref ao0), .val (.ref ao1), .val (.ref ao2)] [])) st2 ?_
  replace E_ao0 := Exa.wr W2 E_ao0
  replace F_ao0_token := Fld.same W2 F_ao0_token
  replace F_ao0_name := Fld.other W2 F_ao0_name (Or.inr (slot_ne (Or.inr (own_w hw 21 rfl)) (Or.inr (own_w hw 19 rfl)) (by decide) (t := (.object "java/lang/String")) (t' := (.object "java/lang/String")) (by decide) (by decide)))
  replace Zs := Nat.le_trans Zs (Keep.of_wr W2).1
  replace Nf := Fr.snoc X2 Nf g_ao0
  replace Kp := Kp.wr W2 (Or.inl (by simp))
  refine own_go (x' := T2.setTop (mkF m 11 #[.val (.ref ao0), .val (.ref ao1), .val (.ref ao2)] [(.ref ao2), (.ref ao0)])) (fun _ k => XS.aloadN X2.here hx rfl (hb hby d2_9) rfl rfl (XS.aloadN X2.here hx rfl (hb hby d2_10) rfl rfl k)) ?_
  obtain ⟨T3, h3, X3, e3, W3, st3⟩ := putF X2 hx hZ hown (host := "") (Or.inl (own_w hw 20 rfl)) Via.refl e2 F_ao0_name E_ao0 (Or.inr ⟨(own_w hw 21 rfl), rfl, hnm⟩) (own_w hw 5 rfl) (ty := (.object "java/lang/String")) (by decide) rfl rfl (g := (mkF m 11 #[.val (.ref ao0), .val (.ref ao1), .val (.ref ao2)] [(.ref ao2), (.ref ao0)])) rfl rfl (hb hby d2_11)
  refine own_go (x' := T3.setTop (mkF m 14 #[.val (.ref ao0), .val (.ref ao1), .val (.ref ao2)] [])) st3 ?_
  replace E_ao0 := Exa.wr W3 E_ao0
  replace F_ao0_token := Fld.other W3 F_ao0_token (Or.inr (slot_ne (Or.inr (own_w hw 19 rfl)) (Or.inr (own_w hw 21 rfl)) (by decide) (t := (.object "java/lang/String")) (t' := (.object "java/lang/String")) (by decide) (by decide)))
  replace F_ao0_name := Fld.same W3 F_ao0_name
  replace Zs := Nat.le_trans Zs (Keep.of_wr W3).1
  replace Nf := Fr.snoc X3 Nf g_ao0
  replace Kp := Kp.wr W3 (Or.inl (by simp))
  refine own_retV X3 hx hlk hret (hb hby d2_14) ?_ (by decide) (by decide)
  rw [e3]
  exact ⟨rfl, Nf, Kp, E_ao0, F_ao0_token, F_ao0_name⟩
def Q_rm2RN (Z : State) (ao0 ao1 : Addr) (h0 : Heap) (n0 : Nat) (v : Option Value) (h : Heap) (L : List Loc) : Prop := v = none ∧ Fr n0 L ∧ Keep h0 h [ao0] ∧ Exa Z h ao0 "com/example/lean_bus/leanbus/api/Caller" ∧ Fld Z h ao0 "com/example/lean_bus/leanbus/api/Caller" "token" "Ljava/lang/String;" (.ref ao1) ∧ Fld Z h ao0 "com/example/lean_bus/leanbus/api/Caller" "name" "Ljava/lang/String;" .null
theorem pn_rm2RN : plainName "com/example/lean_bus/leanbus/api/Caller" = true := by first | (simp [plainName, overriddenIn]; done) | decide +kernel
theorem ef_rm2RN (m : MethodId) (x0 : Addr) (x1 : Addr) : entryFrame m #[(.ref x0), (.ref x1), .null] 3 = mkF m 0 #[.val (.ref x0), .val (.ref x1), .val .null] [] := by first | (simp [entryFrame, mkF, argsToLocals, Value.category]; done) | rfl
set_option maxRecDepth 65536 in
set_option maxHeartbeats 40000000 in
theorem rm2RN (l : Launch) (Z : State) (a0 : Array Value) (hw : ∀ d ∈ tables_1, d.before a0 Z = true) (ws : List Jvm.Cond) (ao0 ao1 : Addr) (h0 : Heap) (n0 : Nat) (Z0 : n0 ≤ h0.size) (E_ao0 : Exa Z h0 ao0 "com/example/lean_bus/leanbus/api/Caller") (F_ao0_token : Fld Z h0 ao0 "com/example/lean_bus/leanbus/api/Caller" "token" "Ljava/lang/String;" .null) (F_ao0_name : Fld Z h0 ao0 "com/example/lean_bus/leanbus/api/Caller" "name" "Ljava/lang/String;" .null) (g_ao0 : n0 ≤ ao0) :
    MetFree l (⟨"com/example/lean_bus/leanbus/api/Caller", "<init>", "(Ljava/lang/String;Ljava/lang/String;)V"⟩ : MethodName) (head1 (Jvm.Cond.code (⟨"com/example/lean_bus/leanbus/api/Caller", "<init>", "(Ljava/lang/String;Ljava/lang/String;)V"⟩ : MethodName) prog_2_method_1_code 3 none :: ws) ({ frames := 2, cells := 0, slots := 0, locals := 24 } : Room)) (fun a U => a = #[(.ref ao0), (.ref ao1), .null] ∧ Z.Warmed39 U.vm ∧ U.heap = h0) (fun _ _ _ _ _ => True) (fun _ U o U' => ∃ v L, o = .returned v ∧ (Q_rm2RN Z ao0 ao1 h0 n0) v U'.heap L ∧ FrameEnd U o U' L ({ frames := 2, cells := 0, slots := 0, locals := 24 } : Room).cells ({ frames := 2, cells := 0, slots := 0, locals := 24 } : Room).slots) := by
  refine MetFree.of_bodySF (plainFor_of_name pn_rm2RN) hisR ?_
  intro p e s m args below meth c s₁ Bd hml0 hP hK
  obtain ⟨rfl, hZ, hh⟩ := hP
  have hx := Bd.exec
  have hby := Bd.bytes
  have hlk := BodyLoose.notSynchronized Bd
  have hret := Bd.returns
  have hml : c.maxLocals = 3 := hml0
  have hown : s.vm.findClass "com/example/lean_bus/leanbus/api/Caller" = some m.cls := findClass_of_methodNamed Bd.named
  have hnm := (name_of_methodNamed Bd.named Bd.method).1
  have X0 : Stand p l e ({ frames := 2, cells := 0, slots := 0, locals := 24 } : Room) s m #[(.ref ao0), (.ref ao1), .null] below meth c s₁ [] 0 0 := Stand.of_body Bd
  have e0 : s₁.heap = h0 := by rw [← hh, Bd.state]; rfl
  have Nf := Fr.nil n0
  have Zs := Z0
  have Kp : Keep h0 h0 [ao0] := Keep.refl _ _
  show own_End p e below s (Q_rm2RN Z ao0 ao1 h0 n0) ({ frames := 2, cells := 0, slots := 0, locals := 24 } : Room).cells ({ frames := 2, cells := 0, slots := 0, locals := 24 } : Room).slots (s₁.setTop (entryFrame m #[(.ref ao0), (.ref ao1), .null] 3))
  refine own_go (x' := s₁.setTop (mkF m 0 #[.val (.ref ao0), .val (.ref ao1), .val .null] [])) (fun t k => castTop (ef_rm2RN m ao0 ao1) k) ?_
  refine own_go (x' := s₁.setTop (mkF m 1 #[.val (.ref ao0), .val (.ref ao1), .val .null] [(.ref ao0)])) (fun _ k => XS.aloadN X0.here hx rfl (hb hby d2_0) rfl rfl k) ?_
  obtain ⟨_, _, ⟨T1, L1, k1, n1⟩, -, X1, ⟨Lc1, hQ1, l1, y1, z1⟩, st1⟩ := X0.specialBack hx (y := (⟨"java/lang/Record", "<init>", "()V"⟩ : MethodName)) rfl hown (mvT hZ (own_w hw 10 rfl)) (mvT hZ (own_w hw 11 rfl)) (mvT hZ (own_w hw 14 rfl)) (by decide) (backOf (W := 0) (rm3 l Z a0 hw [] ao0 h0 n0 Zs ) hZ (own_w hw 14 rfl) (own_w hw 13 rfl) (by decide) (by decide)) (g := (mkF m 1 #[.val (.ref ao0), .val (.ref ao1), .val .null] [(.ref ao0)])) rfl (by rw [hml]; rfl) (Steps.refl _) (a := ao0) (argsL := []) (rest := []) (lenOf pd_5 rfl) rfl (by show 2 * 0 + _ ≤ _; exact Nat.le_of_eq rfl) (hb hby d2_1) (fun _ _ => ⟨rfl, e0, (by decide : 0 + 0 ≤ _), (by decide : 0 + 0 ≤ _)⟩)
  dsimp only [Pt.U, Pt.locs, Pt.cells, Pt.slots] at X1 l1 y1 z1 st1 hQ1
  subst l1 y1 z1
  obtain ⟨hv1, Nq1, eq1⟩ := hQ1
  subst hv1
  replace Nf := Fr.app Nf Nq1
  refine own_go (x' := T1.setTop (mkF m 4 #[.val (.ref ao0), .val (.ref ao1), .val .null] [])) (fun _ k => st1.trans k) ?_
  refine own_go (x' := T1.setTop (mkF m 6 #[.val (.ref ao0), .val (.ref ao1), .val .null] [(.ref ao1), (.ref ao0)])) (fun _ k => XS.aloadN X1.here hx rfl (hb hby d2_4) rfl rfl (XS.aloadN X1.here hx rfl (hb hby d2_5) rfl rfl k)) ?_
  obtain ⟨T2, h2, X2, e2, W2, st2⟩ := putF X1 hx hZ hown (host := "") (Or.inl (own_w hw 18 rfl)) Via.refl eq1 F_ao0_token E_ao0 (Or.inr ⟨(own_w hw 19 rfl), rfl, hnm⟩) (own_w hw 5 rfl) (ty := (.object "java/lang/String")) (by decide) rfl rfl (g := (mkF m 6 #[.val (.ref ao0), .val (.ref ao1), .val .null] [(.ref ao1), (.ref ao0)])) rfl rfl (hb hby d2_6)
  refine own_go (x' := T2.setTop (mkF m 9 #[.val (.ref ao0), .val (.ref ao1), .val .null] [])) st2 ?_
  replace E_ao0 := Exa.wr W2 E_ao0
  replace F_ao0_token := Fld.same W2 F_ao0_token
  replace F_ao0_name := Fld.other W2 F_ao0_name (Or.inr (slot_ne (Or.inr (own_w hw 21 rfl)) (Or.inr (own_w hw 19 rfl)) (by decide) (t := (.object "java/lang/String")) (t' := (.object "java/lang/String")) (by decide) (by decide)))
  replace Zs := Nat.le_trans Zs (Keep.of_wr W2).1
  replace Nf := Fr.snoc X2 Nf g_ao0
  replace Kp := Kp.wr W2 (Or.inl (by simp))
  refine own_go (x' := T2.setTop (mkF m 11 #[.val (.ref ao0), .val (.ref ao1), .val .null] [.null, (.ref ao0)])) (fun _ k => XS.aloadN X2.here hx rfl (hb hby d2_9) rfl rfl (XS.aloadN X2.here hx rfl (hb hby d2_10) rfl rfl k)) ?_
  obtain ⟨T3, h3, X3, e3, W3, st3⟩ := putF X2 hx hZ hown (host := "") (Or.inl (own_w hw 20 rfl)) Via.refl e2 F_ao0_name E_ao0 (Or.inr ⟨(own_w hw 21 rfl), rfl, hnm⟩) (own_w hw 5 rfl) (ty := (.object "java/lang/String")) (by decide) rfl rfl (g := (mkF m 11 #[.val (.ref ao0), .val (.ref ao1), .val .null] [.null, (.ref ao0)])) rfl rfl (hb hby d2_11)
  refine own_go (x' := T3.setTop (mkF m 14 #[.val (.ref ao0), .val (.ref ao1), .val .null] [])) st3 ?_
  replace E_ao0 := Exa.wr W3 E_ao0
  replace F_ao0_token := Fld.other W3 F_ao0_token (Or.inr (slot_ne (Or.inr (own_w hw 19 rfl)) (Or.inr (own_w hw 21 rfl)) (by decide) (t := (.object "java/lang/String")) (t' := (.object "java/lang/String")) (by decide) (by decide)))
  replace F_ao0_name := Fld.same W3 F_ao0_name
  replace Zs := Nat.le_trans Zs (Keep.of_wr W3).1
  replace Nf := Fr.snoc X3 Nf g_ao0
  replace Kp := Kp.wr W3 (Or.inl (by simp))
  refine own_retV X3 hx hlk hret (hb hby d2_14) ?_ (by decide) (by decide)
  rw [e3]
  exact ⟨rfl, Nf, Kp, E_ao0, F_ao0_token, F_ao0_name⟩
def Q_rm2NR (Z : State) (ao0 ao2 : Addr) (h0 : Heap) (n0 : Nat) (v : Option Value) (h : Heap) (L : List Loc) : Prop := v = none ∧ Fr n0 L ∧ Keep h0 h [ao0] ∧ Exa Z h ao0 "com/example/lean_bus/leanbus/api/Caller" ∧ Fld Z h ao0 "com/example/lean_bus/leanbus/api/Caller" "token" "Ljava/lang/String;" .null ∧ Fld Z h ao0 "com/example/lean_bus/leanbus/api/Caller" "name" "Ljava/lang/String;" (.ref ao2)
theorem pn_rm2NR : plainName "com/example/lean_bus/leanbus/api/Caller" = true := by first | (simp [plainName, overriddenIn]; done) | decide +kernel
theorem ef_rm2NR (m : MethodId) (x0 : Addr) (x2 : Addr) : entryFrame m #[(.ref x0), .null, (.ref x2)] 3 = mkF m 0 #[.val (.ref x0), .val .null, .val (.ref x2)] [] := by first | (simp [entryFrame, mkF, argsToLocals, Value.category]; done) | rfl
set_option maxRecDepth 65536 in
set_option maxHeartbeats 40000000 in
theorem rm2NR (l : Launch) (Z : State) (a0 : Array Value) (hw : ∀ d ∈ tables_1, d.before a0 Z = true) (ws : List Jvm.Cond) (ao0 ao2 : Addr) (h0 : Heap) (n0 : Nat) (Z0 : n0 ≤ h0.size) (E_ao0 : Exa Z h0 ao0 "com/example/lean_bus/leanbus/api/Caller") (F_ao0_token : Fld Z h0 ao0 "com/example/lean_bus/leanbus/api/Caller" "token" "Ljava/lang/String;" .null) (F_ao0_name : Fld Z h0 ao0 "com/example/lean_bus/leanbus/api/Caller" "name" "Ljava/lang/String;" .null) (g_ao0 : n0 ≤ ao0) :
    MetFree l (⟨"com/example/lean_bus/leanbus/api/Caller", "<init>", "(Ljava/lang/String;Ljava/lang/String;)V"⟩ : MethodName) (head1 (Jvm.Cond.code (⟨"com/example/lean_bus/leanbus/api/Caller", "<init>", "(Ljava/lang/String;Ljava/lang/String;)V"⟩ : MethodName) prog_2_method_1_code 3 none :: ws) ({ frames := 2, cells := 0, slots := 0, locals := 24 } : Room)) (fun a U => a = #[(.ref ao0), .null, (.ref ao2)] ∧ Z.Warmed39 U.vm ∧ U.heap = h0) (fun _ _ _ _ _ => True) (fun _ U o U' => ∃ v L, o = .returned v ∧ (Q_rm2NR Z ao0 ao2 h0 n0) v U'.heap L ∧ FrameEnd U o U' L ({ frames := 2, cells := 0, slots := 0, locals := 24 } : Room).cells ({ frames := 2, cells := 0, slots := 0, locals := 24 } : Room).slots) := by
  refine MetFree.of_bodySF (plainFor_of_name pn_rm2NR) hisR ?_
  intro p e s m args below meth c s₁ Bd hml0 hP hK
  obtain ⟨rfl, hZ, hh⟩ := hP
  have hx := Bd.exec
  have hby := Bd.bytes
  have hlk := BodyLoose.notSynchronized Bd
  have hret := Bd.returns
  have hml : c.maxLocals = 3 := hml0
  have hown : s.vm.findClass "com/example/lean_bus/leanbus/api/Caller" = some m.cls := findClass_of_methodNamed Bd.named
  have hnm := (name_of_methodNamed Bd.named Bd.method).1
  have X0 : Stand p l e ({ frames := 2, cells := 0, slots := 0, locals := 24 } : Room) s m #[(.ref ao0), .null, (.ref ao2)] below meth c s₁ [] 0 0 := Stand.of_body Bd
  have e0 : s₁.heap = h0 := by rw [← hh, Bd.state]; rfl
  have Nf := Fr.nil n0
  have Zs := Z0
  have Kp : Keep h0 h0 [ao0] := Keep.refl _ _
  show own_End p e below s (Q_rm2NR Z ao0 ao2 h0 n0) ({ frames := 2, cells := 0, slots := 0, locals := 24 } : Room).cells ({ frames := 2, cells := 0, slots := 0, locals := 24 } : Room).slots (s₁.setTop (entryFrame m #[(.ref ao0), .null, (.ref ao2)] 3))
  refine own_go (x' := s₁.setTop (mkF m 0 #[.val (.ref ao0), .val .null, .val (.ref ao2)] [])) (fun t k => castTop (ef_rm2NR m ao0 ao2) k) ?_
  refine own_go (x' := s₁.setTop (mkF m 1 #[.val (.ref ao0), .val .null, .val (.ref ao2)] [(.ref ao0)])) (fun _ k => XS.aloadN X0.here hx rfl (hb hby d2_0) rfl rfl k) ?_
  obtain ⟨_, _, ⟨T1, L1, k1, n1⟩, -, X1, ⟨Lc1, hQ1, l1, y1, z1⟩, st1⟩ := X0.specialBack hx (y := (⟨"java/lang/Record", "<init>", "()V"⟩ : MethodName)) rfl hown (mvT hZ (own_w hw 10 rfl)) (mvT hZ (own_w hw 11 rfl)) (mvT hZ (own_w hw 14 rfl)) (by decide) (backOf (W := 0) (rm3 l Z a0 hw [] ao0 h0 n0 Zs ) hZ (own_w hw 14 rfl) (own_w hw 13 rfl) (by decide) (by decide)) (g := (mkF m 1 #[.val (.ref ao0), .val .null, .val (.ref ao2)] [(.ref ao0)])) rfl (by rw [hml]; rfl) (Steps.refl _) (a := ao0) (argsL := []) (rest := []) (lenOf pd_5 rfl) rfl (by show 2 * 0 + _ ≤ _; exact Nat.le_of_eq rfl) (hb hby d2_1) (fun _ _ => ⟨rfl, e0, (by decide : 0 + 0 ≤ _), (by decide : 0 + 0 ≤ _)⟩)
  dsimp only [Pt.U, Pt.locs, Pt.cells, Pt.slots] at X1 l1 y1 z1 st1 hQ1
  subst l1 y1 z1
  obtain ⟨hv1, Nq1, eq1⟩ := hQ1
  subst hv1
  replace Nf := Fr.app Nf Nq1
  refine own_go (x' := T1.setTop (mkF m 4 #[.val (.ref ao0), .val .null, .val (.ref ao2)] [])) (fun _ k => st1.trans k) ?_
  refine own_go (x' := T1.setTop (mkF m 6 #[.val (.ref ao0), .val .null, .val (.ref ao2)] [.null, (.ref ao0)])) (fun _ k => XS.aloadN X1.here hx rfl (hb hby d2_4) rfl rfl (XS.aloadN X1.here hx rfl (hb hby d2_5) rfl rfl k)) ?_
  obtain ⟨T2, h2, X2, e2, W2, st2⟩ := putF X1 hx hZ hown (host := "") (Or.inl (own_w hw 18 rfl)) Via.refl eq1 F_ao0_token E_ao0 (Or.inr ⟨(own_w hw 19 rfl), rfl, hnm⟩) (own_w hw 5 rfl) (ty := (.object "java/lang/String")) (by decide) rfl rfl (g := (mkF m 6 #[.val (.ref ao0), .val .null, .val (.ref ao2)] [.null, (.ref ao0)])) rfl rfl (hb hby d2_6)
  refine own_go (x' := T2.setTop (mkF m 9 #[.val (.ref ao0), .val .null, .val (.ref ao2)] [])) st2 ?_
  replace E_ao0 := Exa.wr W2 E_ao0
  replace F_ao0_token := Fld.same W2 F_ao0_token
  replace F_ao0_name := Fld.other W2 F_ao0_name (Or.inr (slot_ne (Or.inr (own_w hw 21 rfl)) (Or.inr (own_w hw 19 rfl)) (by decide) (t := (.object "java/lang/String")) (t' := (.object "java/lang/String")) (by decide) (by decide)))
  replace Zs := Nat.le_trans Zs (Keep.of_wr W2).1
  replace Nf := Fr.snoc X2 Nf g_ao0
  replace Kp := Kp.wr W2 (Or.inl (by simp))
  refine own_go (x' := T2.setTop (mkF m 11 #[.val (.ref ao0), .val .null, .val (.ref ao2)] [(.ref ao2), (.ref ao0)])) (fun _ k => XS.aloadN X2.here hx rfl (hb hby d2_9) rfl rfl (XS.aloadN X2.here hx rfl (hb hby d2_10) rfl rfl k)) ?_
  obtain ⟨T3, h3, X3, e3, W3, st3⟩ := putF X2 hx hZ hown (host := "") (Or.inl (own_w hw 20 rfl)) Via.refl e2 F_ao0_name E_ao0 (Or.inr ⟨(own_w hw 21 rfl), rfl, hnm⟩) (own_w hw 5 rfl) (ty := (.object "java/lang/String")) (by decide) rfl rfl (g := (mkF m 11 #[.val (.ref ao0), .val .null, .val (.ref ao2)] [(.ref ao2), (.ref ao0)])) rfl rfl (hb hby d2_11)
  refine own_go (x' := T3.setTop (mkF m 14 #[.val (.ref ao0), .val .null, .val (.ref ao2)] [])) st3 ?_
  replace E_ao0 := Exa.wr W3 E_ao0
  replace F_ao0_token := Fld.other W3 F_ao0_token (Or.inr (slot_ne (Or.inr (own_w hw 19 rfl)) (Or.inr (own_w hw 21 rfl)) (by decide) (t := (.object "java/lang/String")) (t' := (.object "java/lang/String")) (by decide) (by decide)))
  replace F_ao0_name := Fld.same W3 F_ao0_name
  replace Zs := Nat.le_trans Zs (Keep.of_wr W3).1
  replace Nf := Fr.snoc X3 Nf g_ao0
  replace Kp := Kp.wr W3 (Or.inl (by simp))
  refine own_retV X3 hx hlk hret (hb hby d2_14) ?_ (by decide) (by decide)
  rw [e3]
  exact ⟨rfl, Nf, Kp, E_ao0, F_ao0_token, F_ao0_name⟩
def Q_rm2NN (Z : State) (ao0 : Addr) (h0 : Heap) (n0 : Nat) (v : Option Value) (h : Heap) (L : List Loc) : Prop := v = none ∧ Fr n0 L ∧ Keep h0 h [ao0] ∧ Exa Z h ao0 "com/example/lean_bus/leanbus/api/Caller" ∧ Fld Z h ao0 "com/example/lean_bus/leanbus/api/Caller" "token" "Ljava/lang/String;" .null ∧ Fld Z h ao0 "com/example/lean_bus/leanbus/api/Caller" "name" "Ljava/lang/String;" .null
theorem pn_rm2NN : plainName "com/example/lean_bus/leanbus/api/Caller" = true := by first | (simp [plainName, overriddenIn]; done) | decide +kernel
theorem ef_rm2NN (m : MethodId) (x0 : Addr) : entryFrame m #[(.ref x0), .null, .null] 3 = mkF m 0 #[.val (.ref x0), .val .null, .val .null] [] := by first | (simp [entryFrame, mkF, argsToLocals, Value.category]; done) | rfl
set_option maxRecDepth 65536 in
set_option maxHeartbeats 40000000 in
theorem rm2NN (l : Launch) (Z : State) (a0 : Array Value) (hw : ∀ d ∈ tables_1, d.before a0 Z = true) (ws : List Jvm.Cond) (ao0 : Addr) (h0 : Heap) (n0 : Nat) (Z0 : n0 ≤ h0.size) (E_ao0 : Exa Z h0 ao0 "com/example/lean_bus/leanbus/api/Caller") (F_ao0_token : Fld Z h0 ao0 "com/example/lean_bus/leanbus/api/Caller" "token" "Ljava/lang/String;" .null) (F_ao0_name : Fld Z h0 ao0 "com/example/lean_bus/leanbus/api/Caller" "name" "Ljava/lang/String;" .null) (g_ao0 : n0 ≤ ao0) :
    MetFree l (⟨"com/example/lean_bus/leanbus/api/Caller", "<init>", "(Ljava/lang/String;Ljava/lang/String;)V"⟩ : MethodName) (head1 (Jvm.Cond.code (⟨"com/example/lean_bus/leanbus/api/Caller", "<init>", "(Ljava/lang/String;Ljava/lang/String;)V"⟩ : MethodName) prog_2_method_1_code 3 none :: ws) ({ frames := 2, cells := 0, slots := 0, locals := 24 } : Room)) (fun a U => a = #[(.ref ao0), .null, .null] ∧ Z.Warmed39 U.vm ∧ U.heap = h0) (fun _ _ _ _ _ => True) (fun _ U o U' => ∃ v L, o = .returned v ∧ (Q_rm2NN Z ao0 h0 n0) v U'.heap L ∧ FrameEnd U o U' L ({ frames := 2, cells := 0, slots := 0, locals := 24 } : Room).cells ({ frames := 2, cells := 0, slots := 0, locals := 24 } : Room).slots) := by
  refine MetFree.of_bodySF (plainFor_of_name pn_rm2NN) hisR ?_
  intro p e s m args below meth c s₁ Bd hml0 hP hK
  obtain ⟨rfl, hZ, hh⟩ := hP
  have hx := Bd.exec
  have hby := Bd.bytes
  have hlk := BodyLoose.notSynchronized Bd
  have hret := Bd.returns
  have hml : c.maxLocals = 3 := hml0
  have hown : s.vm.findClass "com/example/lean_bus/leanbus/api/Caller" = some m.cls := findClass_of_methodNamed Bd.named
  have hnm := (name_of_methodNamed Bd.named Bd.method).1
  have X0 : Stand p l e ({ frames := 2, cells := 0, slots := 0, locals := 24 } : Room) s m #[(.ref ao0), .null, .null] below meth c s₁ [] 0 0 := Stand.of_body Bd
  have e0 : s₁.heap = h0 := by rw [← hh, Bd.state]; rfl
  have Nf := Fr.nil n0
  have Zs := Z0
  have Kp : Keep h0 h0 [ao0] := Keep.refl _ _
  show own_End p e below s (Q_rm2NN Z ao0 h0 n0) ({ frames := 2, cells := 0, slots := 0, locals := 24 } : Room).cells ({ frames := 2, cells := 0, slots := 0, locals := 24 } : Room).slots (s₁.setTop (entryFrame m #[(.ref ao0), .null, .null] 3))
  refine own_go (x' := s₁.setTop (mkF m 0 #[.val (.ref ao0), .val .null, .val .null] [])) (fun t k => castTop (ef_rm2NN m ao0) k) ?_
  refine own_go (x' := s₁.setTop (mkF m 1 #[.val (.ref ao0), .val .null, .val .null] [(.ref ao0)])) (fun _ k => XS.aloadN X0.here hx rfl (hb hby d2_0) rfl rfl k) ?_
  obtain ⟨_, _, ⟨T1, L1, k1, n1⟩, -, X1, ⟨Lc1, hQ1, l1, y1, z1⟩, st1⟩ := X0.specialBack hx (y := (⟨"java/lang/Record", "<init>", "()V"⟩ : MethodName)) rfl hown (mvT hZ (own_w hw 10 rfl)) (mvT hZ (own_w hw 11 rfl)) (mvT hZ (own_w hw 14 rfl)) (by decide) (backOf (W := 0) (rm3 l Z a0 hw [] ao0 h0 n0 Zs ) hZ (own_w hw 14 rfl) (own_w hw 13 rfl) (by decide) (by decide)) (g := (mkF m 1 #[.val (.ref ao0), .val .null, .val .null] [(.ref ao0)])) rfl (by rw [hml]; rfl) (Steps.refl _) (a := ao0) (argsL := []) (rest := []) (lenOf pd_5 rfl) rfl (by show 2 * 0 + _ ≤ _; exact Nat.le_of_eq rfl) (hb hby d2_1) (fun _ _ => ⟨rfl, e0, (by decide : 0 + 0 ≤ _), (by decide : 0 + 0 ≤ _)⟩)
  dsimp only [Pt.U, Pt.locs, Pt.cells, Pt.slots] at X1 l1 y1 z1 st1 hQ1
  subst l1 y1 z1
  obtain ⟨hv1, Nq1, eq1⟩ := hQ1
  subst hv1
  replace Nf := Fr.app Nf Nq1
  refine own_go (x' := T1.setTop (mkF m 4 #[.val (.ref ao0), .val .null, .val .null] [])) (fun _ k => st1.trans k) ?_
  refine own_go (x' := T1.setTop (mkF m 6 #[.val (.ref ao0), .val .null, .val .null] [.null, (.ref ao0)])) (fun _ k => XS.aloadN X1.here hx rfl (hb hby d2_4) rfl rfl (XS.aloadN X1.here hx rfl (hb hby d2_5) rfl rfl k)) ?_
  obtain ⟨T2, h2, X2, e2, W2, st2⟩ := putF X1 hx hZ hown (host := "") (Or.inl (own_w hw 18 rfl)) Via.refl eq1 F_ao0_token E_ao0 (Or.inr ⟨(own_w hw 19 rfl), rfl, hnm⟩) (own_w hw 5 rfl) (ty := (.object "java/lang/String")) (by decide) rfl rfl (g := (mkF m 6 #[.val (.ref ao0), .val .null, .val .null] [.null, (.ref ao0)])) rfl rfl (hb hby d2_6)
  refine own_go (x' := T2.setTop (mkF m 9 #[.val (.ref ao0), .val .null, .val .null] [])) st2 ?_
  replace E_ao0 := Exa.wr W2 E_ao0
  replace F_ao0_token := Fld.same W2 F_ao0_token
  replace F_ao0_name := Fld.other W2 F_ao0_name (Or.inr (slot_ne (Or.inr (own_w hw 21 rfl)) (Or.inr (own_w hw 19 rfl)) (by decide) (t := (.object "java/lang/String")) (t' := (.object "java/lang/String")) (by decide) (by decide)))
  replace Zs := Nat.le_trans Zs (Keep.of_wr W2).1
  replace Nf := Fr.snoc X2 Nf g_ao0
  replace Kp := Kp.wr W2 (Or.inl (by simp))
  refine own_go (x' := T2.setTop (mkF m 11 #[.val (.ref ao0), .val .null, .val .null] [.null, (.ref ao0)])) (fun _ k => XS.aloadN X2.here hx rfl (hb hby d2_9) rfl rfl (XS.aloadN X2.here hx rfl (hb hby d2_10) rfl rfl k)) ?_
  obtain ⟨T3, h3, X3, e3, W3, st3⟩ := putF X2 hx hZ hown (host := "") (Or.inl (own_w hw 20 rfl)) Via.refl e2 F_ao0_name E_ao0 (Or.inr ⟨(own_w hw 21 rfl), rfl, hnm⟩) (own_w hw 5 rfl) (ty := (.object "java/lang/String")) (by decide) rfl rfl (g := (mkF m 11 #[.val (.ref ao0), .val .null, .val .null] [.null, (.ref ao0)])) rfl rfl (hb hby d2_11)
  refine own_go (x' := T3.setTop (mkF m 14 #[.val (.ref ao0), .val .null, .val .null] [])) st3 ?_
  replace E_ao0 := Exa.wr W3 E_ao0
  replace F_ao0_token := Fld.other W3 F_ao0_token (Or.inr (slot_ne (Or.inr (own_w hw 19 rfl)) (Or.inr (own_w hw 21 rfl)) (by decide) (t := (.object "java/lang/String")) (t' := (.object "java/lang/String")) (by decide) (by decide)))
  replace F_ao0_name := Fld.same W3 F_ao0_name
  replace Zs := Nat.le_trans Zs (Keep.of_wr W3).1
  replace Nf := Fr.snoc X3 Nf g_ao0
  replace Kp := Kp.wr W3 (Or.inl (by simp))
  refine own_retV X3 hx hlk hret (hb hby d2_14) ?_ (by decide) (by decide)
  rw [e3]
  exact ⟨rfl, Nf, Kp, E_ao0, F_ao0_token, F_ao0_name⟩
theorem d5_0 : decode prog_2_method_4_code 0 = .ok (.aload_n 0, 1) := by decide +kernel
theorem d5_1 : decode prog_2_method_4_code 1 = .ok (.getfield 7, 3) := by decide +kernel
theorem d5_4 : decode prog_2_method_4_code 4 = .ok (.ifnonnull 7, 3) := by decide +kernel
theorem d5_11 : decode prog_2_method_4_code 11 = .ok (.iconst 0, 1) := by decide +kernel
theorem d5_12 : decode prog_2_method_4_code 12 = .ok (.ireturn, 1) := by decide +kernel
def Q_rm5R (Z : State) (ao0 t0 : Addr) (h0 : Heap) (n0 : Nat) (v : Option Value) (h : Heap) (L : List Loc) : Prop := v = some (.int (0 : Int32)) ∧ Fr n0 L ∧ h = h0
theorem pn_rm5R : plainName "com/example/lean_bus/leanbus/api/Caller" = true := by first | (simp [plainName, overriddenIn]; done) | decide +kernel
theorem ef_rm5R (m : MethodId) (x0 : Addr) : entryFrame m #[(.ref x0)] 1 = mkF m 0 #[.val (.ref x0)] [] := by first | (simp [entryFrame, mkF, argsToLocals, Value.category]; done) | rfl
set_option maxRecDepth 65536 in
set_option maxHeartbeats 40000000 in
theorem rm5R (l : Launch) (Z : State) (a0 : Array Value) (hw : ∀ d ∈ tables_1, d.before a0 Z = true) (ws : List Jvm.Cond) (ao0 t0 : Addr) (h0 : Heap) (n0 : Nat) (Z0 : n0 ≤ h0.size) (F_ao0_token : Fld Z h0 ao0 "com/example/lean_bus/leanbus/api/Caller" "token" "Ljava/lang/String;" (.ref t0)) :
    MetFree l (⟨"com/example/lean_bus/leanbus/api/Caller", "isRoot", "()Z"⟩ : MethodName) (head1 (Jvm.Cond.code (⟨"com/example/lean_bus/leanbus/api/Caller", "isRoot", "()Z"⟩ : MethodName) prog_2_method_4_code 1 (some .boolean) :: ws) ({ frames := 0, cells := 0, slots := 0, locals := 0 } : Room)) (fun a U => a = #[(.ref ao0)] ∧ Z.Warmed39 U.vm ∧ U.heap = h0) (fun _ _ _ _ _ => True) (fun _ U o U' => ∃ v L, o = .returned v ∧ (Q_rm5R Z ao0 t0 h0 n0) v U'.heap L ∧ FrameEnd U o U' L ({ frames := 0, cells := 0, slots := 0, locals := 0 } : Room).cells ({ frames := 0, cells := 0, slots := 0, locals := 0 } : Room).slots) := by
  refine MetFree.of_bodySF (plainFor_of_name pn_rm5R) hisR ?_
  intro p e s m args below meth c s₁ Bd hml0 hP hK
  obtain ⟨rfl, hZ, hh⟩ := hP
  have hx := Bd.exec
  have hby := Bd.bytes
  have hlk := BodyLoose.notSynchronized Bd
  have hret := Bd.returns
  have hml : c.maxLocals = 1 := hml0
  have hown : s.vm.findClass "com/example/lean_bus/leanbus/api/Caller" = some m.cls := findClass_of_methodNamed Bd.named
  have hnm := (name_of_methodNamed Bd.named Bd.method).1
  have X0 : Stand p l e ({ frames := 0, cells := 0, slots := 0, locals := 0 } : Room) s m #[(.ref ao0)] below meth c s₁ [] 0 0 := Stand.of_body Bd
  have e0 : s₁.heap = h0 := by rw [← hh, Bd.state]; rfl
  have Nf := Fr.nil n0
  have Zs := Z0
  have Kp : Keep h0 h0 [] := Keep.refl _ _
  show own_End p e below s (Q_rm5R Z ao0 t0 h0 n0) ({ frames := 0, cells := 0, slots := 0, locals := 0 } : Room).cells ({ frames := 0, cells := 0, slots := 0, locals := 0 } : Room).slots (s₁.setTop (entryFrame m #[(.ref ao0)] 1))
  refine own_go (x' := s₁.setTop (mkF m 0 #[.val (.ref ao0)] [])) (fun t k => castTop (ef_rm5R m ao0) k) ?_
  refine own_go (x' := s₁.setTop (mkF m 1 #[.val (.ref ao0)] [(.ref ao0)])) (fun _ k => XS.aloadN X0.here hx rfl (hb hby d5_0) rfl rfl k) ?_
  obtain ⟨T1, X1, e1, st1⟩ := getF X0 hx hZ hown (host := "") (Or.inl (own_w hw 18 rfl)) Via.refl e0 F_ao0_token (g := (mkF m 1 #[.val (.ref ao0)] [(.ref ao0)])) rfl rfl (hb hby d5_1)
  refine own_go (x' := T1.setTop (mkF m 4 #[.val (.ref ao0)] [(.ref t0)])) st1 ?_
  refine own_go (x' := T1.setTop (mkF m 12 #[.val (.ref ao0)] [(.int 0)])) (fun _ k => XS.ifnonnullYes X1.here hx rfl (pc0 := 4) (pc' := 11) rfl (hb hby d5_4) rfl (by decide) (by decide) (XS.iconst X1.here hx rfl (hb hby d5_11) k)) ?_
  refine own_retN X1 hx hlk (t := .boolean) hret (by simp) (hb hby d5_12) (w := (0 : Int32)) rfl ?_ (by decide) (by decide)
  rw [e1]
  exact ⟨rfl, Nf, rfl⟩
theorem d5_7 : decode prog_2_method_4_code 7 = .ok (.iconst 1, 1) := by decide +kernel
theorem d5_8 : decode prog_2_method_4_code 8 = .ok (.goto 4, 3) := by decide +kernel
def Q_rm5N (Z : State) (ao0 : Addr) (h0 : Heap) (n0 : Nat) (v : Option Value) (h : Heap) (L : List Loc) : Prop := v = some (.int (1 : Int32)) ∧ Fr n0 L ∧ h = h0
theorem pn_rm5N : plainName "com/example/lean_bus/leanbus/api/Caller" = true := by first | (simp [plainName, overriddenIn]; done) | decide +kernel
theorem ef_rm5N (m : MethodId) (x0 : Addr) : entryFrame m #[(.ref x0)] 1 = mkF m 0 #[.val (.ref x0)] [] := by first | (simp [entryFrame, mkF, argsToLocals, Value.category]; done) | rfl
set_option maxRecDepth 65536 in
set_option maxHeartbeats 40000000 in
theorem rm5N (l : Launch) (Z : State) (a0 : Array Value) (hw : ∀ d ∈ tables_1, d.before a0 Z = true) (ws : List Jvm.Cond) (ao0 : Addr) (h0 : Heap) (n0 : Nat) (Z0 : n0 ≤ h0.size) (F_ao0_token : Fld Z h0 ao0 "com/example/lean_bus/leanbus/api/Caller" "token" "Ljava/lang/String;" .null) :
    MetFree l (⟨"com/example/lean_bus/leanbus/api/Caller", "isRoot", "()Z"⟩ : MethodName) (head1 (Jvm.Cond.code (⟨"com/example/lean_bus/leanbus/api/Caller", "isRoot", "()Z"⟩ : MethodName) prog_2_method_4_code 1 (some .boolean) :: ws) ({ frames := 0, cells := 0, slots := 0, locals := 0 } : Room)) (fun a U => a = #[(.ref ao0)] ∧ Z.Warmed39 U.vm ∧ U.heap = h0) (fun _ _ _ _ _ => True) (fun _ U o U' => ∃ v L, o = .returned v ∧ (Q_rm5N Z ao0 h0 n0) v U'.heap L ∧ FrameEnd U o U' L ({ frames := 0, cells := 0, slots := 0, locals := 0 } : Room).cells ({ frames := 0, cells := 0, slots := 0, locals := 0 } : Room).slots) := by
  refine MetFree.of_bodySF (plainFor_of_name pn_rm5N) hisR ?_
  intro p e s m args below meth c s₁ Bd hml0 hP hK
  obtain ⟨rfl, hZ, hh⟩ := hP
  have hx := Bd.exec
  have hby := Bd.bytes
  have hlk := BodyLoose.notSynchronized Bd
  have hret := Bd.returns
  have hml : c.maxLocals = 1 := hml0
  have hown : s.vm.findClass "com/example/lean_bus/leanbus/api/Caller" = some m.cls := findClass_of_methodNamed Bd.named
  have hnm := (name_of_methodNamed Bd.named Bd.method).1
  have X0 : Stand p l e ({ frames := 0, cells := 0, slots := 0, locals := 0 } : Room) s m #[(.ref ao0)] below meth c s₁ [] 0 0 := Stand.of_body Bd
  have e0 : s₁.heap = h0 := by rw [← hh, Bd.state]; rfl
  have Nf := Fr.nil n0
  have Zs := Z0
  have Kp : Keep h0 h0 [] := Keep.refl _ _
  show own_End p e below s (Q_rm5N Z ao0 h0 n0) ({ frames := 0, cells := 0, slots := 0, locals := 0 } : Room).cells ({ frames := 0, cells := 0, slots := 0, locals := 0 } : Room).slots (s₁.setTop (entryFrame m #[(.ref ao0)] 1))
  refine own_go (x' := s₁.setTop (mkF m 0 #[.val (.ref ao0)] [])) (fun t k => castTop (ef_rm5N m ao0) k) ?_
  refine own_go (x' := s₁.setTop (mkF m 1 #[.val (.ref ao0)] [(.ref ao0)])) (fun _ k => XS.aloadN X0.here hx rfl (hb hby d5_0) rfl rfl k) ?_
  obtain ⟨T1, X1, e1, st1⟩ := getF X0 hx hZ hown (host := "") (Or.inl (own_w hw 18 rfl)) Via.refl e0 F_ao0_token (g := (mkF m 1 #[.val (.ref ao0)] [(.ref ao0)])) rfl rfl (hb hby d5_1)
  refine own_go (x' := T1.setTop (mkF m 4 #[.val (.ref ao0)] [.null])) st1 ?_
  refine own_go (x' := T1.setTop (mkF m 12 #[.val (.ref ao0)] [(.int 1)])) (fun _ k => XS.ifnonnullNo X1.here hx rfl (hb hby d5_4) rfl (XS.iconst X1.here hx rfl (hb hby d5_7) (XS.goto X1.here hx rfl (pc0 := 8) (pc' := 12) rfl (hb hby d5_8) (by decide) (by decide) k))) ?_
  refine own_retN X1 hx hlk (t := .boolean) hret (by simp) (hb hby d5_12) (w := (1 : Int32)) rfl ?_ (by decide) (by decide)
  rw [e1]
  exact ⟨rfl, Nf, rfl⟩
theorem pd_6 : parseMethodDescriptor "(Ljava/lang/String;Ljava/lang/String;)V" = some ⟨[(.object "java/lang/String"), (.object "java/lang/String")], none⟩ := by decide +kernel
theorem d6_0 : decode prog_2_method_2_code 0 = .ok (.new 8, 3) := by decide +kernel
theorem d6_3 : decode prog_2_method_2_code 3 = .ok (.dup, 1) := by decide +kernel
theorem d6_4 : decode prog_2_method_2_code 4 = .ok (.aconst_null, 1) := by decide +kernel
theorem d6_5 : decode prog_2_method_2_code 5 = .ok (.aconst_null, 1) := by decide +kernel
theorem d6_6 : decode prog_2_method_2_code 6 = .ok (.invokespecial 16, 3) := by decide +kernel
theorem d6_9 : decode prog_2_method_2_code 9 = .ok (.areturn, 1) := by decide +kernel
def Q_rm6 (Z : State)  (h0 : Heap) (n0 : Nat) (v : Option Value) (h : Heap) (L : List Loc) : Prop := ∃ b : Addr, v = some (.ref b) ∧ Fr n0 L ∧ Keep h0 h [] ∧ h0.size ≤ b ∧ n0 ≤ b ∧ Exa Z h b "com/example/lean_bus/leanbus/api/Caller" ∧ Fld Z h b "com/example/lean_bus/leanbus/api/Caller" "token" "Ljava/lang/String;" .null ∧ Fld Z h b "com/example/lean_bus/leanbus/api/Caller" "name" "Ljava/lang/String;" .null
theorem pn_rm6 : plainName "com/example/lean_bus/leanbus/api/Caller" = true := by first | (simp [plainName, overriddenIn]; done) | decide +kernel
theorem ef_rm6 (m : MethodId)  : entryFrame m #[] 0 = mkF m 0 #[] [] := by first | (simp [entryFrame, mkF, argsToLocals, Value.category]; done) | rfl
set_option maxRecDepth 65536 in
set_option maxHeartbeats 40000000 in
theorem rm6 (l : Launch) (Z : State) (a0 : Array Value) (hw : ∀ d ∈ tables_1, d.before a0 Z = true) (ws : List Jvm.Cond)  (h0 : Heap) (n0 : Nat) (Z0 : n0 ≤ h0.size) :
    MetFree l (⟨"com/example/lean_bus/leanbus/api/Caller", "root", "()Lcom/example/lean_bus/leanbus/api/Caller;"⟩ : MethodName) (head1 (Jvm.Cond.code (⟨"com/example/lean_bus/leanbus/api/Caller", "root", "()Lcom/example/lean_bus/leanbus/api/Caller;"⟩ : MethodName) prog_2_method_2_code 0 (some (.object "com/example/lean_bus/leanbus/api/Caller")) :: ws) ({ frames := 3, cells := 1, slots := 2, locals := 39 } : Room)) (fun a U => a = #[] ∧ Z.Warmed39 U.vm ∧ U.heap = h0) (fun _ _ _ _ _ => True) (fun _ U o U' => ∃ v L, o = .returned v ∧ (Q_rm6 Z  h0 n0) v U'.heap L ∧ FrameEnd U o U' L ({ frames := 3, cells := 1, slots := 2, locals := 39 } : Room).cells ({ frames := 3, cells := 1, slots := 2, locals := 39 } : Room).slots) := by
  refine MetFree.of_bodySF (plainFor_of_name pn_rm6) hisR ?_
  intro p e s m args below meth c s₁ Bd hml0 hP hK
  obtain ⟨rfl, hZ, hh⟩ := hP
  have hx := Bd.exec
  have hby := Bd.bytes
  have hlk := BodyLoose.notSynchronized Bd
  have hret := Bd.returns
  have hml : c.maxLocals = 0 := hml0
  have hown : s.vm.findClass "com/example/lean_bus/leanbus/api/Caller" = some m.cls := findClass_of_methodNamed Bd.named
  have hnm := (name_of_methodNamed Bd.named Bd.method).1
  have X0 : Stand p l e ({ frames := 3, cells := 1, slots := 2, locals := 39 } : Room) s m #[] below meth c s₁ [] 0 0 := Stand.of_body Bd
  have e0 : s₁.heap = h0 := by rw [← hh, Bd.state]; rfl
  have Nf := Fr.nil n0
  have Zs := Z0
  have Kp : Keep h0 h0 [] := Keep.refl _ _
  show own_End p e below s (Q_rm6 Z  h0 n0) ({ frames := 3, cells := 1, slots := 2, locals := 39 } : Room).cells ({ frames := 3, cells := 1, slots := 2, locals := 39 } : Room).slots (s₁.setTop (entryFrame m #[] 0))
  refine own_go (x' := s₁.setTop (mkF m 0 #[] [])) (fun t k => castTop (ef_rm6 m ) k) ?_
  obtain ⟨T1, h1, X1, e1, E1, A1, D1, -, st1⟩ := newO X0 hx hZ hown (own_w hw 30 rfl) (own_w hw 5 rfl) (own_w hw 6 rfl) e0 (g := (mkF m 0 #[] [])) rfl (hb hby d6_0) (by decide) (by decide)
  obtain ⟨b1, g1⟩ : ∃ z, z = h0.size := ⟨_, rfl⟩
  rw [← g1] at A1 D1 st1
  have g_b1 : n0 ≤ b1 := Nat.le_trans Zs (Nat.le_of_eq g1.symm)
  have sz_b1 : h0.size ≤ b1 := Nat.le_trans Kp.1 (Nat.le_of_eq g1.symm)
  replace Zs := Nat.le_trans Zs E1.1
  replace Kp := Kp.ext E1
  have E_b1 := A1
  have F_b1_token : Fld Z h1 b1 "com/example/lean_bus/leanbus/api/Caller" "token" "Ljava/lang/String;" .null := D1 (Or.inr (own_w hw 19 rfl)) (ty := (.object "java/lang/String")) (by decide)
  have F_b1_name : Fld Z h1 b1 "com/example/lean_bus/leanbus/api/Caller" "name" "Ljava/lang/String;" .null := D1 (Or.inr (own_w hw 21 rfl)) (ty := (.object "java/lang/String")) (by decide)
  refine own_go (x' := T1.setTop (mkF m 3 #[] [(.ref b1)])) st1 ?_
  refine own_go (x' := T1.setTop (mkF m 6 #[] [.null, .null, (.ref b1), (.ref b1)])) (fun _ k => XS.dup X1.here hx rfl (hb hby d6_3) rfl rfl (XS.aconstNull X1.here hx rfl (hb hby d6_4) (XS.aconstNull X1.here hx rfl (hb hby d6_5) k))) ?_
  obtain ⟨_, _, ⟨T2, L2, k2, n2⟩, -, X2, ⟨Lc2, hQ2, l2, y2, z2⟩, st2⟩ := X1.specialBack hx (y := (⟨"com/example/lean_bus/leanbus/api/Caller", "<init>", "(Ljava/lang/String;Ljava/lang/String;)V"⟩ : MethodName)) rfl hown (mvT hZ (own_w hw 31 rfl)) (mvT hZ (own_w hw 8 rfl)) (mvT hZ (own_w hw 9 rfl)) (by decide) (backOf (W := 1) (rm2NN l Z a0 hw [] b1 h1 n0 Zs E_b1 F_b1_token F_b1_name g_b1) hZ (own_w hw 9 rfl) (own_w hw 6 rfl) (by decide) (by decide)) (g := (mkF m 6 #[] [.null, .null, (.ref b1), (.ref b1)])) rfl (by rw [hml]; rfl) (Steps.refl _) (a := b1) (argsL := [.null, .null]) (rest := [(.ref b1)]) (lenOf pd_6 rfl) rfl (by show 2 * 0 + _ ≤ _; exact Nat.le_of_eq rfl) (hb hby d6_6) (fun _ _ => ⟨rfl, e1, (by decide : 1 + 0 ≤ _), (by decide : 2 + 0 ≤ _)⟩)
  dsimp only [Pt.U, Pt.locs, Pt.cells, Pt.slots] at X2 l2 y2 z2 st2 hQ2
  subst l2 y2 z2
  obtain ⟨hv2, Nq2, K2, Eo2, Fo2_0, Fo2_1⟩ := hQ2
  subst hv2
  replace Nf := Fr.app Nf Nq2
  replace Zs := Nat.le_trans Zs K2.1
  replace Kp := Kp.trans K2 (allS (Or.inr sz_b1) all0)
  replace E_b1 := Eo2
  replace F_b1_token := Fo2_0
  replace F_b1_name := Fo2_1
  refine own_go (x' := T2.setTop (mkF m 9 #[] [(.ref b1)])) (fun _ k => st2.trans k) ?_
  refine own_retR X2 hx hlk hret rfl rfl (hb hby d6_9) ?_ (by decide) (by decide)
  exact ⟨b1, rfl, Nf, Kp, sz_b1, g_b1, E_b1, F_b1_token, F_b1_name⟩
theorem d7_0 : decode prog_2_method_3_code 0 = .ok (.new 8, 3) := by decide +kernel
theorem d7_3 : decode prog_2_method_3_code 3 = .ok (.dup, 1) := by decide +kernel
theorem d7_4 : decode prog_2_method_3_code 4 = .ok (.aload_n 0, 1) := by decide +kernel
theorem d7_5 : decode prog_2_method_3_code 5 = .ok (.aconst_null, 1) := by decide +kernel
theorem d7_6 : decode prog_2_method_3_code 6 = .ok (.invokespecial 16, 3) := by decide +kernel
theorem d7_9 : decode prog_2_method_3_code 9 = .ok (.areturn, 1) := by decide +kernel
def Q_rm7R (Z : State) (ao0 : Addr) (h0 : Heap) (n0 : Nat) (v : Option Value) (h : Heap) (L : List Loc) : Prop := ∃ b : Addr, v = some (.ref b) ∧ Fr n0 L ∧ Keep h0 h [] ∧ h0.size ≤ b ∧ n0 ≤ b ∧ Exa Z h b "com/example/lean_bus/leanbus/api/Caller" ∧ Fld Z h b "com/example/lean_bus/leanbus/api/Caller" "token" "Ljava/lang/String;" (.ref ao0) ∧ Fld Z h b "com/example/lean_bus/leanbus/api/Caller" "name" "Ljava/lang/String;" .null
theorem pn_rm7R : plainName "com/example/lean_bus/leanbus/api/Caller" = true := by first | (simp [plainName, overriddenIn]; done) | decide +kernel
theorem ef_rm7R (m : MethodId) (x0 : Addr) : entryFrame m #[(.ref x0)] 1 = mkF m 0 #[.val (.ref x0)] [] := by first | (simp [entryFrame, mkF, argsToLocals, Value.category]; done) | rfl
set_option maxRecDepth 65536 in
set_option maxHeartbeats 40000000 in
theorem rm7R (l : Launch) (Z : State) (a0 : Array Value) (hw : ∀ d ∈ tables_1, d.before a0 Z = true) (ws : List Jvm.Cond) (ao0 : Addr) (h0 : Heap) (n0 : Nat) (Z0 : n0 ≤ h0.size) :
    MetFree l (⟨"com/example/lean_bus/leanbus/api/Caller", "unchecked", "(Ljava/lang/String;)Lcom/example/lean_bus/leanbus/api/Caller;"⟩ : MethodName) (head1 (Jvm.Cond.code (⟨"com/example/lean_bus/leanbus/api/Caller", "unchecked", "(Ljava/lang/String;)Lcom/example/lean_bus/leanbus/api/Caller;"⟩ : MethodName) prog_2_method_3_code 1 (some (.object "com/example/lean_bus/leanbus/api/Caller")) :: ws) ({ frames := 3, cells := 1, slots := 2, locals := 39 } : Room)) (fun a U => a = #[(.ref ao0)] ∧ Z.Warmed39 U.vm ∧ U.heap = h0) (fun _ _ _ _ _ => True) (fun _ U o U' => ∃ v L, o = .returned v ∧ (Q_rm7R Z ao0 h0 n0) v U'.heap L ∧ FrameEnd U o U' L ({ frames := 3, cells := 1, slots := 2, locals := 39 } : Room).cells ({ frames := 3, cells := 1, slots := 2, locals := 39 } : Room).slots) := by
  refine MetFree.of_bodySF (plainFor_of_name pn_rm7R) hisR ?_
  intro p e s m args below meth c s₁ Bd hml0 hP hK
  obtain ⟨rfl, hZ, hh⟩ := hP
  have hx := Bd.exec
  have hby := Bd.bytes
  have hlk := BodyLoose.notSynchronized Bd
  have hret := Bd.returns
  have hml : c.maxLocals = 1 := hml0
  have hown : s.vm.findClass "com/example/lean_bus/leanbus/api/Caller" = some m.cls := findClass_of_methodNamed Bd.named
  have hnm := (name_of_methodNamed Bd.named Bd.method).1
  have X0 : Stand p l e ({ frames := 3, cells := 1, slots := 2, locals := 39 } : Room) s m #[(.ref ao0)] below meth c s₁ [] 0 0 := Stand.of_body Bd
  have e0 : s₁.heap = h0 := by rw [← hh, Bd.state]; rfl
  have Nf := Fr.nil n0
  have Zs := Z0
  have Kp : Keep h0 h0 [] := Keep.refl _ _
  show own_End p e below s (Q_rm7R Z ao0 h0 n0) ({ frames := 3, cells := 1, slots := 2, locals := 39 } : Room).cells ({ frames := 3, cells := 1, slots := 2, locals := 39 } : Room).slots (s₁.setTop (entryFrame m #[(.ref ao0)] 1))
  refine own_go (x' := s₁.setTop (mkF m 0 #[.val (.ref ao0)] [])) (fun t k => castTop (ef_rm7R m ao0) k) ?_
  obtain ⟨T1, h1, X1, e1, E1, A1, D1, -, st1⟩ := newO X0 hx hZ hown (own_w hw 30 rfl) (own_w hw 5 rfl) (own_w hw 6 rfl) e0 (g := (mkF m 0 #[.val (.ref ao0)] [])) rfl (hb hby d7_0) (by decide) (by decide)
  obtain ⟨b1, g1⟩ : ∃ z, z = h0.size := ⟨_, rfl⟩
  rw [← g1] at A1 D1 st1
  have g_b1 : n0 ≤ b1 := Nat.le_trans Zs (Nat.le_of_eq g1.symm)
  have sz_b1 : h0.size ≤ b1 := Nat.le_trans Kp.1 (Nat.le_of_eq g1.symm)
  replace Zs := Nat.le_trans Zs E1.1
  replace Kp := Kp.ext E1
  have E_b1 := A1
  have F_b1_token : Fld Z h1 b1 "com/example/lean_bus/leanbus/api/Caller" "token" "Ljava/lang/String;" .null := D1 (Or.inr (own_w hw 19 rfl)) (ty := (.object "java/lang/String")) (by decide)
  have F_b1_name : Fld Z h1 b1 "com/example/lean_bus/leanbus/api/Caller" "name" "Ljava/lang/String;" .null := D1 (Or.inr (own_w hw 21 rfl)) (ty := (.object "java/lang/String")) (by decide)
  refine own_go (x' := T1.setTop (mkF m 3 #[.val (.ref ao0)] [(.ref b1)])) st1 ?_
  refine own_go (x' := T1.setTop (mkF m 6 #[.val (.ref ao0)] [.null, (.ref ao0), (.ref b1), (.ref b1)])) (fun _ k => XS.dup X1.here hx rfl (hb hby d7_3) rfl rfl (XS.aloadN X1.here hx rfl (hb hby d7_4) rfl rfl (XS.aconstNull X1.here hx rfl (hb hby d7_5) k))) ?_
  obtain ⟨_, _, ⟨T2, L2, k2, n2⟩, -, X2, ⟨Lc2, hQ2, l2, y2, z2⟩, st2⟩ := X1.specialBack hx (y := (⟨"com/example/lean_bus/leanbus/api/Caller", "<init>", "(Ljava/lang/String;Ljava/lang/String;)V"⟩ : MethodName)) rfl hown (mvT hZ (own_w hw 31 rfl)) (mvT hZ (own_w hw 8 rfl)) (mvT hZ (own_w hw 9 rfl)) (by decide) (backOf (W := 1) (rm2RN l Z a0 hw [] b1 ao0 h1 n0 Zs E_b1 F_b1_token F_b1_name g_b1) hZ (own_w hw 9 rfl) (own_w hw 6 rfl) (by decide) (by decide)) (g := (mkF m 6 #[.val (.ref ao0)] [.null, (.ref ao0), (.ref b1), (.ref b1)])) rfl (by rw [hml]; rfl) (Steps.refl _) (a := b1) (argsL := [(.ref ao0), .null]) (rest := [(.ref b1)]) (lenOf pd_6 rfl) rfl (by show 2 * 0 + _ ≤ _; exact Nat.le_of_eq rfl) (hb hby d7_6) (fun _ _ => ⟨rfl, e1, (by decide : 1 + 0 ≤ _), (by decide : 2 + 0 ≤ _)⟩)
  dsimp only [Pt.U, Pt.locs, Pt.cells, Pt.slots] at X2 l2 y2 z2 st2 hQ2
  subst l2 y2 z2
  obtain ⟨hv2, Nq2, K2, Eo2, Fo2_0, Fo2_1⟩ := hQ2
  subst hv2
  replace Nf := Fr.app Nf Nq2
  replace Zs := Nat.le_trans Zs K2.1
  replace Kp := Kp.trans K2 (allS (Or.inr sz_b1) all0)
  replace E_b1 := Eo2
  replace F_b1_token := Fo2_0
  replace F_b1_name := Fo2_1
  refine own_go (x' := T2.setTop (mkF m 9 #[.val (.ref ao0)] [(.ref b1)])) (fun _ k => st2.trans k) ?_
  refine own_retR X2 hx hlk hret rfl rfl (hb hby d7_9) ?_ (by decide) (by decide)
  exact ⟨b1, rfl, Nf, Kp, sz_b1, g_b1, E_b1, F_b1_token, F_b1_name⟩
def Q_rm7N (Z : State)  (h0 : Heap) (n0 : Nat) (v : Option Value) (h : Heap) (L : List Loc) : Prop := ∃ b : Addr, v = some (.ref b) ∧ Fr n0 L ∧ Keep h0 h [] ∧ h0.size ≤ b ∧ n0 ≤ b ∧ Exa Z h b "com/example/lean_bus/leanbus/api/Caller" ∧ Fld Z h b "com/example/lean_bus/leanbus/api/Caller" "token" "Ljava/lang/String;" .null ∧ Fld Z h b "com/example/lean_bus/leanbus/api/Caller" "name" "Ljava/lang/String;" .null
theorem pn_rm7N : plainName "com/example/lean_bus/leanbus/api/Caller" = true := by first | (simp [plainName, overriddenIn]; done) | decide +kernel
theorem ef_rm7N (m : MethodId)  : entryFrame m #[.null] 1 = mkF m 0 #[.val .null] [] := by first | (simp [entryFrame, mkF, argsToLocals, Value.category]; done) | rfl
set_option maxRecDepth 65536 in
set_option maxHeartbeats 40000000 in
theorem rm7N (l : Launch) (Z : State) (a0 : Array Value) (hw : ∀ d ∈ tables_1, d.before a0 Z = true) (ws : List Jvm.Cond)  (h0 : Heap) (n0 : Nat) (Z0 : n0 ≤ h0.size) :
    MetFree l (⟨"com/example/lean_bus/leanbus/api/Caller", "unchecked", "(Ljava/lang/String;)Lcom/example/lean_bus/leanbus/api/Caller;"⟩ : MethodName) (head1 (Jvm.Cond.code (⟨"com/example/lean_bus/leanbus/api/Caller", "unchecked", "(Ljava/lang/String;)Lcom/example/lean_bus/leanbus/api/Caller;"⟩ : MethodName) prog_2_method_3_code 1 (some (.object "com/example/lean_bus/leanbus/api/Caller")) :: ws) ({ frames := 3, cells := 1, slots := 2, locals := 39 } : Room)) (fun a U => a = #[.null] ∧ Z.Warmed39 U.vm ∧ U.heap = h0) (fun _ _ _ _ _ => True) (fun _ U o U' => ∃ v L, o = .returned v ∧ (Q_rm7N Z  h0 n0) v U'.heap L ∧ FrameEnd U o U' L ({ frames := 3, cells := 1, slots := 2, locals := 39 } : Room).cells ({ frames := 3, cells := 1, slots := 2, locals := 39 } : Room).slots) := by
  refine MetFree.of_bodySF (plainFor_of_name pn_rm7N) hisR ?_
  intro p e s m args below meth c s₁ Bd hml0 hP hK
  obtain ⟨rfl, hZ, hh⟩ := hP
  have hx := Bd.exec
  have hby := Bd.bytes
  have hlk := BodyLoose.notSynchronized Bd
  have hret := Bd.returns
  have hml : c.maxLocals = 1 := hml0
  have hown : s.vm.findClass "com/example/lean_bus/leanbus/api/Caller" = some m.cls := findClass_of_methodNamed Bd.named
  have hnm := (name_of_methodNamed Bd.named Bd.method).1
  have X0 : Stand p l e ({ frames := 3, cells := 1, slots := 2, locals := 39 } : Room) s m #[.null] below meth c s₁ [] 0 0 := Stand.of_body Bd
  have e0 : s₁.heap = h0 := by rw [← hh, Bd.state]; rfl
  have Nf := Fr.nil n0
  have Zs := Z0
  have Kp : Keep h0 h0 [] := Keep.refl _ _
  show own_End p e below s (Q_rm7N Z  h0 n0) ({ frames := 3, cells := 1, slots := 2, locals := 39 } : Room).cells ({ frames := 3, cells := 1, slots := 2, locals := 39 } : Room).slots (s₁.setTop (entryFrame m #[.null] 1))
  refine own_go (x' := s₁.setTop (mkF m 0 #[.val .null] [])) (fun t k => castTop (ef_rm7N m ) k) ?_
  obtain ⟨T1, h1, X1, e1, E1, A1, D1, -, st1⟩ := newO X0 hx hZ hown (own_w hw 30 rfl) (own_w hw 5 rfl) (own_w hw 6 rfl) e0 (g := (mkF m 0 #[.val .null] [])) rfl (hb hby d7_0) (by decide) (by decide)
  obtain ⟨b1, g1⟩ : ∃ z, z = h0.size := ⟨_, rfl⟩
  rw [← g1] at A1 D1 st1
  have g_b1 : n0 ≤ b1 := Nat.le_trans Zs (Nat.le_of_eq g1.symm)
  have sz_b1 : h0.size ≤ b1 := Nat.le_trans Kp.1 (Nat.le_of_eq g1.symm)
  replace Zs := Nat.le_trans Zs E1.1
  replace Kp := Kp.ext E1
  have E_b1 := A1
  have F_b1_token : Fld Z h1 b1 "com/example/lean_bus/leanbus/api/Caller" "token" "Ljava/lang/String;" .null := D1 (Or.inr (own_w hw 19 rfl)) (ty := (.object "java/lang/String")) (by decide)
  have F_b1_name : Fld Z h1 b1 "com/example/lean_bus/leanbus/api/Caller" "name" "Ljava/lang/String;" .null := D1 (Or.inr (own_w hw 21 rfl)) (ty := (.object "java/lang/String")) (by decide)
  refine own_go (x' := T1.setTop (mkF m 3 #[.val .null] [(.ref b1)])) st1 ?_
  refine own_go (x' := T1.setTop (mkF m 6 #[.val .null] [.null, .null, (.ref b1), (.ref b1)])) (fun _ k => XS.dup X1.here hx rfl (hb hby d7_3) rfl rfl (XS.aloadN X1.here hx rfl (hb hby d7_4) rfl rfl (XS.aconstNull X1.here hx rfl (hb hby d7_5) k))) ?_
  obtain ⟨_, _, ⟨T2, L2, k2, n2⟩, -, X2, ⟨Lc2, hQ2, l2, y2, z2⟩, st2⟩ := X1.specialBack hx (y := (⟨"com/example/lean_bus/leanbus/api/Caller", "<init>", "(Ljava/lang/String;Ljava/lang/String;)V"⟩ : MethodName)) rfl hown (mvT hZ (own_w hw 31 rfl)) (mvT hZ (own_w hw 8 rfl)) (mvT hZ (own_w hw 9 rfl)) (by decide) (backOf (W := 1) (rm2NN l Z a0 hw [] b1 h1 n0 Zs E_b1 F_b1_token F_b1_name g_b1) hZ (own_w hw 9 rfl) (own_w hw 6 rfl) (by decide) (by decide)) (g := (mkF m 6 #[.val .null] [.null, .null, (.ref b1), (.ref b1)])) rfl (by rw [hml]; rfl) (Steps.refl _) (a := b1) (argsL := [.null, .null]) (rest := [(.ref b1)]) (lenOf pd_6 rfl) rfl (by show 2 * 0 + _ ≤ _; exact Nat.le_of_eq rfl) (hb hby d7_6) (fun _ _ => ⟨rfl, e1, (by decide : 1 + 0 ≤ _), (by decide : 2 + 0 ≤ _)⟩)
  dsimp only [Pt.U, Pt.locs, Pt.cells, Pt.slots] at X2 l2 y2 z2 st2 hQ2
  subst l2 y2 z2
  obtain ⟨hv2, Nq2, K2, Eo2, Fo2_0, Fo2_1⟩ := hQ2
  subst hv2
  replace Nf := Fr.app Nf Nq2
  replace Zs := Nat.le_trans Zs K2.1
  replace Kp := Kp.trans K2 (allS (Or.inr sz_b1) all0)
  replace E_b1 := Eo2
  replace F_b1_token := Fo2_0
  replace F_b1_name := Fo2_1
  refine own_go (x' := T2.setTop (mkF m 9 #[.val .null] [(.ref b1)])) (fun _ k => st2.trans k) ?_
  refine own_retR X2 hx hlk hret rfl rfl (hb hby d7_9) ?_ (by decide) (by decide)
  exact ⟨b1, rfl, Nf, Kp, sz_b1, g_b1, E_b1, F_b1_token, F_b1_name⟩
theorem own_q4 (z : Int32) : (z &&& (3 : Int32)) = 0 ∨ (z &&& (3 : Int32)) = 1 ∨ (z &&& (3 : Int32)) = 2 ∨ (z &&& (3 : Int32)) = 3 := by
  have h := c_mask z 3 2 (by decide) (by decide)
  obtain ⟨u, hu⟩ : ∃ u, u = z &&& (3 : Int32) := ⟨_, rfl⟩
  rw [← hu] at h ⊢
  have c : u.toInt = 0 ∨ u.toInt = 1 ∨ u.toInt = 2 ∨ u.toInt = 3 := by omega
  rcases c with c | c | c | c
  · exact Or.inl (Int32.toInt_inj.mp c)
  · exact Or.inr (Or.inl (Int32.toInt_inj.mp c))
  · exact Or.inr (Or.inr (Or.inl (Int32.toInt_inj.mp c)))
  · exact Or.inr (Or.inr (Or.inr (Int32.toInt_inj.mp c)))
theorem pd_7 : parseMethodDescriptor "(III)Ljava/lang/String;" = some ⟨[.int, .int, .int], some (.object "java/lang/String")⟩ := by decide +kernel
theorem pd_8 : parseMethodDescriptor "()Z" = some ⟨[], some .boolean⟩ := by decide +kernel
theorem pd_9 : parseMethodDescriptor "()Lcom/example/lean_bus/leanbus/api/Caller;" = some ⟨[], some (.object "com/example/lean_bus/leanbus/api/Caller")⟩ := by decide +kernel
theorem pd_10 : parseMethodDescriptor "(Ljava/lang/String;)Lcom/example/lean_bus/leanbus/api/Caller;" = some ⟨[(.object "java/lang/String")], some (.object "com/example/lean_bus/leanbus/api/Caller")⟩ := by decide +kernel
def Q_rm0 (Z : State) (p0 : Int32) (p1 : Int32) (p2 : Int32) (p3 : Int32) (p4 : Int32) (G1 : Int32) (h0 : Heap) (n0 : Nat) (v : Option Value) (h : Heap) (L : List Loc) : Prop := v = some (.int 1) ∧ Fr n0 L
theorem pn_rm0 : plainName "com/example/lean_bus/leanbus/api/CallerIsRootPinLaw" = true := by first | (simp [plainName, overriddenIn]; done) | decide +kernel
theorem ef_rm0 (m : MethodId) (x0 : Int32) (x1 : Int32) (x2 : Int32) (x3 : Int32) (x4 : Int32) : entryFrame m #[(.int x0), (.int x1), (.int x2), (.int x3), (.int x4)] maxLocals = mkF m 0 #[.val (.int x0), .val (.int x1), .val (.int x2), .val (.int x3), .val (.int x4), .unset, .unset, .unset, .unset, .unset, .unset, .unset] [] := by first | (simp [entryFrame, mkF, argsToLocals, Value.category, maxLocals]; done) | rfl
set_option maxRecDepth 65536 in
set_option maxHeartbeats 40000000 in
theorem rm0 (l : Launch) (Z : State) (a0 : Array Value) (hw : ∀ d ∈ tables_1, d.before a0 Z = true) (ws : List Jvm.Cond) (p0 : Int32) (p1 : Int32) (p2 : Int32) (p3 : Int32) (p4 : Int32) (G1 : Int32) (h0 : Heap) (n0 : Nat) (Z0 : n0 ≤ h0.size) (Od : Old Z n0 h0) (S_COMPACT_STRINGS : Sta Z Z.heap "java/lang/String" "COMPACT_STRINGS" "Z" (.int G1)) (hG : ¬ G1 = (0 : Int32)) :
    MetFree l x (head1 (Jvm.Cond.code x code maxLocals ret :: ws) room_1) (fun a U => a = #[(.int p0), (.int p1), (.int p2), (.int p3), (.int p4)] ∧ Z.Warmed39 U.vm ∧ U.heap = h0 ∧ CHv Z own_EL U.vm h0) (fun _ _ _ _ _ => True) (fun _ U o U' => ∃ v L, o = .returned v ∧ (Q_rm0 Z p0 p1 p2 p3 p4 G1 h0 n0) v U'.heap L ∧ CHr Z own_EL U.vm U.heap U'.vm U'.heap ∧ ReturnedEndW U o U' L room_1.cells room_1.slots) := by
  refine MetFree.of_bodySF (plainFor_of_name pn_rm0) hisR ?_
  intro p e s m args below meth c s₁ Bd hml0 hP hK
  obtain ⟨rfl, hZ, hh, hC⟩ := hP
  have hx := Bd.exec
  have hby := Bd.bytes
  have hlk := BodyLoose.notSynchronized Bd
  have hret := Bd.returns
  have hml : c.maxLocals = 12 := hml0
  have hown : s.vm.findClass "com/example/lean_bus/leanbus/api/CallerIsRootPinLaw" = some m.cls := findClass_of_methodNamed Bd.named
  have hnm := (name_of_methodNamed Bd.named Bd.method).1
  have X0 : Stand p l e room_1 s m #[(.int p0), (.int p1), (.int p2), (.int p3), (.int p4)] below meth c s₁ [] 0 0 := Stand.of_body Bd
  have e0 : s₁.heap = h0 := by rw [← hh, Bd.state]; rfl
  have Nf := Fr.nil n0
  have Zs := Z0
  have Kp : Keep h0 h0 [] := Keep.refl _ _
  obtain ⟨vm0, k0, X0, hS, hk, hZ, hown, hR⟩ : ∃ (vm0 : Vm) (k0 : Nat), Stand p l e room_1 (s.setVm vm0) m #[(.int p0), (.int p1), (.int p2), (.int p3), (.int p4)] below meth c s₁ [] 0 0 ∧ s.Since vm0 k0 ∧ k0 ≤ h0.size ∧ Z.Warmed39 (s.setVm vm0).vm ∧ (s.setVm vm0).vm.findClass "com/example/lean_bus/leanbus/api/CallerIsRootPinLaw" = some m.cls ∧ CHr Z own_EL s.vm s.heap vm0 h0 := ⟨s.vm, s.heap.size, X0, (State.WarmedH.refl s).since _, Nat.le_of_eq (congrArg Array.size hh), hZ, hown, by rw [hh]; exact CHr.refl hC⟩
  show own_EndH Z own_EL p e below s (Q_rm0 Z p0 p1 p2 p3 p4 G1 h0 n0) room_1.cells room_1.slots (s₁.setTop (entryFrame m #[(.int p0), (.int p1), (.int p2), (.int p3), (.int p4)] maxLocals))
  refine own_goH (x' := s₁.setTop (mkF m 0 #[.val (.int p0), .val (.int p1), .val (.int p2), .val (.int p3), .val (.int p4), .unset, .unset, .unset, .unset, .unset, .unset, .unset] [])) (fun t k => castTop (ef_rm0 m p0 p1 p2 p3 p4) k) ?_
  refine own_goH (x' := s₁.setTop (mkF m 3 #[.val (.int p0), .val (.int p1), .val (.int p2), .val (.int p3), .val (.int p4), .unset, .unset, .unset, .unset, .unset, .unset, .unset] [(.int (p0 &&& (3 : Int32)))])) (fun _ k => XS.iloadN X0.here hx rfl (hb hby at_0) rfl (XS.iconst X0.here hx rfl (hb hby at_1) (XS.iand X0.here hx rfl (hb hby at_2) rfl k))) ?_
  have htk := own_q4 p0
  generalize (p0 &&& (3 : Int32)) = tkv at htk ⊢
  refine own_goH (x' := s₁.setTop (mkF m 10 #[.val (.int p0), .val (.int p1), .val (.int p2), .val (.int p3), .val (.int p4), .val (.int tkv), .unset, .unset, .unset, .unset, .unset, .unset] [(.int (((p0.toUInt32 >>> ((2 : Int32) &&& 31).toUInt32).toInt32) &&& (3 : Int32)))])) (fun _ k => XS.istore X0.here hx rfl (hb hby at_3) rfl (l' := #[.val (.int p0), .val (.int p1), .val (.int p2), .val (.int p3), .val (.int p4), .val (.int tkv), .unset, .unset, .unset, .unset, .unset, .unset]) rfl (XS.iloadN X0.here hx rfl (hb hby at_5) rfl (XS.iconst X0.here hx rfl (hb hby at_6) (XS.iushr X0.here hx rfl (hb hby at_7) rfl (XS.iconst X0.here hx rfl (hb hby at_8) (XS.iand X0.here hx rfl (hb hby at_9) rfl k)))))) ?_
  have hnk := own_q4 ((p0.toUInt32 >>> ((2 : Int32) &&& 31).toUInt32).toInt32)
  generalize (((p0.toUInt32 >>> ((2 : Int32) &&& 31).toUInt32).toInt32) &&& (3 : Int32)) = nkv at hnk ⊢
  refine own_goH (x' := s₁.setTop (mkF m 12 #[.val (.int p0), .val (.int p1), .val (.int p2), .val (.int p3), .val (.int p4), .val (.int tkv), .val (.int nkv), .unset, .unset, .unset, .unset, .unset] [])) (fun _ k => XS.istore X0.here hx rfl (hb hby at_10) rfl (l' := #[.val (.int p0), .val (.int p1), .val (.int p2), .val (.int p3), .val (.int p4), .val (.int tkv), .val (.int nkv), .unset, .unset, .unset, .unset, .unset]) rfl k) ?_
  rcases htk with rfl | rfl | rfl | rfl
  · refine own_goH (x' := s₁.setTop (mkF m 16 #[.val (.int p0), .val (.int p1), .val (.int p2), .val (.int p3), .val (.int p4), .val (.int 0), .val (.int nkv), .unset, .unset, .unset, .unset, .unset] [(.int p2), (.int p1), (.int 0)])) (fun _ k => XS.iload X0.here hx rfl (hb hby at_12) rfl (XS.iloadN X0.here hx rfl (hb hby at_14) rfl (XS.iloadN X0.here hx rfl (hb hby at_15) rfl k))) ?_
    obtain ⟨_, _, ⟨T1, L1, k1, n1⟩, -, X1, ⟨Lc1, hQ1, l1, y1, z1⟩, st1⟩ := Jvm.LawKit.callS X0 hx (y := (⟨"com/example/lean_bus/leanbus/api/CallerIsRootPinLaw", "draw", "(III)Ljava/lang/String;"⟩ : MethodName)) hown (mvT hZ (own_w hw 0 rfl)) (mvT hZ (own_w hw 1 rfl)) (mvT hZ (own_w hw 2 rfl)) (mvT hZ (own_w hw 3 rfl)) (by decide) (backOf (W := 0) (rm1_0 l Z a0 hw [] p1 p2 G1 h0 n0 Zs Od S_COMPACT_STRINGS hG) hZ (own_w hw 3 rfl) (own_w hw 2 rfl) (by decide) (by decide)) (g := (mkF m 16 #[.val (.int p0), .val (.int p1), .val (.int p2), .val (.int p3), .val (.int p4), .val (.int 0), .val (.int nkv), .unset, .unset, .unset, .unset, .unset] [(.int p2), (.int p1), (.int 0)])) rfl (by rw [hml]; rfl) (argsL := [(.int 0), (.int p1), (.int p2)]) (rest := []) (lenOf pd_7 rfl) rfl (by show 2 * 0 + _ ≤ _; exact Nat.le_of_eq rfl) (hb hby at_16) (fun _ _ => ⟨rfl, e0, (by decide : 0 + 0 ≤ _), (by decide : 0 + 0 ≤ _)⟩)
    dsimp only [Pt.U, Pt.locs, Pt.cells, Pt.slots] at X1 l1 y1 z1 st1 hQ1
    subst l1 y1 z1
    obtain ⟨hv1, Nq1, eq1⟩ := hQ1
    subst hv1
    replace Nf := Fr.app Nf Nq1
    refine own_goH (x' := T1.setTop (mkF m 19 #[.val (.int p0), .val (.int p1), .val (.int p2), .val (.int p3), .val (.int p4), .val (.int 0), .val (.int nkv), .unset, .unset, .unset, .unset, .unset] [.null])) st1 ?_
    refine own_goH (x' := T1.setTop (mkF m 21 #[.val (.int p0), .val (.int p1), .val (.int p2), .val (.int p3), .val (.int p4), .val (.int 0), .val (.int nkv), .val .null, .unset, .unset, .unset, .unset] [])) (fun _ k => XS.astore X1.here hx rfl (hb hby at_19) rfl rfl (l' := #[.val (.int p0), .val (.int p1), .val (.int p2), .val (.int p3), .val (.int p4), .val (.int 0), .val (.int nkv), .val .null, .unset, .unset, .unset, .unset]) rfl k) ?_
    rcases hnk with rfl | rfl | rfl | rfl
    · refine own_goH (x' := T1.setTop (mkF m 26 #[.val (.int p0), .val (.int p1), .val (.int p2), .val (.int p3), .val (.int p4), .val (.int 0), .val (.int 0), .val .null, .unset, .unset, .unset, .unset] [(.int p4), (.int p3), (.int 0)])) (fun _ k => XS.iload X1.here hx rfl (hb hby at_21) rfl (XS.iloadN X1.here hx rfl (hb hby at_23) rfl (XS.iload X1.here hx rfl (hb hby at_24) rfl k))) ?_
      obtain ⟨_, _, ⟨T2, L2, k2, n2⟩, -, X2, ⟨Lc2, hQ2, l2, y2, z2⟩, st2⟩ := Jvm.LawKit.callS X1 hx (y := (⟨"com/example/lean_bus/leanbus/api/CallerIsRootPinLaw", "draw", "(III)Ljava/lang/String;"⟩ : MethodName)) hown (mvT hZ (own_w hw 0 rfl)) (mvT hZ (own_w hw 1 rfl)) (mvT hZ (own_w hw 2 rfl)) (mvT hZ (own_w hw 3 rfl)) (by decide) (backOf (W := 0) (rm1_0 l Z a0 hw [] p3 p4 G1 h0 n0 Zs Od S_COMPACT_STRINGS hG) hZ (own_w hw 3 rfl) (own_w hw 2 rfl) (by decide) (by decide)) (g := (mkF m 26 #[.val (.int p0), .val (.int p1), .val (.int p2), .val (.int p3), .val (.int p4), .val (.int 0), .val (.int 0), .val .null, .unset, .unset, .unset, .unset] [(.int p4), (.int p3), (.int 0)])) rfl (by rw [hml]; rfl) (argsL := [(.int 0), (.int p3), (.int p4)]) (rest := []) (lenOf pd_7 rfl) rfl (by show 2 * 0 + _ ≤ _; exact Nat.le_of_eq rfl) (hb hby at_26) (fun _ _ => ⟨rfl, eq1, (by decide : 0 + 0 ≤ _), (by decide : 0 + 0 ≤ _)⟩)
      dsimp only [Pt.U, Pt.locs, Pt.cells, Pt.slots] at X2 l2 y2 z2 st2 hQ2
      subst l2 y2 z2
      obtain ⟨hv2, Nq2, eq2⟩ := hQ2
      subst hv2
      replace Nf := Fr.app Nf Nq2
      refine own_goH (x' := T2.setTop (mkF m 29 #[.val (.int p0), .val (.int p1), .val (.int p2), .val (.int p3), .val (.int p4), .val (.int 0), .val (.int 0), .val .null, .unset, .unset, .unset, .unset] [.null])) st2 ?_
      refine own_goH (x' := T2.setTop (mkF m 43 #[.val (.int p0), .val (.int p1), .val (.int p2), .val (.int p3), .val (.int p4), .val (.int 0), .val (.int 0), .val .null, .val .null, .val (.int 1), .unset, .unset] [])) (fun _ k => XS.astore X2.here hx rfl (hb hby at_29) rfl rfl (l' := #[.val (.int p0), .val (.int p1), .val (.int p2), .val (.int p3), .val (.int p4), .val (.int 0), .val (.int 0), .val .null, .val .null, .unset, .unset, .unset]) rfl (XS.iload X2.here hx rfl (hb hby at_31) rfl (XS.ifNo X2.here hx rfl (hb hby at_33) rfl ((if0 _ _).trans (teq rfl).2) (XS.iconst X2.here hx rfl (hb hby at_36) (XS.goto X2.here hx rfl (pc0 := 37) (pc' := 41) rfl (hb hby at_37) (by decide) (by decide) (XS.istore X2.here hx rfl (hb hby at_41) rfl (l' := #[.val (.int p0), .val (.int p1), .val (.int p2), .val (.int p3), .val (.int p4), .val (.int 0), .val (.int 0), .val .null, .val .null, .val (.int 1), .unset, .unset]) rfl k)))))) ?_
      obtain ⟨T3, h3, X3, e3, E3, A3, D3, -, st3⟩ := newO X2 hx hZ hown (own_w hw 4 rfl) (own_w hw 5 rfl) (own_w hw 6 rfl) eq2 (g := (mkF m 43 #[.val (.int p0), .val (.int p1), .val (.int p2), .val (.int p3), .val (.int p4), .val (.int 0), .val (.int 0), .val .null, .val .null, .val (.int 1), .unset, .unset] [])) rfl (hb hby at_43) (by decide) (by decide)
      obtain ⟨b3, g3⟩ : ∃ z, z = h0.size := ⟨_, rfl⟩
      rw [← g3] at A3 D3 st3
      have g_b3 : n0 ≤ b3 := Nat.le_trans Zs (Nat.le_of_eq g3.symm)
      have Sf_b3 := own_sfn hR (Nat.le_of_eq g3.symm)
      replace Od := Od.ext E3
      replace Zs := Nat.le_trans Zs E3.1
      replace hk := Nat.le_trans hk E3.1
      have Sq_b3 := Safe.ext E3 hR.1 Sf_b3
      replace hR := hR.trans (CHr.ext E3 hR.1)
      replace Sf_b3 := Sq_b3
      have E_b3 := A3
      have F_b3_token : Fld Z h3 b3 "com/example/lean_bus/leanbus/api/Caller" "token" "Ljava/lang/String;" .null := D3 (Or.inr (own_w hw 19 rfl)) (ty := (.object "java/lang/String")) (by decide)
      have F_b3_name : Fld Z h3 b3 "com/example/lean_bus/leanbus/api/Caller" "name" "Ljava/lang/String;" .null := D3 (Or.inr (own_w hw 21 rfl)) (ty := (.object "java/lang/String")) (by decide)
      refine own_goH (x' := T3.setTop (mkF m 46 #[.val (.int p0), .val (.int p1), .val (.int p2), .val (.int p3), .val (.int p4), .val (.int 0), .val (.int 0), .val .null, .val .null, .val (.int 1), .unset, .unset] [(.ref b3)])) st3 ?_
      refine own_goH (x' := T3.setTop (mkF m 51 #[.val (.int p0), .val (.int p1), .val (.int p2), .val (.int p3), .val (.int p4), .val (.int 0), .val (.int 0), .val .null, .val .null, .val (.int 1), .unset, .unset] [.null, .null, (.ref b3), (.ref b3)])) (fun _ k => XS.dup X3.here hx rfl (hb hby at_46) rfl rfl (XS.aload X3.here hx rfl (hb hby at_47) rfl rfl (XS.aload X3.here hx rfl (hb hby at_49) rfl rfl k))) ?_
      obtain ⟨_, _, ⟨T4, L4, k4, n4⟩, -, X4, ⟨Lc4, hQ4, l4, y4, z4⟩, st4⟩ := X3.specialBack hx (y := (⟨"com/example/lean_bus/leanbus/api/Caller", "<init>", "(Ljava/lang/String;Ljava/lang/String;)V"⟩ : MethodName)) rfl hown (mvT hZ (own_w hw 7 rfl)) (mvT hZ (own_w hw 8 rfl)) (mvT hZ (own_w hw 9 rfl)) (by decide) (backOf (W := 1) (rm2NN l Z a0 hw [] b3 h3 n0 Zs E_b3 F_b3_token F_b3_name g_b3) hZ (own_w hw 9 rfl) (own_w hw 6 rfl) (by decide) (by decide)) (g := (mkF m 51 #[.val (.int p0), .val (.int p1), .val (.int p2), .val (.int p3), .val (.int p4), .val (.int 0), .val (.int 0), .val .null, .val .null, .val (.int 1), .unset, .unset] [.null, .null, (.ref b3), (.ref b3)])) rfl (by rw [hml]; rfl) (Steps.refl _) (a := b3) (argsL := [.null, .null]) (rest := [(.ref b3)]) (lenOf pd_6 rfl) rfl (by show 2 * 0 + _ ≤ _; exact Nat.le_of_eq rfl) (hb hby at_51) (fun _ _ => ⟨rfl, e3, (by decide : 1 + 0 ≤ _), (by decide : 2 + 0 ≤ _)⟩)
      dsimp only [Pt.U, Pt.locs, Pt.cells, Pt.slots] at X4 l4 y4 z4 st4 hQ4
      subst l4 y4 z4
      obtain ⟨hv4, Nq4, K4, Eo4, Fo4_0, Fo4_1⟩ := hQ4
      subst hv4
      replace Nf := Fr.app Nf Nq4
      replace Od := Od.keep K4 (allS g_b3 all0)
      replace Zs := Nat.le_trans Zs K4.1
      replace hk := Nat.le_trans hk K4.1
      have Sq_b3 := Safe.keep K4 (allS Sf_b3 all0) hR.1 Sf_b3
      replace hR := hR.trans (CHr.keep K4 (allS Sf_b3 all0) hR.1)
      replace Sf_b3 := Sq_b3
      replace E_b3 := Eo4
      replace F_b3_token := Fo4_0
      replace F_b3_name := Fo4_1
      refine own_goH (x' := T4.setTop (mkF m 54 #[.val (.int p0), .val (.int p1), .val (.int p2), .val (.int p3), .val (.int p4), .val (.int 0), .val (.int 0), .val .null, .val .null, .val (.int 1), .unset, .unset] [(.ref b3)])) (fun _ k => st4.trans k) ?_
      refine own_goH (x' := T4.setTop (mkF m 58 #[.val (.int p0), .val (.int p1), .val (.int p2), .val (.int p3), .val (.int p4), .val (.int 0), .val (.int 0), .val .null, .val .null, .val (.int 1), .val (.ref b3), .unset] [(.ref b3)])) (fun _ k => XS.astore X4.here hx rfl (hb hby at_54) rfl rfl (l' := #[.val (.int p0), .val (.int p1), .val (.int p2), .val (.int p3), .val (.int p4), .val (.int 0), .val (.int 0), .val .null, .val .null, .val (.int 1), .val (.ref b3), .unset]) rfl (XS.aload X4.here hx rfl (hb hby at_56) rfl rfl k)) ?_
      obtain ⟨cq5, kq5, q5a, q5b, q5c⟩ := isOf hZ rfl E_b3
      obtain ⟨_, _, ⟨T5, L5, k5, n5⟩, -, X5, ⟨Lc5, hQ5, l5, y5, z5⟩, st5⟩ := X4.virtualBack hx (y := (⟨"com/example/lean_bus/leanbus/api/Caller", "isRoot", "()Z"⟩ : MethodName)) (z := (⟨"com/example/lean_bus/leanbus/api/Caller", "isRoot", "()Z"⟩ : MethodName)) hown (mvT hZ (own_w hw 22 rfl)) (mvT hZ (own_w hw 23 rfl)) (notFace_of_selects (args := #[]) (mvT hZ (own_w hw 25 rfl))) (mvT hZ (own_w hw 25 rfl)) (mvT hZ (own_w hw 24 rfl)) (by decide) (backOf (W := 0) (rm5N l Z a0 hw [] b3  T4.heap n0 Zs F_b3_token) hZ (own_w hw 26 rfl) (own_w hw 6 rfl) (by decide) (by decide)) q5a q5c (g := (mkF m 58 #[.val (.int p0), .val (.int p1), .val (.int p2), .val (.int p3), .val (.int p4), .val (.int 0), .val (.int 0), .val .null, .val .null, .val (.int 1), .val (.ref b3), .unset] [(.ref b3)])) rfl (by rw [hml]; rfl) (Steps.refl _) (argsL := []) (rest := []) (lenOf pd_8 rfl) rfl (by show 2 * 0 + _ ≤ _; exact Nat.le_of_eq rfl) (hb hby at_58) (fun _ _ => ⟨rfl, rfl, (by decide : 1 + 0 ≤ _), (by decide : 2 + 0 ≤ _)⟩)
      dsimp only [Pt.U, Pt.locs, Pt.cells, Pt.slots] at X5 l5 y5 z5 st5 hQ5
      subst l5 y5 z5
      obtain ⟨hv5, Nq5, eq5⟩ := hQ5
      subst hv5
      replace Nf := Fr.app Nf Nq5
      refine own_goH (x' := T5.setTop (mkF m 61 #[.val (.int p0), .val (.int p1), .val (.int p2), .val (.int p3), .val (.int p4), .val (.int 0), .val (.int 0), .val .null, .val .null, .val (.int 1), .val (.ref b3), .unset] [(.int 1)])) (fun _ k => st5.trans k) ?_
      refine own_goH (x' := T5.setTop (mkF m 75 #[.val (.int p0), .val (.int p1), .val (.int p2), .val (.int p3), .val (.int p4), .val (.int 0), .val (.int 0), .val .null, .val .null, .val (.int 1), .val (.ref b3), .val (.int 1)] [(.int 1)])) (fun _ k => XS.iload X5.here hx rfl (hb hby at_61) rfl (XS.icmpNo X5.here hx rfl (hb hby at_63) rfl (teq rfl).2 (XS.iconst X5.here hx rfl (hb hby at_66) (XS.goto X5.here hx rfl (pc0 := 67) (pc' := 71) rfl (hb hby at_67) (by decide) (by decide) (XS.istore X5.here hx rfl (hb hby at_71) rfl (l' := #[.val (.int p0), .val (.int p1), .val (.int p2), .val (.int p3), .val (.int p4), .val (.int 0), .val (.int 0), .val .null, .val .null, .val (.int 1), .val (.ref b3), .val (.int 1)]) rfl (XS.iload X5.here hx rfl (hb hby at_73) rfl k)))))) ?_
      refine own_goH (x' := T5.setTop (mkF m 78 #[.val (.int p0), .val (.int p1), .val (.int p2), .val (.int p3), .val (.int p4), .val (.int 0), .val (.int 0), .val .null, .val .null, .val (.int 1), .val (.ref b3), .val (.int 1)] [])) (fun _ k => XS.ifNo X5.here hx rfl (hb hby at_75) rfl ((if0 _ _).trans (feq (by decide +kernel : ¬ ((1 : Int32) = (0 : Int32)))).1) k) ?_
      obtain ⟨_, _, ⟨T6, L6, k6, n6⟩, -, X6, ⟨Lc6, hQ6, l6, y6, z6⟩, st6⟩ := Jvm.LawKit.callS X5 hx (y := (⟨"com/example/lean_bus/leanbus/api/Caller", "root", "()Lcom/example/lean_bus/leanbus/api/Caller;"⟩ : MethodName)) hown (mvT hZ (own_w hw 27 rfl)) (mvT hZ (own_w hw 28 rfl)) (mvT hZ (own_w hw 6 rfl)) (mvT hZ (own_w hw 29 rfl)) (by decide) (backOf (W := 0) (rm6 l Z a0 hw []  T4.heap n0 Zs ) hZ (own_w hw 29 rfl) (own_w hw 6 rfl) (by decide) (by decide)) (g := (mkF m 78 #[.val (.int p0), .val (.int p1), .val (.int p2), .val (.int p3), .val (.int p4), .val (.int 0), .val (.int 0), .val .null, .val .null, .val (.int 1), .val (.ref b3), .val (.int 1)] [])) rfl (by rw [hml]; rfl) (argsL := []) (rest := []) (lenOf pd_9 rfl) rfl (by show 2 * 0 + _ ≤ _; exact Nat.le_of_eq rfl) (hb hby at_78) (fun _ _ => ⟨rfl, eq5, (by decide : 1 + 1 ≤ _), (by decide : 2 + 2 ≤ _)⟩)
      dsimp only [Pt.U, Pt.locs, Pt.cells, Pt.slots] at X6 l6 y6 z6 st6 hQ6
      subst l6 y6 z6
      obtain ⟨b6, hv6, Nq6, K6, sq6, g_b6, E_b6, F_b6_token, F_b6_name⟩ := hQ6
      subst hv6
      replace Nf := Fr.app Nf Nq6
      have ne_b3_b6 : b3 ≠ b6 := Nat.ne_of_lt (Nat.lt_of_lt_of_le E_b3.lt sq6)
      replace Od := Od.keep K6 all0
      replace E_b3 := E_b3.keep K6
      replace F_b3_token := F_b3_token.keep K6 nin0
      replace F_b3_name := F_b3_name.keep K6 nin0
      replace Zs := Nat.le_trans Zs K6.1
      replace hk := Nat.le_trans hk K6.1
      have Sq_b3 := Safe.keep K6 all0 hR.1 Sf_b3
      replace hR := hR.trans (CHr.keep K6 all0 hR.1)
      replace Sf_b3 := Sq_b3
      refine own_goH (x' := T6.setTop (mkF m 81 #[.val (.int p0), .val (.int p1), .val (.int p2), .val (.int p3), .val (.int p4), .val (.int 0), .val (.int 0), .val .null, .val .null, .val (.int 1), .val (.ref b3), .val (.int 1)] [(.ref b6)])) st6 ?_
      obtain ⟨cq7, kq7, q7a, q7b, q7c⟩ := isOf hZ rfl E_b6
      obtain ⟨_, _, ⟨T7, L7, k7, n7⟩, -, X7, ⟨Lc7, hQ7, l7, y7, z7⟩, st7⟩ := X6.virtualBack hx (y := (⟨"com/example/lean_bus/leanbus/api/Caller", "isRoot", "()Z"⟩ : MethodName)) (z := (⟨"com/example/lean_bus/leanbus/api/Caller", "isRoot", "()Z"⟩ : MethodName)) hown (mvT hZ (own_w hw 22 rfl)) (mvT hZ (own_w hw 23 rfl)) (notFace_of_selects (args := #[]) (mvT hZ (own_w hw 25 rfl))) (mvT hZ (own_w hw 25 rfl)) (mvT hZ (own_w hw 24 rfl)) (by decide) (backOf (W := 0) (rm5N l Z a0 hw [] b6  T6.heap n0 Zs F_b6_token) hZ (own_w hw 26 rfl) (own_w hw 6 rfl) (by decide) (by decide)) q7a q7c (g := (mkF m 81 #[.val (.int p0), .val (.int p1), .val (.int p2), .val (.int p3), .val (.int p4), .val (.int 0), .val (.int 0), .val .null, .val .null, .val (.int 1), .val (.ref b3), .val (.int 1)] [(.ref b6)])) rfl (by rw [hml]; rfl) (Steps.refl _) (argsL := []) (rest := []) (lenOf pd_8 rfl) rfl (by show 2 * 0 + _ ≤ _; exact Nat.le_of_eq rfl) (hb hby at_81) (fun _ _ => ⟨rfl, rfl, (by decide : 2 + 0 ≤ _), (by decide : 4 + 0 ≤ _)⟩)
      dsimp only [Pt.U, Pt.locs, Pt.cells, Pt.slots] at X7 l7 y7 z7 st7 hQ7
      subst l7 y7 z7
      obtain ⟨hv7, Nq7, eq7⟩ := hQ7
      subst hv7
      replace Nf := Fr.app Nf Nq7
      refine own_goH (x' := T7.setTop (mkF m 84 #[.val (.int p0), .val (.int p1), .val (.int p2), .val (.int p3), .val (.int p4), .val (.int 0), .val (.int 0), .val .null, .val .null, .val (.int 1), .val (.ref b3), .val (.int 1)] [(.int 1)])) (fun _ k => st7.trans k) ?_
      refine own_goH (x' := T7.setTop (mkF m 99 #[.val (.int p0), .val (.int p1), .val (.int p2), .val (.int p3), .val (.int p4), .val (.int 0), .val (.int 0), .val .null, .val .null, .val (.int 1), .val (.ref b3), .val (.int 1)] [])) (fun _ k => XS.ifNo X7.here hx rfl (hb hby at_84) rfl ((if0 _ _).trans (feq (by decide +kernel : ¬ ((1 : Int32) = (0 : Int32)))).1) (XS.iconst X7.here hx rfl (hb hby at_87) (XS.goto X7.here hx rfl (pc0 := 88) (pc' := 92) rfl (hb hby at_88) (by decide) (by decide) (XS.istore X7.here hx rfl (hb hby at_92) rfl (l' := #[.val (.int p0), .val (.int p1), .val (.int p2), .val (.int p3), .val (.int p4), .val (.int 0), .val (.int 0), .val .null, .val .null, .val (.int 1), .val (.ref b3), .val (.int 1)]) rfl (XS.iload X7.here hx rfl (hb hby at_94) rfl (XS.ifNo X7.here hx rfl (hb hby at_96) rfl ((if0 _ _).trans (feq (by decide +kernel : ¬ ((1 : Int32) = (0 : Int32)))).1) k)))))) ?_
      refine own_goH (x' := T7.setTop (mkF m 101 #[.val (.int p0), .val (.int p1), .val (.int p2), .val (.int p3), .val (.int p4), .val (.int 0), .val (.int 0), .val .null, .val .null, .val (.int 1), .val (.ref b3), .val (.int 1)] [.null])) (fun _ k => XS.aload X7.here hx rfl (hb hby at_99) rfl rfl k) ?_
      obtain ⟨_, _, ⟨T8, L8, k8, n8⟩, -, X8, ⟨Lc8, hQ8, l8, y8, z8⟩, st8⟩ := Jvm.LawKit.callS X7 hx (y := (⟨"com/example/lean_bus/leanbus/api/Caller", "unchecked", "(Ljava/lang/String;)Lcom/example/lean_bus/leanbus/api/Caller;"⟩ : MethodName)) hown (mvT hZ (own_w hw 32 rfl)) (mvT hZ (own_w hw 33 rfl)) (mvT hZ (own_w hw 6 rfl)) (mvT hZ (own_w hw 34 rfl)) (by decide) (backOf (W := 0) (rm7N l Z a0 hw []  T6.heap n0 Zs ) hZ (own_w hw 34 rfl) (own_w hw 6 rfl) (by decide) (by decide)) (g := (mkF m 101 #[.val (.int p0), .val (.int p1), .val (.int p2), .val (.int p3), .val (.int p4), .val (.int 0), .val (.int 0), .val .null, .val .null, .val (.int 1), .val (.ref b3), .val (.int 1)] [.null])) rfl (by rw [hml]; rfl) (argsL := [.null]) (rest := []) (lenOf pd_10 rfl) rfl (by show 2 * 0 + _ ≤ _; exact Nat.le_of_eq rfl) (hb hby at_101) (fun _ _ => ⟨rfl, eq7, (by decide : 2 + 1 ≤ _), (by decide : 4 + 2 ≤ _)⟩)
      dsimp only [Pt.U, Pt.locs, Pt.cells, Pt.slots] at X8 l8 y8 z8 st8 hQ8
      subst l8 y8 z8
      obtain ⟨b8, hv8, Nq8, K8, sq8, g_b8, E_b8, F_b8_token, F_b8_name⟩ := hQ8
      subst hv8
      replace Nf := Fr.app Nf Nq8
      have ne_b3_b8 : b3 ≠ b8 := Nat.ne_of_lt (Nat.lt_of_lt_of_le E_b3.lt sq8)
      have ne_b6_b8 : b6 ≠ b8 := Nat.ne_of_lt (Nat.lt_of_lt_of_le E_b6.lt sq8)
      replace Od := Od.keep K8 all0
      replace E_b3 := E_b3.keep K8
      replace F_b3_token := F_b3_token.keep K8 nin0
      replace F_b3_name := F_b3_name.keep K8 nin0
      replace E_b6 := E_b6.keep K8
      replace F_b6_token := F_b6_token.keep K8 nin0
      replace F_b6_name := F_b6_name.keep K8 nin0
      replace Zs := Nat.le_trans Zs K8.1
      replace hk := Nat.le_trans hk K8.1
      have Sq_b3 := Safe.keep K8 all0 hR.1 Sf_b3
      replace hR := hR.trans (CHr.keep K8 all0 hR.1)
      replace Sf_b3 := Sq_b3
      refine own_goH (x' := T8.setTop (mkF m 104 #[.val (.int p0), .val (.int p1), .val (.int p2), .val (.int p3), .val (.int p4), .val (.int 0), .val (.int 0), .val .null, .val .null, .val (.int 1), .val (.ref b3), .val (.int 1)] [(.ref b8)])) st8 ?_
      obtain ⟨cq9, kq9, q9a, q9b, q9c⟩ := isOf hZ rfl E_b8
      obtain ⟨_, _, ⟨T9, L9, k9, n9⟩, -, X9, ⟨Lc9, hQ9, l9, y9, z9⟩, st9⟩ := X8.virtualBack hx (y := (⟨"com/example/lean_bus/leanbus/api/Caller", "isRoot", "()Z"⟩ : MethodName)) (z := (⟨"com/example/lean_bus/leanbus/api/Caller", "isRoot", "()Z"⟩ : MethodName)) hown (mvT hZ (own_w hw 22 rfl)) (mvT hZ (own_w hw 23 rfl)) (notFace_of_selects (args := #[]) (mvT hZ (own_w hw 25 rfl))) (mvT hZ (own_w hw 25 rfl)) (mvT hZ (own_w hw 24 rfl)) (by decide) (backOf (W := 0) (rm5N l Z a0 hw [] b8  T8.heap n0 Zs F_b8_token) hZ (own_w hw 26 rfl) (own_w hw 6 rfl) (by decide) (by decide)) q9a q9c (g := (mkF m 104 #[.val (.int p0), .val (.int p1), .val (.int p2), .val (.int p3), .val (.int p4), .val (.int 0), .val (.int 0), .val .null, .val .null, .val (.int 1), .val (.ref b3), .val (.int 1)] [(.ref b8)])) rfl (by rw [hml]; rfl) (Steps.refl _) (argsL := []) (rest := []) (lenOf pd_8 rfl) rfl (by show 2 * 0 + _ ≤ _; exact Nat.le_of_eq rfl) (hb hby at_104) (fun _ _ => ⟨rfl, rfl, (by decide : 3 + 0 ≤ _), (by decide : 6 + 0 ≤ _)⟩)
      dsimp only [Pt.U, Pt.locs, Pt.cells, Pt.slots] at X9 l9 y9 z9 st9 hQ9
      subst l9 y9 z9
      obtain ⟨hv9, Nq9, eq9⟩ := hQ9
      subst hv9
      replace Nf := Fr.app Nf Nq9
      refine own_goH (x' := T9.setTop (mkF m 107 #[.val (.int p0), .val (.int p1), .val (.int p2), .val (.int p3), .val (.int p4), .val (.int 0), .val (.int 0), .val .null, .val .null, .val (.int 1), .val (.ref b3), .val (.int 1)] [(.int 1)])) (fun _ k => st9.trans k) ?_
      refine own_goH (x' := T9.setTop (mkF m 121 #[.val (.int p0), .val (.int p1), .val (.int p2), .val (.int p3), .val (.int p4), .val (.int 0), .val (.int 0), .val .null, .val .null, .val (.int 1), .val (.ref b3), .val (.int 1)] [(.int 1)])) (fun _ k => XS.iload X9.here hx rfl (hb hby at_107) rfl (XS.icmpNo X9.here hx rfl (hb hby at_109) rfl (teq rfl).2 (XS.iconst X9.here hx rfl (hb hby at_112) (XS.goto X9.here hx rfl (pc0 := 113) (pc' := 117) rfl (hb hby at_113) (by decide) (by decide) (XS.istore X9.here hx rfl (hb hby at_117) rfl (l' := #[.val (.int p0), .val (.int p1), .val (.int p2), .val (.int p3), .val (.int p4), .val (.int 0), .val (.int 0), .val .null, .val .null, .val (.int 1), .val (.ref b3), .val (.int 1)]) rfl (XS.iload X9.here hx rfl (hb hby at_119) rfl k)))))) ?_
      refine own_retNH X9 hS (own_hk eq9 hk) (own_hr eq9 hR) hZ (own_EW hw) hx hlk (t := .boolean) hret (by simp) (hb hby at_121) (w := (1 : Int32)) rfl ?_ (by decide) (by decide)
      rw [eq9]
      exact ⟨rfl, Nf⟩
    · refine own_goH (x' := T1.setTop (mkF m 26 #[.val (.int p0), .val (.int p1), .val (.int p2), .val (.int p3), .val (.int p4), .val (.int 0), .val (.int 1), .val .null, .unset, .unset, .unset, .unset] [(.int p4), (.int p3), (.int 1)])) (fun _ k => XS.iload X1.here hx rfl (hb hby at_21) rfl (XS.iloadN X1.here hx rfl (hb hby at_23) rfl (XS.iload X1.here hx rfl (hb hby at_24) rfl k))) ?_
      obtain ⟨_, _, ⟨T10, L10, k10, n10⟩, -, X10, Sw10, Gw10, ⟨Lc10, hQ10, l10, y10, z10, Cw10⟩, st10⟩ := Jvm.RoadKit.callSS X1 hx (y := (⟨"com/example/lean_bus/leanbus/api/CallerIsRootPinLaw", "draw", "(III)Ljava/lang/String;"⟩ : MethodName)) hown (mvT hZ (own_w hw 0 rfl)) (mvT hZ (own_w hw 1 rfl)) (mvT hZ (own_w hw 2 rfl)) (mvT hZ (own_w hw 3 rfl)) (by decide) (backOfSH (W := 0) (rm1_1 l Z a0 hw [] p3 p4 G1 h0 n0 Zs Od S_COMPACT_STRINGS hG) hZ (own_w hw 3 rfl) (own_w hw 2 rfl) (by decide) (by decide) (own_EW hw) hR.1) (g := (mkF m 26 #[.val (.int p0), .val (.int p1), .val (.int p2), .val (.int p3), .val (.int p4), .val (.int 0), .val (.int 1), .val .null, .unset, .unset, .unset, .unset] [(.int p4), (.int p3), (.int 1)])) rfl (by rw [hml]; rfl) (argsL := [(.int 1), (.int p3), (.int p4)]) (rest := []) (lenOf pd_7 rfl) rfl (by show 2 * 0 + _ ≤ _; exact Nat.le_of_eq rfl) (hb hby at_26) (fun _ _ => ⟨rfl, eq1, (by decide : 0 + 6 ≤ _), (by decide : 0 + 12 ≤ _)⟩)
      dsimp only [Pt.U, Pt.locs, Pt.cells, Pt.slots] at X10 l10 y10 z10 st10 hQ10 Sw10 Gw10 Cw10
      subst l10 y10 z10
      obtain ⟨X10, Sw10, hZ, hown⟩ := rebS hS (own_hk eq1 hk) X10 Sw10 Gw10 hZ hown
      replace hR := hR.trans Cw10
      obtain ⟨tk10, hv10, Nq10, K10⟩ := hQ10
      subst hv10
      replace Nf := Fr.app Nf Nq10
      replace Od := Od.keep K10 all0
      replace Zs := Nat.le_trans Zs K10.1
      replace hk := Nat.le_trans hk K10.1
      replace hS := Sw10
      replace hk := Nat.le_refl (Array.size T10.heap)
      refine own_goH (x' := T10.setTop (mkF m 29 #[.val (.int p0), .val (.int p1), .val (.int p2), .val (.int p3), .val (.int p4), .val (.int 0), .val (.int 1), .val .null, .unset, .unset, .unset, .unset] [(.ref tk10)])) (fun _ k => st10.trans k) ?_
      refine own_goH (x' := T10.setTop (mkF m 43 #[.val (.int p0), .val (.int p1), .val (.int p2), .val (.int p3), .val (.int p4), .val (.int 0), .val (.int 1), .val .null, .val (.ref tk10), .val (.int 1), .unset, .unset] [])) (fun _ k => XS.astore X10.here hx rfl (hb hby at_29) rfl rfl (l' := #[.val (.int p0), .val (.int p1), .val (.int p2), .val (.int p3), .val (.int p4), .val (.int 0), .val (.int 1), .val .null, .val (.ref tk10), .unset, .unset, .unset]) rfl (XS.iload X10.here hx rfl (hb hby at_31) rfl (XS.ifNo X10.here hx rfl (hb hby at_33) rfl ((if0 _ _).trans (teq rfl).2) (XS.iconst X10.here hx rfl (hb hby at_36) (XS.goto X10.here hx rfl (pc0 := 37) (pc' := 41) rfl (hb hby at_37) (by decide) (by decide) (XS.istore X10.here hx rfl (hb hby at_41) rfl (l' := #[.val (.int p0), .val (.int p1), .val (.int p2), .val (.int p3), .val (.int p4), .val (.int 0), .val (.int 1), .val .null, .val (.ref tk10), .val (.int 1), .unset, .unset]) rfl k)))))) ?_
      obtain ⟨T11, h11, X11, e11, E11, A11, D11, -, st11⟩ := newO X10 hx hZ hown (own_w hw 4 rfl) (own_w hw 5 rfl) (own_w hw 6 rfl) rfl (g := (mkF m 43 #[.val (.int p0), .val (.int p1), .val (.int p2), .val (.int p3), .val (.int p4), .val (.int 0), .val (.int 1), .val .null, .val (.ref tk10), .val (.int 1), .unset, .unset] [])) rfl (hb hby at_43) (by decide) (by decide)
      obtain ⟨b11, g11⟩ : ∃ z, z = T10.heap.size := ⟨_, rfl⟩
      rw [← g11] at A11 D11 st11
      have g_b11 : n0 ≤ b11 := Nat.le_trans Zs (Nat.le_of_eq g11.symm)
      have Sf_b11 := own_sfn hR (Nat.le_of_eq g11.symm)
      replace Od := Od.ext E11
      replace Zs := Nat.le_trans Zs E11.1
      replace hk := Nat.le_trans hk E11.1
      have Sq_b11 := Safe.ext E11 hR.1 Sf_b11
      replace hR := hR.trans (CHr.ext E11 hR.1)
      replace Sf_b11 := Sq_b11
      have E_b11 := A11
      have F_b11_token : Fld Z h11 b11 "com/example/lean_bus/leanbus/api/Caller" "token" "Ljava/lang/String;" .null := D11 (Or.inr (own_w hw 19 rfl)) (ty := (.object "java/lang/String")) (by decide)
      have F_b11_name : Fld Z h11 b11 "com/example/lean_bus/leanbus/api/Caller" "name" "Ljava/lang/String;" .null := D11 (Or.inr (own_w hw 21 rfl)) (ty := (.object "java/lang/String")) (by decide)
      refine own_goH (x' := T11.setTop (mkF m 46 #[.val (.int p0), .val (.int p1), .val (.int p2), .val (.int p3), .val (.int p4), .val (.int 0), .val (.int 1), .val .null, .val (.ref tk10), .val (.int 1), .unset, .unset] [(.ref b11)])) st11 ?_
      refine own_goH (x' := T11.setTop (mkF m 51 #[.val (.int p0), .val (.int p1), .val (.int p2), .val (.int p3), .val (.int p4), .val (.int 0), .val (.int 1), .val .null, .val (.ref tk10), .val (.int 1), .unset, .unset] [(.ref tk10), .null, (.ref b11), (.ref b11)])) (fun _ k => XS.dup X11.here hx rfl (hb hby at_46) rfl rfl (XS.aload X11.here hx rfl (hb hby at_47) rfl rfl (XS.aload X11.here hx rfl (hb hby at_49) rfl rfl k))) ?_
      obtain ⟨_, _, ⟨T12, L12, k12, n12⟩, -, X12, ⟨Lc12, hQ12, l12, y12, z12⟩, st12⟩ := X11.specialBack hx (y := (⟨"com/example/lean_bus/leanbus/api/Caller", "<init>", "(Ljava/lang/String;Ljava/lang/String;)V"⟩ : MethodName)) rfl hown (mvT hZ (own_w hw 7 rfl)) (mvT hZ (own_w hw 8 rfl)) (mvT hZ (own_w hw 9 rfl)) (by decide) (backOf (W := 1) (rm2NR l Z a0 hw [] b11 tk10 h11 n0 Zs E_b11 F_b11_token F_b11_name g_b11) hZ (own_w hw 9 rfl) (own_w hw 6 rfl) (by decide) (by decide)) (g := (mkF m 51 #[.val (.int p0), .val (.int p1), .val (.int p2), .val (.int p3), .val (.int p4), .val (.int 0), .val (.int 1), .val .null, .val (.ref tk10), .val (.int 1), .unset, .unset] [(.ref tk10), .null, (.ref b11), (.ref b11)])) rfl (by rw [hml]; rfl) (Steps.refl _) (a := b11) (argsL := [.null, (.ref tk10)]) (rest := [(.ref b11)]) (lenOf pd_6 rfl) rfl (by show 2 * 0 + _ ≤ _; exact Nat.le_of_eq rfl) (hb hby at_51) (fun _ _ => ⟨rfl, e11, (by decide : 7 + 0 ≤ _), (by decide : 14 + 0 ≤ _)⟩)
      dsimp only [Pt.U, Pt.locs, Pt.cells, Pt.slots] at X12 l12 y12 z12 st12 hQ12
      subst l12 y12 z12
      obtain ⟨hv12, Nq12, K12, Eo12, Fo12_0, Fo12_1⟩ := hQ12
      subst hv12
      replace Nf := Fr.app Nf Nq12
      replace Od := Od.keep K12 (allS g_b11 all0)
      replace Zs := Nat.le_trans Zs K12.1
      replace hk := Nat.le_trans hk K12.1
      have Sq_b11 := Safe.keep K12 (allS Sf_b11 all0) hR.1 Sf_b11
      replace hR := hR.trans (CHr.keep K12 (allS Sf_b11 all0) hR.1)
      replace Sf_b11 := Sq_b11
      replace E_b11 := Eo12
      replace F_b11_token := Fo12_0
      replace F_b11_name := Fo12_1
      refine own_goH (x' := T12.setTop (mkF m 54 #[.val (.int p0), .val (.int p1), .val (.int p2), .val (.int p3), .val (.int p4), .val (.int 0), .val (.int 1), .val .null, .val (.ref tk10), .val (.int 1), .unset, .unset] [(.ref b11)])) (fun _ k => st12.trans k) ?_
      refine own_goH (x' := T12.setTop (mkF m 58 #[.val (.int p0), .val (.int p1), .val (.int p2), .val (.int p3), .val (.int p4), .val (.int 0), .val (.int 1), .val .null, .val (.ref tk10), .val (.int 1), .val (.ref b11), .unset] [(.ref b11)])) (fun _ k => XS.astore X12.here hx rfl (hb hby at_54) rfl rfl (l' := #[.val (.int p0), .val (.int p1), .val (.int p2), .val (.int p3), .val (.int p4), .val (.int 0), .val (.int 1), .val .null, .val (.ref tk10), .val (.int 1), .val (.ref b11), .unset]) rfl (XS.aload X12.here hx rfl (hb hby at_56) rfl rfl k)) ?_
      obtain ⟨cq13, kq13, q13a, q13b, q13c⟩ := isOf hZ rfl E_b11
      obtain ⟨_, _, ⟨T13, L13, k13, n13⟩, -, X13, ⟨Lc13, hQ13, l13, y13, z13⟩, st13⟩ := X12.virtualBack hx (y := (⟨"com/example/lean_bus/leanbus/api/Caller", "isRoot", "()Z"⟩ : MethodName)) (z := (⟨"com/example/lean_bus/leanbus/api/Caller", "isRoot", "()Z"⟩ : MethodName)) hown (mvT hZ (own_w hw 22 rfl)) (mvT hZ (own_w hw 23 rfl)) (notFace_of_selects (args := #[]) (mvT hZ (own_w hw 25 rfl))) (mvT hZ (own_w hw 25 rfl)) (mvT hZ (own_w hw 24 rfl)) (by decide) (backOf (W := 0) (rm5N l Z a0 hw [] b11  T12.heap n0 Zs F_b11_token) hZ (own_w hw 26 rfl) (own_w hw 6 rfl) (by decide) (by decide)) q13a q13c (g := (mkF m 58 #[.val (.int p0), .val (.int p1), .val (.int p2), .val (.int p3), .val (.int p4), .val (.int 0), .val (.int 1), .val .null, .val (.ref tk10), .val (.int 1), .val (.ref b11), .unset] [(.ref b11)])) rfl (by rw [hml]; rfl) (Steps.refl _) (argsL := []) (rest := []) (lenOf pd_8 rfl) rfl (by show 2 * 0 + _ ≤ _; exact Nat.le_of_eq rfl) (hb hby at_58) (fun _ _ => ⟨rfl, rfl, (by decide : 7 + 0 ≤ _), (by decide : 14 + 0 ≤ _)⟩)
      dsimp only [Pt.U, Pt.locs, Pt.cells, Pt.slots] at X13 l13 y13 z13 st13 hQ13
      subst l13 y13 z13
      obtain ⟨hv13, Nq13, eq13⟩ := hQ13
      subst hv13
      replace Nf := Fr.app Nf Nq13
      refine own_goH (x' := T13.setTop (mkF m 61 #[.val (.int p0), .val (.int p1), .val (.int p2), .val (.int p3), .val (.int p4), .val (.int 0), .val (.int 1), .val .null, .val (.ref tk10), .val (.int 1), .val (.ref b11), .unset] [(.int 1)])) (fun _ k => st13.trans k) ?_
      refine own_goH (x' := T13.setTop (mkF m 75 #[.val (.int p0), .val (.int p1), .val (.int p2), .val (.int p3), .val (.int p4), .val (.int 0), .val (.int 1), .val .null, .val (.ref tk10), .val (.int 1), .val (.ref b11), .val (.int 1)] [(.int 1)])) (fun _ k => XS.iload X13.here hx rfl (hb hby at_61) rfl (XS.icmpNo X13.here hx rfl (hb hby at_63) rfl (teq rfl).2 (XS.iconst X13.here hx rfl (hb hby at_66) (XS.goto X13.here hx rfl (pc0 := 67) (pc' := 71) rfl (hb hby at_67) (by decide) (by decide) (XS.istore X13.here hx rfl (hb hby at_71) rfl (l' := #[.val (.int p0), .val (.int p1), .val (.int p2), .val (.int p3), .val (.int p4), .val (.int 0), .val (.int 1), .val .null, .val (.ref tk10), .val (.int 1), .val (.ref b11), .val (.int 1)]) rfl (XS.iload X13.here hx rfl (hb hby at_73) rfl k)))))) ?_
      refine own_goH (x' := T13.setTop (mkF m 78 #[.val (.int p0), .val (.int p1), .val (.int p2), .val (.int p3), .val (.int p4), .val (.int 0), .val (.int 1), .val .null, .val (.ref tk10), .val (.int 1), .val (.ref b11), .val (.int 1)] [])) (fun _ k => XS.ifNo X13.here hx rfl (hb hby at_75) rfl ((if0 _ _).trans (feq (by decide +kernel : ¬ ((1 : Int32) = (0 : Int32)))).1) k) ?_
      obtain ⟨_, _, ⟨T14, L14, k14, n14⟩, -, X14, ⟨Lc14, hQ14, l14, y14, z14⟩, st14⟩ := Jvm.LawKit.callS X13 hx (y := (⟨"com/example/lean_bus/leanbus/api/Caller", "root", "()Lcom/example/lean_bus/leanbus/api/Caller;"⟩ : MethodName)) hown (mvT hZ (own_w hw 27 rfl)) (mvT hZ (own_w hw 28 rfl)) (mvT hZ (own_w hw 6 rfl)) (mvT hZ (own_w hw 29 rfl)) (by decide) (backOf (W := 0) (rm6 l Z a0 hw []  T12.heap n0 Zs ) hZ (own_w hw 29 rfl) (own_w hw 6 rfl) (by decide) (by decide)) (g := (mkF m 78 #[.val (.int p0), .val (.int p1), .val (.int p2), .val (.int p3), .val (.int p4), .val (.int 0), .val (.int 1), .val .null, .val (.ref tk10), .val (.int 1), .val (.ref b11), .val (.int 1)] [])) rfl (by rw [hml]; rfl) (argsL := []) (rest := []) (lenOf pd_9 rfl) rfl (by show 2 * 0 + _ ≤ _; exact Nat.le_of_eq rfl) (hb hby at_78) (fun _ _ => ⟨rfl, eq13, (by decide : 7 + 1 ≤ _), (by decide : 14 + 2 ≤ _)⟩)
      dsimp only [Pt.U, Pt.locs, Pt.cells, Pt.slots] at X14 l14 y14 z14 st14 hQ14
      subst l14 y14 z14
      obtain ⟨b14, hv14, Nq14, K14, sq14, g_b14, E_b14, F_b14_token, F_b14_name⟩ := hQ14
      subst hv14
      replace Nf := Fr.app Nf Nq14
      have ne_b11_b14 : b11 ≠ b14 := Nat.ne_of_lt (Nat.lt_of_lt_of_le E_b11.lt sq14)
      replace Od := Od.keep K14 all0
      replace E_b11 := E_b11.keep K14
      replace F_b11_token := F_b11_token.keep K14 nin0
      replace F_b11_name := F_b11_name.keep K14 nin0
      replace Zs := Nat.le_trans Zs K14.1
      replace hk := Nat.le_trans hk K14.1
      have Sq_b11 := Safe.keep K14 all0 hR.1 Sf_b11
      replace hR := hR.trans (CHr.keep K14 all0 hR.1)
      replace Sf_b11 := Sq_b11
      refine own_goH (x' := T14.setTop (mkF m 81 #[.val (.int p0), .val (.int p1), .val (.int p2), .val (.int p3), .val (.int p4), .val (.int 0), .val (.int 1), .val .null, .val (.ref tk10), .val (.int 1), .val (.ref b11), .val (.int 1)] [(.ref b14)])) st14 ?_
      obtain ⟨cq15, kq15, q15a, q15b, q15c⟩ := isOf hZ rfl E_b14
      obtain ⟨_, _, ⟨T15, L15, k15, n15⟩, -, X15, ⟨Lc15, hQ15, l15, y15, z15⟩, st15⟩ := X14.virtualBack hx (y := (⟨"com/example/lean_bus/leanbus/api/Caller", "isRoot", "()Z"⟩ : MethodName)) (z := (⟨"com/example/lean_bus/leanbus/api/Caller", "isRoot", "()Z"⟩ : MethodName)) hown (mvT hZ (own_w hw 22 rfl)) (mvT hZ (own_w hw 23 rfl)) (notFace_of_selects (args := #[]) (mvT hZ (own_w hw 25 rfl))) (mvT hZ (own_w hw 25 rfl)) (mvT hZ (own_w hw 24 rfl)) (by decide) (backOf (W := 0) (rm5N l Z a0 hw [] b14  T14.heap n0 Zs F_b14_token) hZ (own_w hw 26 rfl) (own_w hw 6 rfl) (by decide) (by decide)) q15a q15c (g := (mkF m 81 #[.val (.int p0), .val (.int p1), .val (.int p2), .val (.int p3), .val (.int p4), .val (.int 0), .val (.int 1), .val .null, .val (.ref tk10), .val (.int 1), .val (.ref b11), .val (.int 1)] [(.ref b14)])) rfl (by rw [hml]; rfl) (Steps.refl _) (argsL := []) (rest := []) (lenOf pd_8 rfl) rfl (by show 2 * 0 + _ ≤ _; exact Nat.le_of_eq rfl) (hb hby at_81) (fun _ _ => ⟨rfl, rfl, (by decide : 8 + 0 ≤ _), (by decide : 16 + 0 ≤ _)⟩)
      dsimp only [Pt.U, Pt.locs, Pt.cells, Pt.slots] at X15 l15 y15 z15 st15 hQ15
      subst l15 y15 z15
      obtain ⟨hv15, Nq15, eq15⟩ := hQ15
      subst hv15
      replace Nf := Fr.app Nf Nq15
      refine own_goH (x' := T15.setTop (mkF m 84 #[.val (.int p0), .val (.int p1), .val (.int p2), .val (.int p3), .val (.int p4), .val (.int 0), .val (.int 1), .val .null, .val (.ref tk10), .val (.int 1), .val (.ref b11), .val (.int 1)] [(.int 1)])) (fun _ k => st15.trans k) ?_
      refine own_goH (x' := T15.setTop (mkF m 99 #[.val (.int p0), .val (.int p1), .val (.int p2), .val (.int p3), .val (.int p4), .val (.int 0), .val (.int 1), .val .null, .val (.ref tk10), .val (.int 1), .val (.ref b11), .val (.int 1)] [])) (fun _ k => XS.ifNo X15.here hx rfl (hb hby at_84) rfl ((if0 _ _).trans (feq (by decide +kernel : ¬ ((1 : Int32) = (0 : Int32)))).1) (XS.iconst X15.here hx rfl (hb hby at_87) (XS.goto X15.here hx rfl (pc0 := 88) (pc' := 92) rfl (hb hby at_88) (by decide) (by decide) (XS.istore X15.here hx rfl (hb hby at_92) rfl (l' := #[.val (.int p0), .val (.int p1), .val (.int p2), .val (.int p3), .val (.int p4), .val (.int 0), .val (.int 1), .val .null, .val (.ref tk10), .val (.int 1), .val (.ref b11), .val (.int 1)]) rfl (XS.iload X15.here hx rfl (hb hby at_94) rfl (XS.ifNo X15.here hx rfl (hb hby at_96) rfl ((if0 _ _).trans (feq (by decide +kernel : ¬ ((1 : Int32) = (0 : Int32)))).1) k)))))) ?_
      refine own_goH (x' := T15.setTop (mkF m 101 #[.val (.int p0), .val (.int p1), .val (.int p2), .val (.int p3), .val (.int p4), .val (.int 0), .val (.int 1), .val .null, .val (.ref tk10), .val (.int 1), .val (.ref b11), .val (.int 1)] [.null])) (fun _ k => XS.aload X15.here hx rfl (hb hby at_99) rfl rfl k) ?_
      obtain ⟨_, _, ⟨T16, L16, k16, n16⟩, -, X16, ⟨Lc16, hQ16, l16, y16, z16⟩, st16⟩ := Jvm.LawKit.callS X15 hx (y := (⟨"com/example/lean_bus/leanbus/api/Caller", "unchecked", "(Ljava/lang/String;)Lcom/example/lean_bus/leanbus/api/Caller;"⟩ : MethodName)) hown (mvT hZ (own_w hw 32 rfl)) (mvT hZ (own_w hw 33 rfl)) (mvT hZ (own_w hw 6 rfl)) (mvT hZ (own_w hw 34 rfl)) (by decide) (backOf (W := 0) (rm7N l Z a0 hw []  T14.heap n0 Zs ) hZ (own_w hw 34 rfl) (own_w hw 6 rfl) (by decide) (by decide)) (g := (mkF m 101 #[.val (.int p0), .val (.int p1), .val (.int p2), .val (.int p3), .val (.int p4), .val (.int 0), .val (.int 1), .val .null, .val (.ref tk10), .val (.int 1), .val (.ref b11), .val (.int 1)] [.null])) rfl (by rw [hml]; rfl) (argsL := [.null]) (rest := []) (lenOf pd_10 rfl) rfl (by show 2 * 0 + _ ≤ _; exact Nat.le_of_eq rfl) (hb hby at_101) (fun _ _ => ⟨rfl, eq15, (by decide : 8 + 1 ≤ _), (by decide : 16 + 2 ≤ _)⟩)
      dsimp only [Pt.U, Pt.locs, Pt.cells, Pt.slots] at X16 l16 y16 z16 st16 hQ16
      subst l16 y16 z16
      obtain ⟨b16, hv16, Nq16, K16, sq16, g_b16, E_b16, F_b16_token, F_b16_name⟩ := hQ16
      subst hv16
      replace Nf := Fr.app Nf Nq16
      have ne_b11_b16 : b11 ≠ b16 := Nat.ne_of_lt (Nat.lt_of_lt_of_le E_b11.lt sq16)
      have ne_b14_b16 : b14 ≠ b16 := Nat.ne_of_lt (Nat.lt_of_lt_of_le E_b14.lt sq16)
      replace Od := Od.keep K16 all0
      replace E_b11 := E_b11.keep K16
      replace F_b11_token := F_b11_token.keep K16 nin0
      replace F_b11_name := F_b11_name.keep K16 nin0
      replace E_b14 := E_b14.keep K16
      replace F_b14_token := F_b14_token.keep K16 nin0
      replace F_b14_name := F_b14_name.keep K16 nin0
      replace Zs := Nat.le_trans Zs K16.1
      replace hk := Nat.le_trans hk K16.1
      have Sq_b11 := Safe.keep K16 all0 hR.1 Sf_b11
      replace hR := hR.trans (CHr.keep K16 all0 hR.1)
      replace Sf_b11 := Sq_b11
      refine own_goH (x' := T16.setTop (mkF m 104 #[.val (.int p0), .val (.int p1), .val (.int p2), .val (.int p3), .val (.int p4), .val (.int 0), .val (.int 1), .val .null, .val (.ref tk10), .val (.int 1), .val (.ref b11), .val (.int 1)] [(.ref b16)])) st16 ?_
      obtain ⟨cq17, kq17, q17a, q17b, q17c⟩ := isOf hZ rfl E_b16
      obtain ⟨_, _, ⟨T17, L17, k17, n17⟩, -, X17, ⟨Lc17, hQ17, l17, y17, z17⟩, st17⟩ := X16.virtualBack hx (y := (⟨"com/example/lean_bus/leanbus/api/Caller", "isRoot", "()Z"⟩ : MethodName)) (z := (⟨"com/example/lean_bus/leanbus/api/Caller", "isRoot", "()Z"⟩ : MethodName)) hown (mvT hZ (own_w hw 22 rfl)) (mvT hZ (own_w hw 23 rfl)) (notFace_of_selects (args := #[]) (mvT hZ (own_w hw 25 rfl))) (mvT hZ (own_w hw 25 rfl)) (mvT hZ (own_w hw 24 rfl)) (by decide) (backOf (W := 0) (rm5N l Z a0 hw [] b16  T16.heap n0 Zs F_b16_token) hZ (own_w hw 26 rfl) (own_w hw 6 rfl) (by decide) (by decide)) q17a q17c (g := (mkF m 104 #[.val (.int p0), .val (.int p1), .val (.int p2), .val (.int p3), .val (.int p4), .val (.int 0), .val (.int 1), .val .null, .val (.ref tk10), .val (.int 1), .val (.ref b11), .val (.int 1)] [(.ref b16)])) rfl (by rw [hml]; rfl) (Steps.refl _) (argsL := []) (rest := []) (lenOf pd_8 rfl) rfl (by show 2 * 0 + _ ≤ _; exact Nat.le_of_eq rfl) (hb hby at_104) (fun _ _ => ⟨rfl, rfl, (by decide : 9 + 0 ≤ _), (by decide : 18 + 0 ≤ _)⟩)
      dsimp only [Pt.U, Pt.locs, Pt.cells, Pt.slots] at X17 l17 y17 z17 st17 hQ17
      subst l17 y17 z17
      obtain ⟨hv17, Nq17, eq17⟩ := hQ17
      subst hv17
      replace Nf := Fr.app Nf Nq17
      refine own_goH (x' := T17.setTop (mkF m 107 #[.val (.int p0), .val (.int p1), .val (.int p2), .val (.int p3), .val (.int p4), .val (.int 0), .val (.int 1), .val .null, .val (.ref tk10), .val (.int 1), .val (.ref b11), .val (.int 1)] [(.int 1)])) (fun _ k => st17.trans k) ?_
      refine own_goH (x' := T17.setTop (mkF m 121 #[.val (.int p0), .val (.int p1), .val (.int p2), .val (.int p3), .val (.int p4), .val (.int 0), .val (.int 1), .val .null, .val (.ref tk10), .val (.int 1), .val (.ref b11), .val (.int 1)] [(.int 1)])) (fun _ k => XS.iload X17.here hx rfl (hb hby at_107) rfl (XS.icmpNo X17.here hx rfl (hb hby at_109) rfl (teq rfl).2 (XS.iconst X17.here hx rfl (hb hby at_112) (XS.goto X17.here hx rfl (pc0 := 113) (pc' := 117) rfl (hb hby at_113) (by decide) (by decide) (XS.istore X17.here hx rfl (hb hby at_117) rfl (l' := #[.val (.int p0), .val (.int p1), .val (.int p2), .val (.int p3), .val (.int p4), .val (.int 0), .val (.int 1), .val .null, .val (.ref tk10), .val (.int 1), .val (.ref b11), .val (.int 1)]) rfl (XS.iload X17.here hx rfl (hb hby at_119) rfl k)))))) ?_
      refine own_retNH X17 hS (own_hk eq17 hk) (own_hr eq17 hR) hZ (own_EW hw) hx hlk (t := .boolean) hret (by simp) (hb hby at_121) (w := (1 : Int32)) rfl ?_ (by decide) (by decide)
      rw [eq17]
      exact ⟨rfl, Nf⟩
    · refine own_goH (x' := T1.setTop (mkF m 26 #[.val (.int p0), .val (.int p1), .val (.int p2), .val (.int p3), .val (.int p4), .val (.int 0), .val (.int 2), .val .null, .unset, .unset, .unset, .unset] [(.int p4), (.int p3), (.int 2)])) (fun _ k => XS.iload X1.here hx rfl (hb hby at_21) rfl (XS.iloadN X1.here hx rfl (hb hby at_23) rfl (XS.iload X1.here hx rfl (hb hby at_24) rfl k))) ?_
      obtain ⟨_, _, ⟨T18, L18, k18, n18⟩, -, X18, Sw18, Gw18, ⟨Lc18, hQ18, l18, y18, z18, Cw18⟩, st18⟩ := Jvm.RoadKit.callSS X1 hx (y := (⟨"com/example/lean_bus/leanbus/api/CallerIsRootPinLaw", "draw", "(III)Ljava/lang/String;"⟩ : MethodName)) hown (mvT hZ (own_w hw 0 rfl)) (mvT hZ (own_w hw 1 rfl)) (mvT hZ (own_w hw 2 rfl)) (mvT hZ (own_w hw 3 rfl)) (by decide) (backOfSH (W := 0) (rm1_2 l Z a0 hw [] p3 p4 G1 h0 n0 Zs Od S_COMPACT_STRINGS hG) hZ (own_w hw 3 rfl) (own_w hw 2 rfl) (by decide) (by decide) (own_EW hw) hR.1) (g := (mkF m 26 #[.val (.int p0), .val (.int p1), .val (.int p2), .val (.int p3), .val (.int p4), .val (.int 0), .val (.int 2), .val .null, .unset, .unset, .unset, .unset] [(.int p4), (.int p3), (.int 2)])) rfl (by rw [hml]; rfl) (argsL := [(.int 2), (.int p3), (.int p4)]) (rest := []) (lenOf pd_7 rfl) rfl (by show 2 * 0 + _ ≤ _; exact Nat.le_of_eq rfl) (hb hby at_26) (fun _ _ => ⟨rfl, eq1, (by decide : 0 + 3 ≤ _), (by decide : 0 + 6 ≤ _)⟩)
      dsimp only [Pt.U, Pt.locs, Pt.cells, Pt.slots] at X18 l18 y18 z18 st18 hQ18 Sw18 Gw18 Cw18
      subst l18 y18 z18
      obtain ⟨X18, Sw18, hZ, hown⟩ := rebS hS (own_hk eq1 hk) X18 Sw18 Gw18 hZ hown
      replace hR := hR.trans Cw18
      obtain ⟨tk18, hv18, Nq18, K18⟩ := hQ18
      subst hv18
      replace Nf := Fr.app Nf Nq18
      replace Od := Od.keep K18 all0
      replace Zs := Nat.le_trans Zs K18.1
      replace hk := Nat.le_trans hk K18.1
      replace hS := Sw18
      replace hk := Nat.le_refl (Array.size T18.heap)
      refine own_goH (x' := T18.setTop (mkF m 29 #[.val (.int p0), .val (.int p1), .val (.int p2), .val (.int p3), .val (.int p4), .val (.int 0), .val (.int 2), .val .null, .unset, .unset, .unset, .unset] [(.ref tk18)])) (fun _ k => st18.trans k) ?_
      refine own_goH (x' := T18.setTop (mkF m 43 #[.val (.int p0), .val (.int p1), .val (.int p2), .val (.int p3), .val (.int p4), .val (.int 0), .val (.int 2), .val .null, .val (.ref tk18), .val (.int 1), .unset, .unset] [])) (fun _ k => XS.astore X18.here hx rfl (hb hby at_29) rfl rfl (l' := #[.val (.int p0), .val (.int p1), .val (.int p2), .val (.int p3), .val (.int p4), .val (.int 0), .val (.int 2), .val .null, .val (.ref tk18), .unset, .unset, .unset]) rfl (XS.iload X18.here hx rfl (hb hby at_31) rfl (XS.ifNo X18.here hx rfl (hb hby at_33) rfl ((if0 _ _).trans (teq rfl).2) (XS.iconst X18.here hx rfl (hb hby at_36) (XS.goto X18.here hx rfl (pc0 := 37) (pc' := 41) rfl (hb hby at_37) (by decide) (by decide) (XS.istore X18.here hx rfl (hb hby at_41) rfl (l' := #[.val (.int p0), .val (.int p1), .val (.int p2), .val (.int p3), .val (.int p4), .val (.int 0), .val (.int 2), .val .null, .val (.ref tk18), .val (.int 1), .unset, .unset]) rfl k)))))) ?_
      obtain ⟨T19, h19, X19, e19, E19, A19, D19, -, st19⟩ := newO X18 hx hZ hown (own_w hw 4 rfl) (own_w hw 5 rfl) (own_w hw 6 rfl) rfl (g := (mkF m 43 #[.val (.int p0), .val (.int p1), .val (.int p2), .val (.int p3), .val (.int p4), .val (.int 0), .val (.int 2), .val .null, .val (.ref tk18), .val (.int 1), .unset, .unset] [])) rfl (hb hby at_43) (by decide) (by decide)
      obtain ⟨b19, g19⟩ : ∃ z, z = T18.heap.size := ⟨_, rfl⟩
      rw [← g19] at A19 D19 st19
      have g_b19 : n0 ≤ b19 := Nat.le_trans Zs (Nat.le_of_eq g19.symm)
      have Sf_b19 := own_sfn hR (Nat.le_of_eq g19.symm)
      replace Od := Od.ext E19
      replace Zs := Nat.le_trans Zs E19.1
      replace hk := Nat.le_trans hk E19.1
      have Sq_b19 := Safe.ext E19 hR.1 Sf_b19
      replace hR := hR.trans (CHr.ext E19 hR.1)
      replace Sf_b19 := Sq_b19
      have E_b19 := A19
      have F_b19_token : Fld Z h19 b19 "com/example/lean_bus/leanbus/api/Caller" "token" "Ljava/lang/String;" .null := D19 (Or.inr (own_w hw 19 rfl)) (ty := (.object "java/lang/String")) (by decide)
      have F_b19_name : Fld Z h19 b19 "com/example/lean_bus/leanbus/api/Caller" "name" "Ljava/lang/String;" .null := D19 (Or.inr (own_w hw 21 rfl)) (ty := (.object "java/lang/String")) (by decide)
      refine own_goH (x' := T19.setTop (mkF m 46 #[.val (.int p0), .val (.int p1), .val (.int p2), .val (.int p3), .val (.int p4), .val (.int 0), .val (.int 2), .val .null, .val (.ref tk18), .val (.int 1), .unset, .unset] [(.ref b19)])) st19 ?_
      refine own_goH (x' := T19.setTop (mkF m 51 #[.val (.int p0), .val (.int p1), .val (.int p2), .val (.int p3), .val (.int p4), .val (.int 0), .val (.int 2), .val .null, .val (.ref tk18), .val (.int 1), .unset, .unset] [(.ref tk18), .null, (.ref b19), (.ref b19)])) (fun _ k => XS.dup X19.here hx rfl (hb hby at_46) rfl rfl (XS.aload X19.here hx rfl (hb hby at_47) rfl rfl (XS.aload X19.here hx rfl (hb hby at_49) rfl rfl k))) ?_
      obtain ⟨_, _, ⟨T20, L20, k20, n20⟩, -, X20, ⟨Lc20, hQ20, l20, y20, z20⟩, st20⟩ := X19.specialBack hx (y := (⟨"com/example/lean_bus/leanbus/api/Caller", "<init>", "(Ljava/lang/String;Ljava/lang/String;)V"⟩ : MethodName)) rfl hown (mvT hZ (own_w hw 7 rfl)) (mvT hZ (own_w hw 8 rfl)) (mvT hZ (own_w hw 9 rfl)) (by decide) (backOf (W := 1) (rm2NR l Z a0 hw [] b19 tk18 h19 n0 Zs E_b19 F_b19_token F_b19_name g_b19) hZ (own_w hw 9 rfl) (own_w hw 6 rfl) (by decide) (by decide)) (g := (mkF m 51 #[.val (.int p0), .val (.int p1), .val (.int p2), .val (.int p3), .val (.int p4), .val (.int 0), .val (.int 2), .val .null, .val (.ref tk18), .val (.int 1), .unset, .unset] [(.ref tk18), .null, (.ref b19), (.ref b19)])) rfl (by rw [hml]; rfl) (Steps.refl _) (a := b19) (argsL := [.null, (.ref tk18)]) (rest := [(.ref b19)]) (lenOf pd_6 rfl) rfl (by show 2 * 0 + _ ≤ _; exact Nat.le_of_eq rfl) (hb hby at_51) (fun _ _ => ⟨rfl, e19, (by decide : 4 + 0 ≤ _), (by decide : 8 + 0 ≤ _)⟩)
      dsimp only [Pt.U, Pt.locs, Pt.cells, Pt.slots] at X20 l20 y20 z20 st20 hQ20
      subst l20 y20 z20
      obtain ⟨hv20, Nq20, K20, Eo20, Fo20_0, Fo20_1⟩ := hQ20
      subst hv20
      replace Nf := Fr.app Nf Nq20
      replace Od := Od.keep K20 (allS g_b19 all0)
      replace Zs := Nat.le_trans Zs K20.1
      replace hk := Nat.le_trans hk K20.1
      have Sq_b19 := Safe.keep K20 (allS Sf_b19 all0) hR.1 Sf_b19
      replace hR := hR.trans (CHr.keep K20 (allS Sf_b19 all0) hR.1)
      replace Sf_b19 := Sq_b19
      replace E_b19 := Eo20
      replace F_b19_token := Fo20_0
      replace F_b19_name := Fo20_1
      refine own_goH (x' := T20.setTop (mkF m 54 #[.val (.int p0), .val (.int p1), .val (.int p2), .val (.int p3), .val (.int p4), .val (.int 0), .val (.int 2), .val .null, .val (.ref tk18), .val (.int 1), .unset, .unset] [(.ref b19)])) (fun _ k => st20.trans k) ?_
      refine own_goH (x' := T20.setTop (mkF m 58 #[.val (.int p0), .val (.int p1), .val (.int p2), .val (.int p3), .val (.int p4), .val (.int 0), .val (.int 2), .val .null, .val (.ref tk18), .val (.int 1), .val (.ref b19), .unset] [(.ref b19)])) (fun _ k => XS.astore X20.here hx rfl (hb hby at_54) rfl rfl (l' := #[.val (.int p0), .val (.int p1), .val (.int p2), .val (.int p3), .val (.int p4), .val (.int 0), .val (.int 2), .val .null, .val (.ref tk18), .val (.int 1), .val (.ref b19), .unset]) rfl (XS.aload X20.here hx rfl (hb hby at_56) rfl rfl k)) ?_
      obtain ⟨cq21, kq21, q21a, q21b, q21c⟩ := isOf hZ rfl E_b19
      obtain ⟨_, _, ⟨T21, L21, k21, n21⟩, -, X21, ⟨Lc21, hQ21, l21, y21, z21⟩, st21⟩ := X20.virtualBack hx (y := (⟨"com/example/lean_bus/leanbus/api/Caller", "isRoot", "()Z"⟩ : MethodName)) (z := (⟨"com/example/lean_bus/leanbus/api/Caller", "isRoot", "()Z"⟩ : MethodName)) hown (mvT hZ (own_w hw 22 rfl)) (mvT hZ (own_w hw 23 rfl)) (notFace_of_selects (args := #[]) (mvT hZ (own_w hw 25 rfl))) (mvT hZ (own_w hw 25 rfl)) (mvT hZ (own_w hw 24 rfl)) (by decide) (backOf (W := 0) (rm5N l Z a0 hw [] b19  T20.heap n0 Zs F_b19_token) hZ (own_w hw 26 rfl) (own_w hw 6 rfl) (by decide) (by decide)) q21a q21c (g := (mkF m 58 #[.val (.int p0), .val (.int p1), .val (.int p2), .val (.int p3), .val (.int p4), .val (.int 0), .val (.int 2), .val .null, .val (.ref tk18), .val (.int 1), .val (.ref b19), .unset] [(.ref b19)])) rfl (by rw [hml]; rfl) (Steps.refl _) (argsL := []) (rest := []) (lenOf pd_8 rfl) rfl (by show 2 * 0 + _ ≤ _; exact Nat.le_of_eq rfl) (hb hby at_58) (fun _ _ => ⟨rfl, rfl, (by decide : 4 + 0 ≤ _), (by decide : 8 + 0 ≤ _)⟩)
      dsimp only [Pt.U, Pt.locs, Pt.cells, Pt.slots] at X21 l21 y21 z21 st21 hQ21
      subst l21 y21 z21
      obtain ⟨hv21, Nq21, eq21⟩ := hQ21
      subst hv21
      replace Nf := Fr.app Nf Nq21
      refine own_goH (x' := T21.setTop (mkF m 61 #[.val (.int p0), .val (.int p1), .val (.int p2), .val (.int p3), .val (.int p4), .val (.int 0), .val (.int 2), .val .null, .val (.ref tk18), .val (.int 1), .val (.ref b19), .unset] [(.int 1)])) (fun _ k => st21.trans k) ?_
      refine own_goH (x' := T21.setTop (mkF m 75 #[.val (.int p0), .val (.int p1), .val (.int p2), .val (.int p3), .val (.int p4), .val (.int 0), .val (.int 2), .val .null, .val (.ref tk18), .val (.int 1), .val (.ref b19), .val (.int 1)] [(.int 1)])) (fun _ k => XS.iload X21.here hx rfl (hb hby at_61) rfl (XS.icmpNo X21.here hx rfl (hb hby at_63) rfl (teq rfl).2 (XS.iconst X21.here hx rfl (hb hby at_66) (XS.goto X21.here hx rfl (pc0 := 67) (pc' := 71) rfl (hb hby at_67) (by decide) (by decide) (XS.istore X21.here hx rfl (hb hby at_71) rfl (l' := #[.val (.int p0), .val (.int p1), .val (.int p2), .val (.int p3), .val (.int p4), .val (.int 0), .val (.int 2), .val .null, .val (.ref tk18), .val (.int 1), .val (.ref b19), .val (.int 1)]) rfl (XS.iload X21.here hx rfl (hb hby at_73) rfl k)))))) ?_
      refine own_goH (x' := T21.setTop (mkF m 78 #[.val (.int p0), .val (.int p1), .val (.int p2), .val (.int p3), .val (.int p4), .val (.int 0), .val (.int 2), .val .null, .val (.ref tk18), .val (.int 1), .val (.ref b19), .val (.int 1)] [])) (fun _ k => XS.ifNo X21.here hx rfl (hb hby at_75) rfl ((if0 _ _).trans (feq (by decide +kernel : ¬ ((1 : Int32) = (0 : Int32)))).1) k) ?_
      obtain ⟨_, _, ⟨T22, L22, k22, n22⟩, -, X22, ⟨Lc22, hQ22, l22, y22, z22⟩, st22⟩ := Jvm.LawKit.callS X21 hx (y := (⟨"com/example/lean_bus/leanbus/api/Caller", "root", "()Lcom/example/lean_bus/leanbus/api/Caller;"⟩ : MethodName)) hown (mvT hZ (own_w hw 27 rfl)) (mvT hZ (own_w hw 28 rfl)) (mvT hZ (own_w hw 6 rfl)) (mvT hZ (own_w hw 29 rfl)) (by decide) (backOf (W := 0) (rm6 l Z a0 hw []  T20.heap n0 Zs ) hZ (own_w hw 29 rfl) (own_w hw 6 rfl) (by decide) (by decide)) (g := (mkF m 78 #[.val (.int p0), .val (.int p1), .val (.int p2), .val (.int p3), .val (.int p4), .val (.int 0), .val (.int 2), .val .null, .val (.ref tk18), .val (.int 1), .val (.ref b19), .val (.int 1)] [])) rfl (by rw [hml]; rfl) (argsL := []) (rest := []) (lenOf pd_9 rfl) rfl (by show 2 * 0 + _ ≤ _; exact Nat.le_of_eq rfl) (hb hby at_78) (fun _ _ => ⟨rfl, eq21, (by decide : 4 + 1 ≤ _), (by decide : 8 + 2 ≤ _)⟩)
      dsimp only [Pt.U, Pt.locs, Pt.cells, Pt.slots] at X22 l22 y22 z22 st22 hQ22
      subst l22 y22 z22
      obtain ⟨b22, hv22, Nq22, K22, sq22, g_b22, E_b22, F_b22_token, F_b22_name⟩ := hQ22
      subst hv22
      replace Nf := Fr.app Nf Nq22
      have ne_b19_b22 : b19 ≠ b22 := Nat.ne_of_lt (Nat.lt_of_lt_of_le E_b19.lt sq22)
      replace Od := Od.keep K22 all0
      replace E_b19 := E_b19.keep K22
      replace F_b19_token := F_b19_token.keep K22 nin0
      replace F_b19_name := F_b19_name.keep K22 nin0
      replace Zs := Nat.le_trans Zs K22.1
      replace hk := Nat.le_trans hk K22.1
      have Sq_b19 := Safe.keep K22 all0 hR.1 Sf_b19
      replace hR := hR.trans (CHr.keep K22 all0 hR.1)
      replace Sf_b19 := Sq_b19
      refine own_goH (x' := T22.setTop (mkF m 81 #[.val (.int p0), .val (.int p1), .val (.int p2), .val (.int p3), .val (.int p4), .val (.int 0), .val (.int 2), .val .null, .val (.ref tk18), .val (.int 1), .val (.ref b19), .val (.int 1)] [(.ref b22)])) st22 ?_
      obtain ⟨cq23, kq23, q23a, q23b, q23c⟩ := isOf hZ rfl E_b22
      obtain ⟨_, _, ⟨T23, L23, k23, n23⟩, -, X23, ⟨Lc23, hQ23, l23, y23, z23⟩, st23⟩ := X22.virtualBack hx (y := (⟨"com/example/lean_bus/leanbus/api/Caller", "isRoot", "()Z"⟩ : MethodName)) (z := (⟨"com/example/lean_bus/leanbus/api/Caller", "isRoot", "()Z"⟩ : MethodName)) hown (mvT hZ (own_w hw 22 rfl)) (mvT hZ (own_w hw 23 rfl)) (notFace_of_selects (args := #[]) (mvT hZ (own_w hw 25 rfl))) (mvT hZ (own_w hw 25 rfl)) (mvT hZ (own_w hw 24 rfl)) (by decide) (backOf (W := 0) (rm5N l Z a0 hw [] b22  T22.heap n0 Zs F_b22_token) hZ (own_w hw 26 rfl) (own_w hw 6 rfl) (by decide) (by decide)) q23a q23c (g := (mkF m 81 #[.val (.int p0), .val (.int p1), .val (.int p2), .val (.int p3), .val (.int p4), .val (.int 0), .val (.int 2), .val .null, .val (.ref tk18), .val (.int 1), .val (.ref b19), .val (.int 1)] [(.ref b22)])) rfl (by rw [hml]; rfl) (Steps.refl _) (argsL := []) (rest := []) (lenOf pd_8 rfl) rfl (by show 2 * 0 + _ ≤ _; exact Nat.le_of_eq rfl) (hb hby at_81) (fun _ _ => ⟨rfl, rfl, (by decide : 5 + 0 ≤ _), (by decide : 10 + 0 ≤ _)⟩)
      dsimp only [Pt.U, Pt.locs, Pt.cells, Pt.slots] at X23 l23 y23 z23 st23 hQ23
      subst l23 y23 z23
      obtain ⟨hv23, Nq23, eq23⟩ := hQ23
      subst hv23
      replace Nf := Fr.app Nf Nq23
      refine own_goH (x' := T23.setTop (mkF m 84 #[.val (.int p0), .val (.int p1), .val (.int p2), .val (.int p3), .val (.int p4), .val (.int 0), .val (.int 2), .val .null, .val (.ref tk18), .val (.int 1), .val (.ref b19), .val (.int 1)] [(.int 1)])) (fun _ k => st23.trans k) ?_
      refine own_goH (x' := T23.setTop (mkF m 99 #[.val (.int p0), .val (.int p1), .val (.int p2), .val (.int p3), .val (.int p4), .val (.int 0), .val (.int 2), .val .null, .val (.ref tk18), .val (.int 1), .val (.ref b19), .val (.int 1)] [])) (fun _ k => XS.ifNo X23.here hx rfl (hb hby at_84) rfl ((if0 _ _).trans (feq (by decide +kernel : ¬ ((1 : Int32) = (0 : Int32)))).1) (XS.iconst X23.here hx rfl (hb hby at_87) (XS.goto X23.here hx rfl (pc0 := 88) (pc' := 92) rfl (hb hby at_88) (by decide) (by decide) (XS.istore X23.here hx rfl (hb hby at_92) rfl (l' := #[.val (.int p0), .val (.int p1), .val (.int p2), .val (.int p3), .val (.int p4), .val (.int 0), .val (.int 2), .val .null, .val (.ref tk18), .val (.int 1), .val (.ref b19), .val (.int 1)]) rfl (XS.iload X23.here hx rfl (hb hby at_94) rfl (XS.ifNo X23.here hx rfl (hb hby at_96) rfl ((if0 _ _).trans (feq (by decide +kernel : ¬ ((1 : Int32) = (0 : Int32)))).1) k)))))) ?_
      refine own_goH (x' := T23.setTop (mkF m 101 #[.val (.int p0), .val (.int p1), .val (.int p2), .val (.int p3), .val (.int p4), .val (.int 0), .val (.int 2), .val .null, .val (.ref tk18), .val (.int 1), .val (.ref b19), .val (.int 1)] [.null])) (fun _ k => XS.aload X23.here hx rfl (hb hby at_99) rfl rfl k) ?_
      obtain ⟨_, _, ⟨T24, L24, k24, n24⟩, -, X24, ⟨Lc24, hQ24, l24, y24, z24⟩, st24⟩ := Jvm.LawKit.callS X23 hx (y := (⟨"com/example/lean_bus/leanbus/api/Caller", "unchecked", "(Ljava/lang/String;)Lcom/example/lean_bus/leanbus/api/Caller;"⟩ : MethodName)) hown (mvT hZ (own_w hw 32 rfl)) (mvT hZ (own_w hw 33 rfl)) (mvT hZ (own_w hw 6 rfl)) (mvT hZ (own_w hw 34 rfl)) (by decide) (backOf (W := 0) (rm7N l Z a0 hw []  T22.heap n0 Zs ) hZ (own_w hw 34 rfl) (own_w hw 6 rfl) (by decide) (by decide)) (g := (mkF m 101 #[.val (.int p0), .val (.int p1), .val (.int p2), .val (.int p3), .val (.int p4), .val (.int 0), .val (.int 2), .val .null, .val (.ref tk18), .val (.int 1), .val (.ref b19), .val (.int 1)] [.null])) rfl (by rw [hml]; rfl) (argsL := [.null]) (rest := []) (lenOf pd_10 rfl) rfl (by show 2 * 0 + _ ≤ _; exact Nat.le_of_eq rfl) (hb hby at_101) (fun _ _ => ⟨rfl, eq23, (by decide : 5 + 1 ≤ _), (by decide : 10 + 2 ≤ _)⟩)
      dsimp only [Pt.U, Pt.locs, Pt.cells, Pt.slots] at X24 l24 y24 z24 st24 hQ24
      subst l24 y24 z24
      obtain ⟨b24, hv24, Nq24, K24, sq24, g_b24, E_b24, F_b24_token, F_b24_name⟩ := hQ24
      subst hv24
      replace Nf := Fr.app Nf Nq24
      have ne_b19_b24 : b19 ≠ b24 := Nat.ne_of_lt (Nat.lt_of_lt_of_le E_b19.lt sq24)
      have ne_b22_b24 : b22 ≠ b24 := Nat.ne_of_lt (Nat.lt_of_lt_of_le E_b22.lt sq24)
      replace Od := Od.keep K24 all0
      replace E_b19 := E_b19.keep K24
      replace F_b19_token := F_b19_token.keep K24 nin0
      replace F_b19_name := F_b19_name.keep K24 nin0
      replace E_b22 := E_b22.keep K24
      replace F_b22_token := F_b22_token.keep K24 nin0
      replace F_b22_name := F_b22_name.keep K24 nin0
      replace Zs := Nat.le_trans Zs K24.1
      replace hk := Nat.le_trans hk K24.1
      have Sq_b19 := Safe.keep K24 all0 hR.1 Sf_b19
      replace hR := hR.trans (CHr.keep K24 all0 hR.1)
      replace Sf_b19 := Sq_b19
      refine own_goH (x' := T24.setTop (mkF m 104 #[.val (.int p0), .val (.int p1), .val (.int p2), .val (.int p3), .val (.int p4), .val (.int 0), .val (.int 2), .val .null, .val (.ref tk18), .val (.int 1), .val (.ref b19), .val (.int 1)] [(.ref b24)])) st24 ?_
      obtain ⟨cq25, kq25, q25a, q25b, q25c⟩ := isOf hZ rfl E_b24
      obtain ⟨_, _, ⟨T25, L25, k25, n25⟩, -, X25, ⟨Lc25, hQ25, l25, y25, z25⟩, st25⟩ := X24.virtualBack hx (y := (⟨"com/example/lean_bus/leanbus/api/Caller", "isRoot", "()Z"⟩ : MethodName)) (z := (⟨"com/example/lean_bus/leanbus/api/Caller", "isRoot", "()Z"⟩ : MethodName)) hown (mvT hZ (own_w hw 22 rfl)) (mvT hZ (own_w hw 23 rfl)) (notFace_of_selects (args := #[]) (mvT hZ (own_w hw 25 rfl))) (mvT hZ (own_w hw 25 rfl)) (mvT hZ (own_w hw 24 rfl)) (by decide) (backOf (W := 0) (rm5N l Z a0 hw [] b24  T24.heap n0 Zs F_b24_token) hZ (own_w hw 26 rfl) (own_w hw 6 rfl) (by decide) (by decide)) q25a q25c (g := (mkF m 104 #[.val (.int p0), .val (.int p1), .val (.int p2), .val (.int p3), .val (.int p4), .val (.int 0), .val (.int 2), .val .null, .val (.ref tk18), .val (.int 1), .val (.ref b19), .val (.int 1)] [(.ref b24)])) rfl (by rw [hml]; rfl) (Steps.refl _) (argsL := []) (rest := []) (lenOf pd_8 rfl) rfl (by show 2 * 0 + _ ≤ _; exact Nat.le_of_eq rfl) (hb hby at_104) (fun _ _ => ⟨rfl, rfl, (by decide : 6 + 0 ≤ _), (by decide : 12 + 0 ≤ _)⟩)
      dsimp only [Pt.U, Pt.locs, Pt.cells, Pt.slots] at X25 l25 y25 z25 st25 hQ25
      subst l25 y25 z25
      obtain ⟨hv25, Nq25, eq25⟩ := hQ25
      subst hv25
      replace Nf := Fr.app Nf Nq25
      refine own_goH (x' := T25.setTop (mkF m 107 #[.val (.int p0), .val (.int p1), .val (.int p2), .val (.int p3), .val (.int p4), .val (.int 0), .val (.int 2), .val .null, .val (.ref tk18), .val (.int 1), .val (.ref b19), .val (.int 1)] [(.int 1)])) (fun _ k => st25.trans k) ?_
      refine own_goH (x' := T25.setTop (mkF m 121 #[.val (.int p0), .val (.int p1), .val (.int p2), .val (.int p3), .val (.int p4), .val (.int 0), .val (.int 2), .val .null, .val (.ref tk18), .val (.int 1), .val (.ref b19), .val (.int 1)] [(.int 1)])) (fun _ k => XS.iload X25.here hx rfl (hb hby at_107) rfl (XS.icmpNo X25.here hx rfl (hb hby at_109) rfl (teq rfl).2 (XS.iconst X25.here hx rfl (hb hby at_112) (XS.goto X25.here hx rfl (pc0 := 113) (pc' := 117) rfl (hb hby at_113) (by decide) (by decide) (XS.istore X25.here hx rfl (hb hby at_117) rfl (l' := #[.val (.int p0), .val (.int p1), .val (.int p2), .val (.int p3), .val (.int p4), .val (.int 0), .val (.int 2), .val .null, .val (.ref tk18), .val (.int 1), .val (.ref b19), .val (.int 1)]) rfl (XS.iload X25.here hx rfl (hb hby at_119) rfl k)))))) ?_
      refine own_retNH X25 hS (own_hk eq25 hk) (own_hr eq25 hR) hZ (own_EW hw) hx hlk (t := .boolean) hret (by simp) (hb hby at_121) (w := (1 : Int32)) rfl ?_ (by decide) (by decide)
      rw [eq25]
      exact ⟨rfl, Nf⟩
    · refine own_goH (x' := T1.setTop (mkF m 26 #[.val (.int p0), .val (.int p1), .val (.int p2), .val (.int p3), .val (.int p4), .val (.int 0), .val (.int 3), .val .null, .unset, .unset, .unset, .unset] [(.int p4), (.int p3), (.int 3)])) (fun _ k => XS.iload X1.here hx rfl (hb hby at_21) rfl (XS.iloadN X1.here hx rfl (hb hby at_23) rfl (XS.iload X1.here hx rfl (hb hby at_24) rfl k))) ?_
      obtain ⟨_, _, ⟨T26, L26, k26, n26⟩, -, X26, Sw26, Gw26, ⟨Lc26, hQ26, l26, y26, z26, Cw26⟩, st26⟩ := Jvm.RoadKit.callSS X1 hx (y := (⟨"com/example/lean_bus/leanbus/api/CallerIsRootPinLaw", "draw", "(III)Ljava/lang/String;"⟩ : MethodName)) hown (mvT hZ (own_w hw 0 rfl)) (mvT hZ (own_w hw 1 rfl)) (mvT hZ (own_w hw 2 rfl)) (mvT hZ (own_w hw 3 rfl)) (by decide) (backOfSH (W := 0) (rm1_3 l Z a0 hw [] p3 p4 G1 h0 n0 Zs Od S_COMPACT_STRINGS hG) hZ (own_w hw 3 rfl) (own_w hw 2 rfl) (by decide) (by decide) (own_EW hw) hR.1) (g := (mkF m 26 #[.val (.int p0), .val (.int p1), .val (.int p2), .val (.int p3), .val (.int p4), .val (.int 0), .val (.int 3), .val .null, .unset, .unset, .unset, .unset] [(.int p4), (.int p3), (.int 3)])) rfl (by rw [hml]; rfl) (argsL := [(.int 3), (.int p3), (.int p4)]) (rest := []) (lenOf pd_7 rfl) rfl (by show 2 * 0 + _ ≤ _; exact Nat.le_of_eq rfl) (hb hby at_26) (fun _ _ => ⟨rfl, eq1, (by decide : 0 + 3 ≤ _), (by decide : 0 + 8 ≤ _)⟩)
      dsimp only [Pt.U, Pt.locs, Pt.cells, Pt.slots] at X26 l26 y26 z26 st26 hQ26 Sw26 Gw26 Cw26
      subst l26 y26 z26
      obtain ⟨X26, Sw26, hZ, hown⟩ := rebS hS (own_hk eq1 hk) X26 Sw26 Gw26 hZ hown
      replace hR := hR.trans Cw26
      obtain ⟨tk26, hv26, Nq26, K26⟩ := hQ26
      subst hv26
      replace Nf := Fr.app Nf Nq26
      replace Od := Od.keep K26 all0
      replace Zs := Nat.le_trans Zs K26.1
      replace hk := Nat.le_trans hk K26.1
      replace hS := Sw26
      replace hk := Nat.le_refl (Array.size T26.heap)
      refine own_goH (x' := T26.setTop (mkF m 29 #[.val (.int p0), .val (.int p1), .val (.int p2), .val (.int p3), .val (.int p4), .val (.int 0), .val (.int 3), .val .null, .unset, .unset, .unset, .unset] [(.ref tk26)])) (fun _ k => st26.trans k) ?_
      refine own_goH (x' := T26.setTop (mkF m 43 #[.val (.int p0), .val (.int p1), .val (.int p2), .val (.int p3), .val (.int p4), .val (.int 0), .val (.int 3), .val .null, .val (.ref tk26), .val (.int 1), .unset, .unset] [])) (fun _ k => XS.astore X26.here hx rfl (hb hby at_29) rfl rfl (l' := #[.val (.int p0), .val (.int p1), .val (.int p2), .val (.int p3), .val (.int p4), .val (.int 0), .val (.int 3), .val .null, .val (.ref tk26), .unset, .unset, .unset]) rfl (XS.iload X26.here hx rfl (hb hby at_31) rfl (XS.ifNo X26.here hx rfl (hb hby at_33) rfl ((if0 _ _).trans (teq rfl).2) (XS.iconst X26.here hx rfl (hb hby at_36) (XS.goto X26.here hx rfl (pc0 := 37) (pc' := 41) rfl (hb hby at_37) (by decide) (by decide) (XS.istore X26.here hx rfl (hb hby at_41) rfl (l' := #[.val (.int p0), .val (.int p1), .val (.int p2), .val (.int p3), .val (.int p4), .val (.int 0), .val (.int 3), .val .null, .val (.ref tk26), .val (.int 1), .unset, .unset]) rfl k)))))) ?_
      obtain ⟨T27, h27, X27, e27, E27, A27, D27, -, st27⟩ := newO X26 hx hZ hown (own_w hw 4 rfl) (own_w hw 5 rfl) (own_w hw 6 rfl) rfl (g := (mkF m 43 #[.val (.int p0), .val (.int p1), .val (.int p2), .val (.int p3), .val (.int p4), .val (.int 0), .val (.int 3), .val .null, .val (.ref tk26), .val (.int 1), .unset, .unset] [])) rfl (hb hby at_43) (by decide) (by decide)
      obtain ⟨b27, g27⟩ : ∃ z, z = T26.heap.size := ⟨_, rfl⟩
      rw [← g27] at A27 D27 st27
      have g_b27 : n0 ≤ b27 := Nat.le_trans Zs (Nat.le_of_eq g27.symm)
      have Sf_b27 := own_sfn hR (Nat.le_of_eq g27.symm)
      replace Od := Od.ext E27
      replace Zs := Nat.le_trans Zs E27.1
      replace hk := Nat.le_trans hk E27.1
      have Sq_b27 := Safe.ext E27 hR.1 Sf_b27
      replace hR := hR.trans (CHr.ext E27 hR.1)
      replace Sf_b27 := Sq_b27
      have E_b27 := A27
      have F_b27_token : Fld Z h27 b27 "com/example/lean_bus/leanbus/api/Caller" "token" "Ljava/lang/String;" .null := D27 (Or.inr (own_w hw 19 rfl)) (ty := (.object "java/lang/String")) (by decide)
      have F_b27_name : Fld Z h27 b27 "com/example/lean_bus/leanbus/api/Caller" "name" "Ljava/lang/String;" .null := D27 (Or.inr (own_w hw 21 rfl)) (ty := (.object "java/lang/String")) (by decide)
      refine own_goH (x' := T27.setTop (mkF m 46 #[.val (.int p0), .val (.int p1), .val (.int p2), .val (.int p3), .val (.int p4), .val (.int 0), .val (.int 3), .val .null, .val (.ref tk26), .val (.int 1), .unset, .unset] [(.ref b27)])) st27 ?_
      refine own_goH (x' := T27.setTop (mkF m 51 #[.val (.int p0), .val (.int p1), .val (.int p2), .val (.int p3), .val (.int p4), .val (.int 0), .val (.int 3), .val .null, .val (.ref tk26), .val (.int 1), .unset, .unset] [(.ref tk26), .null, (.ref b27), (.ref b27)])) (fun _ k => XS.dup X27.here hx rfl (hb hby at_46) rfl rfl (XS.aload X27.here hx rfl (hb hby at_47) rfl rfl (XS.aload X27.here hx rfl (hb hby at_49) rfl rfl k))) ?_
      obtain ⟨_, _, ⟨T28, L28, k28, n28⟩, -, X28, ⟨Lc28, hQ28, l28, y28, z28⟩, st28⟩ := X27.specialBack hx (y := (⟨"com/example/lean_bus/leanbus/api/Caller", "<init>", "(Ljava/lang/String;Ljava/lang/String;)V"⟩ : MethodName)) rfl hown (mvT hZ (own_w hw 7 rfl)) (mvT hZ (own_w hw 8 rfl)) (mvT hZ (own_w hw 9 rfl)) (by decide) (backOf (W := 1) (rm2NR l Z a0 hw [] b27 tk26 h27 n0 Zs E_b27 F_b27_token F_b27_name g_b27) hZ (own_w hw 9 rfl) (own_w hw 6 rfl) (by decide) (by decide)) (g := (mkF m 51 #[.val (.int p0), .val (.int p1), .val (.int p2), .val (.int p3), .val (.int p4), .val (.int 0), .val (.int 3), .val .null, .val (.ref tk26), .val (.int 1), .unset, .unset] [(.ref tk26), .null, (.ref b27), (.ref b27)])) rfl (by rw [hml]; rfl) (Steps.refl _) (a := b27) (argsL := [.null, (.ref tk26)]) (rest := [(.ref b27)]) (lenOf pd_6 rfl) rfl (by show 2 * 0 + _ ≤ _; exact Nat.le_of_eq rfl) (hb hby at_51) (fun _ _ => ⟨rfl, e27, (by decide : 4 + 0 ≤ _), (by decide : 10 + 0 ≤ _)⟩)
      dsimp only [Pt.U, Pt.locs, Pt.cells, Pt.slots] at X28 l28 y28 z28 st28 hQ28
      subst l28 y28 z28
      obtain ⟨hv28, Nq28, K28, Eo28, Fo28_0, Fo28_1⟩ := hQ28
      subst hv28
      replace Nf := Fr.app Nf Nq28
      replace Od := Od.keep K28 (allS g_b27 all0)
      replace Zs := Nat.le_trans Zs K28.1
      replace hk := Nat.le_trans hk K28.1
      have Sq_b27 := Safe.keep K28 (allS Sf_b27 all0) hR.1 Sf_b27
      replace hR := hR.trans (CHr.keep K28 (allS Sf_b27 all0) hR.1)
      replace Sf_b27 := Sq_b27
      replace E_b27 := Eo28
      replace F_b27_token := Fo28_0
      replace F_b27_name := Fo28_1
      refine own_goH (x' := T28.setTop (mkF m 54 #[.val (.int p0), .val (.int p1), .val (.int p2), .val (.int p3), .val (.int p4), .val (.int 0), .val (.int 3), .val .null, .val (.ref tk26), .val (.int 1), .unset, .unset] [(.ref b27)])) (fun _ k => st28.trans k) ?_
      refine own_goH (x' := T28.setTop (mkF m 58 #[.val (.int p0), .val (.int p1), .val (.int p2), .val (.int p3), .val (.int p4), .val (.int 0), .val (.int 3), .val .null, .val (.ref tk26), .val (.int 1), .val (.ref b27), .unset] [(.ref b27)])) (fun _ k => XS.astore X28.here hx rfl (hb hby at_54) rfl rfl (l' := #[.val (.int p0), .val (.int p1), .val (.int p2), .val (.int p3), .val (.int p4), .val (.int 0), .val (.int 3), .val .null, .val (.ref tk26), .val (.int 1), .val (.ref b27), .unset]) rfl (XS.aload X28.here hx rfl (hb hby at_56) rfl rfl k)) ?_
      obtain ⟨cq29, kq29, q29a, q29b, q29c⟩ := isOf hZ rfl E_b27
      obtain ⟨_, _, ⟨T29, L29, k29, n29⟩, -, X29, ⟨Lc29, hQ29, l29, y29, z29⟩, st29⟩ := X28.virtualBack hx (y := (⟨"com/example/lean_bus/leanbus/api/Caller", "isRoot", "()Z"⟩ : MethodName)) (z := (⟨"com/example/lean_bus/leanbus/api/Caller", "isRoot", "()Z"⟩ : MethodName)) hown (mvT hZ (own_w hw 22 rfl)) (mvT hZ (own_w hw 23 rfl)) (notFace_of_selects (args := #[]) (mvT hZ (own_w hw 25 rfl))) (mvT hZ (own_w hw 25 rfl)) (mvT hZ (own_w hw 24 rfl)) (by decide) (backOf (W := 0) (rm5N l Z a0 hw [] b27  T28.heap n0 Zs F_b27_token) hZ (own_w hw 26 rfl) (own_w hw 6 rfl) (by decide) (by decide)) q29a q29c (g := (mkF m 58 #[.val (.int p0), .val (.int p1), .val (.int p2), .val (.int p3), .val (.int p4), .val (.int 0), .val (.int 3), .val .null, .val (.ref tk26), .val (.int 1), .val (.ref b27), .unset] [(.ref b27)])) rfl (by rw [hml]; rfl) (Steps.refl _) (argsL := []) (rest := []) (lenOf pd_8 rfl) rfl (by show 2 * 0 + _ ≤ _; exact Nat.le_of_eq rfl) (hb hby at_58) (fun _ _ => ⟨rfl, rfl, (by decide : 4 + 0 ≤ _), (by decide : 10 + 0 ≤ _)⟩)
      dsimp only [Pt.U, Pt.locs, Pt.cells, Pt.slots] at X29 l29 y29 z29 st29 hQ29
      subst l29 y29 z29
      obtain ⟨hv29, Nq29, eq29⟩ := hQ29
      subst hv29
      replace Nf := Fr.app Nf Nq29
      refine own_goH (x' := T29.setTop (mkF m 61 #[.val (.int p0), .val (.int p1), .val (.int p2), .val (.int p3), .val (.int p4), .val (.int 0), .val (.int 3), .val .null, .val (.ref tk26), .val (.int 1), .val (.ref b27), .unset] [(.int 1)])) (fun _ k => st29.trans k) ?_
      refine own_goH (x' := T29.setTop (mkF m 75 #[.val (.int p0), .val (.int p1), .val (.int p2), .val (.int p3), .val (.int p4), .val (.int 0), .val (.int 3), .val .null, .val (.ref tk26), .val (.int 1), .val (.ref b27), .val (.int 1)] [(.int 1)])) (fun _ k => XS.iload X29.here hx rfl (hb hby at_61) rfl (XS.icmpNo X29.here hx rfl (hb hby at_63) rfl (teq rfl).2 (XS.iconst X29.here hx rfl (hb hby at_66) (XS.goto X29.here hx rfl (pc0 := 67) (pc' := 71) rfl (hb hby at_67) (by decide) (by decide) (XS.istore X29.here hx rfl (hb hby at_71) rfl (l' := #[.val (.int p0), .val (.int p1), .val (.int p2), .val (.int p3), .val (.int p4), .val (.int 0), .val (.int 3), .val .null, .val (.ref tk26), .val (.int 1), .val (.ref b27), .val (.int 1)]) rfl (XS.iload X29.here hx rfl (hb hby at_73) rfl k)))))) ?_
      refine own_goH (x' := T29.setTop (mkF m 78 #[.val (.int p0), .val (.int p1), .val (.int p2), .val (.int p3), .val (.int p4), .val (.int 0), .val (.int 3), .val .null, .val (.ref tk26), .val (.int 1), .val (.ref b27), .val (.int 1)] [])) (fun _ k => XS.ifNo X29.here hx rfl (hb hby at_75) rfl ((if0 _ _).trans (feq (by decide +kernel : ¬ ((1 : Int32) = (0 : Int32)))).1) k) ?_
      obtain ⟨_, _, ⟨T30, L30, k30, n30⟩, -, X30, ⟨Lc30, hQ30, l30, y30, z30⟩, st30⟩ := Jvm.LawKit.callS X29 hx (y := (⟨"com/example/lean_bus/leanbus/api/Caller", "root", "()Lcom/example/lean_bus/leanbus/api/Caller;"⟩ : MethodName)) hown (mvT hZ (own_w hw 27 rfl)) (mvT hZ (own_w hw 28 rfl)) (mvT hZ (own_w hw 6 rfl)) (mvT hZ (own_w hw 29 rfl)) (by decide) (backOf (W := 0) (rm6 l Z a0 hw []  T28.heap n0 Zs ) hZ (own_w hw 29 rfl) (own_w hw 6 rfl) (by decide) (by decide)) (g := (mkF m 78 #[.val (.int p0), .val (.int p1), .val (.int p2), .val (.int p3), .val (.int p4), .val (.int 0), .val (.int 3), .val .null, .val (.ref tk26), .val (.int 1), .val (.ref b27), .val (.int 1)] [])) rfl (by rw [hml]; rfl) (argsL := []) (rest := []) (lenOf pd_9 rfl) rfl (by show 2 * 0 + _ ≤ _; exact Nat.le_of_eq rfl) (hb hby at_78) (fun _ _ => ⟨rfl, eq29, (by decide : 4 + 1 ≤ _), (by decide : 10 + 2 ≤ _)⟩)
      dsimp only [Pt.U, Pt.locs, Pt.cells, Pt.slots] at X30 l30 y30 z30 st30 hQ30
      subst l30 y30 z30
      obtain ⟨b30, hv30, Nq30, K30, sq30, g_b30, E_b30, F_b30_token, F_b30_name⟩ := hQ30
      subst hv30
      replace Nf := Fr.app Nf Nq30
      have ne_b27_b30 : b27 ≠ b30 := Nat.ne_of_lt (Nat.lt_of_lt_of_le E_b27.lt sq30)
      replace Od := Od.keep K30 all0
      replace E_b27 := E_b27.keep K30
      replace F_b27_token := F_b27_token.keep K30 nin0
      replace F_b27_name := F_b27_name.keep K30 nin0
      replace Zs := Nat.le_trans Zs K30.1
      replace hk := Nat.le_trans hk K30.1
      have Sq_b27 := Safe.keep K30 all0 hR.1 Sf_b27
      replace hR := hR.trans (CHr.keep K30 all0 hR.1)
      replace Sf_b27 := Sq_b27
      refine own_goH (x' := T30.setTop (mkF m 81 #[.val (.int p0), .val (.int p1), .val (.int p2), .val (.int p3), .val (.int p4), .val (.int 0), .val (.int 3), .val .null, .val (.ref tk26), .val (.int 1), .val (.ref b27), .val (.int 1)] [(.ref b30)])) st30 ?_
      obtain ⟨cq31, kq31, q31a, q31b, q31c⟩ := isOf hZ rfl E_b30
      obtain ⟨_, _, ⟨T31, L31, k31, n31⟩, -, X31, ⟨Lc31, hQ31, l31, y31, z31⟩, st31⟩ := X30.virtualBack hx (y := (⟨"com/example/lean_bus/leanbus/api/Caller", "isRoot", "()Z"⟩ : MethodName)) (z := (⟨"com/example/lean_bus/leanbus/api/Caller", "isRoot", "()Z"⟩ : MethodName)) hown (mvT hZ (own_w hw 22 rfl)) (mvT hZ (own_w hw 23 rfl)) (notFace_of_selects (args := #[]) (mvT hZ (own_w hw 25 rfl))) (mvT hZ (own_w hw 25 rfl)) (mvT hZ (own_w hw 24 rfl)) (by decide) (backOf (W := 0) (rm5N l Z a0 hw [] b30  T30.heap n0 Zs F_b30_token) hZ (own_w hw 26 rfl) (own_w hw 6 rfl) (by decide) (by decide)) q31a q31c (g := (mkF m 81 #[.val (.int p0), .val (.int p1), .val (.int p2), .val (.int p3), .val (.int p4), .val (.int 0), .val (.int 3), .val .null, .val (.ref tk26), .val (.int 1), .val (.ref b27), .val (.int 1)] [(.ref b30)])) rfl (by rw [hml]; rfl) (Steps.refl _) (argsL := []) (rest := []) (lenOf pd_8 rfl) rfl (by show 2 * 0 + _ ≤ _; exact Nat.le_of_eq rfl) (hb hby at_81) (fun _ _ => ⟨rfl, rfl, (by decide : 5 + 0 ≤ _), (by decide : 12 + 0 ≤ _)⟩)
      dsimp only [Pt.U, Pt.locs, Pt.cells, Pt.slots] at X31 l31 y31 z31 st31 hQ31
      subst l31 y31 z31
      obtain ⟨hv31, Nq31, eq31⟩ := hQ31
      subst hv31
      replace Nf := Fr.app Nf Nq31
      refine own_goH (x' := T31.setTop (mkF m 84 #[.val (.int p0), .val (.int p1), .val (.int p2), .val (.int p3), .val (.int p4), .val (.int 0), .val (.int 3), .val .null, .val (.ref tk26), .val (.int 1), .val (.ref b27), .val (.int 1)] [(.int 1)])) (fun _ k => st31.trans k) ?_
      refine own_goH (x' := T31.setTop (mkF m 99 #[.val (.int p0), .val (.int p1), .val (.int p2), .val (.int p3), .val (.int p4), .val (.int 0), .val (.int 3), .val .null, .val (.ref tk26), .val (.int 1), .val (.ref b27), .val (.int 1)] [])) (fun _ k => XS.ifNo X31.here hx rfl (hb hby at_84) rfl ((if0 _ _).trans (feq (by decide +kernel : ¬ ((1 : Int32) = (0 : Int32)))).1) (XS.iconst X31.here hx rfl (hb hby at_87) (XS.goto X31.here hx rfl (pc0 := 88) (pc' := 92) rfl (hb hby at_88) (by decide) (by decide) (XS.istore X31.here hx rfl (hb hby at_92) rfl (l' := #[.val (.int p0), .val (.int p1), .val (.int p2), .val (.int p3), .val (.int p4), .val (.int 0), .val (.int 3), .val .null, .val (.ref tk26), .val (.int 1), .val (.ref b27), .val (.int 1)]) rfl (XS.iload X31.here hx rfl (hb hby at_94) rfl (XS.ifNo X31.here hx rfl (hb hby at_96) rfl ((if0 _ _).trans (feq (by decide +kernel : ¬ ((1 : Int32) = (0 : Int32)))).1) k)))))) ?_
      refine own_goH (x' := T31.setTop (mkF m 101 #[.val (.int p0), .val (.int p1), .val (.int p2), .val (.int p3), .val (.int p4), .val (.int 0), .val (.int 3), .val .null, .val (.ref tk26), .val (.int 1), .val (.ref b27), .val (.int 1)] [.null])) (fun _ k => XS.aload X31.here hx rfl (hb hby at_99) rfl rfl k) ?_
      obtain ⟨_, _, ⟨T32, L32, k32, n32⟩, -, X32, ⟨Lc32, hQ32, l32, y32, z32⟩, st32⟩ := Jvm.LawKit.callS X31 hx (y := (⟨"com/example/lean_bus/leanbus/api/Caller", "unchecked", "(Ljava/lang/String;)Lcom/example/lean_bus/leanbus/api/Caller;"⟩ : MethodName)) hown (mvT hZ (own_w hw 32 rfl)) (mvT hZ (own_w hw 33 rfl)) (mvT hZ (own_w hw 6 rfl)) (mvT hZ (own_w hw 34 rfl)) (by decide) (backOf (W := 0) (rm7N l Z a0 hw []  T30.heap n0 Zs ) hZ (own_w hw 34 rfl) (own_w hw 6 rfl) (by decide) (by decide)) (g := (mkF m 101 #[.val (.int p0), .val (.int p1), .val (.int p2), .val (.int p3), .val (.int p4), .val (.int 0), .val (.int 3), .val .null, .val (.ref tk26), .val (.int 1), .val (.ref b27), .val (.int 1)] [.null])) rfl (by rw [hml]; rfl) (argsL := [.null]) (rest := []) (lenOf pd_10 rfl) rfl (by show 2 * 0 + _ ≤ _; exact Nat.le_of_eq rfl) (hb hby at_101) (fun _ _ => ⟨rfl, eq31, (by decide : 5 + 1 ≤ _), (by decide : 12 + 2 ≤ _)⟩)
      dsimp only [Pt.U, Pt.locs, Pt.cells, Pt.slots] at X32 l32 y32 z32 st32 hQ32
      subst l32 y32 z32
      obtain ⟨b32, hv32, Nq32, K32, sq32, g_b32, E_b32, F_b32_token, F_b32_name⟩ := hQ32
      subst hv32
      replace Nf := Fr.app Nf Nq32
      have ne_b27_b32 : b27 ≠ b32 := Nat.ne_of_lt (Nat.lt_of_lt_of_le E_b27.lt sq32)
      have ne_b30_b32 : b30 ≠ b32 := Nat.ne_of_lt (Nat.lt_of_lt_of_le E_b30.lt sq32)
      replace Od := Od.keep K32 all0
      replace E_b27 := E_b27.keep K32
      replace F_b27_token := F_b27_token.keep K32 nin0
      replace F_b27_name := F_b27_name.keep K32 nin0
      replace E_b30 := E_b30.keep K32
      replace F_b30_token := F_b30_token.keep K32 nin0
      replace F_b30_name := F_b30_name.keep K32 nin0
      replace Zs := Nat.le_trans Zs K32.1
      replace hk := Nat.le_trans hk K32.1
      have Sq_b27 := Safe.keep K32 all0 hR.1 Sf_b27
      replace hR := hR.trans (CHr.keep K32 all0 hR.1)
      replace Sf_b27 := Sq_b27
      refine own_goH (x' := T32.setTop (mkF m 104 #[.val (.int p0), .val (.int p1), .val (.int p2), .val (.int p3), .val (.int p4), .val (.int 0), .val (.int 3), .val .null, .val (.ref tk26), .val (.int 1), .val (.ref b27), .val (.int 1)] [(.ref b32)])) st32 ?_
      obtain ⟨cq33, kq33, q33a, q33b, q33c⟩ := isOf hZ rfl E_b32
      obtain ⟨_, _, ⟨T33, L33, k33, n33⟩, -, X33, ⟨Lc33, hQ33, l33, y33, z33⟩, st33⟩ := X32.virtualBack hx (y := (⟨"com/example/lean_bus/leanbus/api/Caller", "isRoot", "()Z"⟩ : MethodName)) (z := (⟨"com/example/lean_bus/leanbus/api/Caller", "isRoot", "()Z"⟩ : MethodName)) hown (mvT hZ (own_w hw 22 rfl)) (mvT hZ (own_w hw 23 rfl)) (notFace_of_selects (args := #[]) (mvT hZ (own_w hw 25 rfl))) (mvT hZ (own_w hw 25 rfl)) (mvT hZ (own_w hw 24 rfl)) (by decide) (backOf (W := 0) (rm5N l Z a0 hw [] b32  T32.heap n0 Zs F_b32_token) hZ (own_w hw 26 rfl) (own_w hw 6 rfl) (by decide) (by decide)) q33a q33c (g := (mkF m 104 #[.val (.int p0), .val (.int p1), .val (.int p2), .val (.int p3), .val (.int p4), .val (.int 0), .val (.int 3), .val .null, .val (.ref tk26), .val (.int 1), .val (.ref b27), .val (.int 1)] [(.ref b32)])) rfl (by rw [hml]; rfl) (Steps.refl _) (argsL := []) (rest := []) (lenOf pd_8 rfl) rfl (by show 2 * 0 + _ ≤ _; exact Nat.le_of_eq rfl) (hb hby at_104) (fun _ _ => ⟨rfl, rfl, (by decide : 6 + 0 ≤ _), (by decide : 14 + 0 ≤ _)⟩)
      dsimp only [Pt.U, Pt.locs, Pt.cells, Pt.slots] at X33 l33 y33 z33 st33 hQ33
      subst l33 y33 z33
      obtain ⟨hv33, Nq33, eq33⟩ := hQ33
      subst hv33
      replace Nf := Fr.app Nf Nq33
      refine own_goH (x' := T33.setTop (mkF m 107 #[.val (.int p0), .val (.int p1), .val (.int p2), .val (.int p3), .val (.int p4), .val (.int 0), .val (.int 3), .val .null, .val (.ref tk26), .val (.int 1), .val (.ref b27), .val (.int 1)] [(.int 1)])) (fun _ k => st33.trans k) ?_
      refine own_goH (x' := T33.setTop (mkF m 121 #[.val (.int p0), .val (.int p1), .val (.int p2), .val (.int p3), .val (.int p4), .val (.int 0), .val (.int 3), .val .null, .val (.ref tk26), .val (.int 1), .val (.ref b27), .val (.int 1)] [(.int 1)])) (fun _ k => XS.iload X33.here hx rfl (hb hby at_107) rfl (XS.icmpNo X33.here hx rfl (hb hby at_109) rfl (teq rfl).2 (XS.iconst X33.here hx rfl (hb hby at_112) (XS.goto X33.here hx rfl (pc0 := 113) (pc' := 117) rfl (hb hby at_113) (by decide) (by decide) (XS.istore X33.here hx rfl (hb hby at_117) rfl (l' := #[.val (.int p0), .val (.int p1), .val (.int p2), .val (.int p3), .val (.int p4), .val (.int 0), .val (.int 3), .val .null, .val (.ref tk26), .val (.int 1), .val (.ref b27), .val (.int 1)]) rfl (XS.iload X33.here hx rfl (hb hby at_119) rfl k)))))) ?_
      refine own_retNH X33 hS (own_hk eq33 hk) (own_hr eq33 hR) hZ (own_EW hw) hx hlk (t := .boolean) hret (by simp) (hb hby at_121) (w := (1 : Int32)) rfl ?_ (by decide) (by decide)
      rw [eq33]
      exact ⟨rfl, Nf⟩
  · refine own_goH (x' := s₁.setTop (mkF m 16 #[.val (.int p0), .val (.int p1), .val (.int p2), .val (.int p3), .val (.int p4), .val (.int 1), .val (.int nkv), .unset, .unset, .unset, .unset, .unset] [(.int p2), (.int p1), (.int 1)])) (fun _ k => XS.iload X0.here hx rfl (hb hby at_12) rfl (XS.iloadN X0.here hx rfl (hb hby at_14) rfl (XS.iloadN X0.here hx rfl (hb hby at_15) rfl k))) ?_
    obtain ⟨_, _, ⟨T34, L34, k34, n34⟩, -, X34, Sw34, Gw34, ⟨Lc34, hQ34, l34, y34, z34, Cw34⟩, st34⟩ := Jvm.RoadKit.callSS X0 hx (y := (⟨"com/example/lean_bus/leanbus/api/CallerIsRootPinLaw", "draw", "(III)Ljava/lang/String;"⟩ : MethodName)) hown (mvT hZ (own_w hw 0 rfl)) (mvT hZ (own_w hw 1 rfl)) (mvT hZ (own_w hw 2 rfl)) (mvT hZ (own_w hw 3 rfl)) (by decide) (backOfSH (W := 0) (rm1_1 l Z a0 hw [] p1 p2 G1 h0 n0 Zs Od S_COMPACT_STRINGS hG) hZ (own_w hw 3 rfl) (own_w hw 2 rfl) (by decide) (by decide) (own_EW hw) hR.1) (g := (mkF m 16 #[.val (.int p0), .val (.int p1), .val (.int p2), .val (.int p3), .val (.int p4), .val (.int 1), .val (.int nkv), .unset, .unset, .unset, .unset, .unset] [(.int p2), (.int p1), (.int 1)])) rfl (by rw [hml]; rfl) (argsL := [(.int 1), (.int p1), (.int p2)]) (rest := []) (lenOf pd_7 rfl) rfl (by show 2 * 0 + _ ≤ _; exact Nat.le_of_eq rfl) (hb hby at_16) (fun _ _ => ⟨rfl, e0, (by decide : 0 + 6 ≤ _), (by decide : 0 + 12 ≤ _)⟩)
    dsimp only [Pt.U, Pt.locs, Pt.cells, Pt.slots] at X34 l34 y34 z34 st34 hQ34 Sw34 Gw34 Cw34
    subst l34 y34 z34
    obtain ⟨X34, Sw34, hZ, hown⟩ := rebS hS (own_hk e0 hk) X34 Sw34 Gw34 hZ hown
    replace hR := hR.trans Cw34
    obtain ⟨tk34, hv34, Nq34, K34⟩ := hQ34
    subst hv34
    replace Nf := Fr.app Nf Nq34
    replace Od := Od.keep K34 all0
    replace Zs := Nat.le_trans Zs K34.1
    replace hk := Nat.le_trans hk K34.1
    replace hS := Sw34
    replace hk := Nat.le_refl (Array.size T34.heap)
    refine own_goH (x' := T34.setTop (mkF m 19 #[.val (.int p0), .val (.int p1), .val (.int p2), .val (.int p3), .val (.int p4), .val (.int 1), .val (.int nkv), .unset, .unset, .unset, .unset, .unset] [(.ref tk34)])) (fun _ k => st34.trans k) ?_
    refine own_goH (x' := T34.setTop (mkF m 21 #[.val (.int p0), .val (.int p1), .val (.int p2), .val (.int p3), .val (.int p4), .val (.int 1), .val (.int nkv), .val (.ref tk34), .unset, .unset, .unset, .unset] [])) (fun _ k => XS.astore X34.here hx rfl (hb hby at_19) rfl rfl (l' := #[.val (.int p0), .val (.int p1), .val (.int p2), .val (.int p3), .val (.int p4), .val (.int 1), .val (.int nkv), .val (.ref tk34), .unset, .unset, .unset, .unset]) rfl k) ?_
    rcases hnk with rfl | rfl | rfl | rfl
    · refine own_goH (x' := T34.setTop (mkF m 26 #[.val (.int p0), .val (.int p1), .val (.int p2), .val (.int p3), .val (.int p4), .val (.int 1), .val (.int 0), .val (.ref tk34), .unset, .unset, .unset, .unset] [(.int p4), (.int p3), (.int 0)])) (fun _ k => XS.iload X34.here hx rfl (hb hby at_21) rfl (XS.iloadN X34.here hx rfl (hb hby at_23) rfl (XS.iload X34.here hx rfl (hb hby at_24) rfl k))) ?_
      obtain ⟨_, _, ⟨T35, L35, k35, n35⟩, -, X35, ⟨Lc35, hQ35, l35, y35, z35⟩, st35⟩ := Jvm.LawKit.callS X34 hx (y := (⟨"com/example/lean_bus/leanbus/api/CallerIsRootPinLaw", "draw", "(III)Ljava/lang/String;"⟩ : MethodName)) hown (mvT hZ (own_w hw 0 rfl)) (mvT hZ (own_w hw 1 rfl)) (mvT hZ (own_w hw 2 rfl)) (mvT hZ (own_w hw 3 rfl)) (by decide) (backOf (W := 0) (rm1_0 l Z a0 hw [] p3 p4 G1 T34.heap n0 Zs Od S_COMPACT_STRINGS hG) hZ (own_w hw 3 rfl) (own_w hw 2 rfl) (by decide) (by decide)) (g := (mkF m 26 #[.val (.int p0), .val (.int p1), .val (.int p2), .val (.int p3), .val (.int p4), .val (.int 1), .val (.int 0), .val (.ref tk34), .unset, .unset, .unset, .unset] [(.int p4), (.int p3), (.int 0)])) rfl (by rw [hml]; rfl) (argsL := [(.int 0), (.int p3), (.int p4)]) (rest := []) (lenOf pd_7 rfl) rfl (by show 2 * 0 + _ ≤ _; exact Nat.le_of_eq rfl) (hb hby at_26) (fun _ _ => ⟨rfl, rfl, (by decide : 6 + 0 ≤ _), (by decide : 12 + 0 ≤ _)⟩)
      dsimp only [Pt.U, Pt.locs, Pt.cells, Pt.slots] at X35 l35 y35 z35 st35 hQ35
      subst l35 y35 z35
      obtain ⟨hv35, Nq35, eq35⟩ := hQ35
      subst hv35
      replace Nf := Fr.app Nf Nq35
      refine own_goH (x' := T35.setTop (mkF m 29 #[.val (.int p0), .val (.int p1), .val (.int p2), .val (.int p3), .val (.int p4), .val (.int 1), .val (.int 0), .val (.ref tk34), .unset, .unset, .unset, .unset] [.null])) st35 ?_
      refine own_goH (x' := T35.setTop (mkF m 43 #[.val (.int p0), .val (.int p1), .val (.int p2), .val (.int p3), .val (.int p4), .val (.int 1), .val (.int 0), .val (.ref tk34), .val .null, .val (.int 0), .unset, .unset] [])) (fun _ k => XS.astore X35.here hx rfl (hb hby at_29) rfl rfl (l' := #[.val (.int p0), .val (.int p1), .val (.int p2), .val (.int p3), .val (.int p4), .val (.int 1), .val (.int 0), .val (.ref tk34), .val .null, .unset, .unset, .unset]) rfl (XS.iload X35.here hx rfl (hb hby at_31) rfl (XS.ifYes X35.here hx rfl (pc0 := 33) (pc' := 40) rfl (hb hby at_33) rfl ((if0 _ _).trans (feq (by decide +kernel : ¬ ((1 : Int32) = (0 : Int32)))).2) (by decide) (by decide) (XS.iconst X35.here hx rfl (hb hby at_40) (XS.istore X35.here hx rfl (hb hby at_41) rfl (l' := #[.val (.int p0), .val (.int p1), .val (.int p2), .val (.int p3), .val (.int p4), .val (.int 1), .val (.int 0), .val (.ref tk34), .val .null, .val (.int 0), .unset, .unset]) rfl k))))) ?_
      obtain ⟨T36, h36, X36, e36, E36, A36, D36, -, st36⟩ := newO X35 hx hZ hown (own_w hw 4 rfl) (own_w hw 5 rfl) (own_w hw 6 rfl) eq35 (g := (mkF m 43 #[.val (.int p0), .val (.int p1), .val (.int p2), .val (.int p3), .val (.int p4), .val (.int 1), .val (.int 0), .val (.ref tk34), .val .null, .val (.int 0), .unset, .unset] [])) rfl (hb hby at_43) (by decide) (by decide)
      obtain ⟨b36, g36⟩ : ∃ z, z = T34.heap.size := ⟨_, rfl⟩
      rw [← g36] at A36 D36 st36
      have g_b36 : n0 ≤ b36 := Nat.le_trans Zs (Nat.le_of_eq g36.symm)
      have Sf_b36 := own_sfn hR (Nat.le_of_eq g36.symm)
      replace Od := Od.ext E36
      replace Zs := Nat.le_trans Zs E36.1
      replace hk := Nat.le_trans hk E36.1
      have Sq_b36 := Safe.ext E36 hR.1 Sf_b36
      replace hR := hR.trans (CHr.ext E36 hR.1)
      replace Sf_b36 := Sq_b36
      have E_b36 := A36
      have F_b36_token : Fld Z h36 b36 "com/example/lean_bus/leanbus/api/Caller" "token" "Ljava/lang/String;" .null := D36 (Or.inr (own_w hw 19 rfl)) (ty := (.object "java/lang/String")) (by decide)
      have F_b36_name : Fld Z h36 b36 "com/example/lean_bus/leanbus/api/Caller" "name" "Ljava/lang/String;" .null := D36 (Or.inr (own_w hw 21 rfl)) (ty := (.object "java/lang/String")) (by decide)
      refine own_goH (x' := T36.setTop (mkF m 46 #[.val (.int p0), .val (.int p1), .val (.int p2), .val (.int p3), .val (.int p4), .val (.int 1), .val (.int 0), .val (.ref tk34), .val .null, .val (.int 0), .unset, .unset] [(.ref b36)])) st36 ?_
      refine own_goH (x' := T36.setTop (mkF m 51 #[.val (.int p0), .val (.int p1), .val (.int p2), .val (.int p3), .val (.int p4), .val (.int 1), .val (.int 0), .val (.ref tk34), .val .null, .val (.int 0), .unset, .unset] [.null, (.ref tk34), (.ref b36), (.ref b36)])) (fun _ k => XS.dup X36.here hx rfl (hb hby at_46) rfl rfl (XS.aload X36.here hx rfl (hb hby at_47) rfl rfl (XS.aload X36.here hx rfl (hb hby at_49) rfl rfl k))) ?_
      obtain ⟨_, _, ⟨T37, L37, k37, n37⟩, -, X37, ⟨Lc37, hQ37, l37, y37, z37⟩, st37⟩ := X36.specialBack hx (y := (⟨"com/example/lean_bus/leanbus/api/Caller", "<init>", "(Ljava/lang/String;Ljava/lang/String;)V"⟩ : MethodName)) rfl hown (mvT hZ (own_w hw 7 rfl)) (mvT hZ (own_w hw 8 rfl)) (mvT hZ (own_w hw 9 rfl)) (by decide) (backOf (W := 1) (rm2RN l Z a0 hw [] b36 tk34 h36 n0 Zs E_b36 F_b36_token F_b36_name g_b36) hZ (own_w hw 9 rfl) (own_w hw 6 rfl) (by decide) (by decide)) (g := (mkF m 51 #[.val (.int p0), .val (.int p1), .val (.int p2), .val (.int p3), .val (.int p4), .val (.int 1), .val (.int 0), .val (.ref tk34), .val .null, .val (.int 0), .unset, .unset] [.null, (.ref tk34), (.ref b36), (.ref b36)])) rfl (by rw [hml]; rfl) (Steps.refl _) (a := b36) (argsL := [(.ref tk34), .null]) (rest := [(.ref b36)]) (lenOf pd_6 rfl) rfl (by show 2 * 0 + _ ≤ _; exact Nat.le_of_eq rfl) (hb hby at_51) (fun _ _ => ⟨rfl, e36, (by decide : 7 + 0 ≤ _), (by decide : 14 + 0 ≤ _)⟩)
      dsimp only [Pt.U, Pt.locs, Pt.cells, Pt.slots] at X37 l37 y37 z37 st37 hQ37
      subst l37 y37 z37
      obtain ⟨hv37, Nq37, K37, Eo37, Fo37_0, Fo37_1⟩ := hQ37
      subst hv37
      replace Nf := Fr.app Nf Nq37
      replace Od := Od.keep K37 (allS g_b36 all0)
      replace Zs := Nat.le_trans Zs K37.1
      replace hk := Nat.le_trans hk K37.1
      have Sq_b36 := Safe.keep K37 (allS Sf_b36 all0) hR.1 Sf_b36
      replace hR := hR.trans (CHr.keep K37 (allS Sf_b36 all0) hR.1)
      replace Sf_b36 := Sq_b36
      replace E_b36 := Eo37
      replace F_b36_token := Fo37_0
      replace F_b36_name := Fo37_1
      refine own_goH (x' := T37.setTop (mkF m 54 #[.val (.int p0), .val (.int p1), .val (.int p2), .val (.int p3), .val (.int p4), .val (.int 1), .val (.int 0), .val (.ref tk34), .val .null, .val (.int 0), .unset, .unset] [(.ref b36)])) (fun _ k => st37.trans k) ?_
      refine own_goH (x' := T37.setTop (mkF m 58 #[.val (.int p0), .val (.int p1), .val (.int p2), .val (.int p3), .val (.int p4), .val (.int 1), .val (.int 0), .val (.ref tk34), .val .null, .val (.int 0), .val (.ref b36), .unset] [(.ref b36)])) (fun _ k => XS.astore X37.here hx rfl (hb hby at_54) rfl rfl (l' := #[.val (.int p0), .val (.int p1), .val (.int p2), .val (.int p3), .val (.int p4), .val (.int 1), .val (.int 0), .val (.ref tk34), .val .null, .val (.int 0), .val (.ref b36), .unset]) rfl (XS.aload X37.here hx rfl (hb hby at_56) rfl rfl k)) ?_
      obtain ⟨cq38, kq38, q38a, q38b, q38c⟩ := isOf hZ rfl E_b36
      obtain ⟨_, _, ⟨T38, L38, k38, n38⟩, -, X38, ⟨Lc38, hQ38, l38, y38, z38⟩, st38⟩ := X37.virtualBack hx (y := (⟨"com/example/lean_bus/leanbus/api/Caller", "isRoot", "()Z"⟩ : MethodName)) (z := (⟨"com/example/lean_bus/leanbus/api/Caller", "isRoot", "()Z"⟩ : MethodName)) hown (mvT hZ (own_w hw 22 rfl)) (mvT hZ (own_w hw 23 rfl)) (notFace_of_selects (args := #[]) (mvT hZ (own_w hw 25 rfl))) (mvT hZ (own_w hw 25 rfl)) (mvT hZ (own_w hw 24 rfl)) (by decide) (backOf (W := 0) (rm5R l Z a0 hw [] b36 tk34 T37.heap n0 Zs F_b36_token) hZ (own_w hw 26 rfl) (own_w hw 6 rfl) (by decide) (by decide)) q38a q38c (g := (mkF m 58 #[.val (.int p0), .val (.int p1), .val (.int p2), .val (.int p3), .val (.int p4), .val (.int 1), .val (.int 0), .val (.ref tk34), .val .null, .val (.int 0), .val (.ref b36), .unset] [(.ref b36)])) rfl (by rw [hml]; rfl) (Steps.refl _) (argsL := []) (rest := []) (lenOf pd_8 rfl) rfl (by show 2 * 0 + _ ≤ _; exact Nat.le_of_eq rfl) (hb hby at_58) (fun _ _ => ⟨rfl, rfl, (by decide : 7 + 0 ≤ _), (by decide : 14 + 0 ≤ _)⟩)
      dsimp only [Pt.U, Pt.locs, Pt.cells, Pt.slots] at X38 l38 y38 z38 st38 hQ38
      subst l38 y38 z38
      obtain ⟨hv38, Nq38, eq38⟩ := hQ38
      subst hv38
      replace Nf := Fr.app Nf Nq38
      refine own_goH (x' := T38.setTop (mkF m 61 #[.val (.int p0), .val (.int p1), .val (.int p2), .val (.int p3), .val (.int p4), .val (.int 1), .val (.int 0), .val (.ref tk34), .val .null, .val (.int 0), .val (.ref b36), .unset] [(.int 0)])) (fun _ k => st38.trans k) ?_
      refine own_goH (x' := T38.setTop (mkF m 75 #[.val (.int p0), .val (.int p1), .val (.int p2), .val (.int p3), .val (.int p4), .val (.int 1), .val (.int 0), .val (.ref tk34), .val .null, .val (.int 0), .val (.ref b36), .val (.int 1)] [(.int 1)])) (fun _ k => XS.iload X38.here hx rfl (hb hby at_61) rfl (XS.icmpNo X38.here hx rfl (hb hby at_63) rfl (teq rfl).2 (XS.iconst X38.here hx rfl (hb hby at_66) (XS.goto X38.here hx rfl (pc0 := 67) (pc' := 71) rfl (hb hby at_67) (by decide) (by decide) (XS.istore X38.here hx rfl (hb hby at_71) rfl (l' := #[.val (.int p0), .val (.int p1), .val (.int p2), .val (.int p3), .val (.int p4), .val (.int 1), .val (.int 0), .val (.ref tk34), .val .null, .val (.int 0), .val (.ref b36), .val (.int 1)]) rfl (XS.iload X38.here hx rfl (hb hby at_73) rfl k)))))) ?_
      refine own_goH (x' := T38.setTop (mkF m 78 #[.val (.int p0), .val (.int p1), .val (.int p2), .val (.int p3), .val (.int p4), .val (.int 1), .val (.int 0), .val (.ref tk34), .val .null, .val (.int 0), .val (.ref b36), .val (.int 1)] [])) (fun _ k => XS.ifNo X38.here hx rfl (hb hby at_75) rfl ((if0 _ _).trans (feq (by decide +kernel : ¬ ((1 : Int32) = (0 : Int32)))).1) k) ?_
      obtain ⟨_, _, ⟨T39, L39, k39, n39⟩, -, X39, ⟨Lc39, hQ39, l39, y39, z39⟩, st39⟩ := Jvm.LawKit.callS X38 hx (y := (⟨"com/example/lean_bus/leanbus/api/Caller", "root", "()Lcom/example/lean_bus/leanbus/api/Caller;"⟩ : MethodName)) hown (mvT hZ (own_w hw 27 rfl)) (mvT hZ (own_w hw 28 rfl)) (mvT hZ (own_w hw 6 rfl)) (mvT hZ (own_w hw 29 rfl)) (by decide) (backOf (W := 0) (rm6 l Z a0 hw []  T37.heap n0 Zs ) hZ (own_w hw 29 rfl) (own_w hw 6 rfl) (by decide) (by decide)) (g := (mkF m 78 #[.val (.int p0), .val (.int p1), .val (.int p2), .val (.int p3), .val (.int p4), .val (.int 1), .val (.int 0), .val (.ref tk34), .val .null, .val (.int 0), .val (.ref b36), .val (.int 1)] [])) rfl (by rw [hml]; rfl) (argsL := []) (rest := []) (lenOf pd_9 rfl) rfl (by show 2 * 0 + _ ≤ _; exact Nat.le_of_eq rfl) (hb hby at_78) (fun _ _ => ⟨rfl, eq38, (by decide : 7 + 1 ≤ _), (by decide : 14 + 2 ≤ _)⟩)
      dsimp only [Pt.U, Pt.locs, Pt.cells, Pt.slots] at X39 l39 y39 z39 st39 hQ39
      subst l39 y39 z39
      obtain ⟨b39, hv39, Nq39, K39, sq39, g_b39, E_b39, F_b39_token, F_b39_name⟩ := hQ39
      subst hv39
      replace Nf := Fr.app Nf Nq39
      have ne_b36_b39 : b36 ≠ b39 := Nat.ne_of_lt (Nat.lt_of_lt_of_le E_b36.lt sq39)
      replace Od := Od.keep K39 all0
      replace E_b36 := E_b36.keep K39
      replace F_b36_token := F_b36_token.keep K39 nin0
      replace F_b36_name := F_b36_name.keep K39 nin0
      replace Zs := Nat.le_trans Zs K39.1
      replace hk := Nat.le_trans hk K39.1
      have Sq_b36 := Safe.keep K39 all0 hR.1 Sf_b36
      replace hR := hR.trans (CHr.keep K39 all0 hR.1)
      replace Sf_b36 := Sq_b36
      refine own_goH (x' := T39.setTop (mkF m 81 #[.val (.int p0), .val (.int p1), .val (.int p2), .val (.int p3), .val (.int p4), .val (.int 1), .val (.int 0), .val (.ref tk34), .val .null, .val (.int 0), .val (.ref b36), .val (.int 1)] [(.ref b39)])) st39 ?_
      obtain ⟨cq40, kq40, q40a, q40b, q40c⟩ := isOf hZ rfl E_b39
      obtain ⟨_, _, ⟨T40, L40, k40, n40⟩, -, X40, ⟨Lc40, hQ40, l40, y40, z40⟩, st40⟩ := X39.virtualBack hx (y := (⟨"com/example/lean_bus/leanbus/api/Caller", "isRoot", "()Z"⟩ : MethodName)) (z := (⟨"com/example/lean_bus/leanbus/api/Caller", "isRoot", "()Z"⟩ : MethodName)) hown (mvT hZ (own_w hw 22 rfl)) (mvT hZ (own_w hw 23 rfl)) (notFace_of_selects (args := #[]) (mvT hZ (own_w hw 25 rfl))) (mvT hZ (own_w hw 25 rfl)) (mvT hZ (own_w hw 24 rfl)) (by decide) (backOf (W := 0) (rm5N l Z a0 hw [] b39  T39.heap n0 Zs F_b39_token) hZ (own_w hw 26 rfl) (own_w hw 6 rfl) (by decide) (by decide)) q40a q40c (g := (mkF m 81 #[.val (.int p0), .val (.int p1), .val (.int p2), .val (.int p3), .val (.int p4), .val (.int 1), .val (.int 0), .val (.ref tk34), .val .null, .val (.int 0), .val (.ref b36), .val (.int 1)] [(.ref b39)])) rfl (by rw [hml]; rfl) (Steps.refl _) (argsL := []) (rest := []) (lenOf pd_8 rfl) rfl (by show 2 * 0 + _ ≤ _; exact Nat.le_of_eq rfl) (hb hby at_81) (fun _ _ => ⟨rfl, rfl, (by decide : 8 + 0 ≤ _), (by decide : 16 + 0 ≤ _)⟩)
      dsimp only [Pt.U, Pt.locs, Pt.cells, Pt.slots] at X40 l40 y40 z40 st40 hQ40
      subst l40 y40 z40
      obtain ⟨hv40, Nq40, eq40⟩ := hQ40
      subst hv40
      replace Nf := Fr.app Nf Nq40
      refine own_goH (x' := T40.setTop (mkF m 84 #[.val (.int p0), .val (.int p1), .val (.int p2), .val (.int p3), .val (.int p4), .val (.int 1), .val (.int 0), .val (.ref tk34), .val .null, .val (.int 0), .val (.ref b36), .val (.int 1)] [(.int 1)])) (fun _ k => st40.trans k) ?_
      refine own_goH (x' := T40.setTop (mkF m 99 #[.val (.int p0), .val (.int p1), .val (.int p2), .val (.int p3), .val (.int p4), .val (.int 1), .val (.int 0), .val (.ref tk34), .val .null, .val (.int 0), .val (.ref b36), .val (.int 1)] [])) (fun _ k => XS.ifNo X40.here hx rfl (hb hby at_84) rfl ((if0 _ _).trans (feq (by decide +kernel : ¬ ((1 : Int32) = (0 : Int32)))).1) (XS.iconst X40.here hx rfl (hb hby at_87) (XS.goto X40.here hx rfl (pc0 := 88) (pc' := 92) rfl (hb hby at_88) (by decide) (by decide) (XS.istore X40.here hx rfl (hb hby at_92) rfl (l' := #[.val (.int p0), .val (.int p1), .val (.int p2), .val (.int p3), .val (.int p4), .val (.int 1), .val (.int 0), .val (.ref tk34), .val .null, .val (.int 0), .val (.ref b36), .val (.int 1)]) rfl (XS.iload X40.here hx rfl (hb hby at_94) rfl (XS.ifNo X40.here hx rfl (hb hby at_96) rfl ((if0 _ _).trans (feq (by decide +kernel : ¬ ((1 : Int32) = (0 : Int32)))).1) k)))))) ?_
      refine own_goH (x' := T40.setTop (mkF m 101 #[.val (.int p0), .val (.int p1), .val (.int p2), .val (.int p3), .val (.int p4), .val (.int 1), .val (.int 0), .val (.ref tk34), .val .null, .val (.int 0), .val (.ref b36), .val (.int 1)] [(.ref tk34)])) (fun _ k => XS.aload X40.here hx rfl (hb hby at_99) rfl rfl k) ?_
      obtain ⟨_, _, ⟨T41, L41, k41, n41⟩, -, X41, ⟨Lc41, hQ41, l41, y41, z41⟩, st41⟩ := Jvm.LawKit.callS X40 hx (y := (⟨"com/example/lean_bus/leanbus/api/Caller", "unchecked", "(Ljava/lang/String;)Lcom/example/lean_bus/leanbus/api/Caller;"⟩ : MethodName)) hown (mvT hZ (own_w hw 32 rfl)) (mvT hZ (own_w hw 33 rfl)) (mvT hZ (own_w hw 6 rfl)) (mvT hZ (own_w hw 34 rfl)) (by decide) (backOf (W := 0) (rm7R l Z a0 hw [] tk34 T39.heap n0 Zs ) hZ (own_w hw 34 rfl) (own_w hw 6 rfl) (by decide) (by decide)) (g := (mkF m 101 #[.val (.int p0), .val (.int p1), .val (.int p2), .val (.int p3), .val (.int p4), .val (.int 1), .val (.int 0), .val (.ref tk34), .val .null, .val (.int 0), .val (.ref b36), .val (.int 1)] [(.ref tk34)])) rfl (by rw [hml]; rfl) (argsL := [(.ref tk34)]) (rest := []) (lenOf pd_10 rfl) rfl (by show 2 * 0 + _ ≤ _; exact Nat.le_of_eq rfl) (hb hby at_101) (fun _ _ => ⟨rfl, eq40, (by decide : 8 + 1 ≤ _), (by decide : 16 + 2 ≤ _)⟩)
      dsimp only [Pt.U, Pt.locs, Pt.cells, Pt.slots] at X41 l41 y41 z41 st41 hQ41
      subst l41 y41 z41
      obtain ⟨b41, hv41, Nq41, K41, sq41, g_b41, E_b41, F_b41_token, F_b41_name⟩ := hQ41
      subst hv41
      replace Nf := Fr.app Nf Nq41
      have ne_b36_b41 : b36 ≠ b41 := Nat.ne_of_lt (Nat.lt_of_lt_of_le E_b36.lt sq41)
      have ne_b39_b41 : b39 ≠ b41 := Nat.ne_of_lt (Nat.lt_of_lt_of_le E_b39.lt sq41)
      replace Od := Od.keep K41 all0
      replace E_b36 := E_b36.keep K41
      replace F_b36_token := F_b36_token.keep K41 nin0
      replace F_b36_name := F_b36_name.keep K41 nin0
      replace E_b39 := E_b39.keep K41
      replace F_b39_token := F_b39_token.keep K41 nin0
      replace F_b39_name := F_b39_name.keep K41 nin0
      replace Zs := Nat.le_trans Zs K41.1
      replace hk := Nat.le_trans hk K41.1
      have Sq_b36 := Safe.keep K41 all0 hR.1 Sf_b36
      replace hR := hR.trans (CHr.keep K41 all0 hR.1)
      replace Sf_b36 := Sq_b36
      refine own_goH (x' := T41.setTop (mkF m 104 #[.val (.int p0), .val (.int p1), .val (.int p2), .val (.int p3), .val (.int p4), .val (.int 1), .val (.int 0), .val (.ref tk34), .val .null, .val (.int 0), .val (.ref b36), .val (.int 1)] [(.ref b41)])) st41 ?_
      obtain ⟨cq42, kq42, q42a, q42b, q42c⟩ := isOf hZ rfl E_b41
      obtain ⟨_, _, ⟨T42, L42, k42, n42⟩, -, X42, ⟨Lc42, hQ42, l42, y42, z42⟩, st42⟩ := X41.virtualBack hx (y := (⟨"com/example/lean_bus/leanbus/api/Caller", "isRoot", "()Z"⟩ : MethodName)) (z := (⟨"com/example/lean_bus/leanbus/api/Caller", "isRoot", "()Z"⟩ : MethodName)) hown (mvT hZ (own_w hw 22 rfl)) (mvT hZ (own_w hw 23 rfl)) (notFace_of_selects (args := #[]) (mvT hZ (own_w hw 25 rfl))) (mvT hZ (own_w hw 25 rfl)) (mvT hZ (own_w hw 24 rfl)) (by decide) (backOf (W := 0) (rm5R l Z a0 hw [] b41 tk34 T41.heap n0 Zs F_b41_token) hZ (own_w hw 26 rfl) (own_w hw 6 rfl) (by decide) (by decide)) q42a q42c (g := (mkF m 104 #[.val (.int p0), .val (.int p1), .val (.int p2), .val (.int p3), .val (.int p4), .val (.int 1), .val (.int 0), .val (.ref tk34), .val .null, .val (.int 0), .val (.ref b36), .val (.int 1)] [(.ref b41)])) rfl (by rw [hml]; rfl) (Steps.refl _) (argsL := []) (rest := []) (lenOf pd_8 rfl) rfl (by show 2 * 0 + _ ≤ _; exact Nat.le_of_eq rfl) (hb hby at_104) (fun _ _ => ⟨rfl, rfl, (by decide : 9 + 0 ≤ _), (by decide : 18 + 0 ≤ _)⟩)
      dsimp only [Pt.U, Pt.locs, Pt.cells, Pt.slots] at X42 l42 y42 z42 st42 hQ42
      subst l42 y42 z42
      obtain ⟨hv42, Nq42, eq42⟩ := hQ42
      subst hv42
      replace Nf := Fr.app Nf Nq42
      refine own_goH (x' := T42.setTop (mkF m 107 #[.val (.int p0), .val (.int p1), .val (.int p2), .val (.int p3), .val (.int p4), .val (.int 1), .val (.int 0), .val (.ref tk34), .val .null, .val (.int 0), .val (.ref b36), .val (.int 1)] [(.int 0)])) (fun _ k => st42.trans k) ?_
      refine own_goH (x' := T42.setTop (mkF m 121 #[.val (.int p0), .val (.int p1), .val (.int p2), .val (.int p3), .val (.int p4), .val (.int 1), .val (.int 0), .val (.ref tk34), .val .null, .val (.int 0), .val (.ref b36), .val (.int 1)] [(.int 1)])) (fun _ k => XS.iload X42.here hx rfl (hb hby at_107) rfl (XS.icmpNo X42.here hx rfl (hb hby at_109) rfl (teq rfl).2 (XS.iconst X42.here hx rfl (hb hby at_112) (XS.goto X42.here hx rfl (pc0 := 113) (pc' := 117) rfl (hb hby at_113) (by decide) (by decide) (XS.istore X42.here hx rfl (hb hby at_117) rfl (l' := #[.val (.int p0), .val (.int p1), .val (.int p2), .val (.int p3), .val (.int p4), .val (.int 1), .val (.int 0), .val (.ref tk34), .val .null, .val (.int 0), .val (.ref b36), .val (.int 1)]) rfl (XS.iload X42.here hx rfl (hb hby at_119) rfl k)))))) ?_
      refine own_retNH X42 hS (own_hk eq42 hk) (own_hr eq42 hR) hZ (own_EW hw) hx hlk (t := .boolean) hret (by simp) (hb hby at_121) (w := (1 : Int32)) rfl ?_ (by decide) (by decide)
      rw [eq42]
      exact ⟨rfl, Nf⟩
    · refine own_goH (x' := T34.setTop (mkF m 26 #[.val (.int p0), .val (.int p1), .val (.int p2), .val (.int p3), .val (.int p4), .val (.int 1), .val (.int 1), .val (.ref tk34), .unset, .unset, .unset, .unset] [(.int p4), (.int p3), (.int 1)])) (fun _ k => XS.iload X34.here hx rfl (hb hby at_21) rfl (XS.iloadN X34.here hx rfl (hb hby at_23) rfl (XS.iload X34.here hx rfl (hb hby at_24) rfl k))) ?_
      obtain ⟨_, _, ⟨T43, L43, k43, n43⟩, -, X43, Sw43, Gw43, ⟨Lc43, hQ43, l43, y43, z43, Cw43⟩, st43⟩ := Jvm.RoadKit.callSS X34 hx (y := (⟨"com/example/lean_bus/leanbus/api/CallerIsRootPinLaw", "draw", "(III)Ljava/lang/String;"⟩ : MethodName)) hown (mvT hZ (own_w hw 0 rfl)) (mvT hZ (own_w hw 1 rfl)) (mvT hZ (own_w hw 2 rfl)) (mvT hZ (own_w hw 3 rfl)) (by decide) (backOfSH (W := 0) (rm1_1 l Z a0 hw [] p3 p4 G1 T34.heap n0 Zs Od S_COMPACT_STRINGS hG) hZ (own_w hw 3 rfl) (own_w hw 2 rfl) (by decide) (by decide) (own_EW hw) hR.1) (g := (mkF m 26 #[.val (.int p0), .val (.int p1), .val (.int p2), .val (.int p3), .val (.int p4), .val (.int 1), .val (.int 1), .val (.ref tk34), .unset, .unset, .unset, .unset] [(.int p4), (.int p3), (.int 1)])) rfl (by rw [hml]; rfl) (argsL := [(.int 1), (.int p3), (.int p4)]) (rest := []) (lenOf pd_7 rfl) rfl (by show 2 * 0 + _ ≤ _; exact Nat.le_of_eq rfl) (hb hby at_26) (fun _ _ => ⟨rfl, rfl, (by decide : 6 + 6 ≤ _), (by decide : 12 + 12 ≤ _)⟩)
      dsimp only [Pt.U, Pt.locs, Pt.cells, Pt.slots] at X43 l43 y43 z43 st43 hQ43 Sw43 Gw43 Cw43
      subst l43 y43 z43
      obtain ⟨X43, Sw43, hZ, hown⟩ := rebS hS (own_hk rfl hk) X43 Sw43 Gw43 hZ hown
      replace hR := hR.trans Cw43
      obtain ⟨tk43, hv43, Nq43, K43⟩ := hQ43
      subst hv43
      replace Nf := Fr.app Nf Nq43
      replace Od := Od.keep K43 all0
      replace Zs := Nat.le_trans Zs K43.1
      replace hk := Nat.le_trans hk K43.1
      replace hS := Sw43
      replace hk := Nat.le_refl (Array.size T43.heap)
      refine own_goH (x' := T43.setTop (mkF m 29 #[.val (.int p0), .val (.int p1), .val (.int p2), .val (.int p3), .val (.int p4), .val (.int 1), .val (.int 1), .val (.ref tk34), .unset, .unset, .unset, .unset] [(.ref tk43)])) (fun _ k => st43.trans k) ?_
      refine own_goH (x' := T43.setTop (mkF m 43 #[.val (.int p0), .val (.int p1), .val (.int p2), .val (.int p3), .val (.int p4), .val (.int 1), .val (.int 1), .val (.ref tk34), .val (.ref tk43), .val (.int 0), .unset, .unset] [])) (fun _ k => XS.astore X43.here hx rfl (hb hby at_29) rfl rfl (l' := #[.val (.int p0), .val (.int p1), .val (.int p2), .val (.int p3), .val (.int p4), .val (.int 1), .val (.int 1), .val (.ref tk34), .val (.ref tk43), .unset, .unset, .unset]) rfl (XS.iload X43.here hx rfl (hb hby at_31) rfl (XS.ifYes X43.here hx rfl (pc0 := 33) (pc' := 40) rfl (hb hby at_33) rfl ((if0 _ _).trans (feq (by decide +kernel : ¬ ((1 : Int32) = (0 : Int32)))).2) (by decide) (by decide) (XS.iconst X43.here hx rfl (hb hby at_40) (XS.istore X43.here hx rfl (hb hby at_41) rfl (l' := #[.val (.int p0), .val (.int p1), .val (.int p2), .val (.int p3), .val (.int p4), .val (.int 1), .val (.int 1), .val (.ref tk34), .val (.ref tk43), .val (.int 0), .unset, .unset]) rfl k))))) ?_
      obtain ⟨T44, h44, X44, e44, E44, A44, D44, -, st44⟩ := newO X43 hx hZ hown (own_w hw 4 rfl) (own_w hw 5 rfl) (own_w hw 6 rfl) rfl (g := (mkF m 43 #[.val (.int p0), .val (.int p1), .val (.int p2), .val (.int p3), .val (.int p4), .val (.int 1), .val (.int 1), .val (.ref tk34), .val (.ref tk43), .val (.int 0), .unset, .unset] [])) rfl (hb hby at_43) (by decide) (by decide)
      obtain ⟨b44, g44⟩ : ∃ z, z = T43.heap.size := ⟨_, rfl⟩
      rw [← g44] at A44 D44 st44
      have g_b44 : n0 ≤ b44 := Nat.le_trans Zs (Nat.le_of_eq g44.symm)
      have Sf_b44 := own_sfn hR (Nat.le_of_eq g44.symm)
      replace Od := Od.ext E44
      replace Zs := Nat.le_trans Zs E44.1
      replace hk := Nat.le_trans hk E44.1
      have Sq_b44 := Safe.ext E44 hR.1 Sf_b44
      replace hR := hR.trans (CHr.ext E44 hR.1)
      replace Sf_b44 := Sq_b44
      have E_b44 := A44
      have F_b44_token : Fld Z h44 b44 "com/example/lean_bus/leanbus/api/Caller" "token" "Ljava/lang/String;" .null := D44 (Or.inr (own_w hw 19 rfl)) (ty := (.object "java/lang/String")) (by decide)
      have F_b44_name : Fld Z h44 b44 "com/example/lean_bus/leanbus/api/Caller" "name" "Ljava/lang/String;" .null := D44 (Or.inr (own_w hw 21 rfl)) (ty := (.object "java/lang/String")) (by decide)
      refine own_goH (x' := T44.setTop (mkF m 46 #[.val (.int p0), .val (.int p1), .val (.int p2), .val (.int p3), .val (.int p4), .val (.int 1), .val (.int 1), .val (.ref tk34), .val (.ref tk43), .val (.int 0), .unset, .unset] [(.ref b44)])) st44 ?_
      refine own_goH (x' := T44.setTop (mkF m 51 #[.val (.int p0), .val (.int p1), .val (.int p2), .val (.int p3), .val (.int p4), .val (.int 1), .val (.int 1), .val (.ref tk34), .val (.ref tk43), .val (.int 0), .unset, .unset] [(.ref tk43), (.ref tk34), (.ref b44), (.ref b44)])) (fun _ k => XS.dup X44.here hx rfl (hb hby at_46) rfl rfl (XS.aload X44.here hx rfl (hb hby at_47) rfl rfl (XS.aload X44.here hx rfl (hb hby at_49) rfl rfl k))) ?_
      obtain ⟨_, _, ⟨T45, L45, k45, n45⟩, -, X45, ⟨Lc45, hQ45, l45, y45, z45⟩, st45⟩ := X44.specialBack hx (y := (⟨"com/example/lean_bus/leanbus/api/Caller", "<init>", "(Ljava/lang/String;Ljava/lang/String;)V"⟩ : MethodName)) rfl hown (mvT hZ (own_w hw 7 rfl)) (mvT hZ (own_w hw 8 rfl)) (mvT hZ (own_w hw 9 rfl)) (by decide) (backOf (W := 1) (rm2RR l Z a0 hw [] b44 tk34 tk43 h44 n0 Zs E_b44 F_b44_token F_b44_name g_b44) hZ (own_w hw 9 rfl) (own_w hw 6 rfl) (by decide) (by decide)) (g := (mkF m 51 #[.val (.int p0), .val (.int p1), .val (.int p2), .val (.int p3), .val (.int p4), .val (.int 1), .val (.int 1), .val (.ref tk34), .val (.ref tk43), .val (.int 0), .unset, .unset] [(.ref tk43), (.ref tk34), (.ref b44), (.ref b44)])) rfl (by rw [hml]; rfl) (Steps.refl _) (a := b44) (argsL := [(.ref tk34), (.ref tk43)]) (rest := [(.ref b44)]) (lenOf pd_6 rfl) rfl (by show 2 * 0 + _ ≤ _; exact Nat.le_of_eq rfl) (hb hby at_51) (fun _ _ => ⟨rfl, e44, (by decide : 13 + 0 ≤ _), (by decide : 26 + 0 ≤ _)⟩)
      dsimp only [Pt.U, Pt.locs, Pt.cells, Pt.slots] at X45 l45 y45 z45 st45 hQ45
      subst l45 y45 z45
      obtain ⟨hv45, Nq45, K45, Eo45, Fo45_0, Fo45_1⟩ := hQ45
      subst hv45
      replace Nf := Fr.app Nf Nq45
      replace Od := Od.keep K45 (allS g_b44 all0)
      replace Zs := Nat.le_trans Zs K45.1
      replace hk := Nat.le_trans hk K45.1
      have Sq_b44 := Safe.keep K45 (allS Sf_b44 all0) hR.1 Sf_b44
      replace hR := hR.trans (CHr.keep K45 (allS Sf_b44 all0) hR.1)
      replace Sf_b44 := Sq_b44
      replace E_b44 := Eo45
      replace F_b44_token := Fo45_0
      replace F_b44_name := Fo45_1
      refine own_goH (x' := T45.setTop (mkF m 54 #[.val (.int p0), .val (.int p1), .val (.int p2), .val (.int p3), .val (.int p4), .val (.int 1), .val (.int 1), .val (.ref tk34), .val (.ref tk43), .val (.int 0), .unset, .unset] [(.ref b44)])) (fun _ k => st45.trans k) ?_
      refine own_goH (x' := T45.setTop (mkF m 58 #[.val (.int p0), .val (.int p1), .val (.int p2), .val (.int p3), .val (.int p4), .val (.int 1), .val (.int 1), .val (.ref tk34), .val (.ref tk43), .val (.int 0), .val (.ref b44), .unset] [(.ref b44)])) (fun _ k => XS.astore X45.here hx rfl (hb hby at_54) rfl rfl (l' := #[.val (.int p0), .val (.int p1), .val (.int p2), .val (.int p3), .val (.int p4), .val (.int 1), .val (.int 1), .val (.ref tk34), .val (.ref tk43), .val (.int 0), .val (.ref b44), .unset]) rfl (XS.aload X45.here hx rfl (hb hby at_56) rfl rfl k)) ?_
      obtain ⟨cq46, kq46, q46a, q46b, q46c⟩ := isOf hZ rfl E_b44
      obtain ⟨_, _, ⟨T46, L46, k46, n46⟩, -, X46, ⟨Lc46, hQ46, l46, y46, z46⟩, st46⟩ := X45.virtualBack hx (y := (⟨"com/example/lean_bus/leanbus/api/Caller", "isRoot", "()Z"⟩ : MethodName)) (z := (⟨"com/example/lean_bus/leanbus/api/Caller", "isRoot", "()Z"⟩ : MethodName)) hown (mvT hZ (own_w hw 22 rfl)) (mvT hZ (own_w hw 23 rfl)) (notFace_of_selects (args := #[]) (mvT hZ (own_w hw 25 rfl))) (mvT hZ (own_w hw 25 rfl)) (mvT hZ (own_w hw 24 rfl)) (by decide) (backOf (W := 0) (rm5R l Z a0 hw [] b44 tk34 T45.heap n0 Zs F_b44_token) hZ (own_w hw 26 rfl) (own_w hw 6 rfl) (by decide) (by decide)) q46a q46c (g := (mkF m 58 #[.val (.int p0), .val (.int p1), .val (.int p2), .val (.int p3), .val (.int p4), .val (.int 1), .val (.int 1), .val (.ref tk34), .val (.ref tk43), .val (.int 0), .val (.ref b44), .unset] [(.ref b44)])) rfl (by rw [hml]; rfl) (Steps.refl _) (argsL := []) (rest := []) (lenOf pd_8 rfl) rfl (by show 2 * 0 + _ ≤ _; exact Nat.le_of_eq rfl) (hb hby at_58) (fun _ _ => ⟨rfl, rfl, (by decide : 13 + 0 ≤ _), (by decide : 26 + 0 ≤ _)⟩)
      dsimp only [Pt.U, Pt.locs, Pt.cells, Pt.slots] at X46 l46 y46 z46 st46 hQ46
      subst l46 y46 z46
      obtain ⟨hv46, Nq46, eq46⟩ := hQ46
      subst hv46
      replace Nf := Fr.app Nf Nq46
      refine own_goH (x' := T46.setTop (mkF m 61 #[.val (.int p0), .val (.int p1), .val (.int p2), .val (.int p3), .val (.int p4), .val (.int 1), .val (.int 1), .val (.ref tk34), .val (.ref tk43), .val (.int 0), .val (.ref b44), .unset] [(.int 0)])) (fun _ k => st46.trans k) ?_
      refine own_goH (x' := T46.setTop (mkF m 75 #[.val (.int p0), .val (.int p1), .val (.int p2), .val (.int p3), .val (.int p4), .val (.int 1), .val (.int 1), .val (.ref tk34), .val (.ref tk43), .val (.int 0), .val (.ref b44), .val (.int 1)] [(.int 1)])) (fun _ k => XS.iload X46.here hx rfl (hb hby at_61) rfl (XS.icmpNo X46.here hx rfl (hb hby at_63) rfl (teq rfl).2 (XS.iconst X46.here hx rfl (hb hby at_66) (XS.goto X46.here hx rfl (pc0 := 67) (pc' := 71) rfl (hb hby at_67) (by decide) (by decide) (XS.istore X46.here hx rfl (hb hby at_71) rfl (l' := #[.val (.int p0), .val (.int p1), .val (.int p2), .val (.int p3), .val (.int p4), .val (.int 1), .val (.int 1), .val (.ref tk34), .val (.ref tk43), .val (.int 0), .val (.ref b44), .val (.int 1)]) rfl (XS.iload X46.here hx rfl (hb hby at_73) rfl k)))))) ?_
      refine own_goH (x' := T46.setTop (mkF m 78 #[.val (.int p0), .val (.int p1), .val (.int p2), .val (.int p3), .val (.int p4), .val (.int 1), .val (.int 1), .val (.ref tk34), .val (.ref tk43), .val (.int 0), .val (.ref b44), .val (.int 1)] [])) (fun _ k => XS.ifNo X46.here hx rfl (hb hby at_75) rfl ((if0 _ _).trans (feq (by decide +kernel : ¬ ((1 : Int32) = (0 : Int32)))).1) k) ?_
      obtain ⟨_, _, ⟨T47, L47, k47, n47⟩, -, X47, ⟨Lc47, hQ47, l47, y47, z47⟩, st47⟩ := Jvm.LawKit.callS X46 hx (y := (⟨"com/example/lean_bus/leanbus/api/Caller", "root", "()Lcom/example/lean_bus/leanbus/api/Caller;"⟩ : MethodName)) hown (mvT hZ (own_w hw 27 rfl)) (mvT hZ (own_w hw 28 rfl)) (mvT hZ (own_w hw 6 rfl)) (mvT hZ (own_w hw 29 rfl)) (by decide) (backOf (W := 0) (rm6 l Z a0 hw []  T45.heap n0 Zs ) hZ (own_w hw 29 rfl) (own_w hw 6 rfl) (by decide) (by decide)) (g := (mkF m 78 #[.val (.int p0), .val (.int p1), .val (.int p2), .val (.int p3), .val (.int p4), .val (.int 1), .val (.int 1), .val (.ref tk34), .val (.ref tk43), .val (.int 0), .val (.ref b44), .val (.int 1)] [])) rfl (by rw [hml]; rfl) (argsL := []) (rest := []) (lenOf pd_9 rfl) rfl (by show 2 * 0 + _ ≤ _; exact Nat.le_of_eq rfl) (hb hby at_78) (fun _ _ => ⟨rfl, eq46, (by decide : 13 + 1 ≤ _), (by decide : 26 + 2 ≤ _)⟩)
      dsimp only [Pt.U, Pt.locs, Pt.cells, Pt.slots] at X47 l47 y47 z47 st47 hQ47
      subst l47 y47 z47
      obtain ⟨b47, hv47, Nq47, K47, sq47, g_b47, E_b47, F_b47_token, F_b47_name⟩ := hQ47
      subst hv47
      replace Nf := Fr.app Nf Nq47
      have ne_b44_b47 : b44 ≠ b47 := Nat.ne_of_lt (Nat.lt_of_lt_of_le E_b44.lt sq47)
      replace Od := Od.keep K47 all0
      replace E_b44 := E_b44.keep K47
      replace F_b44_token := F_b44_token.keep K47 nin0
      replace F_b44_name := F_b44_name.keep K47 nin0
      replace Zs := Nat.le_trans Zs K47.1
      replace hk := Nat.le_trans hk K47.1
      have Sq_b44 := Safe.keep K47 all0 hR.1 Sf_b44
      replace hR := hR.trans (CHr.keep K47 all0 hR.1)
      replace Sf_b44 := Sq_b44
      refine own_goH (x' := T47.setTop (mkF m 81 #[.val (.int p0), .val (.int p1), .val (.int p2), .val (.int p3), .val (.int p4), .val (.int 1), .val (.int 1), .val (.ref tk34), .val (.ref tk43), .val (.int 0), .val (.ref b44), .val (.int 1)] [(.ref b47)])) st47 ?_
      obtain ⟨cq48, kq48, q48a, q48b, q48c⟩ := isOf hZ rfl E_b47
      obtain ⟨_, _, ⟨T48, L48, k48, n48⟩, -, X48, ⟨Lc48, hQ48, l48, y48, z48⟩, st48⟩ := X47.virtualBack hx (y := (⟨"com/example/lean_bus/leanbus/api/Caller", "isRoot", "()Z"⟩ : MethodName)) (z := (⟨"com/example/lean_bus/leanbus/api/Caller", "isRoot", "()Z"⟩ : MethodName)) hown (mvT hZ (own_w hw 22 rfl)) (mvT hZ (own_w hw 23 rfl)) (notFace_of_selects (args := #[]) (mvT hZ (own_w hw 25 rfl))) (mvT hZ (own_w hw 25 rfl)) (mvT hZ (own_w hw 24 rfl)) (by decide) (backOf (W := 0) (rm5N l Z a0 hw [] b47  T47.heap n0 Zs F_b47_token) hZ (own_w hw 26 rfl) (own_w hw 6 rfl) (by decide) (by decide)) q48a q48c (g := (mkF m 81 #[.val (.int p0), .val (.int p1), .val (.int p2), .val (.int p3), .val (.int p4), .val (.int 1), .val (.int 1), .val (.ref tk34), .val (.ref tk43), .val (.int 0), .val (.ref b44), .val (.int 1)] [(.ref b47)])) rfl (by rw [hml]; rfl) (Steps.refl _) (argsL := []) (rest := []) (lenOf pd_8 rfl) rfl (by show 2 * 0 + _ ≤ _; exact Nat.le_of_eq rfl) (hb hby at_81) (fun _ _ => ⟨rfl, rfl, (by decide : 14 + 0 ≤ _), (by decide : 28 + 0 ≤ _)⟩)
      dsimp only [Pt.U, Pt.locs, Pt.cells, Pt.slots] at X48 l48 y48 z48 st48 hQ48
      subst l48 y48 z48
      obtain ⟨hv48, Nq48, eq48⟩ := hQ48
      subst hv48
      replace Nf := Fr.app Nf Nq48
      refine own_goH (x' := T48.setTop (mkF m 84 #[.val (.int p0), .val (.int p1), .val (.int p2), .val (.int p3), .val (.int p4), .val (.int 1), .val (.int 1), .val (.ref tk34), .val (.ref tk43), .val (.int 0), .val (.ref b44), .val (.int 1)] [(.int 1)])) (fun _ k => st48.trans k) ?_
      refine own_goH (x' := T48.setTop (mkF m 99 #[.val (.int p0), .val (.int p1), .val (.int p2), .val (.int p3), .val (.int p4), .val (.int 1), .val (.int 1), .val (.ref tk34), .val (.ref tk43), .val (.int 0), .val (.ref b44), .val (.int 1)] [])) (fun _ k => XS.ifNo X48.here hx rfl (hb hby at_84) rfl ((if0 _ _).trans (feq (by decide +kernel : ¬ ((1 : Int32) = (0 : Int32)))).1) (XS.iconst X48.here hx rfl (hb hby at_87) (XS.goto X48.here hx rfl (pc0 := 88) (pc' := 92) rfl (hb hby at_88) (by decide) (by decide) (XS.istore X48.here hx rfl (hb hby at_92) rfl (l' := #[.val (.int p0), .val (.int p1), .val (.int p2), .val (.int p3), .val (.int p4), .val (.int 1), .val (.int 1), .val (.ref tk34), .val (.ref tk43), .val (.int 0), .val (.ref b44), .val (.int 1)]) rfl (XS.iload X48.here hx rfl (hb hby at_94) rfl (XS.ifNo X48.here hx rfl (hb hby at_96) rfl ((if0 _ _).trans (feq (by decide +kernel : ¬ ((1 : Int32) = (0 : Int32)))).1) k)))))) ?_
      refine own_goH (x' := T48.setTop (mkF m 101 #[.val (.int p0), .val (.int p1), .val (.int p2), .val (.int p3), .val (.int p4), .val (.int 1), .val (.int 1), .val (.ref tk34), .val (.ref tk43), .val (.int 0), .val (.ref b44), .val (.int 1)] [(.ref tk34)])) (fun _ k => XS.aload X48.here hx rfl (hb hby at_99) rfl rfl k) ?_
      obtain ⟨_, _, ⟨T49, L49, k49, n49⟩, -, X49, ⟨Lc49, hQ49, l49, y49, z49⟩, st49⟩ := Jvm.LawKit.callS X48 hx (y := (⟨"com/example/lean_bus/leanbus/api/Caller", "unchecked", "(Ljava/lang/String;)Lcom/example/lean_bus/leanbus/api/Caller;"⟩ : MethodName)) hown (mvT hZ (own_w hw 32 rfl)) (mvT hZ (own_w hw 33 rfl)) (mvT hZ (own_w hw 6 rfl)) (mvT hZ (own_w hw 34 rfl)) (by decide) (backOf (W := 0) (rm7R l Z a0 hw [] tk34 T47.heap n0 Zs ) hZ (own_w hw 34 rfl) (own_w hw 6 rfl) (by decide) (by decide)) (g := (mkF m 101 #[.val (.int p0), .val (.int p1), .val (.int p2), .val (.int p3), .val (.int p4), .val (.int 1), .val (.int 1), .val (.ref tk34), .val (.ref tk43), .val (.int 0), .val (.ref b44), .val (.int 1)] [(.ref tk34)])) rfl (by rw [hml]; rfl) (argsL := [(.ref tk34)]) (rest := []) (lenOf pd_10 rfl) rfl (by show 2 * 0 + _ ≤ _; exact Nat.le_of_eq rfl) (hb hby at_101) (fun _ _ => ⟨rfl, eq48, (by decide : 14 + 1 ≤ _), (by decide : 28 + 2 ≤ _)⟩)
      dsimp only [Pt.U, Pt.locs, Pt.cells, Pt.slots] at X49 l49 y49 z49 st49 hQ49
      subst l49 y49 z49
      obtain ⟨b49, hv49, Nq49, K49, sq49, g_b49, E_b49, F_b49_token, F_b49_name⟩ := hQ49
      subst hv49
      replace Nf := Fr.app Nf Nq49
      have ne_b44_b49 : b44 ≠ b49 := Nat.ne_of_lt (Nat.lt_of_lt_of_le E_b44.lt sq49)
      have ne_b47_b49 : b47 ≠ b49 := Nat.ne_of_lt (Nat.lt_of_lt_of_le E_b47.lt sq49)
      replace Od := Od.keep K49 all0
      replace E_b44 := E_b44.keep K49
      replace F_b44_token := F_b44_token.keep K49 nin0
      replace F_b44_name := F_b44_name.keep K49 nin0
      replace E_b47 := E_b47.keep K49
      replace F_b47_token := F_b47_token.keep K49 nin0
      replace F_b47_name := F_b47_name.keep K49 nin0
      replace Zs := Nat.le_trans Zs K49.1
      replace hk := Nat.le_trans hk K49.1
      have Sq_b44 := Safe.keep K49 all0 hR.1 Sf_b44
      replace hR := hR.trans (CHr.keep K49 all0 hR.1)
      replace Sf_b44 := Sq_b44
      refine own_goH (x' := T49.setTop (mkF m 104 #[.val (.int p0), .val (.int p1), .val (.int p2), .val (.int p3), .val (.int p4), .val (.int 1), .val (.int 1), .val (.ref tk34), .val (.ref tk43), .val (.int 0), .val (.ref b44), .val (.int 1)] [(.ref b49)])) st49 ?_
      obtain ⟨cq50, kq50, q50a, q50b, q50c⟩ := isOf hZ rfl E_b49
      obtain ⟨_, _, ⟨T50, L50, k50, n50⟩, -, X50, ⟨Lc50, hQ50, l50, y50, z50⟩, st50⟩ := X49.virtualBack hx (y := (⟨"com/example/lean_bus/leanbus/api/Caller", "isRoot", "()Z"⟩ : MethodName)) (z := (⟨"com/example/lean_bus/leanbus/api/Caller", "isRoot", "()Z"⟩ : MethodName)) hown (mvT hZ (own_w hw 22 rfl)) (mvT hZ (own_w hw 23 rfl)) (notFace_of_selects (args := #[]) (mvT hZ (own_w hw 25 rfl))) (mvT hZ (own_w hw 25 rfl)) (mvT hZ (own_w hw 24 rfl)) (by decide) (backOf (W := 0) (rm5R l Z a0 hw [] b49 tk34 T49.heap n0 Zs F_b49_token) hZ (own_w hw 26 rfl) (own_w hw 6 rfl) (by decide) (by decide)) q50a q50c (g := (mkF m 104 #[.val (.int p0), .val (.int p1), .val (.int p2), .val (.int p3), .val (.int p4), .val (.int 1), .val (.int 1), .val (.ref tk34), .val (.ref tk43), .val (.int 0), .val (.ref b44), .val (.int 1)] [(.ref b49)])) rfl (by rw [hml]; rfl) (Steps.refl _) (argsL := []) (rest := []) (lenOf pd_8 rfl) rfl (by show 2 * 0 + _ ≤ _; exact Nat.le_of_eq rfl) (hb hby at_104) (fun _ _ => ⟨rfl, rfl, (by decide : 15 + 0 ≤ _), (by decide : 30 + 0 ≤ _)⟩)
      dsimp only [Pt.U, Pt.locs, Pt.cells, Pt.slots] at X50 l50 y50 z50 st50 hQ50
      subst l50 y50 z50
      obtain ⟨hv50, Nq50, eq50⟩ := hQ50
      subst hv50
      replace Nf := Fr.app Nf Nq50
      refine own_goH (x' := T50.setTop (mkF m 107 #[.val (.int p0), .val (.int p1), .val (.int p2), .val (.int p3), .val (.int p4), .val (.int 1), .val (.int 1), .val (.ref tk34), .val (.ref tk43), .val (.int 0), .val (.ref b44), .val (.int 1)] [(.int 0)])) (fun _ k => st50.trans k) ?_
      refine own_goH (x' := T50.setTop (mkF m 121 #[.val (.int p0), .val (.int p1), .val (.int p2), .val (.int p3), .val (.int p4), .val (.int 1), .val (.int 1), .val (.ref tk34), .val (.ref tk43), .val (.int 0), .val (.ref b44), .val (.int 1)] [(.int 1)])) (fun _ k => XS.iload X50.here hx rfl (hb hby at_107) rfl (XS.icmpNo X50.here hx rfl (hb hby at_109) rfl (teq rfl).2 (XS.iconst X50.here hx rfl (hb hby at_112) (XS.goto X50.here hx rfl (pc0 := 113) (pc' := 117) rfl (hb hby at_113) (by decide) (by decide) (XS.istore X50.here hx rfl (hb hby at_117) rfl (l' := #[.val (.int p0), .val (.int p1), .val (.int p2), .val (.int p3), .val (.int p4), .val (.int 1), .val (.int 1), .val (.ref tk34), .val (.ref tk43), .val (.int 0), .val (.ref b44), .val (.int 1)]) rfl (XS.iload X50.here hx rfl (hb hby at_119) rfl k)))))) ?_
      refine own_retNH X50 hS (own_hk eq50 hk) (own_hr eq50 hR) hZ (own_EW hw) hx hlk (t := .boolean) hret (by simp) (hb hby at_121) (w := (1 : Int32)) rfl ?_ (by decide) (by decide)
      rw [eq50]
      exact ⟨rfl, Nf⟩
    · refine own_goH (x' := T34.setTop (mkF m 26 #[.val (.int p0), .val (.int p1), .val (.int p2), .val (.int p3), .val (.int p4), .val (.int 1), .val (.int 2), .val (.ref tk34), .unset, .unset, .unset, .unset] [(.int p4), (.int p3), (.int 2)])) (fun _ k => XS.iload X34.here hx rfl (hb hby at_21) rfl (XS.iloadN X34.here hx rfl (hb hby at_23) rfl (XS.iload X34.here hx rfl (hb hby at_24) rfl k))) ?_
      obtain ⟨_, _, ⟨T51, L51, k51, n51⟩, -, X51, Sw51, Gw51, ⟨Lc51, hQ51, l51, y51, z51, Cw51⟩, st51⟩ := Jvm.RoadKit.callSS X34 hx (y := (⟨"com/example/lean_bus/leanbus/api/CallerIsRootPinLaw", "draw", "(III)Ljava/lang/String;"⟩ : MethodName)) hown (mvT hZ (own_w hw 0 rfl)) (mvT hZ (own_w hw 1 rfl)) (mvT hZ (own_w hw 2 rfl)) (mvT hZ (own_w hw 3 rfl)) (by decide) (backOfSH (W := 0) (rm1_2 l Z a0 hw [] p3 p4 G1 T34.heap n0 Zs Od S_COMPACT_STRINGS hG) hZ (own_w hw 3 rfl) (own_w hw 2 rfl) (by decide) (by decide) (own_EW hw) hR.1) (g := (mkF m 26 #[.val (.int p0), .val (.int p1), .val (.int p2), .val (.int p3), .val (.int p4), .val (.int 1), .val (.int 2), .val (.ref tk34), .unset, .unset, .unset, .unset] [(.int p4), (.int p3), (.int 2)])) rfl (by rw [hml]; rfl) (argsL := [(.int 2), (.int p3), (.int p4)]) (rest := []) (lenOf pd_7 rfl) rfl (by show 2 * 0 + _ ≤ _; exact Nat.le_of_eq rfl) (hb hby at_26) (fun _ _ => ⟨rfl, rfl, (by decide : 6 + 3 ≤ _), (by decide : 12 + 6 ≤ _)⟩)
      dsimp only [Pt.U, Pt.locs, Pt.cells, Pt.slots] at X51 l51 y51 z51 st51 hQ51 Sw51 Gw51 Cw51
      subst l51 y51 z51
      obtain ⟨X51, Sw51, hZ, hown⟩ := rebS hS (own_hk rfl hk) X51 Sw51 Gw51 hZ hown
      replace hR := hR.trans Cw51
      obtain ⟨tk51, hv51, Nq51, K51⟩ := hQ51
      subst hv51
      replace Nf := Fr.app Nf Nq51
      replace Od := Od.keep K51 all0
      replace Zs := Nat.le_trans Zs K51.1
      replace hk := Nat.le_trans hk K51.1
      replace hS := Sw51
      replace hk := Nat.le_refl (Array.size T51.heap)
      refine own_goH (x' := T51.setTop (mkF m 29 #[.val (.int p0), .val (.int p1), .val (.int p2), .val (.int p3), .val (.int p4), .val (.int 1), .val (.int 2), .val (.ref tk34), .unset, .unset, .unset, .unset] [(.ref tk51)])) (fun _ k => st51.trans k) ?_
      refine own_goH (x' := T51.setTop (mkF m 43 #[.val (.int p0), .val (.int p1), .val (.int p2), .val (.int p3), .val (.int p4), .val (.int 1), .val (.int 2), .val (.ref tk34), .val (.ref tk51), .val (.int 0), .unset, .unset] [])) (fun _ k => XS.astore X51.here hx rfl (hb hby at_29) rfl rfl (l' := #[.val (.int p0), .val (.int p1), .val (.int p2), .val (.int p3), .val (.int p4), .val (.int 1), .val (.int 2), .val (.ref tk34), .val (.ref tk51), .unset, .unset, .unset]) rfl (XS.iload X51.here hx rfl (hb hby at_31) rfl (XS.ifYes X51.here hx rfl (pc0 := 33) (pc' := 40) rfl (hb hby at_33) rfl ((if0 _ _).trans (feq (by decide +kernel : ¬ ((1 : Int32) = (0 : Int32)))).2) (by decide) (by decide) (XS.iconst X51.here hx rfl (hb hby at_40) (XS.istore X51.here hx rfl (hb hby at_41) rfl (l' := #[.val (.int p0), .val (.int p1), .val (.int p2), .val (.int p3), .val (.int p4), .val (.int 1), .val (.int 2), .val (.ref tk34), .val (.ref tk51), .val (.int 0), .unset, .unset]) rfl k))))) ?_
      obtain ⟨T52, h52, X52, e52, E52, A52, D52, -, st52⟩ := newO X51 hx hZ hown (own_w hw 4 rfl) (own_w hw 5 rfl) (own_w hw 6 rfl) rfl (g := (mkF m 43 #[.val (.int p0), .val (.int p1), .val (.int p2), .val (.int p3), .val (.int p4), .val (.int 1), .val (.int 2), .val (.ref tk34), .val (.ref tk51), .val (.int 0), .unset, .unset] [])) rfl (hb hby at_43) (by decide) (by decide)
      obtain ⟨b52, g52⟩ : ∃ z, z = T51.heap.size := ⟨_, rfl⟩
      rw [← g52] at A52 D52 st52
      have g_b52 : n0 ≤ b52 := Nat.le_trans Zs (Nat.le_of_eq g52.symm)
      have Sf_b52 := own_sfn hR (Nat.le_of_eq g52.symm)
      replace Od := Od.ext E52
      replace Zs := Nat.le_trans Zs E52.1
      replace hk := Nat.le_trans hk E52.1
      have Sq_b52 := Safe.ext E52 hR.1 Sf_b52
      replace hR := hR.trans (CHr.ext E52 hR.1)
      replace Sf_b52 := Sq_b52
      have E_b52 := A52
      have F_b52_token : Fld Z h52 b52 "com/example/lean_bus/leanbus/api/Caller" "token" "Ljava/lang/String;" .null := D52 (Or.inr (own_w hw 19 rfl)) (ty := (.object "java/lang/String")) (by decide)
      have F_b52_name : Fld Z h52 b52 "com/example/lean_bus/leanbus/api/Caller" "name" "Ljava/lang/String;" .null := D52 (Or.inr (own_w hw 21 rfl)) (ty := (.object "java/lang/String")) (by decide)
      refine own_goH (x' := T52.setTop (mkF m 46 #[.val (.int p0), .val (.int p1), .val (.int p2), .val (.int p3), .val (.int p4), .val (.int 1), .val (.int 2), .val (.ref tk34), .val (.ref tk51), .val (.int 0), .unset, .unset] [(.ref b52)])) st52 ?_
      refine own_goH (x' := T52.setTop (mkF m 51 #[.val (.int p0), .val (.int p1), .val (.int p2), .val (.int p3), .val (.int p4), .val (.int 1), .val (.int 2), .val (.ref tk34), .val (.ref tk51), .val (.int 0), .unset, .unset] [(.ref tk51), (.ref tk34), (.ref b52), (.ref b52)])) (fun _ k => XS.dup X52.here hx rfl (hb hby at_46) rfl rfl (XS.aload X52.here hx rfl (hb hby at_47) rfl rfl (XS.aload X52.here hx rfl (hb hby at_49) rfl rfl k))) ?_
      obtain ⟨_, _, ⟨T53, L53, k53, n53⟩, -, X53, ⟨Lc53, hQ53, l53, y53, z53⟩, st53⟩ := X52.specialBack hx (y := (⟨"com/example/lean_bus/leanbus/api/Caller", "<init>", "(Ljava/lang/String;Ljava/lang/String;)V"⟩ : MethodName)) rfl hown (mvT hZ (own_w hw 7 rfl)) (mvT hZ (own_w hw 8 rfl)) (mvT hZ (own_w hw 9 rfl)) (by decide) (backOf (W := 1) (rm2RR l Z a0 hw [] b52 tk34 tk51 h52 n0 Zs E_b52 F_b52_token F_b52_name g_b52) hZ (own_w hw 9 rfl) (own_w hw 6 rfl) (by decide) (by decide)) (g := (mkF m 51 #[.val (.int p0), .val (.int p1), .val (.int p2), .val (.int p3), .val (.int p4), .val (.int 1), .val (.int 2), .val (.ref tk34), .val (.ref tk51), .val (.int 0), .unset, .unset] [(.ref tk51), (.ref tk34), (.ref b52), (.ref b52)])) rfl (by rw [hml]; rfl) (Steps.refl _) (a := b52) (argsL := [(.ref tk34), (.ref tk51)]) (rest := [(.ref b52)]) (lenOf pd_6 rfl) rfl (by show 2 * 0 + _ ≤ _; exact Nat.le_of_eq rfl) (hb hby at_51) (fun _ _ => ⟨rfl, e52, (by decide : 10 + 0 ≤ _), (by decide : 20 + 0 ≤ _)⟩)
      dsimp only [Pt.U, Pt.locs, Pt.cells, Pt.slots] at X53 l53 y53 z53 st53 hQ53
      subst l53 y53 z53
      obtain ⟨hv53, Nq53, K53, Eo53, Fo53_0, Fo53_1⟩ := hQ53
      subst hv53
      replace Nf := Fr.app Nf Nq53
      replace Od := Od.keep K53 (allS g_b52 all0)
      replace Zs := Nat.le_trans Zs K53.1
      replace hk := Nat.le_trans hk K53.1
      have Sq_b52 := Safe.keep K53 (allS Sf_b52 all0) hR.1 Sf_b52
      replace hR := hR.trans (CHr.keep K53 (allS Sf_b52 all0) hR.1)
      replace Sf_b52 := Sq_b52
      replace E_b52 := Eo53
      replace F_b52_token := Fo53_0
      replace F_b52_name := Fo53_1
      refine own_goH (x' := T53.setTop (mkF m 54 #[.val (.int p0), .val (.int p1), .val (.int p2), .val (.int p3), .val (.int p4), .val (.int 1), .val (.int 2), .val (.ref tk34), .val (.ref tk51), .val (.int 0), .unset, .unset] [(.ref b52)])) (fun _ k => st53.trans k) ?_
      refine own_goH (x' := T53.setTop (mkF m 58 #[.val (.int p0), .val (.int p1), .val (.int p2), .val (.int p3), .val (.int p4), .val (.int 1), .val (.int 2), .val (.ref tk34), .val (.ref tk51), .val (.int 0), .val (.ref b52), .unset] [(.ref b52)])) (fun _ k => XS.astore X53.here hx rfl (hb hby at_54) rfl rfl (l' := #[.val (.int p0), .val (.int p1), .val (.int p2), .val (.int p3), .val (.int p4), .val (.int 1), .val (.int 2), .val (.ref tk34), .val (.ref tk51), .val (.int 0), .val (.ref b52), .unset]) rfl (XS.aload X53.here hx rfl (hb hby at_56) rfl rfl k)) ?_
      obtain ⟨cq54, kq54, q54a, q54b, q54c⟩ := isOf hZ rfl E_b52
      obtain ⟨_, _, ⟨T54, L54, k54, n54⟩, -, X54, ⟨Lc54, hQ54, l54, y54, z54⟩, st54⟩ := X53.virtualBack hx (y := (⟨"com/example/lean_bus/leanbus/api/Caller", "isRoot", "()Z"⟩ : MethodName)) (z := (⟨"com/example/lean_bus/leanbus/api/Caller", "isRoot", "()Z"⟩ : MethodName)) hown (mvT hZ (own_w hw 22 rfl)) (mvT hZ (own_w hw 23 rfl)) (notFace_of_selects (args := #[]) (mvT hZ (own_w hw 25 rfl))) (mvT hZ (own_w hw 25 rfl)) (mvT hZ (own_w hw 24 rfl)) (by decide) (backOf (W := 0) (rm5R l Z a0 hw [] b52 tk34 T53.heap n0 Zs F_b52_token) hZ (own_w hw 26 rfl) (own_w hw 6 rfl) (by decide) (by decide)) q54a q54c (g := (mkF m 58 #[.val (.int p0), .val (.int p1), .val (.int p2), .val (.int p3), .val (.int p4), .val (.int 1), .val (.int 2), .val (.ref tk34), .val (.ref tk51), .val (.int 0), .val (.ref b52), .unset] [(.ref b52)])) rfl (by rw [hml]; rfl) (Steps.refl _) (argsL := []) (rest := []) (lenOf pd_8 rfl) rfl (by show 2 * 0 + _ ≤ _; exact Nat.le_of_eq rfl) (hb hby at_58) (fun _ _ => ⟨rfl, rfl, (by decide : 10 + 0 ≤ _), (by decide : 20 + 0 ≤ _)⟩)
      dsimp only [Pt.U, Pt.locs, Pt.cells, Pt.slots] at X54 l54 y54 z54 st54 hQ54
      subst l54 y54 z54
      obtain ⟨hv54, Nq54, eq54⟩ := hQ54
      subst hv54
      replace Nf := Fr.app Nf Nq54
      refine own_goH (x' := T54.setTop (mkF m 61 #[.val (.int p0), .val (.int p1), .val (.int p2), .val (.int p3), .val (.int p4), .val (.int 1), .val (.int 2), .val (.ref tk34), .val (.ref tk51), .val (.int 0), .val (.ref b52), .unset] [(.int 0)])) (fun _ k => st54.trans k) ?_
      refine own_goH (x' := T54.setTop (mkF m 75 #[.val (.int p0), .val (.int p1), .val (.int p2), .val (.int p3), .val (.int p4), .val (.int 1), .val (.int 2), .val (.ref tk34), .val (.ref tk51), .val (.int 0), .val (.ref b52), .val (.int 1)] [(.int 1)])) (fun _ k => XS.iload X54.here hx rfl (hb hby at_61) rfl (XS.icmpNo X54.here hx rfl (hb hby at_63) rfl (teq rfl).2 (XS.iconst X54.here hx rfl (hb hby at_66) (XS.goto X54.here hx rfl (pc0 := 67) (pc' := 71) rfl (hb hby at_67) (by decide) (by decide) (XS.istore X54.here hx rfl (hb hby at_71) rfl (l' := #[.val (.int p0), .val (.int p1), .val (.int p2), .val (.int p3), .val (.int p4), .val (.int 1), .val (.int 2), .val (.ref tk34), .val (.ref tk51), .val (.int 0), .val (.ref b52), .val (.int 1)]) rfl (XS.iload X54.here hx rfl (hb hby at_73) rfl k)))))) ?_
      refine own_goH (x' := T54.setTop (mkF m 78 #[.val (.int p0), .val (.int p1), .val (.int p2), .val (.int p3), .val (.int p4), .val (.int 1), .val (.int 2), .val (.ref tk34), .val (.ref tk51), .val (.int 0), .val (.ref b52), .val (.int 1)] [])) (fun _ k => XS.ifNo X54.here hx rfl (hb hby at_75) rfl ((if0 _ _).trans (feq (by decide +kernel : ¬ ((1 : Int32) = (0 : Int32)))).1) k) ?_
      obtain ⟨_, _, ⟨T55, L55, k55, n55⟩, -, X55, ⟨Lc55, hQ55, l55, y55, z55⟩, st55⟩ := Jvm.LawKit.callS X54 hx (y := (⟨"com/example/lean_bus/leanbus/api/Caller", "root", "()Lcom/example/lean_bus/leanbus/api/Caller;"⟩ : MethodName)) hown (mvT hZ (own_w hw 27 rfl)) (mvT hZ (own_w hw 28 rfl)) (mvT hZ (own_w hw 6 rfl)) (mvT hZ (own_w hw 29 rfl)) (by decide) (backOf (W := 0) (rm6 l Z a0 hw []  T53.heap n0 Zs ) hZ (own_w hw 29 rfl) (own_w hw 6 rfl) (by decide) (by decide)) (g := (mkF m 78 #[.val (.int p0), .val (.int p1), .val (.int p2), .val (.int p3), .val (.int p4), .val (.int 1), .val (.int 2), .val (.ref tk34), .val (.ref tk51), .val (.int 0), .val (.ref b52), .val (.int 1)] [])) rfl (by rw [hml]; rfl) (argsL := []) (rest := []) (lenOf pd_9 rfl) rfl (by show 2 * 0 + _ ≤ _; exact Nat.le_of_eq rfl) (hb hby at_78) (fun _ _ => ⟨rfl, eq54, (by decide : 10 + 1 ≤ _), (by decide : 20 + 2 ≤ _)⟩)
      dsimp only [Pt.U, Pt.locs, Pt.cells, Pt.slots] at X55 l55 y55 z55 st55 hQ55
      subst l55 y55 z55
      obtain ⟨b55, hv55, Nq55, K55, sq55, g_b55, E_b55, F_b55_token, F_b55_name⟩ := hQ55
      subst hv55
      replace Nf := Fr.app Nf Nq55
      have ne_b52_b55 : b52 ≠ b55 := Nat.ne_of_lt (Nat.lt_of_lt_of_le E_b52.lt sq55)
      replace Od := Od.keep K55 all0
      replace E_b52 := E_b52.keep K55
      replace F_b52_token := F_b52_token.keep K55 nin0
      replace F_b52_name := F_b52_name.keep K55 nin0
      replace Zs := Nat.le_trans Zs K55.1
      replace hk := Nat.le_trans hk K55.1
      have Sq_b52 := Safe.keep K55 all0 hR.1 Sf_b52
      replace hR := hR.trans (CHr.keep K55 all0 hR.1)
      replace Sf_b52 := Sq_b52
      refine own_goH (x' := T55.setTop (mkF m 81 #[.val (.int p0), .val (.int p1), .val (.int p2), .val (.int p3), .val (.int p4), .val (.int 1), .val (.int 2), .val (.ref tk34), .val (.ref tk51), .val (.int 0), .val (.ref b52), .val (.int 1)] [(.ref b55)])) st55 ?_
      obtain ⟨cq56, kq56, q56a, q56b, q56c⟩ := isOf hZ rfl E_b55
      obtain ⟨_, _, ⟨T56, L56, k56, n56⟩, -, X56, ⟨Lc56, hQ56, l56, y56, z56⟩, st56⟩ := X55.virtualBack hx (y := (⟨"com/example/lean_bus/leanbus/api/Caller", "isRoot", "()Z"⟩ : MethodName)) (z := (⟨"com/example/lean_bus/leanbus/api/Caller", "isRoot", "()Z"⟩ : MethodName)) hown (mvT hZ (own_w hw 22 rfl)) (mvT hZ (own_w hw 23 rfl)) (notFace_of_selects (args := #[]) (mvT hZ (own_w hw 25 rfl))) (mvT hZ (own_w hw 25 rfl)) (mvT hZ (own_w hw 24 rfl)) (by decide) (backOf (W := 0) (rm5N l Z a0 hw [] b55  T55.heap n0 Zs F_b55_token) hZ (own_w hw 26 rfl) (own_w hw 6 rfl) (by decide) (by decide)) q56a q56c (g := (mkF m 81 #[.val (.int p0), .val (.int p1), .val (.int p2), .val (.int p3), .val (.int p4), .val (.int 1), .val (.int 2), .val (.ref tk34), .val (.ref tk51), .val (.int 0), .val (.ref b52), .val (.int 1)] [(.ref b55)])) rfl (by rw [hml]; rfl) (Steps.refl _) (argsL := []) (rest := []) (lenOf pd_8 rfl) rfl (by show 2 * 0 + _ ≤ _; exact Nat.le_of_eq rfl) (hb hby at_81) (fun _ _ => ⟨rfl, rfl, (by decide : 11 + 0 ≤ _), (by decide : 22 + 0 ≤ _)⟩)
      dsimp only [Pt.U, Pt.locs, Pt.cells, Pt.slots] at X56 l56 y56 z56 st56 hQ56
      subst l56 y56 z56
      obtain ⟨hv56, Nq56, eq56⟩ := hQ56
      subst hv56
      replace Nf := Fr.app Nf Nq56
      refine own_goH (x' := T56.setTop (mkF m 84 #[.val (.int p0), .val (.int p1), .val (.int p2), .val (.int p3), .val (.int p4), .val (.int 1), .val (.int 2), .val (.ref tk34), .val (.ref tk51), .val (.int 0), .val (.ref b52), .val (.int 1)] [(.int 1)])) (fun _ k => st56.trans k) ?_
      refine own_goH (x' := T56.setTop (mkF m 99 #[.val (.int p0), .val (.int p1), .val (.int p2), .val (.int p3), .val (.int p4), .val (.int 1), .val (.int 2), .val (.ref tk34), .val (.ref tk51), .val (.int 0), .val (.ref b52), .val (.int 1)] [])) (fun _ k => XS.ifNo X56.here hx rfl (hb hby at_84) rfl ((if0 _ _).trans (feq (by decide +kernel : ¬ ((1 : Int32) = (0 : Int32)))).1) (XS.iconst X56.here hx rfl (hb hby at_87) (XS.goto X56.here hx rfl (pc0 := 88) (pc' := 92) rfl (hb hby at_88) (by decide) (by decide) (XS.istore X56.here hx rfl (hb hby at_92) rfl (l' := #[.val (.int p0), .val (.int p1), .val (.int p2), .val (.int p3), .val (.int p4), .val (.int 1), .val (.int 2), .val (.ref tk34), .val (.ref tk51), .val (.int 0), .val (.ref b52), .val (.int 1)]) rfl (XS.iload X56.here hx rfl (hb hby at_94) rfl (XS.ifNo X56.here hx rfl (hb hby at_96) rfl ((if0 _ _).trans (feq (by decide +kernel : ¬ ((1 : Int32) = (0 : Int32)))).1) k)))))) ?_
      refine own_goH (x' := T56.setTop (mkF m 101 #[.val (.int p0), .val (.int p1), .val (.int p2), .val (.int p3), .val (.int p4), .val (.int 1), .val (.int 2), .val (.ref tk34), .val (.ref tk51), .val (.int 0), .val (.ref b52), .val (.int 1)] [(.ref tk34)])) (fun _ k => XS.aload X56.here hx rfl (hb hby at_99) rfl rfl k) ?_
      obtain ⟨_, _, ⟨T57, L57, k57, n57⟩, -, X57, ⟨Lc57, hQ57, l57, y57, z57⟩, st57⟩ := Jvm.LawKit.callS X56 hx (y := (⟨"com/example/lean_bus/leanbus/api/Caller", "unchecked", "(Ljava/lang/String;)Lcom/example/lean_bus/leanbus/api/Caller;"⟩ : MethodName)) hown (mvT hZ (own_w hw 32 rfl)) (mvT hZ (own_w hw 33 rfl)) (mvT hZ (own_w hw 6 rfl)) (mvT hZ (own_w hw 34 rfl)) (by decide) (backOf (W := 0) (rm7R l Z a0 hw [] tk34 T55.heap n0 Zs ) hZ (own_w hw 34 rfl) (own_w hw 6 rfl) (by decide) (by decide)) (g := (mkF m 101 #[.val (.int p0), .val (.int p1), .val (.int p2), .val (.int p3), .val (.int p4), .val (.int 1), .val (.int 2), .val (.ref tk34), .val (.ref tk51), .val (.int 0), .val (.ref b52), .val (.int 1)] [(.ref tk34)])) rfl (by rw [hml]; rfl) (argsL := [(.ref tk34)]) (rest := []) (lenOf pd_10 rfl) rfl (by show 2 * 0 + _ ≤ _; exact Nat.le_of_eq rfl) (hb hby at_101) (fun _ _ => ⟨rfl, eq56, (by decide : 11 + 1 ≤ _), (by decide : 22 + 2 ≤ _)⟩)
      dsimp only [Pt.U, Pt.locs, Pt.cells, Pt.slots] at X57 l57 y57 z57 st57 hQ57
      subst l57 y57 z57
      obtain ⟨b57, hv57, Nq57, K57, sq57, g_b57, E_b57, F_b57_token, F_b57_name⟩ := hQ57
      subst hv57
      replace Nf := Fr.app Nf Nq57
      have ne_b52_b57 : b52 ≠ b57 := Nat.ne_of_lt (Nat.lt_of_lt_of_le E_b52.lt sq57)
      have ne_b55_b57 : b55 ≠ b57 := Nat.ne_of_lt (Nat.lt_of_lt_of_le E_b55.lt sq57)
      replace Od := Od.keep K57 all0
      replace E_b52 := E_b52.keep K57
      replace F_b52_token := F_b52_token.keep K57 nin0
      replace F_b52_name := F_b52_name.keep K57 nin0
      replace E_b55 := E_b55.keep K57
      replace F_b55_token := F_b55_token.keep K57 nin0
      replace F_b55_name := F_b55_name.keep K57 nin0
      replace Zs := Nat.le_trans Zs K57.1
      replace hk := Nat.le_trans hk K57.1
      have Sq_b52 := Safe.keep K57 all0 hR.1 Sf_b52
      replace hR := hR.trans (CHr.keep K57 all0 hR.1)
      replace Sf_b52 := Sq_b52
      refine own_goH (x' := T57.setTop (mkF m 104 #[.val (.int p0), .val (.int p1), .val (.int p2), .val (.int p3), .val (.int p4), .val (.int 1), .val (.int 2), .val (.ref tk34), .val (.ref tk51), .val (.int 0), .val (.ref b52), .val (.int 1)] [(.ref b57)])) st57 ?_
      obtain ⟨cq58, kq58, q58a, q58b, q58c⟩ := isOf hZ rfl E_b57
      obtain ⟨_, _, ⟨T58, L58, k58, n58⟩, -, X58, ⟨Lc58, hQ58, l58, y58, z58⟩, st58⟩ := X57.virtualBack hx (y := (⟨"com/example/lean_bus/leanbus/api/Caller", "isRoot", "()Z"⟩ : MethodName)) (z := (⟨"com/example/lean_bus/leanbus/api/Caller", "isRoot", "()Z"⟩ : MethodName)) hown (mvT hZ (own_w hw 22 rfl)) (mvT hZ (own_w hw 23 rfl)) (notFace_of_selects (args := #[]) (mvT hZ (own_w hw 25 rfl))) (mvT hZ (own_w hw 25 rfl)) (mvT hZ (own_w hw 24 rfl)) (by decide) (backOf (W := 0) (rm5R l Z a0 hw [] b57 tk34 T57.heap n0 Zs F_b57_token) hZ (own_w hw 26 rfl) (own_w hw 6 rfl) (by decide) (by decide)) q58a q58c (g := (mkF m 104 #[.val (.int p0), .val (.int p1), .val (.int p2), .val (.int p3), .val (.int p4), .val (.int 1), .val (.int 2), .val (.ref tk34), .val (.ref tk51), .val (.int 0), .val (.ref b52), .val (.int 1)] [(.ref b57)])) rfl (by rw [hml]; rfl) (Steps.refl _) (argsL := []) (rest := []) (lenOf pd_8 rfl) rfl (by show 2 * 0 + _ ≤ _; exact Nat.le_of_eq rfl) (hb hby at_104) (fun _ _ => ⟨rfl, rfl, (by decide : 12 + 0 ≤ _), (by decide : 24 + 0 ≤ _)⟩)
      dsimp only [Pt.U, Pt.locs, Pt.cells, Pt.slots] at X58 l58 y58 z58 st58 hQ58
      subst l58 y58 z58
      obtain ⟨hv58, Nq58, eq58⟩ := hQ58
      subst hv58
      replace Nf := Fr.app Nf Nq58
      refine own_goH (x' := T58.setTop (mkF m 107 #[.val (.int p0), .val (.int p1), .val (.int p2), .val (.int p3), .val (.int p4), .val (.int 1), .val (.int 2), .val (.ref tk34), .val (.ref tk51), .val (.int 0), .val (.ref b52), .val (.int 1)] [(.int 0)])) (fun _ k => st58.trans k) ?_
      refine own_goH (x' := T58.setTop (mkF m 121 #[.val (.int p0), .val (.int p1), .val (.int p2), .val (.int p3), .val (.int p4), .val (.int 1), .val (.int 2), .val (.ref tk34), .val (.ref tk51), .val (.int 0), .val (.ref b52), .val (.int 1)] [(.int 1)])) (fun _ k => XS.iload X58.here hx rfl (hb hby at_107) rfl (XS.icmpNo X58.here hx rfl (hb hby at_109) rfl (teq rfl).2 (XS.iconst X58.here hx rfl (hb hby at_112) (XS.goto X58.here hx rfl (pc0 := 113) (pc' := 117) rfl (hb hby at_113) (by decide) (by decide) (XS.istore X58.here hx rfl (hb hby at_117) rfl (l' := #[.val (.int p0), .val (.int p1), .val (.int p2), .val (.int p3), .val (.int p4), .val (.int 1), .val (.int 2), .val (.ref tk34), .val (.ref tk51), .val (.int 0), .val (.ref b52), .val (.int 1)]) rfl (XS.iload X58.here hx rfl (hb hby at_119) rfl k)))))) ?_
      refine own_retNH X58 hS (own_hk eq58 hk) (own_hr eq58 hR) hZ (own_EW hw) hx hlk (t := .boolean) hret (by simp) (hb hby at_121) (w := (1 : Int32)) rfl ?_ (by decide) (by decide)
      rw [eq58]
      exact ⟨rfl, Nf⟩
    · refine own_goH (x' := T34.setTop (mkF m 26 #[.val (.int p0), .val (.int p1), .val (.int p2), .val (.int p3), .val (.int p4), .val (.int 1), .val (.int 3), .val (.ref tk34), .unset, .unset, .unset, .unset] [(.int p4), (.int p3), (.int 3)])) (fun _ k => XS.iload X34.here hx rfl (hb hby at_21) rfl (XS.iloadN X34.here hx rfl (hb hby at_23) rfl (XS.iload X34.here hx rfl (hb hby at_24) rfl k))) ?_
      obtain ⟨_, _, ⟨T59, L59, k59, n59⟩, -, X59, Sw59, Gw59, ⟨Lc59, hQ59, l59, y59, z59, Cw59⟩, st59⟩ := Jvm.RoadKit.callSS X34 hx (y := (⟨"com/example/lean_bus/leanbus/api/CallerIsRootPinLaw", "draw", "(III)Ljava/lang/String;"⟩ : MethodName)) hown (mvT hZ (own_w hw 0 rfl)) (mvT hZ (own_w hw 1 rfl)) (mvT hZ (own_w hw 2 rfl)) (mvT hZ (own_w hw 3 rfl)) (by decide) (backOfSH (W := 0) (rm1_3 l Z a0 hw [] p3 p4 G1 T34.heap n0 Zs Od S_COMPACT_STRINGS hG) hZ (own_w hw 3 rfl) (own_w hw 2 rfl) (by decide) (by decide) (own_EW hw) hR.1) (g := (mkF m 26 #[.val (.int p0), .val (.int p1), .val (.int p2), .val (.int p3), .val (.int p4), .val (.int 1), .val (.int 3), .val (.ref tk34), .unset, .unset, .unset, .unset] [(.int p4), (.int p3), (.int 3)])) rfl (by rw [hml]; rfl) (argsL := [(.int 3), (.int p3), (.int p4)]) (rest := []) (lenOf pd_7 rfl) rfl (by show 2 * 0 + _ ≤ _; exact Nat.le_of_eq rfl) (hb hby at_26) (fun _ _ => ⟨rfl, rfl, (by decide : 6 + 3 ≤ _), (by decide : 12 + 8 ≤ _)⟩)
      dsimp only [Pt.U, Pt.locs, Pt.cells, Pt.slots] at X59 l59 y59 z59 st59 hQ59 Sw59 Gw59 Cw59
      subst l59 y59 z59
      obtain ⟨X59, Sw59, hZ, hown⟩ := rebS hS (own_hk rfl hk) X59 Sw59 Gw59 hZ hown
      replace hR := hR.trans Cw59
      obtain ⟨tk59, hv59, Nq59, K59⟩ := hQ59
      subst hv59
      replace Nf := Fr.app Nf Nq59
      replace Od := Od.keep K59 all0
      replace Zs := Nat.le_trans Zs K59.1
      replace hk := Nat.le_trans hk K59.1
      replace hS := Sw59
      replace hk := Nat.le_refl (Array.size T59.heap)
      refine own_goH (x' := T59.setTop (mkF m 29 #[.val (.int p0), .val (.int p1), .val (.int p2), .val (.int p3), .val (.int p4), .val (.int 1), .val (.int 3), .val (.ref tk34), .unset, .unset, .unset, .unset] [(.ref tk59)])) (fun _ k => st59.trans k) ?_
      refine own_goH (x' := T59.setTop (mkF m 43 #[.val (.int p0), .val (.int p1), .val (.int p2), .val (.int p3), .val (.int p4), .val (.int 1), .val (.int 3), .val (.ref tk34), .val (.ref tk59), .val (.int 0), .unset, .unset] [])) (fun _ k => XS.astore X59.here hx rfl (hb hby at_29) rfl rfl (l' := #[.val (.int p0), .val (.int p1), .val (.int p2), .val (.int p3), .val (.int p4), .val (.int 1), .val (.int 3), .val (.ref tk34), .val (.ref tk59), .unset, .unset, .unset]) rfl (XS.iload X59.here hx rfl (hb hby at_31) rfl (XS.ifYes X59.here hx rfl (pc0 := 33) (pc' := 40) rfl (hb hby at_33) rfl ((if0 _ _).trans (feq (by decide +kernel : ¬ ((1 : Int32) = (0 : Int32)))).2) (by decide) (by decide) (XS.iconst X59.here hx rfl (hb hby at_40) (XS.istore X59.here hx rfl (hb hby at_41) rfl (l' := #[.val (.int p0), .val (.int p1), .val (.int p2), .val (.int p3), .val (.int p4), .val (.int 1), .val (.int 3), .val (.ref tk34), .val (.ref tk59), .val (.int 0), .unset, .unset]) rfl k))))) ?_
      obtain ⟨T60, h60, X60, e60, E60, A60, D60, -, st60⟩ := newO X59 hx hZ hown (own_w hw 4 rfl) (own_w hw 5 rfl) (own_w hw 6 rfl) rfl (g := (mkF m 43 #[.val (.int p0), .val (.int p1), .val (.int p2), .val (.int p3), .val (.int p4), .val (.int 1), .val (.int 3), .val (.ref tk34), .val (.ref tk59), .val (.int 0), .unset, .unset] [])) rfl (hb hby at_43) (by decide) (by decide)
      obtain ⟨b60, g60⟩ : ∃ z, z = T59.heap.size := ⟨_, rfl⟩
      rw [← g60] at A60 D60 st60
      have g_b60 : n0 ≤ b60 := Nat.le_trans Zs (Nat.le_of_eq g60.symm)
      have Sf_b60 := own_sfn hR (Nat.le_of_eq g60.symm)
      replace Od := Od.ext E60
      replace Zs := Nat.le_trans Zs E60.1
      replace hk := Nat.le_trans hk E60.1
      have Sq_b60 := Safe.ext E60 hR.1 Sf_b60
      replace hR := hR.trans (CHr.ext E60 hR.1)
      replace Sf_b60 := Sq_b60
      have E_b60 := A60
      have F_b60_token : Fld Z h60 b60 "com/example/lean_bus/leanbus/api/Caller" "token" "Ljava/lang/String;" .null := D60 (Or.inr (own_w hw 19 rfl)) (ty := (.object "java/lang/String")) (by decide)
      have F_b60_name : Fld Z h60 b60 "com/example/lean_bus/leanbus/api/Caller" "name" "Ljava/lang/String;" .null := D60 (Or.inr (own_w hw 21 rfl)) (ty := (.object "java/lang/String")) (by decide)
      refine own_goH (x' := T60.setTop (mkF m 46 #[.val (.int p0), .val (.int p1), .val (.int p2), .val (.int p3), .val (.int p4), .val (.int 1), .val (.int 3), .val (.ref tk34), .val (.ref tk59), .val (.int 0), .unset, .unset] [(.ref b60)])) st60 ?_
      refine own_goH (x' := T60.setTop (mkF m 51 #[.val (.int p0), .val (.int p1), .val (.int p2), .val (.int p3), .val (.int p4), .val (.int 1), .val (.int 3), .val (.ref tk34), .val (.ref tk59), .val (.int 0), .unset, .unset] [(.ref tk59), (.ref tk34), (.ref b60), (.ref b60)])) (fun _ k => XS.dup X60.here hx rfl (hb hby at_46) rfl rfl (XS.aload X60.here hx rfl (hb hby at_47) rfl rfl (XS.aload X60.here hx rfl (hb hby at_49) rfl rfl k))) ?_
      obtain ⟨_, _, ⟨T61, L61, k61, n61⟩, -, X61, ⟨Lc61, hQ61, l61, y61, z61⟩, st61⟩ := X60.specialBack hx (y := (⟨"com/example/lean_bus/leanbus/api/Caller", "<init>", "(Ljava/lang/String;Ljava/lang/String;)V"⟩ : MethodName)) rfl hown (mvT hZ (own_w hw 7 rfl)) (mvT hZ (own_w hw 8 rfl)) (mvT hZ (own_w hw 9 rfl)) (by decide) (backOf (W := 1) (rm2RR l Z a0 hw [] b60 tk34 tk59 h60 n0 Zs E_b60 F_b60_token F_b60_name g_b60) hZ (own_w hw 9 rfl) (own_w hw 6 rfl) (by decide) (by decide)) (g := (mkF m 51 #[.val (.int p0), .val (.int p1), .val (.int p2), .val (.int p3), .val (.int p4), .val (.int 1), .val (.int 3), .val (.ref tk34), .val (.ref tk59), .val (.int 0), .unset, .unset] [(.ref tk59), (.ref tk34), (.ref b60), (.ref b60)])) rfl (by rw [hml]; rfl) (Steps.refl _) (a := b60) (argsL := [(.ref tk34), (.ref tk59)]) (rest := [(.ref b60)]) (lenOf pd_6 rfl) rfl (by show 2 * 0 + _ ≤ _; exact Nat.le_of_eq rfl) (hb hby at_51) (fun _ _ => ⟨rfl, e60, (by decide : 10 + 0 ≤ _), (by decide : 22 + 0 ≤ _)⟩)
      dsimp only [Pt.U, Pt.locs, Pt.cells, Pt.slots] at X61 l61 y61 z61 st61 hQ61
      subst l61 y61 z61
      obtain ⟨hv61, Nq61, K61, Eo61, Fo61_0, Fo61_1⟩ := hQ61
      subst hv61
      replace Nf := Fr.app Nf Nq61
      replace Od := Od.keep K61 (allS g_b60 all0)
      replace Zs := Nat.le_trans Zs K61.1
      replace hk := Nat.le_trans hk K61.1
      have Sq_b60 := Safe.keep K61 (allS Sf_b60 all0) hR.1 Sf_b60
      replace hR := hR.trans (CHr.keep K61 (allS Sf_b60 all0) hR.1)
      replace Sf_b60 := Sq_b60
      replace E_b60 := Eo61
      replace F_b60_token := Fo61_0
      replace F_b60_name := Fo61_1
      refine own_goH (x' := T61.setTop (mkF m 54 #[.val (.int p0), .val (.int p1), .val (.int p2), .val (.int p3), .val (.int p4), .val (.int 1), .val (.int 3), .val (.ref tk34), .val (.ref tk59), .val (.int 0), .unset, .unset] [(.ref b60)])) (fun _ k => st61.trans k) ?_
      refine own_goH (x' := T61.setTop (mkF m 58 #[.val (.int p0), .val (.int p1), .val (.int p2), .val (.int p3), .val (.int p4), .val (.int 1), .val (.int 3), .val (.ref tk34), .val (.ref tk59), .val (.int 0), .val (.ref b60), .unset] [(.ref b60)])) (fun _ k => XS.astore X61.here hx rfl (hb hby at_54) rfl rfl (l' := #[.val (.int p0), .val (.int p1), .val (.int p2), .val (.int p3), .val (.int p4), .val (.int 1), .val (.int 3), .val (.ref tk34), .val (.ref tk59), .val (.int 0), .val (.ref b60), .unset]) rfl (XS.aload X61.here hx rfl (hb hby at_56) rfl rfl k)) ?_
      obtain ⟨cq62, kq62, q62a, q62b, q62c⟩ := isOf hZ rfl E_b60
      obtain ⟨_, _, ⟨T62, L62, k62, n62⟩, -, X62, ⟨Lc62, hQ62, l62, y62, z62⟩, st62⟩ := X61.virtualBack hx (y := (⟨"com/example/lean_bus/leanbus/api/Caller", "isRoot", "()Z"⟩ : MethodName)) (z := (⟨"com/example/lean_bus/leanbus/api/Caller", "isRoot", "()Z"⟩ : MethodName)) hown (mvT hZ (own_w hw 22 rfl)) (mvT hZ (own_w hw 23 rfl)) (notFace_of_selects (args := #[]) (mvT hZ (own_w hw 25 rfl))) (mvT hZ (own_w hw 25 rfl)) (mvT hZ (own_w hw 24 rfl)) (by decide) (backOf (W := 0) (rm5R l Z a0 hw [] b60 tk34 T61.heap n0 Zs F_b60_token) hZ (own_w hw 26 rfl) (own_w hw 6 rfl) (by decide) (by decide)) q62a q62c (g := (mkF m 58 #[.val (.int p0), .val (.int p1), .val (.int p2), .val (.int p3), .val (.int p4), .val (.int 1), .val (.int 3), .val (.ref tk34), .val (.ref tk59), .val (.int 0), .val (.ref b60), .unset] [(.ref b60)])) rfl (by rw [hml]; rfl) (Steps.refl _) (argsL := []) (rest := []) (lenOf pd_8 rfl) rfl (by show 2 * 0 + _ ≤ _; exact Nat.le_of_eq rfl) (hb hby at_58) (fun _ _ => ⟨rfl, rfl, (by decide : 10 + 0 ≤ _), (by decide : 22 + 0 ≤ _)⟩)
      dsimp only [Pt.U, Pt.locs, Pt.cells, Pt.slots] at X62 l62 y62 z62 st62 hQ62
      subst l62 y62 z62
      obtain ⟨hv62, Nq62, eq62⟩ := hQ62
      subst hv62
      replace Nf := Fr.app Nf Nq62
      refine own_goH (x' := T62.setTop (mkF m 61 #[.val (.int p0), .val (.int p1), .val (.int p2), .val (.int p3), .val (.int p4), .val (.int 1), .val (.int 3), .val (.ref tk34), .val (.ref tk59), .val (.int 0), .val (.ref b60), .unset] [(.int 0)])) (fun _ k => st62.trans k) ?_
      refine own_goH (x' := T62.setTop (mkF m 75 #[.val (.int p0), .val (.int p1), .val (.int p2), .val (.int p3), .val (.int p4), .val (.int 1), .val (.int 3), .val (.ref tk34), .val (.ref tk59), .val (.int 0), .val (.ref b60), .val (.int 1)] [(.int 1)])) (fun _ k => XS.iload X62.here hx rfl (hb hby at_61) rfl (XS.icmpNo X62.here hx rfl (hb hby at_63) rfl (teq rfl).2 (XS.iconst X62.here hx rfl (hb hby at_66) (XS.goto X62.here hx rfl (pc0 := 67) (pc' := 71) rfl (hb hby at_67) (by decide) (by decide) (XS.istore X62.here hx rfl (hb hby at_71) rfl (l' := #[.val (.int p0), .val (.int p1), .val (.int p2), .val (.int p3), .val (.int p4), .val (.int 1), .val (.int 3), .val (.ref tk34), .val (.ref tk59), .val (.int 0), .val (.ref b60), .val (.int 1)]) rfl (XS.iload X62.here hx rfl (hb hby at_73) rfl k)))))) ?_
      refine own_goH (x' := T62.setTop (mkF m 78 #[.val (.int p0), .val (.int p1), .val (.int p2), .val (.int p3), .val (.int p4), .val (.int 1), .val (.int 3), .val (.ref tk34), .val (.ref tk59), .val (.int 0), .val (.ref b60), .val (.int 1)] [])) (fun _ k => XS.ifNo X62.here hx rfl (hb hby at_75) rfl ((if0 _ _).trans (feq (by decide +kernel : ¬ ((1 : Int32) = (0 : Int32)))).1) k) ?_
      obtain ⟨_, _, ⟨T63, L63, k63, n63⟩, -, X63, ⟨Lc63, hQ63, l63, y63, z63⟩, st63⟩ := Jvm.LawKit.callS X62 hx (y := (⟨"com/example/lean_bus/leanbus/api/Caller", "root", "()Lcom/example/lean_bus/leanbus/api/Caller;"⟩ : MethodName)) hown (mvT hZ (own_w hw 27 rfl)) (mvT hZ (own_w hw 28 rfl)) (mvT hZ (own_w hw 6 rfl)) (mvT hZ (own_w hw 29 rfl)) (by decide) (backOf (W := 0) (rm6 l Z a0 hw []  T61.heap n0 Zs ) hZ (own_w hw 29 rfl) (own_w hw 6 rfl) (by decide) (by decide)) (g := (mkF m 78 #[.val (.int p0), .val (.int p1), .val (.int p2), .val (.int p3), .val (.int p4), .val (.int 1), .val (.int 3), .val (.ref tk34), .val (.ref tk59), .val (.int 0), .val (.ref b60), .val (.int 1)] [])) rfl (by rw [hml]; rfl) (argsL := []) (rest := []) (lenOf pd_9 rfl) rfl (by show 2 * 0 + _ ≤ _; exact Nat.le_of_eq rfl) (hb hby at_78) (fun _ _ => ⟨rfl, eq62, (by decide : 10 + 1 ≤ _), (by decide : 22 + 2 ≤ _)⟩)
      dsimp only [Pt.U, Pt.locs, Pt.cells, Pt.slots] at X63 l63 y63 z63 st63 hQ63
      subst l63 y63 z63
      obtain ⟨b63, hv63, Nq63, K63, sq63, g_b63, E_b63, F_b63_token, F_b63_name⟩ := hQ63
      subst hv63
      replace Nf := Fr.app Nf Nq63
      have ne_b60_b63 : b60 ≠ b63 := Nat.ne_of_lt (Nat.lt_of_lt_of_le E_b60.lt sq63)
      replace Od := Od.keep K63 all0
      replace E_b60 := E_b60.keep K63
      replace F_b60_token := F_b60_token.keep K63 nin0
      replace F_b60_name := F_b60_name.keep K63 nin0
      replace Zs := Nat.le_trans Zs K63.1
      replace hk := Nat.le_trans hk K63.1
      have Sq_b60 := Safe.keep K63 all0 hR.1 Sf_b60
      replace hR := hR.trans (CHr.keep K63 all0 hR.1)
      replace Sf_b60 := Sq_b60
      refine own_goH (x' := T63.setTop (mkF m 81 #[.val (.int p0), .val (.int p1), .val (.int p2), .val (.int p3), .val (.int p4), .val (.int 1), .val (.int 3), .val (.ref tk34), .val (.ref tk59), .val (.int 0), .val (.ref b60), .val (.int 1)] [(.ref b63)])) st63 ?_
      obtain ⟨cq64, kq64, q64a, q64b, q64c⟩ := isOf hZ rfl E_b63
      obtain ⟨_, _, ⟨T64, L64, k64, n64⟩, -, X64, ⟨Lc64, hQ64, l64, y64, z64⟩, st64⟩ := X63.virtualBack hx (y := (⟨"com/example/lean_bus/leanbus/api/Caller", "isRoot", "()Z"⟩ : MethodName)) (z := (⟨"com/example/lean_bus/leanbus/api/Caller", "isRoot", "()Z"⟩ : MethodName)) hown (mvT hZ (own_w hw 22 rfl)) (mvT hZ (own_w hw 23 rfl)) (notFace_of_selects (args := #[]) (mvT hZ (own_w hw 25 rfl))) (mvT hZ (own_w hw 25 rfl)) (mvT hZ (own_w hw 24 rfl)) (by decide) (backOf (W := 0) (rm5N l Z a0 hw [] b63  T63.heap n0 Zs F_b63_token) hZ (own_w hw 26 rfl) (own_w hw 6 rfl) (by decide) (by decide)) q64a q64c (g := (mkF m 81 #[.val (.int p0), .val (.int p1), .val (.int p2), .val (.int p3), .val (.int p4), .val (.int 1), .val (.int 3), .val (.ref tk34), .val (.ref tk59), .val (.int 0), .val (.ref b60), .val (.int 1)] [(.ref b63)])) rfl (by rw [hml]; rfl) (Steps.refl _) (argsL := []) (rest := []) (lenOf pd_8 rfl) rfl (by show 2 * 0 + _ ≤ _; exact Nat.le_of_eq rfl) (hb hby at_81) (fun _ _ => ⟨rfl, rfl, (by decide : 11 + 0 ≤ _), (by decide : 24 + 0 ≤ _)⟩)
      dsimp only [Pt.U, Pt.locs, Pt.cells, Pt.slots] at X64 l64 y64 z64 st64 hQ64
      subst l64 y64 z64
      obtain ⟨hv64, Nq64, eq64⟩ := hQ64
      subst hv64
      replace Nf := Fr.app Nf Nq64
      refine own_goH (x' := T64.setTop (mkF m 84 #[.val (.int p0), .val (.int p1), .val (.int p2), .val (.int p3), .val (.int p4), .val (.int 1), .val (.int 3), .val (.ref tk34), .val (.ref tk59), .val (.int 0), .val (.ref b60), .val (.int 1)] [(.int 1)])) (fun _ k => st64.trans k) ?_
      refine own_goH (x' := T64.setTop (mkF m 99 #[.val (.int p0), .val (.int p1), .val (.int p2), .val (.int p3), .val (.int p4), .val (.int 1), .val (.int 3), .val (.ref tk34), .val (.ref tk59), .val (.int 0), .val (.ref b60), .val (.int 1)] [])) (fun _ k => XS.ifNo X64.here hx rfl (hb hby at_84) rfl ((if0 _ _).trans (feq (by decide +kernel : ¬ ((1 : Int32) = (0 : Int32)))).1) (XS.iconst X64.here hx rfl (hb hby at_87) (XS.goto X64.here hx rfl (pc0 := 88) (pc' := 92) rfl (hb hby at_88) (by decide) (by decide) (XS.istore X64.here hx rfl (hb hby at_92) rfl (l' := #[.val (.int p0), .val (.int p1), .val (.int p2), .val (.int p3), .val (.int p4), .val (.int 1), .val (.int 3), .val (.ref tk34), .val (.ref tk59), .val (.int 0), .val (.ref b60), .val (.int 1)]) rfl (XS.iload X64.here hx rfl (hb hby at_94) rfl (XS.ifNo X64.here hx rfl (hb hby at_96) rfl ((if0 _ _).trans (feq (by decide +kernel : ¬ ((1 : Int32) = (0 : Int32)))).1) k)))))) ?_
      refine own_goH (x' := T64.setTop (mkF m 101 #[.val (.int p0), .val (.int p1), .val (.int p2), .val (.int p3), .val (.int p4), .val (.int 1), .val (.int 3), .val (.ref tk34), .val (.ref tk59), .val (.int 0), .val (.ref b60), .val (.int 1)] [(.ref tk34)])) (fun _ k => XS.aload X64.here hx rfl (hb hby at_99) rfl rfl k) ?_
      obtain ⟨_, _, ⟨T65, L65, k65, n65⟩, -, X65, ⟨Lc65, hQ65, l65, y65, z65⟩, st65⟩ := Jvm.LawKit.callS X64 hx (y := (⟨"com/example/lean_bus/leanbus/api/Caller", "unchecked", "(Ljava/lang/String;)Lcom/example/lean_bus/leanbus/api/Caller;"⟩ : MethodName)) hown (mvT hZ (own_w hw 32 rfl)) (mvT hZ (own_w hw 33 rfl)) (mvT hZ (own_w hw 6 rfl)) (mvT hZ (own_w hw 34 rfl)) (by decide) (backOf (W := 0) (rm7R l Z a0 hw [] tk34 T63.heap n0 Zs ) hZ (own_w hw 34 rfl) (own_w hw 6 rfl) (by decide) (by decide)) (g := (mkF m 101 #[.val (.int p0), .val (.int p1), .val (.int p2), .val (.int p3), .val (.int p4), .val (.int 1), .val (.int 3), .val (.ref tk34), .val (.ref tk59), .val (.int 0), .val (.ref b60), .val (.int 1)] [(.ref tk34)])) rfl (by rw [hml]; rfl) (argsL := [(.ref tk34)]) (rest := []) (lenOf pd_10 rfl) rfl (by show 2 * 0 + _ ≤ _; exact Nat.le_of_eq rfl) (hb hby at_101) (fun _ _ => ⟨rfl, eq64, (by decide : 11 + 1 ≤ _), (by decide : 24 + 2 ≤ _)⟩)
      dsimp only [Pt.U, Pt.locs, Pt.cells, Pt.slots] at X65 l65 y65 z65 st65 hQ65
      subst l65 y65 z65
      obtain ⟨b65, hv65, Nq65, K65, sq65, g_b65, E_b65, F_b65_token, F_b65_name⟩ := hQ65
      subst hv65
      replace Nf := Fr.app Nf Nq65
      have ne_b60_b65 : b60 ≠ b65 := Nat.ne_of_lt (Nat.lt_of_lt_of_le E_b60.lt sq65)
      have ne_b63_b65 : b63 ≠ b65 := Nat.ne_of_lt (Nat.lt_of_lt_of_le E_b63.lt sq65)
      replace Od := Od.keep K65 all0
      replace E_b60 := E_b60.keep K65
      replace F_b60_token := F_b60_token.keep K65 nin0
      replace F_b60_name := F_b60_name.keep K65 nin0
      replace E_b63 := E_b63.keep K65
      replace F_b63_token := F_b63_token.keep K65 nin0
      replace F_b63_name := F_b63_name.keep K65 nin0
      replace Zs := Nat.le_trans Zs K65.1
      replace hk := Nat.le_trans hk K65.1
      have Sq_b60 := Safe.keep K65 all0 hR.1 Sf_b60
      replace hR := hR.trans (CHr.keep K65 all0 hR.1)
      replace Sf_b60 := Sq_b60
      refine own_goH (x' := T65.setTop (mkF m 104 #[.val (.int p0), .val (.int p1), .val (.int p2), .val (.int p3), .val (.int p4), .val (.int 1), .val (.int 3), .val (.ref tk34), .val (.ref tk59), .val (.int 0), .val (.ref b60), .val (.int 1)] [(.ref b65)])) st65 ?_
      obtain ⟨cq66, kq66, q66a, q66b, q66c⟩ := isOf hZ rfl E_b65
      obtain ⟨_, _, ⟨T66, L66, k66, n66⟩, -, X66, ⟨Lc66, hQ66, l66, y66, z66⟩, st66⟩ := X65.virtualBack hx (y := (⟨"com/example/lean_bus/leanbus/api/Caller", "isRoot", "()Z"⟩ : MethodName)) (z := (⟨"com/example/lean_bus/leanbus/api/Caller", "isRoot", "()Z"⟩ : MethodName)) hown (mvT hZ (own_w hw 22 rfl)) (mvT hZ (own_w hw 23 rfl)) (notFace_of_selects (args := #[]) (mvT hZ (own_w hw 25 rfl))) (mvT hZ (own_w hw 25 rfl)) (mvT hZ (own_w hw 24 rfl)) (by decide) (backOf (W := 0) (rm5R l Z a0 hw [] b65 tk34 T65.heap n0 Zs F_b65_token) hZ (own_w hw 26 rfl) (own_w hw 6 rfl) (by decide) (by decide)) q66a q66c (g := (mkF m 104 #[.val (.int p0), .val (.int p1), .val (.int p2), .val (.int p3), .val (.int p4), .val (.int 1), .val (.int 3), .val (.ref tk34), .val (.ref tk59), .val (.int 0), .val (.ref b60), .val (.int 1)] [(.ref b65)])) rfl (by rw [hml]; rfl) (Steps.refl _) (argsL := []) (rest := []) (lenOf pd_8 rfl) rfl (by show 2 * 0 + _ ≤ _; exact Nat.le_of_eq rfl) (hb hby at_104) (fun _ _ => ⟨rfl, rfl, (by decide : 12 + 0 ≤ _), (by decide : 26 + 0 ≤ _)⟩)
      dsimp only [Pt.U, Pt.locs, Pt.cells, Pt.slots] at X66 l66 y66 z66 st66 hQ66
      subst l66 y66 z66
      obtain ⟨hv66, Nq66, eq66⟩ := hQ66
      subst hv66
      replace Nf := Fr.app Nf Nq66
      refine own_goH (x' := T66.setTop (mkF m 107 #[.val (.int p0), .val (.int p1), .val (.int p2), .val (.int p3), .val (.int p4), .val (.int 1), .val (.int 3), .val (.ref tk34), .val (.ref tk59), .val (.int 0), .val (.ref b60), .val (.int 1)] [(.int 0)])) (fun _ k => st66.trans k) ?_
      refine own_goH (x' := T66.setTop (mkF m 121 #[.val (.int p0), .val (.int p1), .val (.int p2), .val (.int p3), .val (.int p4), .val (.int 1), .val (.int 3), .val (.ref tk34), .val (.ref tk59), .val (.int 0), .val (.ref b60), .val (.int 1)] [(.int 1)])) (fun _ k => XS.iload X66.here hx rfl (hb hby at_107) rfl (XS.icmpNo X66.here hx rfl (hb hby at_109) rfl (teq rfl).2 (XS.iconst X66.here hx rfl (hb hby at_112) (XS.goto X66.here hx rfl (pc0 := 113) (pc' := 117) rfl (hb hby at_113) (by decide) (by decide) (XS.istore X66.here hx rfl (hb hby at_117) rfl (l' := #[.val (.int p0), .val (.int p1), .val (.int p2), .val (.int p3), .val (.int p4), .val (.int 1), .val (.int 3), .val (.ref tk34), .val (.ref tk59), .val (.int 0), .val (.ref b60), .val (.int 1)]) rfl (XS.iload X66.here hx rfl (hb hby at_119) rfl k)))))) ?_
      refine own_retNH X66 hS (own_hk eq66 hk) (own_hr eq66 hR) hZ (own_EW hw) hx hlk (t := .boolean) hret (by simp) (hb hby at_121) (w := (1 : Int32)) rfl ?_ (by decide) (by decide)
      rw [eq66]
      exact ⟨rfl, Nf⟩
  · refine own_goH (x' := s₁.setTop (mkF m 16 #[.val (.int p0), .val (.int p1), .val (.int p2), .val (.int p3), .val (.int p4), .val (.int 2), .val (.int nkv), .unset, .unset, .unset, .unset, .unset] [(.int p2), (.int p1), (.int 2)])) (fun _ k => XS.iload X0.here hx rfl (hb hby at_12) rfl (XS.iloadN X0.here hx rfl (hb hby at_14) rfl (XS.iloadN X0.here hx rfl (hb hby at_15) rfl k))) ?_
    obtain ⟨_, _, ⟨T67, L67, k67, n67⟩, -, X67, Sw67, Gw67, ⟨Lc67, hQ67, l67, y67, z67, Cw67⟩, st67⟩ := Jvm.RoadKit.callSS X0 hx (y := (⟨"com/example/lean_bus/leanbus/api/CallerIsRootPinLaw", "draw", "(III)Ljava/lang/String;"⟩ : MethodName)) hown (mvT hZ (own_w hw 0 rfl)) (mvT hZ (own_w hw 1 rfl)) (mvT hZ (own_w hw 2 rfl)) (mvT hZ (own_w hw 3 rfl)) (by decide) (backOfSH (W := 0) (rm1_2 l Z a0 hw [] p1 p2 G1 h0 n0 Zs Od S_COMPACT_STRINGS hG) hZ (own_w hw 3 rfl) (own_w hw 2 rfl) (by decide) (by decide) (own_EW hw) hR.1) (g := (mkF m 16 #[.val (.int p0), .val (.int p1), .val (.int p2), .val (.int p3), .val (.int p4), .val (.int 2), .val (.int nkv), .unset, .unset, .unset, .unset, .unset] [(.int p2), (.int p1), (.int 2)])) rfl (by rw [hml]; rfl) (argsL := [(.int 2), (.int p1), (.int p2)]) (rest := []) (lenOf pd_7 rfl) rfl (by show 2 * 0 + _ ≤ _; exact Nat.le_of_eq rfl) (hb hby at_16) (fun _ _ => ⟨rfl, e0, (by decide : 0 + 3 ≤ _), (by decide : 0 + 6 ≤ _)⟩)
    dsimp only [Pt.U, Pt.locs, Pt.cells, Pt.slots] at X67 l67 y67 z67 st67 hQ67 Sw67 Gw67 Cw67
    subst l67 y67 z67
    obtain ⟨X67, Sw67, hZ, hown⟩ := rebS hS (own_hk e0 hk) X67 Sw67 Gw67 hZ hown
    replace hR := hR.trans Cw67
    obtain ⟨tk67, hv67, Nq67, K67⟩ := hQ67
    subst hv67
    replace Nf := Fr.app Nf Nq67
    replace Od := Od.keep K67 all0
    replace Zs := Nat.le_trans Zs K67.1
    replace hk := Nat.le_trans hk K67.1
    replace hS := Sw67
    replace hk := Nat.le_refl (Array.size T67.heap)
    refine own_goH (x' := T67.setTop (mkF m 19 #[.val (.int p0), .val (.int p1), .val (.int p2), .val (.int p3), .val (.int p4), .val (.int 2), .val (.int nkv), .unset, .unset, .unset, .unset, .unset] [(.ref tk67)])) (fun _ k => st67.trans k) ?_
    refine own_goH (x' := T67.setTop (mkF m 21 #[.val (.int p0), .val (.int p1), .val (.int p2), .val (.int p3), .val (.int p4), .val (.int 2), .val (.int nkv), .val (.ref tk67), .unset, .unset, .unset, .unset] [])) (fun _ k => XS.astore X67.here hx rfl (hb hby at_19) rfl rfl (l' := #[.val (.int p0), .val (.int p1), .val (.int p2), .val (.int p3), .val (.int p4), .val (.int 2), .val (.int nkv), .val (.ref tk67), .unset, .unset, .unset, .unset]) rfl k) ?_
    rcases hnk with rfl | rfl | rfl | rfl
    · refine own_goH (x' := T67.setTop (mkF m 26 #[.val (.int p0), .val (.int p1), .val (.int p2), .val (.int p3), .val (.int p4), .val (.int 2), .val (.int 0), .val (.ref tk67), .unset, .unset, .unset, .unset] [(.int p4), (.int p3), (.int 0)])) (fun _ k => XS.iload X67.here hx rfl (hb hby at_21) rfl (XS.iloadN X67.here hx rfl (hb hby at_23) rfl (XS.iload X67.here hx rfl (hb hby at_24) rfl k))) ?_
      obtain ⟨_, _, ⟨T68, L68, k68, n68⟩, -, X68, ⟨Lc68, hQ68, l68, y68, z68⟩, st68⟩ := Jvm.LawKit.callS X67 hx (y := (⟨"com/example/lean_bus/leanbus/api/CallerIsRootPinLaw", "draw", "(III)Ljava/lang/String;"⟩ : MethodName)) hown (mvT hZ (own_w hw 0 rfl)) (mvT hZ (own_w hw 1 rfl)) (mvT hZ (own_w hw 2 rfl)) (mvT hZ (own_w hw 3 rfl)) (by decide) (backOf (W := 0) (rm1_0 l Z a0 hw [] p3 p4 G1 T67.heap n0 Zs Od S_COMPACT_STRINGS hG) hZ (own_w hw 3 rfl) (own_w hw 2 rfl) (by decide) (by decide)) (g := (mkF m 26 #[.val (.int p0), .val (.int p1), .val (.int p2), .val (.int p3), .val (.int p4), .val (.int 2), .val (.int 0), .val (.ref tk67), .unset, .unset, .unset, .unset] [(.int p4), (.int p3), (.int 0)])) rfl (by rw [hml]; rfl) (argsL := [(.int 0), (.int p3), (.int p4)]) (rest := []) (lenOf pd_7 rfl) rfl (by show 2 * 0 + _ ≤ _; exact Nat.le_of_eq rfl) (hb hby at_26) (fun _ _ => ⟨rfl, rfl, (by decide : 3 + 0 ≤ _), (by decide : 6 + 0 ≤ _)⟩)
      dsimp only [Pt.U, Pt.locs, Pt.cells, Pt.slots] at X68 l68 y68 z68 st68 hQ68
      subst l68 y68 z68
      obtain ⟨hv68, Nq68, eq68⟩ := hQ68
      subst hv68
      replace Nf := Fr.app Nf Nq68
      refine own_goH (x' := T68.setTop (mkF m 29 #[.val (.int p0), .val (.int p1), .val (.int p2), .val (.int p3), .val (.int p4), .val (.int 2), .val (.int 0), .val (.ref tk67), .unset, .unset, .unset, .unset] [.null])) st68 ?_
      refine own_goH (x' := T68.setTop (mkF m 43 #[.val (.int p0), .val (.int p1), .val (.int p2), .val (.int p3), .val (.int p4), .val (.int 2), .val (.int 0), .val (.ref tk67), .val .null, .val (.int 0), .unset, .unset] [])) (fun _ k => XS.astore X68.here hx rfl (hb hby at_29) rfl rfl (l' := #[.val (.int p0), .val (.int p1), .val (.int p2), .val (.int p3), .val (.int p4), .val (.int 2), .val (.int 0), .val (.ref tk67), .val .null, .unset, .unset, .unset]) rfl (XS.iload X68.here hx rfl (hb hby at_31) rfl (XS.ifYes X68.here hx rfl (pc0 := 33) (pc' := 40) rfl (hb hby at_33) rfl ((if0 _ _).trans (feq (by decide +kernel : ¬ ((2 : Int32) = (0 : Int32)))).2) (by decide) (by decide) (XS.iconst X68.here hx rfl (hb hby at_40) (XS.istore X68.here hx rfl (hb hby at_41) rfl (l' := #[.val (.int p0), .val (.int p1), .val (.int p2), .val (.int p3), .val (.int p4), .val (.int 2), .val (.int 0), .val (.ref tk67), .val .null, .val (.int 0), .unset, .unset]) rfl k))))) ?_
      obtain ⟨T69, h69, X69, e69, E69, A69, D69, -, st69⟩ := newO X68 hx hZ hown (own_w hw 4 rfl) (own_w hw 5 rfl) (own_w hw 6 rfl) eq68 (g := (mkF m 43 #[.val (.int p0), .val (.int p1), .val (.int p2), .val (.int p3), .val (.int p4), .val (.int 2), .val (.int 0), .val (.ref tk67), .val .null, .val (.int 0), .unset, .unset] [])) rfl (hb hby at_43) (by decide) (by decide)
      obtain ⟨b69, g69⟩ : ∃ z, z = T67.heap.size := ⟨_, rfl⟩
      rw [← g69] at A69 D69 st69
      have g_b69 : n0 ≤ b69 := Nat.le_trans Zs (Nat.le_of_eq g69.symm)
      have Sf_b69 := own_sfn hR (Nat.le_of_eq g69.symm)
      replace Od := Od.ext E69
      replace Zs := Nat.le_trans Zs E69.1
      replace hk := Nat.le_trans hk E69.1
      have Sq_b69 := Safe.ext E69 hR.1 Sf_b69
      replace hR := hR.trans (CHr.ext E69 hR.1)
      replace Sf_b69 := Sq_b69
      have E_b69 := A69
      have F_b69_token : Fld Z h69 b69 "com/example/lean_bus/leanbus/api/Caller" "token" "Ljava/lang/String;" .null := D69 (Or.inr (own_w hw 19 rfl)) (ty := (.object "java/lang/String")) (by decide)
      have F_b69_name : Fld Z h69 b69 "com/example/lean_bus/leanbus/api/Caller" "name" "Ljava/lang/String;" .null := D69 (Or.inr (own_w hw 21 rfl)) (ty := (.object "java/lang/String")) (by decide)
      refine own_goH (x' := T69.setTop (mkF m 46 #[.val (.int p0), .val (.int p1), .val (.int p2), .val (.int p3), .val (.int p4), .val (.int 2), .val (.int 0), .val (.ref tk67), .val .null, .val (.int 0), .unset, .unset] [(.ref b69)])) st69 ?_
      refine own_goH (x' := T69.setTop (mkF m 51 #[.val (.int p0), .val (.int p1), .val (.int p2), .val (.int p3), .val (.int p4), .val (.int 2), .val (.int 0), .val (.ref tk67), .val .null, .val (.int 0), .unset, .unset] [.null, (.ref tk67), (.ref b69), (.ref b69)])) (fun _ k => XS.dup X69.here hx rfl (hb hby at_46) rfl rfl (XS.aload X69.here hx rfl (hb hby at_47) rfl rfl (XS.aload X69.here hx rfl (hb hby at_49) rfl rfl k))) ?_
      obtain ⟨_, _, ⟨T70, L70, k70, n70⟩, -, X70, ⟨Lc70, hQ70, l70, y70, z70⟩, st70⟩ := X69.specialBack hx (y := (⟨"com/example/lean_bus/leanbus/api/Caller", "<init>", "(Ljava/lang/String;Ljava/lang/String;)V"⟩ : MethodName)) rfl hown (mvT hZ (own_w hw 7 rfl)) (mvT hZ (own_w hw 8 rfl)) (mvT hZ (own_w hw 9 rfl)) (by decide) (backOf (W := 1) (rm2RN l Z a0 hw [] b69 tk67 h69 n0 Zs E_b69 F_b69_token F_b69_name g_b69) hZ (own_w hw 9 rfl) (own_w hw 6 rfl) (by decide) (by decide)) (g := (mkF m 51 #[.val (.int p0), .val (.int p1), .val (.int p2), .val (.int p3), .val (.int p4), .val (.int 2), .val (.int 0), .val (.ref tk67), .val .null, .val (.int 0), .unset, .unset] [.null, (.ref tk67), (.ref b69), (.ref b69)])) rfl (by rw [hml]; rfl) (Steps.refl _) (a := b69) (argsL := [(.ref tk67), .null]) (rest := [(.ref b69)]) (lenOf pd_6 rfl) rfl (by show 2 * 0 + _ ≤ _; exact Nat.le_of_eq rfl) (hb hby at_51) (fun _ _ => ⟨rfl, e69, (by decide : 4 + 0 ≤ _), (by decide : 8 + 0 ≤ _)⟩)
      dsimp only [Pt.U, Pt.locs, Pt.cells, Pt.slots] at X70 l70 y70 z70 st70 hQ70
      subst l70 y70 z70
      obtain ⟨hv70, Nq70, K70, Eo70, Fo70_0, Fo70_1⟩ := hQ70
      subst hv70
      replace Nf := Fr.app Nf Nq70
      replace Od := Od.keep K70 (allS g_b69 all0)
      replace Zs := Nat.le_trans Zs K70.1
      replace hk := Nat.le_trans hk K70.1
      have Sq_b69 := Safe.keep K70 (allS Sf_b69 all0) hR.1 Sf_b69
      replace hR := hR.trans (CHr.keep K70 (allS Sf_b69 all0) hR.1)
      replace Sf_b69 := Sq_b69
      replace E_b69 := Eo70
      replace F_b69_token := Fo70_0
      replace F_b69_name := Fo70_1
      refine own_goH (x' := T70.setTop (mkF m 54 #[.val (.int p0), .val (.int p1), .val (.int p2), .val (.int p3), .val (.int p4), .val (.int 2), .val (.int 0), .val (.ref tk67), .val .null, .val (.int 0), .unset, .unset] [(.ref b69)])) (fun _ k => st70.trans k) ?_
      refine own_goH (x' := T70.setTop (mkF m 58 #[.val (.int p0), .val (.int p1), .val (.int p2), .val (.int p3), .val (.int p4), .val (.int 2), .val (.int 0), .val (.ref tk67), .val .null, .val (.int 0), .val (.ref b69), .unset] [(.ref b69)])) (fun _ k => XS.astore X70.here hx rfl (hb hby at_54) rfl rfl (l' := #[.val (.int p0), .val (.int p1), .val (.int p2), .val (.int p3), .val (.int p4), .val (.int 2), .val (.int 0), .val (.ref tk67), .val .null, .val (.int 0), .val (.ref b69), .unset]) rfl (XS.aload X70.here hx rfl (hb hby at_56) rfl rfl k)) ?_
      obtain ⟨cq71, kq71, q71a, q71b, q71c⟩ := isOf hZ rfl E_b69
      obtain ⟨_, _, ⟨T71, L71, k71, n71⟩, -, X71, ⟨Lc71, hQ71, l71, y71, z71⟩, st71⟩ := X70.virtualBack hx (y := (⟨"com/example/lean_bus/leanbus/api/Caller", "isRoot", "()Z"⟩ : MethodName)) (z := (⟨"com/example/lean_bus/leanbus/api/Caller", "isRoot", "()Z"⟩ : MethodName)) hown (mvT hZ (own_w hw 22 rfl)) (mvT hZ (own_w hw 23 rfl)) (notFace_of_selects (args := #[]) (mvT hZ (own_w hw 25 rfl))) (mvT hZ (own_w hw 25 rfl)) (mvT hZ (own_w hw 24 rfl)) (by decide) (backOf (W := 0) (rm5R l Z a0 hw [] b69 tk67 T70.heap n0 Zs F_b69_token) hZ (own_w hw 26 rfl) (own_w hw 6 rfl) (by decide) (by decide)) q71a q71c (g := (mkF m 58 #[.val (.int p0), .val (.int p1), .val (.int p2), .val (.int p3), .val (.int p4), .val (.int 2), .val (.int 0), .val (.ref tk67), .val .null, .val (.int 0), .val (.ref b69), .unset] [(.ref b69)])) rfl (by rw [hml]; rfl) (Steps.refl _) (argsL := []) (rest := []) (lenOf pd_8 rfl) rfl (by show 2 * 0 + _ ≤ _; exact Nat.le_of_eq rfl) (hb hby at_58) (fun _ _ => ⟨rfl, rfl, (by decide : 4 + 0 ≤ _), (by decide : 8 + 0 ≤ _)⟩)
      dsimp only [Pt.U, Pt.locs, Pt.cells, Pt.slots] at X71 l71 y71 z71 st71 hQ71
      subst l71 y71 z71
      obtain ⟨hv71, Nq71, eq71⟩ := hQ71
      subst hv71
      replace Nf := Fr.app Nf Nq71
      refine own_goH (x' := T71.setTop (mkF m 61 #[.val (.int p0), .val (.int p1), .val (.int p2), .val (.int p3), .val (.int p4), .val (.int 2), .val (.int 0), .val (.ref tk67), .val .null, .val (.int 0), .val (.ref b69), .unset] [(.int 0)])) (fun _ k => st71.trans k) ?_
      refine own_goH (x' := T71.setTop (mkF m 75 #[.val (.int p0), .val (.int p1), .val (.int p2), .val (.int p3), .val (.int p4), .val (.int 2), .val (.int 0), .val (.ref tk67), .val .null, .val (.int 0), .val (.ref b69), .val (.int 1)] [(.int 1)])) (fun _ k => XS.iload X71.here hx rfl (hb hby at_61) rfl (XS.icmpNo X71.here hx rfl (hb hby at_63) rfl (teq rfl).2 (XS.iconst X71.here hx rfl (hb hby at_66) (XS.goto X71.here hx rfl (pc0 := 67) (pc' := 71) rfl (hb hby at_67) (by decide) (by decide) (XS.istore X71.here hx rfl (hb hby at_71) rfl (l' := #[.val (.int p0), .val (.int p1), .val (.int p2), .val (.int p3), .val (.int p4), .val (.int 2), .val (.int 0), .val (.ref tk67), .val .null, .val (.int 0), .val (.ref b69), .val (.int 1)]) rfl (XS.iload X71.here hx rfl (hb hby at_73) rfl k)))))) ?_
      refine own_goH (x' := T71.setTop (mkF m 78 #[.val (.int p0), .val (.int p1), .val (.int p2), .val (.int p3), .val (.int p4), .val (.int 2), .val (.int 0), .val (.ref tk67), .val .null, .val (.int 0), .val (.ref b69), .val (.int 1)] [])) (fun _ k => XS.ifNo X71.here hx rfl (hb hby at_75) rfl ((if0 _ _).trans (feq (by decide +kernel : ¬ ((1 : Int32) = (0 : Int32)))).1) k) ?_
      obtain ⟨_, _, ⟨T72, L72, k72, n72⟩, -, X72, ⟨Lc72, hQ72, l72, y72, z72⟩, st72⟩ := Jvm.LawKit.callS X71 hx (y := (⟨"com/example/lean_bus/leanbus/api/Caller", "root", "()Lcom/example/lean_bus/leanbus/api/Caller;"⟩ : MethodName)) hown (mvT hZ (own_w hw 27 rfl)) (mvT hZ (own_w hw 28 rfl)) (mvT hZ (own_w hw 6 rfl)) (mvT hZ (own_w hw 29 rfl)) (by decide) (backOf (W := 0) (rm6 l Z a0 hw []  T70.heap n0 Zs ) hZ (own_w hw 29 rfl) (own_w hw 6 rfl) (by decide) (by decide)) (g := (mkF m 78 #[.val (.int p0), .val (.int p1), .val (.int p2), .val (.int p3), .val (.int p4), .val (.int 2), .val (.int 0), .val (.ref tk67), .val .null, .val (.int 0), .val (.ref b69), .val (.int 1)] [])) rfl (by rw [hml]; rfl) (argsL := []) (rest := []) (lenOf pd_9 rfl) rfl (by show 2 * 0 + _ ≤ _; exact Nat.le_of_eq rfl) (hb hby at_78) (fun _ _ => ⟨rfl, eq71, (by decide : 4 + 1 ≤ _), (by decide : 8 + 2 ≤ _)⟩)
      dsimp only [Pt.U, Pt.locs, Pt.cells, Pt.slots] at X72 l72 y72 z72 st72 hQ72
      subst l72 y72 z72
      obtain ⟨b72, hv72, Nq72, K72, sq72, g_b72, E_b72, F_b72_token, F_b72_name⟩ := hQ72
      subst hv72
      replace Nf := Fr.app Nf Nq72
      have ne_b69_b72 : b69 ≠ b72 := Nat.ne_of_lt (Nat.lt_of_lt_of_le E_b69.lt sq72)
      replace Od := Od.keep K72 all0
      replace E_b69 := E_b69.keep K72
      replace F_b69_token := F_b69_token.keep K72 nin0
      replace F_b69_name := F_b69_name.keep K72 nin0
      replace Zs := Nat.le_trans Zs K72.1
      replace hk := Nat.le_trans hk K72.1
      have Sq_b69 := Safe.keep K72 all0 hR.1 Sf_b69
      replace hR := hR.trans (CHr.keep K72 all0 hR.1)
      replace Sf_b69 := Sq_b69
      refine own_goH (x' := T72.setTop (mkF m 81 #[.val (.int p0), .val (.int p1), .val (.int p2), .val (.int p3), .val (.int p4), .val (.int 2), .val (.int 0), .val (.ref tk67), .val .null, .val (.int 0), .val (.ref b69), .val (.int 1)] [(.ref b72)])) st72 ?_
      obtain ⟨cq73, kq73, q73a, q73b, q73c⟩ := isOf hZ rfl E_b72
      obtain ⟨_, _, ⟨T73, L73, k73, n73⟩, -, X73, ⟨Lc73, hQ73, l73, y73, z73⟩, st73⟩ := X72.virtualBack hx (y := (⟨"com/example/lean_bus/leanbus/api/Caller", "isRoot", "()Z"⟩ : MethodName)) (z := (⟨"com/example/lean_bus/leanbus/api/Caller", "isRoot", "()Z"⟩ : MethodName)) hown (mvT hZ (own_w hw 22 rfl)) (mvT hZ (own_w hw 23 rfl)) (notFace_of_selects (args := #[]) (mvT hZ (own_w hw 25 rfl))) (mvT hZ (own_w hw 25 rfl)) (mvT hZ (own_w hw 24 rfl)) (by decide) (backOf (W := 0) (rm5N l Z a0 hw [] b72  T72.heap n0 Zs F_b72_token) hZ (own_w hw 26 rfl) (own_w hw 6 rfl) (by decide) (by decide)) q73a q73c (g := (mkF m 81 #[.val (.int p0), .val (.int p1), .val (.int p2), .val (.int p3), .val (.int p4), .val (.int 2), .val (.int 0), .val (.ref tk67), .val .null, .val (.int 0), .val (.ref b69), .val (.int 1)] [(.ref b72)])) rfl (by rw [hml]; rfl) (Steps.refl _) (argsL := []) (rest := []) (lenOf pd_8 rfl) rfl (by show 2 * 0 + _ ≤ _; exact Nat.le_of_eq rfl) (hb hby at_81) (fun _ _ => ⟨rfl, rfl, (by decide : 5 + 0 ≤ _), (by decide : 10 + 0 ≤ _)⟩)
      dsimp only [Pt.U, Pt.locs, Pt.cells, Pt.slots] at X73 l73 y73 z73 st73 hQ73
      subst l73 y73 z73
      obtain ⟨hv73, Nq73, eq73⟩ := hQ73
      subst hv73
      replace Nf := Fr.app Nf Nq73
      refine own_goH (x' := T73.setTop (mkF m 84 #[.val (.int p0), .val (.int p1), .val (.int p2), .val (.int p3), .val (.int p4), .val (.int 2), .val (.int 0), .val (.ref tk67), .val .null, .val (.int 0), .val (.ref b69), .val (.int 1)] [(.int 1)])) (fun _ k => st73.trans k) ?_
      refine own_goH (x' := T73.setTop (mkF m 99 #[.val (.int p0), .val (.int p1), .val (.int p2), .val (.int p3), .val (.int p4), .val (.int 2), .val (.int 0), .val (.ref tk67), .val .null, .val (.int 0), .val (.ref b69), .val (.int 1)] [])) (fun _ k => XS.ifNo X73.here hx rfl (hb hby at_84) rfl ((if0 _ _).trans (feq (by decide +kernel : ¬ ((1 : Int32) = (0 : Int32)))).1) (XS.iconst X73.here hx rfl (hb hby at_87) (XS.goto X73.here hx rfl (pc0 := 88) (pc' := 92) rfl (hb hby at_88) (by decide) (by decide) (XS.istore X73.here hx rfl (hb hby at_92) rfl (l' := #[.val (.int p0), .val (.int p1), .val (.int p2), .val (.int p3), .val (.int p4), .val (.int 2), .val (.int 0), .val (.ref tk67), .val .null, .val (.int 0), .val (.ref b69), .val (.int 1)]) rfl (XS.iload X73.here hx rfl (hb hby at_94) rfl (XS.ifNo X73.here hx rfl (hb hby at_96) rfl ((if0 _ _).trans (feq (by decide +kernel : ¬ ((1 : Int32) = (0 : Int32)))).1) k)))))) ?_
      refine own_goH (x' := T73.setTop (mkF m 101 #[.val (.int p0), .val (.int p1), .val (.int p2), .val (.int p3), .val (.int p4), .val (.int 2), .val (.int 0), .val (.ref tk67), .val .null, .val (.int 0), .val (.ref b69), .val (.int 1)] [(.ref tk67)])) (fun _ k => XS.aload X73.here hx rfl (hb hby at_99) rfl rfl k) ?_
      obtain ⟨_, _, ⟨T74, L74, k74, n74⟩, -, X74, ⟨Lc74, hQ74, l74, y74, z74⟩, st74⟩ := Jvm.LawKit.callS X73 hx (y := (⟨"com/example/lean_bus/leanbus/api/Caller", "unchecked", "(Ljava/lang/String;)Lcom/example/lean_bus/leanbus/api/Caller;"⟩ : MethodName)) hown (mvT hZ (own_w hw 32 rfl)) (mvT hZ (own_w hw 33 rfl)) (mvT hZ (own_w hw 6 rfl)) (mvT hZ (own_w hw 34 rfl)) (by decide) (backOf (W := 0) (rm7R l Z a0 hw [] tk67 T72.heap n0 Zs ) hZ (own_w hw 34 rfl) (own_w hw 6 rfl) (by decide) (by decide)) (g := (mkF m 101 #[.val (.int p0), .val (.int p1), .val (.int p2), .val (.int p3), .val (.int p4), .val (.int 2), .val (.int 0), .val (.ref tk67), .val .null, .val (.int 0), .val (.ref b69), .val (.int 1)] [(.ref tk67)])) rfl (by rw [hml]; rfl) (argsL := [(.ref tk67)]) (rest := []) (lenOf pd_10 rfl) rfl (by show 2 * 0 + _ ≤ _; exact Nat.le_of_eq rfl) (hb hby at_101) (fun _ _ => ⟨rfl, eq73, (by decide : 5 + 1 ≤ _), (by decide : 10 + 2 ≤ _)⟩)
      dsimp only [Pt.U, Pt.locs, Pt.cells, Pt.slots] at X74 l74 y74 z74 st74 hQ74
      subst l74 y74 z74
      obtain ⟨b74, hv74, Nq74, K74, sq74, g_b74, E_b74, F_b74_token, F_b74_name⟩ := hQ74
      subst hv74
      replace Nf := Fr.app Nf Nq74
      have ne_b69_b74 : b69 ≠ b74 := Nat.ne_of_lt (Nat.lt_of_lt_of_le E_b69.lt sq74)
      have ne_b72_b74 : b72 ≠ b74 := Nat.ne_of_lt (Nat.lt_of_lt_of_le E_b72.lt sq74)
      replace Od := Od.keep K74 all0
      replace E_b69 := E_b69.keep K74
      replace F_b69_token := F_b69_token.keep K74 nin0
      replace F_b69_name := F_b69_name.keep K74 nin0
      replace E_b72 := E_b72.keep K74
      replace F_b72_token := F_b72_token.keep K74 nin0
      replace F_b72_name := F_b72_name.keep K74 nin0
      replace Zs := Nat.le_trans Zs K74.1
      replace hk := Nat.le_trans hk K74.1
      have Sq_b69 := Safe.keep K74 all0 hR.1 Sf_b69
      replace hR := hR.trans (CHr.keep K74 all0 hR.1)
      replace Sf_b69 := Sq_b69
      refine own_goH (x' := T74.setTop (mkF m 104 #[.val (.int p0), .val (.int p1), .val (.int p2), .val (.int p3), .val (.int p4), .val (.int 2), .val (.int 0), .val (.ref tk67), .val .null, .val (.int 0), .val (.ref b69), .val (.int 1)] [(.ref b74)])) st74 ?_
      obtain ⟨cq75, kq75, q75a, q75b, q75c⟩ := isOf hZ rfl E_b74
      obtain ⟨_, _, ⟨T75, L75, k75, n75⟩, -, X75, ⟨Lc75, hQ75, l75, y75, z75⟩, st75⟩ := X74.virtualBack hx (y := (⟨"com/example/lean_bus/leanbus/api/Caller", "isRoot", "()Z"⟩ : MethodName)) (z := (⟨"com/example/lean_bus/leanbus/api/Caller", "isRoot", "()Z"⟩ : MethodName)) hown (mvT hZ (own_w hw 22 rfl)) (mvT hZ (own_w hw 23 rfl)) (notFace_of_selects (args := #[]) (mvT hZ (own_w hw 25 rfl))) (mvT hZ (own_w hw 25 rfl)) (mvT hZ (own_w hw 24 rfl)) (by decide) (backOf (W := 0) (rm5R l Z a0 hw [] b74 tk67 T74.heap n0 Zs F_b74_token) hZ (own_w hw 26 rfl) (own_w hw 6 rfl) (by decide) (by decide)) q75a q75c (g := (mkF m 104 #[.val (.int p0), .val (.int p1), .val (.int p2), .val (.int p3), .val (.int p4), .val (.int 2), .val (.int 0), .val (.ref tk67), .val .null, .val (.int 0), .val (.ref b69), .val (.int 1)] [(.ref b74)])) rfl (by rw [hml]; rfl) (Steps.refl _) (argsL := []) (rest := []) (lenOf pd_8 rfl) rfl (by show 2 * 0 + _ ≤ _; exact Nat.le_of_eq rfl) (hb hby at_104) (fun _ _ => ⟨rfl, rfl, (by decide : 6 + 0 ≤ _), (by decide : 12 + 0 ≤ _)⟩)
      dsimp only [Pt.U, Pt.locs, Pt.cells, Pt.slots] at X75 l75 y75 z75 st75 hQ75
      subst l75 y75 z75
      obtain ⟨hv75, Nq75, eq75⟩ := hQ75
      subst hv75
      replace Nf := Fr.app Nf Nq75
      refine own_goH (x' := T75.setTop (mkF m 107 #[.val (.int p0), .val (.int p1), .val (.int p2), .val (.int p3), .val (.int p4), .val (.int 2), .val (.int 0), .val (.ref tk67), .val .null, .val (.int 0), .val (.ref b69), .val (.int 1)] [(.int 0)])) (fun _ k => st75.trans k) ?_
      refine own_goH (x' := T75.setTop (mkF m 121 #[.val (.int p0), .val (.int p1), .val (.int p2), .val (.int p3), .val (.int p4), .val (.int 2), .val (.int 0), .val (.ref tk67), .val .null, .val (.int 0), .val (.ref b69), .val (.int 1)] [(.int 1)])) (fun _ k => XS.iload X75.here hx rfl (hb hby at_107) rfl (XS.icmpNo X75.here hx rfl (hb hby at_109) rfl (teq rfl).2 (XS.iconst X75.here hx rfl (hb hby at_112) (XS.goto X75.here hx rfl (pc0 := 113) (pc' := 117) rfl (hb hby at_113) (by decide) (by decide) (XS.istore X75.here hx rfl (hb hby at_117) rfl (l' := #[.val (.int p0), .val (.int p1), .val (.int p2), .val (.int p3), .val (.int p4), .val (.int 2), .val (.int 0), .val (.ref tk67), .val .null, .val (.int 0), .val (.ref b69), .val (.int 1)]) rfl (XS.iload X75.here hx rfl (hb hby at_119) rfl k)))))) ?_
      refine own_retNH X75 hS (own_hk eq75 hk) (own_hr eq75 hR) hZ (own_EW hw) hx hlk (t := .boolean) hret (by simp) (hb hby at_121) (w := (1 : Int32)) rfl ?_ (by decide) (by decide)
      rw [eq75]
      exact ⟨rfl, Nf⟩
    · refine own_goH (x' := T67.setTop (mkF m 26 #[.val (.int p0), .val (.int p1), .val (.int p2), .val (.int p3), .val (.int p4), .val (.int 2), .val (.int 1), .val (.ref tk67), .unset, .unset, .unset, .unset] [(.int p4), (.int p3), (.int 1)])) (fun _ k => XS.iload X67.here hx rfl (hb hby at_21) rfl (XS.iloadN X67.here hx rfl (hb hby at_23) rfl (XS.iload X67.here hx rfl (hb hby at_24) rfl k))) ?_
      obtain ⟨_, _, ⟨T76, L76, k76, n76⟩, -, X76, Sw76, Gw76, ⟨Lc76, hQ76, l76, y76, z76, Cw76⟩, st76⟩ := Jvm.RoadKit.callSS X67 hx (y := (⟨"com/example/lean_bus/leanbus/api/CallerIsRootPinLaw", "draw", "(III)Ljava/lang/String;"⟩ : MethodName)) hown (mvT hZ (own_w hw 0 rfl)) (mvT hZ (own_w hw 1 rfl)) (mvT hZ (own_w hw 2 rfl)) (mvT hZ (own_w hw 3 rfl)) (by decide) (backOfSH (W := 0) (rm1_1 l Z a0 hw [] p3 p4 G1 T67.heap n0 Zs Od S_COMPACT_STRINGS hG) hZ (own_w hw 3 rfl) (own_w hw 2 rfl) (by decide) (by decide) (own_EW hw) hR.1) (g := (mkF m 26 #[.val (.int p0), .val (.int p1), .val (.int p2), .val (.int p3), .val (.int p4), .val (.int 2), .val (.int 1), .val (.ref tk67), .unset, .unset, .unset, .unset] [(.int p4), (.int p3), (.int 1)])) rfl (by rw [hml]; rfl) (argsL := [(.int 1), (.int p3), (.int p4)]) (rest := []) (lenOf pd_7 rfl) rfl (by show 2 * 0 + _ ≤ _; exact Nat.le_of_eq rfl) (hb hby at_26) (fun _ _ => ⟨rfl, rfl, (by decide : 3 + 6 ≤ _), (by decide : 6 + 12 ≤ _)⟩)
      dsimp only [Pt.U, Pt.locs, Pt.cells, Pt.slots] at X76 l76 y76 z76 st76 hQ76 Sw76 Gw76 Cw76
      subst l76 y76 z76
      obtain ⟨X76, Sw76, hZ, hown⟩ := rebS hS (own_hk rfl hk) X76 Sw76 Gw76 hZ hown
      replace hR := hR.trans Cw76
      obtain ⟨tk76, hv76, Nq76, K76⟩ := hQ76
      subst hv76
      replace Nf := Fr.app Nf Nq76
      replace Od := Od.keep K76 all0
      replace Zs := Nat.le_trans Zs K76.1
      replace hk := Nat.le_trans hk K76.1
      replace hS := Sw76
      replace hk := Nat.le_refl (Array.size T76.heap)
      refine own_goH (x' := T76.setTop (mkF m 29 #[.val (.int p0), .val (.int p1), .val (.int p2), .val (.int p3), .val (.int p4), .val (.int 2), .val (.int 1), .val (.ref tk67), .unset, .unset, .unset, .unset] [(.ref tk76)])) (fun _ k => st76.trans k) ?_
      refine own_goH (x' := T76.setTop (mkF m 43 #[.val (.int p0), .val (.int p1), .val (.int p2), .val (.int p3), .val (.int p4), .val (.int 2), .val (.int 1), .val (.ref tk67), .val (.ref tk76), .val (.int 0), .unset, .unset] [])) (fun _ k => XS.astore X76.here hx rfl (hb hby at_29) rfl rfl (l' := #[.val (.int p0), .val (.int p1), .val (.int p2), .val (.int p3), .val (.int p4), .val (.int 2), .val (.int 1), .val (.ref tk67), .val (.ref tk76), .unset, .unset, .unset]) rfl (XS.iload X76.here hx rfl (hb hby at_31) rfl (XS.ifYes X76.here hx rfl (pc0 := 33) (pc' := 40) rfl (hb hby at_33) rfl ((if0 _ _).trans (feq (by decide +kernel : ¬ ((2 : Int32) = (0 : Int32)))).2) (by decide) (by decide) (XS.iconst X76.here hx rfl (hb hby at_40) (XS.istore X76.here hx rfl (hb hby at_41) rfl (l' := #[.val (.int p0), .val (.int p1), .val (.int p2), .val (.int p3), .val (.int p4), .val (.int 2), .val (.int 1), .val (.ref tk67), .val (.ref tk76), .val (.int 0), .unset, .unset]) rfl k))))) ?_
      obtain ⟨T77, h77, X77, e77, E77, A77, D77, -, st77⟩ := newO X76 hx hZ hown (own_w hw 4 rfl) (own_w hw 5 rfl) (own_w hw 6 rfl) rfl (g := (mkF m 43 #[.val (.int p0), .val (.int p1), .val (.int p2), .val (.int p3), .val (.int p4), .val (.int 2), .val (.int 1), .val (.ref tk67), .val (.ref tk76), .val (.int 0), .unset, .unset] [])) rfl (hb hby at_43) (by decide) (by decide)
      obtain ⟨b77, g77⟩ : ∃ z, z = T76.heap.size := ⟨_, rfl⟩
      rw [← g77] at A77 D77 st77
      have g_b77 : n0 ≤ b77 := Nat.le_trans Zs (Nat.le_of_eq g77.symm)
      have Sf_b77 := own_sfn hR (Nat.le_of_eq g77.symm)
      replace Od := Od.ext E77
      replace Zs := Nat.le_trans Zs E77.1
      replace hk := Nat.le_trans hk E77.1
      have Sq_b77 := Safe.ext E77 hR.1 Sf_b77
      replace hR := hR.trans (CHr.ext E77 hR.1)
      replace Sf_b77 := Sq_b77
      have E_b77 := A77
      have F_b77_token : Fld Z h77 b77 "com/example/lean_bus/leanbus/api/Caller" "token" "Ljava/lang/String;" .null := D77 (Or.inr (own_w hw 19 rfl)) (ty := (.object "java/lang/String")) (by decide)
      have F_b77_name : Fld Z h77 b77 "com/example/lean_bus/leanbus/api/Caller" "name" "Ljava/lang/String;" .null := D77 (Or.inr (own_w hw 21 rfl)) (ty := (.object "java/lang/String")) (by decide)
      refine own_goH (x' := T77.setTop (mkF m 46 #[.val (.int p0), .val (.int p1), .val (.int p2), .val (.int p3), .val (.int p4), .val (.int 2), .val (.int 1), .val (.ref tk67), .val (.ref tk76), .val (.int 0), .unset, .unset] [(.ref b77)])) st77 ?_
      refine own_goH (x' := T77.setTop (mkF m 51 #[.val (.int p0), .val (.int p1), .val (.int p2), .val (.int p3), .val (.int p4), .val (.int 2), .val (.int 1), .val (.ref tk67), .val (.ref tk76), .val (.int 0), .unset, .unset] [(.ref tk76), (.ref tk67), (.ref b77), (.ref b77)])) (fun _ k => XS.dup X77.here hx rfl (hb hby at_46) rfl rfl (XS.aload X77.here hx rfl (hb hby at_47) rfl rfl (XS.aload X77.here hx rfl (hb hby at_49) rfl rfl k))) ?_
      obtain ⟨_, _, ⟨T78, L78, k78, n78⟩, -, X78, ⟨Lc78, hQ78, l78, y78, z78⟩, st78⟩ := X77.specialBack hx (y := (⟨"com/example/lean_bus/leanbus/api/Caller", "<init>", "(Ljava/lang/String;Ljava/lang/String;)V"⟩ : MethodName)) rfl hown (mvT hZ (own_w hw 7 rfl)) (mvT hZ (own_w hw 8 rfl)) (mvT hZ (own_w hw 9 rfl)) (by decide) (backOf (W := 1) (rm2RR l Z a0 hw [] b77 tk67 tk76 h77 n0 Zs E_b77 F_b77_token F_b77_name g_b77) hZ (own_w hw 9 rfl) (own_w hw 6 rfl) (by decide) (by decide)) (g := (mkF m 51 #[.val (.int p0), .val (.int p1), .val (.int p2), .val (.int p3), .val (.int p4), .val (.int 2), .val (.int 1), .val (.ref tk67), .val (.ref tk76), .val (.int 0), .unset, .unset] [(.ref tk76), (.ref tk67), (.ref b77), (.ref b77)])) rfl (by rw [hml]; rfl) (Steps.refl _) (a := b77) (argsL := [(.ref tk67), (.ref tk76)]) (rest := [(.ref b77)]) (lenOf pd_6 rfl) rfl (by show 2 * 0 + _ ≤ _; exact Nat.le_of_eq rfl) (hb hby at_51) (fun _ _ => ⟨rfl, e77, (by decide : 10 + 0 ≤ _), (by decide : 20 + 0 ≤ _)⟩)
      dsimp only [Pt.U, Pt.locs, Pt.cells, Pt.slots] at X78 l78 y78 z78 st78 hQ78
      subst l78 y78 z78
      obtain ⟨hv78, Nq78, K78, Eo78, Fo78_0, Fo78_1⟩ := hQ78
      subst hv78
      replace Nf := Fr.app Nf Nq78
      replace Od := Od.keep K78 (allS g_b77 all0)
      replace Zs := Nat.le_trans Zs K78.1
      replace hk := Nat.le_trans hk K78.1
      have Sq_b77 := Safe.keep K78 (allS Sf_b77 all0) hR.1 Sf_b77
      replace hR := hR.trans (CHr.keep K78 (allS Sf_b77 all0) hR.1)
      replace Sf_b77 := Sq_b77
      replace E_b77 := Eo78
      replace F_b77_token := Fo78_0
      replace F_b77_name := Fo78_1
      refine own_goH (x' := T78.setTop (mkF m 54 #[.val (.int p0), .val (.int p1), .val (.int p2), .val (.int p3), .val (.int p4), .val (.int 2), .val (.int 1), .val (.ref tk67), .val (.ref tk76), .val (.int 0), .unset, .unset] [(.ref b77)])) (fun _ k => st78.trans k) ?_
      refine own_goH (x' := T78.setTop (mkF m 58 #[.val (.int p0), .val (.int p1), .val (.int p2), .val (.int p3), .val (.int p4), .val (.int 2), .val (.int 1), .val (.ref tk67), .val (.ref tk76), .val (.int 0), .val (.ref b77), .unset] [(.ref b77)])) (fun _ k => XS.astore X78.here hx rfl (hb hby at_54) rfl rfl (l' := #[.val (.int p0), .val (.int p1), .val (.int p2), .val (.int p3), .val (.int p4), .val (.int 2), .val (.int 1), .val (.ref tk67), .val (.ref tk76), .val (.int 0), .val (.ref b77), .unset]) rfl (XS.aload X78.here hx rfl (hb hby at_56) rfl rfl k)) ?_
      obtain ⟨cq79, kq79, q79a, q79b, q79c⟩ := isOf hZ rfl E_b77
      obtain ⟨_, _, ⟨T79, L79, k79, n79⟩, -, X79, ⟨Lc79, hQ79, l79, y79, z79⟩, st79⟩ := X78.virtualBack hx (y := (⟨"com/example/lean_bus/leanbus/api/Caller", "isRoot", "()Z"⟩ : MethodName)) (z := (⟨"com/example/lean_bus/leanbus/api/Caller", "isRoot", "()Z"⟩ : MethodName)) hown (mvT hZ (own_w hw 22 rfl)) (mvT hZ (own_w hw 23 rfl)) (notFace_of_selects (args := #[]) (mvT hZ (own_w hw 25 rfl))) (mvT hZ (own_w hw 25 rfl)) (mvT hZ (own_w hw 24 rfl)) (by decide) (backOf (W := 0) (rm5R l Z a0 hw [] b77 tk67 T78.heap n0 Zs F_b77_token) hZ (own_w hw 26 rfl) (own_w hw 6 rfl) (by decide) (by decide)) q79a q79c (g := (mkF m 58 #[.val (.int p0), .val (.int p1), .val (.int p2), .val (.int p3), .val (.int p4), .val (.int 2), .val (.int 1), .val (.ref tk67), .val (.ref tk76), .val (.int 0), .val (.ref b77), .unset] [(.ref b77)])) rfl (by rw [hml]; rfl) (Steps.refl _) (argsL := []) (rest := []) (lenOf pd_8 rfl) rfl (by show 2 * 0 + _ ≤ _; exact Nat.le_of_eq rfl) (hb hby at_58) (fun _ _ => ⟨rfl, rfl, (by decide : 10 + 0 ≤ _), (by decide : 20 + 0 ≤ _)⟩)
      dsimp only [Pt.U, Pt.locs, Pt.cells, Pt.slots] at X79 l79 y79 z79 st79 hQ79
      subst l79 y79 z79
      obtain ⟨hv79, Nq79, eq79⟩ := hQ79
      subst hv79
      replace Nf := Fr.app Nf Nq79
      refine own_goH (x' := T79.setTop (mkF m 61 #[.val (.int p0), .val (.int p1), .val (.int p2), .val (.int p3), .val (.int p4), .val (.int 2), .val (.int 1), .val (.ref tk67), .val (.ref tk76), .val (.int 0), .val (.ref b77), .unset] [(.int 0)])) (fun _ k => st79.trans k) ?_
      refine own_goH (x' := T79.setTop (mkF m 75 #[.val (.int p0), .val (.int p1), .val (.int p2), .val (.int p3), .val (.int p4), .val (.int 2), .val (.int 1), .val (.ref tk67), .val (.ref tk76), .val (.int 0), .val (.ref b77), .val (.int 1)] [(.int 1)])) (fun _ k => XS.iload X79.here hx rfl (hb hby at_61) rfl (XS.icmpNo X79.here hx rfl (hb hby at_63) rfl (teq rfl).2 (XS.iconst X79.here hx rfl (hb hby at_66) (XS.goto X79.here hx rfl (pc0 := 67) (pc' := 71) rfl (hb hby at_67) (by decide) (by decide) (XS.istore X79.here hx rfl (hb hby at_71) rfl (l' := #[.val (.int p0), .val (.int p1), .val (.int p2), .val (.int p3), .val (.int p4), .val (.int 2), .val (.int 1), .val (.ref tk67), .val (.ref tk76), .val (.int 0), .val (.ref b77), .val (.int 1)]) rfl (XS.iload X79.here hx rfl (hb hby at_73) rfl k)))))) ?_
      refine own_goH (x' := T79.setTop (mkF m 78 #[.val (.int p0), .val (.int p1), .val (.int p2), .val (.int p3), .val (.int p4), .val (.int 2), .val (.int 1), .val (.ref tk67), .val (.ref tk76), .val (.int 0), .val (.ref b77), .val (.int 1)] [])) (fun _ k => XS.ifNo X79.here hx rfl (hb hby at_75) rfl ((if0 _ _).trans (feq (by decide +kernel : ¬ ((1 : Int32) = (0 : Int32)))).1) k) ?_
      obtain ⟨_, _, ⟨T80, L80, k80, n80⟩, -, X80, ⟨Lc80, hQ80, l80, y80, z80⟩, st80⟩ := Jvm.LawKit.callS X79 hx (y := (⟨"com/example/lean_bus/leanbus/api/Caller", "root", "()Lcom/example/lean_bus/leanbus/api/Caller;"⟩ : MethodName)) hown (mvT hZ (own_w hw 27 rfl)) (mvT hZ (own_w hw 28 rfl)) (mvT hZ (own_w hw 6 rfl)) (mvT hZ (own_w hw 29 rfl)) (by decide) (backOf (W := 0) (rm6 l Z a0 hw []  T78.heap n0 Zs ) hZ (own_w hw 29 rfl) (own_w hw 6 rfl) (by decide) (by decide)) (g := (mkF m 78 #[.val (.int p0), .val (.int p1), .val (.int p2), .val (.int p3), .val (.int p4), .val (.int 2), .val (.int 1), .val (.ref tk67), .val (.ref tk76), .val (.int 0), .val (.ref b77), .val (.int 1)] [])) rfl (by rw [hml]; rfl) (argsL := []) (rest := []) (lenOf pd_9 rfl) rfl (by show 2 * 0 + _ ≤ _; exact Nat.le_of_eq rfl) (hb hby at_78) (fun _ _ => ⟨rfl, eq79, (by decide : 10 + 1 ≤ _), (by decide : 20 + 2 ≤ _)⟩)
      dsimp only [Pt.U, Pt.locs, Pt.cells, Pt.slots] at X80 l80 y80 z80 st80 hQ80
      subst l80 y80 z80
      obtain ⟨b80, hv80, Nq80, K80, sq80, g_b80, E_b80, F_b80_token, F_b80_name⟩ := hQ80
      subst hv80
      replace Nf := Fr.app Nf Nq80
      have ne_b77_b80 : b77 ≠ b80 := Nat.ne_of_lt (Nat.lt_of_lt_of_le E_b77.lt sq80)
      replace Od := Od.keep K80 all0
      replace E_b77 := E_b77.keep K80
      replace F_b77_token := F_b77_token.keep K80 nin0
      replace F_b77_name := F_b77_name.keep K80 nin0
      replace Zs := Nat.le_trans Zs K80.1
      replace hk := Nat.le_trans hk K80.1
      have Sq_b77 := Safe.keep K80 all0 hR.1 Sf_b77
      replace hR := hR.trans (CHr.keep K80 all0 hR.1)
      replace Sf_b77 := Sq_b77
      refine own_goH (x' := T80.setTop (mkF m 81 #[.val (.int p0), .val (.int p1), .val (.int p2), .val (.int p3), .val (.int p4), .val (.int 2), .val (.int 1), .val (.ref tk67), .val (.ref tk76), .val (.int 0), .val (.ref b77), .val (.int 1)] [(.ref b80)])) st80 ?_
      obtain ⟨cq81, kq81, q81a, q81b, q81c⟩ := isOf hZ rfl E_b80
      obtain ⟨_, _, ⟨T81, L81, k81, n81⟩, -, X81, ⟨Lc81, hQ81, l81, y81, z81⟩, st81⟩ := X80.virtualBack hx (y := (⟨"com/example/lean_bus/leanbus/api/Caller", "isRoot", "()Z"⟩ : MethodName)) (z := (⟨"com/example/lean_bus/leanbus/api/Caller", "isRoot", "()Z"⟩ : MethodName)) hown (mvT hZ (own_w hw 22 rfl)) (mvT hZ (own_w hw 23 rfl)) (notFace_of_selects (args := #[]) (mvT hZ (own_w hw 25 rfl))) (mvT hZ (own_w hw 25 rfl)) (mvT hZ (own_w hw 24 rfl)) (by decide) (backOf (W := 0) (rm5N l Z a0 hw [] b80  T80.heap n0 Zs F_b80_token) hZ (own_w hw 26 rfl) (own_w hw 6 rfl) (by decide) (by decide)) q81a q81c (g := (mkF m 81 #[.val (.int p0), .val (.int p1), .val (.int p2), .val (.int p3), .val (.int p4), .val (.int 2), .val (.int 1), .val (.ref tk67), .val (.ref tk76), .val (.int 0), .val (.ref b77), .val (.int 1)] [(.ref b80)])) rfl (by rw [hml]; rfl) (Steps.refl _) (argsL := []) (rest := []) (lenOf pd_8 rfl) rfl (by show 2 * 0 + _ ≤ _; exact Nat.le_of_eq rfl) (hb hby at_81) (fun _ _ => ⟨rfl, rfl, (by decide : 11 + 0 ≤ _), (by decide : 22 + 0 ≤ _)⟩)
      dsimp only [Pt.U, Pt.locs, Pt.cells, Pt.slots] at X81 l81 y81 z81 st81 hQ81
      subst l81 y81 z81
      obtain ⟨hv81, Nq81, eq81⟩ := hQ81
      subst hv81
      replace Nf := Fr.app Nf Nq81
      refine own_goH (x' := T81.setTop (mkF m 84 #[.val (.int p0), .val (.int p1), .val (.int p2), .val (.int p3), .val (.int p4), .val (.int 2), .val (.int 1), .val (.ref tk67), .val (.ref tk76), .val (.int 0), .val (.ref b77), .val (.int 1)] [(.int 1)])) (fun _ k => st81.trans k) ?_
      refine own_goH (x' := T81.setTop (mkF m 99 #[.val (.int p0), .val (.int p1), .val (.int p2), .val (.int p3), .val (.int p4), .val (.int 2), .val (.int 1), .val (.ref tk67), .val (.ref tk76), .val (.int 0), .val (.ref b77), .val (.int 1)] [])) (fun _ k => XS.ifNo X81.here hx rfl (hb hby at_84) rfl ((if0 _ _).trans (feq (by decide +kernel : ¬ ((1 : Int32) = (0 : Int32)))).1) (XS.iconst X81.here hx rfl (hb hby at_87) (XS.goto X81.here hx rfl (pc0 := 88) (pc' := 92) rfl (hb hby at_88) (by decide) (by decide) (XS.istore X81.here hx rfl (hb hby at_92) rfl (l' := #[.val (.int p0), .val (.int p1), .val (.int p2), .val (.int p3), .val (.int p4), .val (.int 2), .val (.int 1), .val (.ref tk67), .val (.ref tk76), .val (.int 0), .val (.ref b77), .val (.int 1)]) rfl (XS.iload X81.here hx rfl (hb hby at_94) rfl (XS.ifNo X81.here hx rfl (hb hby at_96) rfl ((if0 _ _).trans (feq (by decide +kernel : ¬ ((1 : Int32) = (0 : Int32)))).1) k)))))) ?_
      refine own_goH (x' := T81.setTop (mkF m 101 #[.val (.int p0), .val (.int p1), .val (.int p2), .val (.int p3), .val (.int p4), .val (.int 2), .val (.int 1), .val (.ref tk67), .val (.ref tk76), .val (.int 0), .val (.ref b77), .val (.int 1)] [(.ref tk67)])) (fun _ k => XS.aload X81.here hx rfl (hb hby at_99) rfl rfl k) ?_
      obtain ⟨_, _, ⟨T82, L82, k82, n82⟩, -, X82, ⟨Lc82, hQ82, l82, y82, z82⟩, st82⟩ := Jvm.LawKit.callS X81 hx (y := (⟨"com/example/lean_bus/leanbus/api/Caller", "unchecked", "(Ljava/lang/String;)Lcom/example/lean_bus/leanbus/api/Caller;"⟩ : MethodName)) hown (mvT hZ (own_w hw 32 rfl)) (mvT hZ (own_w hw 33 rfl)) (mvT hZ (own_w hw 6 rfl)) (mvT hZ (own_w hw 34 rfl)) (by decide) (backOf (W := 0) (rm7R l Z a0 hw [] tk67 T80.heap n0 Zs ) hZ (own_w hw 34 rfl) (own_w hw 6 rfl) (by decide) (by decide)) (g := (mkF m 101 #[.val (.int p0), .val (.int p1), .val (.int p2), .val (.int p3), .val (.int p4), .val (.int 2), .val (.int 1), .val (.ref tk67), .val (.ref tk76), .val (.int 0), .val (.ref b77), .val (.int 1)] [(.ref tk67)])) rfl (by rw [hml]; rfl) (argsL := [(.ref tk67)]) (rest := []) (lenOf pd_10 rfl) rfl (by show 2 * 0 + _ ≤ _; exact Nat.le_of_eq rfl) (hb hby at_101) (fun _ _ => ⟨rfl, eq81, (by decide : 11 + 1 ≤ _), (by decide : 22 + 2 ≤ _)⟩)
      dsimp only [Pt.U, Pt.locs, Pt.cells, Pt.slots] at X82 l82 y82 z82 st82 hQ82
      subst l82 y82 z82
      obtain ⟨b82, hv82, Nq82, K82, sq82, g_b82, E_b82, F_b82_token, F_b82_name⟩ := hQ82
      subst hv82
      replace Nf := Fr.app Nf Nq82
      have ne_b77_b82 : b77 ≠ b82 := Nat.ne_of_lt (Nat.lt_of_lt_of_le E_b77.lt sq82)
      have ne_b80_b82 : b80 ≠ b82 := Nat.ne_of_lt (Nat.lt_of_lt_of_le E_b80.lt sq82)
      replace Od := Od.keep K82 all0
      replace E_b77 := E_b77.keep K82
      replace F_b77_token := F_b77_token.keep K82 nin0
      replace F_b77_name := F_b77_name.keep K82 nin0
      replace E_b80 := E_b80.keep K82
      replace F_b80_token := F_b80_token.keep K82 nin0
      replace F_b80_name := F_b80_name.keep K82 nin0
      replace Zs := Nat.le_trans Zs K82.1
      replace hk := Nat.le_trans hk K82.1
      have Sq_b77 := Safe.keep K82 all0 hR.1 Sf_b77
      replace hR := hR.trans (CHr.keep K82 all0 hR.1)
      replace Sf_b77 := Sq_b77
      refine own_goH (x' := T82.setTop (mkF m 104 #[.val (.int p0), .val (.int p1), .val (.int p2), .val (.int p3), .val (.int p4), .val (.int 2), .val (.int 1), .val (.ref tk67), .val (.ref tk76), .val (.int 0), .val (.ref b77), .val (.int 1)] [(.ref b82)])) st82 ?_
      obtain ⟨cq83, kq83, q83a, q83b, q83c⟩ := isOf hZ rfl E_b82
      obtain ⟨_, _, ⟨T83, L83, k83, n83⟩, -, X83, ⟨Lc83, hQ83, l83, y83, z83⟩, st83⟩ := X82.virtualBack hx (y := (⟨"com/example/lean_bus/leanbus/api/Caller", "isRoot", "()Z"⟩ : MethodName)) (z := (⟨"com/example/lean_bus/leanbus/api/Caller", "isRoot", "()Z"⟩ : MethodName)) hown (mvT hZ (own_w hw 22 rfl)) (mvT hZ (own_w hw 23 rfl)) (notFace_of_selects (args := #[]) (mvT hZ (own_w hw 25 rfl))) (mvT hZ (own_w hw 25 rfl)) (mvT hZ (own_w hw 24 rfl)) (by decide) (backOf (W := 0) (rm5R l Z a0 hw [] b82 tk67 T82.heap n0 Zs F_b82_token) hZ (own_w hw 26 rfl) (own_w hw 6 rfl) (by decide) (by decide)) q83a q83c (g := (mkF m 104 #[.val (.int p0), .val (.int p1), .val (.int p2), .val (.int p3), .val (.int p4), .val (.int 2), .val (.int 1), .val (.ref tk67), .val (.ref tk76), .val (.int 0), .val (.ref b77), .val (.int 1)] [(.ref b82)])) rfl (by rw [hml]; rfl) (Steps.refl _) (argsL := []) (rest := []) (lenOf pd_8 rfl) rfl (by show 2 * 0 + _ ≤ _; exact Nat.le_of_eq rfl) (hb hby at_104) (fun _ _ => ⟨rfl, rfl, (by decide : 12 + 0 ≤ _), (by decide : 24 + 0 ≤ _)⟩)
      dsimp only [Pt.U, Pt.locs, Pt.cells, Pt.slots] at X83 l83 y83 z83 st83 hQ83
      subst l83 y83 z83
      obtain ⟨hv83, Nq83, eq83⟩ := hQ83
      subst hv83
      replace Nf := Fr.app Nf Nq83
      refine own_goH (x' := T83.setTop (mkF m 107 #[.val (.int p0), .val (.int p1), .val (.int p2), .val (.int p3), .val (.int p4), .val (.int 2), .val (.int 1), .val (.ref tk67), .val (.ref tk76), .val (.int 0), .val (.ref b77), .val (.int 1)] [(.int 0)])) (fun _ k => st83.trans k) ?_
      refine own_goH (x' := T83.setTop (mkF m 121 #[.val (.int p0), .val (.int p1), .val (.int p2), .val (.int p3), .val (.int p4), .val (.int 2), .val (.int 1), .val (.ref tk67), .val (.ref tk76), .val (.int 0), .val (.ref b77), .val (.int 1)] [(.int 1)])) (fun _ k => XS.iload X83.here hx rfl (hb hby at_107) rfl (XS.icmpNo X83.here hx rfl (hb hby at_109) rfl (teq rfl).2 (XS.iconst X83.here hx rfl (hb hby at_112) (XS.goto X83.here hx rfl (pc0 := 113) (pc' := 117) rfl (hb hby at_113) (by decide) (by decide) (XS.istore X83.here hx rfl (hb hby at_117) rfl (l' := #[.val (.int p0), .val (.int p1), .val (.int p2), .val (.int p3), .val (.int p4), .val (.int 2), .val (.int 1), .val (.ref tk67), .val (.ref tk76), .val (.int 0), .val (.ref b77), .val (.int 1)]) rfl (XS.iload X83.here hx rfl (hb hby at_119) rfl k)))))) ?_
      refine own_retNH X83 hS (own_hk eq83 hk) (own_hr eq83 hR) hZ (own_EW hw) hx hlk (t := .boolean) hret (by simp) (hb hby at_121) (w := (1 : Int32)) rfl ?_ (by decide) (by decide)
      rw [eq83]
      exact ⟨rfl, Nf⟩
    · refine own_goH (x' := T67.setTop (mkF m 26 #[.val (.int p0), .val (.int p1), .val (.int p2), .val (.int p3), .val (.int p4), .val (.int 2), .val (.int 2), .val (.ref tk67), .unset, .unset, .unset, .unset] [(.int p4), (.int p3), (.int 2)])) (fun _ k => XS.iload X67.here hx rfl (hb hby at_21) rfl (XS.iloadN X67.here hx rfl (hb hby at_23) rfl (XS.iload X67.here hx rfl (hb hby at_24) rfl k))) ?_
      obtain ⟨_, _, ⟨T84, L84, k84, n84⟩, -, X84, Sw84, Gw84, ⟨Lc84, hQ84, l84, y84, z84, Cw84⟩, st84⟩ := Jvm.RoadKit.callSS X67 hx (y := (⟨"com/example/lean_bus/leanbus/api/CallerIsRootPinLaw", "draw", "(III)Ljava/lang/String;"⟩ : MethodName)) hown (mvT hZ (own_w hw 0 rfl)) (mvT hZ (own_w hw 1 rfl)) (mvT hZ (own_w hw 2 rfl)) (mvT hZ (own_w hw 3 rfl)) (by decide) (backOfSH (W := 0) (rm1_2 l Z a0 hw [] p3 p4 G1 T67.heap n0 Zs Od S_COMPACT_STRINGS hG) hZ (own_w hw 3 rfl) (own_w hw 2 rfl) (by decide) (by decide) (own_EW hw) hR.1) (g := (mkF m 26 #[.val (.int p0), .val (.int p1), .val (.int p2), .val (.int p3), .val (.int p4), .val (.int 2), .val (.int 2), .val (.ref tk67), .unset, .unset, .unset, .unset] [(.int p4), (.int p3), (.int 2)])) rfl (by rw [hml]; rfl) (argsL := [(.int 2), (.int p3), (.int p4)]) (rest := []) (lenOf pd_7 rfl) rfl (by show 2 * 0 + _ ≤ _; exact Nat.le_of_eq rfl) (hb hby at_26) (fun _ _ => ⟨rfl, rfl, (by decide : 3 + 3 ≤ _), (by decide : 6 + 6 ≤ _)⟩)
      dsimp only [Pt.U, Pt.locs, Pt.cells, Pt.slots] at X84 l84 y84 z84 st84 hQ84 Sw84 Gw84 Cw84
      subst l84 y84 z84
      obtain ⟨X84, Sw84, hZ, hown⟩ := rebS hS (own_hk rfl hk) X84 Sw84 Gw84 hZ hown
      replace hR := hR.trans Cw84
      obtain ⟨tk84, hv84, Nq84, K84⟩ := hQ84
      subst hv84
      replace Nf := Fr.app Nf Nq84
      replace Od := Od.keep K84 all0
      replace Zs := Nat.le_trans Zs K84.1
      replace hk := Nat.le_trans hk K84.1
      replace hS := Sw84
      replace hk := Nat.le_refl (Array.size T84.heap)
      refine own_goH (x' := T84.setTop (mkF m 29 #[.val (.int p0), .val (.int p1), .val (.int p2), .val (.int p3), .val (.int p4), .val (.int 2), .val (.int 2), .val (.ref tk67), .unset, .unset, .unset, .unset] [(.ref tk84)])) (fun _ k => st84.trans k) ?_
      refine own_goH (x' := T84.setTop (mkF m 43 #[.val (.int p0), .val (.int p1), .val (.int p2), .val (.int p3), .val (.int p4), .val (.int 2), .val (.int 2), .val (.ref tk67), .val (.ref tk84), .val (.int 0), .unset, .unset] [])) (fun _ k => XS.astore X84.here hx rfl (hb hby at_29) rfl rfl (l' := #[.val (.int p0), .val (.int p1), .val (.int p2), .val (.int p3), .val (.int p4), .val (.int 2), .val (.int 2), .val (.ref tk67), .val (.ref tk84), .unset, .unset, .unset]) rfl (XS.iload X84.here hx rfl (hb hby at_31) rfl (XS.ifYes X84.here hx rfl (pc0 := 33) (pc' := 40) rfl (hb hby at_33) rfl ((if0 _ _).trans (feq (by decide +kernel : ¬ ((2 : Int32) = (0 : Int32)))).2) (by decide) (by decide) (XS.iconst X84.here hx rfl (hb hby at_40) (XS.istore X84.here hx rfl (hb hby at_41) rfl (l' := #[.val (.int p0), .val (.int p1), .val (.int p2), .val (.int p3), .val (.int p4), .val (.int 2), .val (.int 2), .val (.ref tk67), .val (.ref tk84), .val (.int 0), .unset, .unset]) rfl k))))) ?_
      obtain ⟨T85, h85, X85, e85, E85, A85, D85, -, st85⟩ := newO X84 hx hZ hown (own_w hw 4 rfl) (own_w hw 5 rfl) (own_w hw 6 rfl) rfl (g := (mkF m 43 #[.val (.int p0), .val (.int p1), .val (.int p2), .val (.int p3), .val (.int p4), .val (.int 2), .val (.int 2), .val (.ref tk67), .val (.ref tk84), .val (.int 0), .unset, .unset] [])) rfl (hb hby at_43) (by decide) (by decide)
      obtain ⟨b85, g85⟩ : ∃ z, z = T84.heap.size := ⟨_, rfl⟩
      rw [← g85] at A85 D85 st85
      have g_b85 : n0 ≤ b85 := Nat.le_trans Zs (Nat.le_of_eq g85.symm)
      have Sf_b85 := own_sfn hR (Nat.le_of_eq g85.symm)
      replace Od := Od.ext E85
      replace Zs := Nat.le_trans Zs E85.1
      replace hk := Nat.le_trans hk E85.1
      have Sq_b85 := Safe.ext E85 hR.1 Sf_b85
      replace hR := hR.trans (CHr.ext E85 hR.1)
      replace Sf_b85 := Sq_b85
      have E_b85 := A85
      have F_b85_token : Fld Z h85 b85 "com/example/lean_bus/leanbus/api/Caller" "token" "Ljava/lang/String;" .null := D85 (Or.inr (own_w hw 19 rfl)) (ty := (.object "java/lang/String")) (by decide)
      have F_b85_name : Fld Z h85 b85 "com/example/lean_bus/leanbus/api/Caller" "name" "Ljava/lang/String;" .null := D85 (Or.inr (own_w hw 21 rfl)) (ty := (.object "java/lang/String")) (by decide)
      refine own_goH (x' := T85.setTop (mkF m 46 #[.val (.int p0), .val (.int p1), .val (.int p2), .val (.int p3), .val (.int p4), .val (.int 2), .val (.int 2), .val (.ref tk67), .val (.ref tk84), .val (.int 0), .unset, .unset] [(.ref b85)])) st85 ?_
      refine own_goH (x' := T85.setTop (mkF m 51 #[.val (.int p0), .val (.int p1), .val (.int p2), .val (.int p3), .val (.int p4), .val (.int 2), .val (.int 2), .val (.ref tk67), .val (.ref tk84), .val (.int 0), .unset, .unset] [(.ref tk84), (.ref tk67), (.ref b85), (.ref b85)])) (fun _ k => XS.dup X85.here hx rfl (hb hby at_46) rfl rfl (XS.aload X85.here hx rfl (hb hby at_47) rfl rfl (XS.aload X85.here hx rfl (hb hby at_49) rfl rfl k))) ?_
      obtain ⟨_, _, ⟨T86, L86, k86, n86⟩, -, X86, ⟨Lc86, hQ86, l86, y86, z86⟩, st86⟩ := X85.specialBack hx (y := (⟨"com/example/lean_bus/leanbus/api/Caller", "<init>", "(Ljava/lang/String;Ljava/lang/String;)V"⟩ : MethodName)) rfl hown (mvT hZ (own_w hw 7 rfl)) (mvT hZ (own_w hw 8 rfl)) (mvT hZ (own_w hw 9 rfl)) (by decide) (backOf (W := 1) (rm2RR l Z a0 hw [] b85 tk67 tk84 h85 n0 Zs E_b85 F_b85_token F_b85_name g_b85) hZ (own_w hw 9 rfl) (own_w hw 6 rfl) (by decide) (by decide)) (g := (mkF m 51 #[.val (.int p0), .val (.int p1), .val (.int p2), .val (.int p3), .val (.int p4), .val (.int 2), .val (.int 2), .val (.ref tk67), .val (.ref tk84), .val (.int 0), .unset, .unset] [(.ref tk84), (.ref tk67), (.ref b85), (.ref b85)])) rfl (by rw [hml]; rfl) (Steps.refl _) (a := b85) (argsL := [(.ref tk67), (.ref tk84)]) (rest := [(.ref b85)]) (lenOf pd_6 rfl) rfl (by show 2 * 0 + _ ≤ _; exact Nat.le_of_eq rfl) (hb hby at_51) (fun _ _ => ⟨rfl, e85, (by decide : 7 + 0 ≤ _), (by decide : 14 + 0 ≤ _)⟩)
      dsimp only [Pt.U, Pt.locs, Pt.cells, Pt.slots] at X86 l86 y86 z86 st86 hQ86
      subst l86 y86 z86
      obtain ⟨hv86, Nq86, K86, Eo86, Fo86_0, Fo86_1⟩ := hQ86
      subst hv86
      replace Nf := Fr.app Nf Nq86
      replace Od := Od.keep K86 (allS g_b85 all0)
      replace Zs := Nat.le_trans Zs K86.1
      replace hk := Nat.le_trans hk K86.1
      have Sq_b85 := Safe.keep K86 (allS Sf_b85 all0) hR.1 Sf_b85
      replace hR := hR.trans (CHr.keep K86 (allS Sf_b85 all0) hR.1)
      replace Sf_b85 := Sq_b85
      replace E_b85 := Eo86
      replace F_b85_token := Fo86_0
      replace F_b85_name := Fo86_1
      refine own_goH (x' := T86.setTop (mkF m 54 #[.val (.int p0), .val (.int p1), .val (.int p2), .val (.int p3), .val (.int p4), .val (.int 2), .val (.int 2), .val (.ref tk67), .val (.ref tk84), .val (.int 0), .unset, .unset] [(.ref b85)])) (fun _ k => st86.trans k) ?_
      refine own_goH (x' := T86.setTop (mkF m 58 #[.val (.int p0), .val (.int p1), .val (.int p2), .val (.int p3), .val (.int p4), .val (.int 2), .val (.int 2), .val (.ref tk67), .val (.ref tk84), .val (.int 0), .val (.ref b85), .unset] [(.ref b85)])) (fun _ k => XS.astore X86.here hx rfl (hb hby at_54) rfl rfl (l' := #[.val (.int p0), .val (.int p1), .val (.int p2), .val (.int p3), .val (.int p4), .val (.int 2), .val (.int 2), .val (.ref tk67), .val (.ref tk84), .val (.int 0), .val (.ref b85), .unset]) rfl (XS.aload X86.here hx rfl (hb hby at_56) rfl rfl k)) ?_
      obtain ⟨cq87, kq87, q87a, q87b, q87c⟩ := isOf hZ rfl E_b85
      obtain ⟨_, _, ⟨T87, L87, k87, n87⟩, -, X87, ⟨Lc87, hQ87, l87, y87, z87⟩, st87⟩ := X86.virtualBack hx (y := (⟨"com/example/lean_bus/leanbus/api/Caller", "isRoot", "()Z"⟩ : MethodName)) (z := (⟨"com/example/lean_bus/leanbus/api/Caller", "isRoot", "()Z"⟩ : MethodName)) hown (mvT hZ (own_w hw 22 rfl)) (mvT hZ (own_w hw 23 rfl)) (notFace_of_selects (args := #[]) (mvT hZ (own_w hw 25 rfl))) (mvT hZ (own_w hw 25 rfl)) (mvT hZ (own_w hw 24 rfl)) (by decide) (backOf (W := 0) (rm5R l Z a0 hw [] b85 tk67 T86.heap n0 Zs F_b85_token) hZ (own_w hw 26 rfl) (own_w hw 6 rfl) (by decide) (by decide)) q87a q87c (g := (mkF m 58 #[.val (.int p0), .val (.int p1), .val (.int p2), .val (.int p3), .val (.int p4), .val (.int 2), .val (.int 2), .val (.ref tk67), .val (.ref tk84), .val (.int 0), .val (.ref b85), .unset] [(.ref b85)])) rfl (by rw [hml]; rfl) (Steps.refl _) (argsL := []) (rest := []) (lenOf pd_8 rfl) rfl (by show 2 * 0 + _ ≤ _; exact Nat.le_of_eq rfl) (hb hby at_58) (fun _ _ => ⟨rfl, rfl, (by decide : 7 + 0 ≤ _), (by decide : 14 + 0 ≤ _)⟩)
      dsimp only [Pt.U, Pt.locs, Pt.cells, Pt.slots] at X87 l87 y87 z87 st87 hQ87
      subst l87 y87 z87
      obtain ⟨hv87, Nq87, eq87⟩ := hQ87
      subst hv87
      replace Nf := Fr.app Nf Nq87
      refine own_goH (x' := T87.setTop (mkF m 61 #[.val (.int p0), .val (.int p1), .val (.int p2), .val (.int p3), .val (.int p4), .val (.int 2), .val (.int 2), .val (.ref tk67), .val (.ref tk84), .val (.int 0), .val (.ref b85), .unset] [(.int 0)])) (fun _ k => st87.trans k) ?_
      refine own_goH (x' := T87.setTop (mkF m 75 #[.val (.int p0), .val (.int p1), .val (.int p2), .val (.int p3), .val (.int p4), .val (.int 2), .val (.int 2), .val (.ref tk67), .val (.ref tk84), .val (.int 0), .val (.ref b85), .val (.int 1)] [(.int 1)])) (fun _ k => XS.iload X87.here hx rfl (hb hby at_61) rfl (XS.icmpNo X87.here hx rfl (hb hby at_63) rfl (teq rfl).2 (XS.iconst X87.here hx rfl (hb hby at_66) (XS.goto X87.here hx rfl (pc0 := 67) (pc' := 71) rfl (hb hby at_67) (by decide) (by decide) (XS.istore X87.here hx rfl (hb hby at_71) rfl (l' := #[.val (.int p0), .val (.int p1), .val (.int p2), .val (.int p3), .val (.int p4), .val (.int 2), .val (.int 2), .val (.ref tk67), .val (.ref tk84), .val (.int 0), .val (.ref b85), .val (.int 1)]) rfl (XS.iload X87.here hx rfl (hb hby at_73) rfl k)))))) ?_
      refine own_goH (x' := T87.setTop (mkF m 78 #[.val (.int p0), .val (.int p1), .val (.int p2), .val (.int p3), .val (.int p4), .val (.int 2), .val (.int 2), .val (.ref tk67), .val (.ref tk84), .val (.int 0), .val (.ref b85), .val (.int 1)] [])) (fun _ k => XS.ifNo X87.here hx rfl (hb hby at_75) rfl ((if0 _ _).trans (feq (by decide +kernel : ¬ ((1 : Int32) = (0 : Int32)))).1) k) ?_
      obtain ⟨_, _, ⟨T88, L88, k88, n88⟩, -, X88, ⟨Lc88, hQ88, l88, y88, z88⟩, st88⟩ := Jvm.LawKit.callS X87 hx (y := (⟨"com/example/lean_bus/leanbus/api/Caller", "root", "()Lcom/example/lean_bus/leanbus/api/Caller;"⟩ : MethodName)) hown (mvT hZ (own_w hw 27 rfl)) (mvT hZ (own_w hw 28 rfl)) (mvT hZ (own_w hw 6 rfl)) (mvT hZ (own_w hw 29 rfl)) (by decide) (backOf (W := 0) (rm6 l Z a0 hw []  T86.heap n0 Zs ) hZ (own_w hw 29 rfl) (own_w hw 6 rfl) (by decide) (by decide)) (g := (mkF m 78 #[.val (.int p0), .val (.int p1), .val (.int p2), .val (.int p3), .val (.int p4), .val (.int 2), .val (.int 2), .val (.ref tk67), .val (.ref tk84), .val (.int 0), .val (.ref b85), .val (.int 1)] [])) rfl (by rw [hml]; rfl) (argsL := []) (rest := []) (lenOf pd_9 rfl) rfl (by show 2 * 0 + _ ≤ _; exact Nat.le_of_eq rfl) (hb hby at_78) (fun _ _ => ⟨rfl, eq87, (by decide : 7 + 1 ≤ _), (by decide : 14 + 2 ≤ _)⟩)
      dsimp only [Pt.U, Pt.locs, Pt.cells, Pt.slots] at X88 l88 y88 z88 st88 hQ88
      subst l88 y88 z88
      obtain ⟨b88, hv88, Nq88, K88, sq88, g_b88, E_b88, F_b88_token, F_b88_name⟩ := hQ88
      subst hv88
      replace Nf := Fr.app Nf Nq88
      have ne_b85_b88 : b85 ≠ b88 := Nat.ne_of_lt (Nat.lt_of_lt_of_le E_b85.lt sq88)
      replace Od := Od.keep K88 all0
      replace E_b85 := E_b85.keep K88
      replace F_b85_token := F_b85_token.keep K88 nin0
      replace F_b85_name := F_b85_name.keep K88 nin0
      replace Zs := Nat.le_trans Zs K88.1
      replace hk := Nat.le_trans hk K88.1
      have Sq_b85 := Safe.keep K88 all0 hR.1 Sf_b85
      replace hR := hR.trans (CHr.keep K88 all0 hR.1)
      replace Sf_b85 := Sq_b85
      refine own_goH (x' := T88.setTop (mkF m 81 #[.val (.int p0), .val (.int p1), .val (.int p2), .val (.int p3), .val (.int p4), .val (.int 2), .val (.int 2), .val (.ref tk67), .val (.ref tk84), .val (.int 0), .val (.ref b85), .val (.int 1)] [(.ref b88)])) st88 ?_
      obtain ⟨cq89, kq89, q89a, q89b, q89c⟩ := isOf hZ rfl E_b88
      obtain ⟨_, _, ⟨T89, L89, k89, n89⟩, -, X89, ⟨Lc89, hQ89, l89, y89, z89⟩, st89⟩ := X88.virtualBack hx (y := (⟨"com/example/lean_bus/leanbus/api/Caller", "isRoot", "()Z"⟩ : MethodName)) (z := (⟨"com/example/lean_bus/leanbus/api/Caller", "isRoot", "()Z"⟩ : MethodName)) hown (mvT hZ (own_w hw 22 rfl)) (mvT hZ (own_w hw 23 rfl)) (notFace_of_selects (args := #[]) (mvT hZ (own_w hw 25 rfl))) (mvT hZ (own_w hw 25 rfl)) (mvT hZ (own_w hw 24 rfl)) (by decide) (backOf (W := 0) (rm5N l Z a0 hw [] b88  T88.heap n0 Zs F_b88_token) hZ (own_w hw 26 rfl) (own_w hw 6 rfl) (by decide) (by decide)) q89a q89c (g := (mkF m 81 #[.val (.int p0), .val (.int p1), .val (.int p2), .val (.int p3), .val (.int p4), .val (.int 2), .val (.int 2), .val (.ref tk67), .val (.ref tk84), .val (.int 0), .val (.ref b85), .val (.int 1)] [(.ref b88)])) rfl (by rw [hml]; rfl) (Steps.refl _) (argsL := []) (rest := []) (lenOf pd_8 rfl) rfl (by show 2 * 0 + _ ≤ _; exact Nat.le_of_eq rfl) (hb hby at_81) (fun _ _ => ⟨rfl, rfl, (by decide : 8 + 0 ≤ _), (by decide : 16 + 0 ≤ _)⟩)
      dsimp only [Pt.U, Pt.locs, Pt.cells, Pt.slots] at X89 l89 y89 z89 st89 hQ89
      subst l89 y89 z89
      obtain ⟨hv89, Nq89, eq89⟩ := hQ89
      subst hv89
      replace Nf := Fr.app Nf Nq89
      refine own_goH (x' := T89.setTop (mkF m 84 #[.val (.int p0), .val (.int p1), .val (.int p2), .val (.int p3), .val (.int p4), .val (.int 2), .val (.int 2), .val (.ref tk67), .val (.ref tk84), .val (.int 0), .val (.ref b85), .val (.int 1)] [(.int 1)])) (fun _ k => st89.trans k) ?_
      refine own_goH (x' := T89.setTop (mkF m 99 #[.val (.int p0), .val (.int p1), .val (.int p2), .val (.int p3), .val (.int p4), .val (.int 2), .val (.int 2), .val (.ref tk67), .val (.ref tk84), .val (.int 0), .val (.ref b85), .val (.int 1)] [])) (fun _ k => XS.ifNo X89.here hx rfl (hb hby at_84) rfl ((if0 _ _).trans (feq (by decide +kernel : ¬ ((1 : Int32) = (0 : Int32)))).1) (XS.iconst X89.here hx rfl (hb hby at_87) (XS.goto X89.here hx rfl (pc0 := 88) (pc' := 92) rfl (hb hby at_88) (by decide) (by decide) (XS.istore X89.here hx rfl (hb hby at_92) rfl (l' := #[.val (.int p0), .val (.int p1), .val (.int p2), .val (.int p3), .val (.int p4), .val (.int 2), .val (.int 2), .val (.ref tk67), .val (.ref tk84), .val (.int 0), .val (.ref b85), .val (.int 1)]) rfl (XS.iload X89.here hx rfl (hb hby at_94) rfl (XS.ifNo X89.here hx rfl (hb hby at_96) rfl ((if0 _ _).trans (feq (by decide +kernel : ¬ ((1 : Int32) = (0 : Int32)))).1) k)))))) ?_
      refine own_goH (x' := T89.setTop (mkF m 101 #[.val (.int p0), .val (.int p1), .val (.int p2), .val (.int p3), .val (.int p4), .val (.int 2), .val (.int 2), .val (.ref tk67), .val (.ref tk84), .val (.int 0), .val (.ref b85), .val (.int 1)] [(.ref tk67)])) (fun _ k => XS.aload X89.here hx rfl (hb hby at_99) rfl rfl k) ?_
      obtain ⟨_, _, ⟨T90, L90, k90, n90⟩, -, X90, ⟨Lc90, hQ90, l90, y90, z90⟩, st90⟩ := Jvm.LawKit.callS X89 hx (y := (⟨"com/example/lean_bus/leanbus/api/Caller", "unchecked", "(Ljava/lang/String;)Lcom/example/lean_bus/leanbus/api/Caller;"⟩ : MethodName)) hown (mvT hZ (own_w hw 32 rfl)) (mvT hZ (own_w hw 33 rfl)) (mvT hZ (own_w hw 6 rfl)) (mvT hZ (own_w hw 34 rfl)) (by decide) (backOf (W := 0) (rm7R l Z a0 hw [] tk67 T88.heap n0 Zs ) hZ (own_w hw 34 rfl) (own_w hw 6 rfl) (by decide) (by decide)) (g := (mkF m 101 #[.val (.int p0), .val (.int p1), .val (.int p2), .val (.int p3), .val (.int p4), .val (.int 2), .val (.int 2), .val (.ref tk67), .val (.ref tk84), .val (.int 0), .val (.ref b85), .val (.int 1)] [(.ref tk67)])) rfl (by rw [hml]; rfl) (argsL := [(.ref tk67)]) (rest := []) (lenOf pd_10 rfl) rfl (by show 2 * 0 + _ ≤ _; exact Nat.le_of_eq rfl) (hb hby at_101) (fun _ _ => ⟨rfl, eq89, (by decide : 8 + 1 ≤ _), (by decide : 16 + 2 ≤ _)⟩)
      dsimp only [Pt.U, Pt.locs, Pt.cells, Pt.slots] at X90 l90 y90 z90 st90 hQ90
      subst l90 y90 z90
      obtain ⟨b90, hv90, Nq90, K90, sq90, g_b90, E_b90, F_b90_token, F_b90_name⟩ := hQ90
      subst hv90
      replace Nf := Fr.app Nf Nq90
      have ne_b85_b90 : b85 ≠ b90 := Nat.ne_of_lt (Nat.lt_of_lt_of_le E_b85.lt sq90)
      have ne_b88_b90 : b88 ≠ b90 := Nat.ne_of_lt (Nat.lt_of_lt_of_le E_b88.lt sq90)
      replace Od := Od.keep K90 all0
      replace E_b85 := E_b85.keep K90
      replace F_b85_token := F_b85_token.keep K90 nin0
      replace F_b85_name := F_b85_name.keep K90 nin0
      replace E_b88 := E_b88.keep K90
      replace F_b88_token := F_b88_token.keep K90 nin0
      replace F_b88_name := F_b88_name.keep K90 nin0
      replace Zs := Nat.le_trans Zs K90.1
      replace hk := Nat.le_trans hk K90.1
      have Sq_b85 := Safe.keep K90 all0 hR.1 Sf_b85
      replace hR := hR.trans (CHr.keep K90 all0 hR.1)
      replace Sf_b85 := Sq_b85
      refine own_goH (x' := T90.setTop (mkF m 104 #[.val (.int p0), .val (.int p1), .val (.int p2), .val (.int p3), .val (.int p4), .val (.int 2), .val (.int 2), .val (.ref tk67), .val (.ref tk84), .val (.int 0), .val (.ref b85), .val (.int 1)] [(.ref b90)])) st90 ?_
      obtain ⟨cq91, kq91, q91a, q91b, q91c⟩ := isOf hZ rfl E_b90
      obtain ⟨_, _, ⟨T91, L91, k91, n91⟩, -, X91, ⟨Lc91, hQ91, l91, y91, z91⟩, st91⟩ := X90.virtualBack hx (y := (⟨"com/example/lean_bus/leanbus/api/Caller", "isRoot", "()Z"⟩ : MethodName)) (z := (⟨"com/example/lean_bus/leanbus/api/Caller", "isRoot", "()Z"⟩ : MethodName)) hown (mvT hZ (own_w hw 22 rfl)) (mvT hZ (own_w hw 23 rfl)) (notFace_of_selects (args := #[]) (mvT hZ (own_w hw 25 rfl))) (mvT hZ (own_w hw 25 rfl)) (mvT hZ (own_w hw 24 rfl)) (by decide) (backOf (W := 0) (rm5R l Z a0 hw [] b90 tk67 T90.heap n0 Zs F_b90_token) hZ (own_w hw 26 rfl) (own_w hw 6 rfl) (by decide) (by decide)) q91a q91c (g := (mkF m 104 #[.val (.int p0), .val (.int p1), .val (.int p2), .val (.int p3), .val (.int p4), .val (.int 2), .val (.int 2), .val (.ref tk67), .val (.ref tk84), .val (.int 0), .val (.ref b85), .val (.int 1)] [(.ref b90)])) rfl (by rw [hml]; rfl) (Steps.refl _) (argsL := []) (rest := []) (lenOf pd_8 rfl) rfl (by show 2 * 0 + _ ≤ _; exact Nat.le_of_eq rfl) (hb hby at_104) (fun _ _ => ⟨rfl, rfl, (by decide : 9 + 0 ≤ _), (by decide : 18 + 0 ≤ _)⟩)
      dsimp only [Pt.U, Pt.locs, Pt.cells, Pt.slots] at X91 l91 y91 z91 st91 hQ91
      subst l91 y91 z91
      obtain ⟨hv91, Nq91, eq91⟩ := hQ91
      subst hv91
      replace Nf := Fr.app Nf Nq91
      refine own_goH (x' := T91.setTop (mkF m 107 #[.val (.int p0), .val (.int p1), .val (.int p2), .val (.int p3), .val (.int p4), .val (.int 2), .val (.int 2), .val (.ref tk67), .val (.ref tk84), .val (.int 0), .val (.ref b85), .val (.int 1)] [(.int 0)])) (fun _ k => st91.trans k) ?_
      refine own_goH (x' := T91.setTop (mkF m 121 #[.val (.int p0), .val (.int p1), .val (.int p2), .val (.int p3), .val (.int p4), .val (.int 2), .val (.int 2), .val (.ref tk67), .val (.ref tk84), .val (.int 0), .val (.ref b85), .val (.int 1)] [(.int 1)])) (fun _ k => XS.iload X91.here hx rfl (hb hby at_107) rfl (XS.icmpNo X91.here hx rfl (hb hby at_109) rfl (teq rfl).2 (XS.iconst X91.here hx rfl (hb hby at_112) (XS.goto X91.here hx rfl (pc0 := 113) (pc' := 117) rfl (hb hby at_113) (by decide) (by decide) (XS.istore X91.here hx rfl (hb hby at_117) rfl (l' := #[.val (.int p0), .val (.int p1), .val (.int p2), .val (.int p3), .val (.int p4), .val (.int 2), .val (.int 2), .val (.ref tk67), .val (.ref tk84), .val (.int 0), .val (.ref b85), .val (.int 1)]) rfl (XS.iload X91.here hx rfl (hb hby at_119) rfl k)))))) ?_
      refine own_retNH X91 hS (own_hk eq91 hk) (own_hr eq91 hR) hZ (own_EW hw) hx hlk (t := .boolean) hret (by simp) (hb hby at_121) (w := (1 : Int32)) rfl ?_ (by decide) (by decide)
      rw [eq91]
      exact ⟨rfl, Nf⟩
    · refine own_goH (x' := T67.setTop (mkF m 26 #[.val (.int p0), .val (.int p1), .val (.int p2), .val (.int p3), .val (.int p4), .val (.int 2), .val (.int 3), .val (.ref tk67), .unset, .unset, .unset, .unset] [(.int p4), (.int p3), (.int 3)])) (fun _ k => XS.iload X67.here hx rfl (hb hby at_21) rfl (XS.iloadN X67.here hx rfl (hb hby at_23) rfl (XS.iload X67.here hx rfl (hb hby at_24) rfl k))) ?_
      obtain ⟨_, _, ⟨T92, L92, k92, n92⟩, -, X92, Sw92, Gw92, ⟨Lc92, hQ92, l92, y92, z92, Cw92⟩, st92⟩ := Jvm.RoadKit.callSS X67 hx (y := (⟨"com/example/lean_bus/leanbus/api/CallerIsRootPinLaw", "draw", "(III)Ljava/lang/String;"⟩ : MethodName)) hown (mvT hZ (own_w hw 0 rfl)) (mvT hZ (own_w hw 1 rfl)) (mvT hZ (own_w hw 2 rfl)) (mvT hZ (own_w hw 3 rfl)) (by decide) (backOfSH (W := 0) (rm1_3 l Z a0 hw [] p3 p4 G1 T67.heap n0 Zs Od S_COMPACT_STRINGS hG) hZ (own_w hw 3 rfl) (own_w hw 2 rfl) (by decide) (by decide) (own_EW hw) hR.1) (g := (mkF m 26 #[.val (.int p0), .val (.int p1), .val (.int p2), .val (.int p3), .val (.int p4), .val (.int 2), .val (.int 3), .val (.ref tk67), .unset, .unset, .unset, .unset] [(.int p4), (.int p3), (.int 3)])) rfl (by rw [hml]; rfl) (argsL := [(.int 3), (.int p3), (.int p4)]) (rest := []) (lenOf pd_7 rfl) rfl (by show 2 * 0 + _ ≤ _; exact Nat.le_of_eq rfl) (hb hby at_26) (fun _ _ => ⟨rfl, rfl, (by decide : 3 + 3 ≤ _), (by decide : 6 + 8 ≤ _)⟩)
      dsimp only [Pt.U, Pt.locs, Pt.cells, Pt.slots] at X92 l92 y92 z92 st92 hQ92 Sw92 Gw92 Cw92
      subst l92 y92 z92
      obtain ⟨X92, Sw92, hZ, hown⟩ := rebS hS (own_hk rfl hk) X92 Sw92 Gw92 hZ hown
      replace hR := hR.trans Cw92
      obtain ⟨tk92, hv92, Nq92, K92⟩ := hQ92
      subst hv92
      replace Nf := Fr.app Nf Nq92
      replace Od := Od.keep K92 all0
      replace Zs := Nat.le_trans Zs K92.1
      replace hk := Nat.le_trans hk K92.1
      replace hS := Sw92
      replace hk := Nat.le_refl (Array.size T92.heap)
      refine own_goH (x' := T92.setTop (mkF m 29 #[.val (.int p0), .val (.int p1), .val (.int p2), .val (.int p3), .val (.int p4), .val (.int 2), .val (.int 3), .val (.ref tk67), .unset, .unset, .unset, .unset] [(.ref tk92)])) (fun _ k => st92.trans k) ?_
      refine own_goH (x' := T92.setTop (mkF m 43 #[.val (.int p0), .val (.int p1), .val (.int p2), .val (.int p3), .val (.int p4), .val (.int 2), .val (.int 3), .val (.ref tk67), .val (.ref tk92), .val (.int 0), .unset, .unset] [])) (fun _ k => XS.astore X92.here hx rfl (hb hby at_29) rfl rfl (l' := #[.val (.int p0), .val (.int p1), .val (.int p2), .val (.int p3), .val (.int p4), .val (.int 2), .val (.int 3), .val (.ref tk67), .val (.ref tk92), .unset, .unset, .unset]) rfl (XS.iload X92.here hx rfl (hb hby at_31) rfl (XS.ifYes X92.here hx rfl (pc0 := 33) (pc' := 40) rfl (hb hby at_33) rfl ((if0 _ _).trans (feq (by decide +kernel : ¬ ((2 : Int32) = (0 : Int32)))).2) (by decide) (by decide) (XS.iconst X92.here hx rfl (hb hby at_40) (XS.istore X92.here hx rfl (hb hby at_41) rfl (l' := #[.val (.int p0), .val (.int p1), .val (.int p2), .val (.int p3), .val (.int p4), .val (.int 2), .val (.int 3), .val (.ref tk67), .val (.ref tk92), .val (.int 0), .unset, .unset]) rfl k))))) ?_
      obtain ⟨T93, h93, X93, e93, E93, A93, D93, -, st93⟩ := newO X92 hx hZ hown (own_w hw 4 rfl) (own_w hw 5 rfl) (own_w hw 6 rfl) rfl (g := (mkF m 43 #[.val (.int p0), .val (.int p1), .val (.int p2), .val (.int p3), .val (.int p4), .val (.int 2), .val (.int 3), .val (.ref tk67), .val (.ref tk92), .val (.int 0), .unset, .unset] [])) rfl (hb hby at_43) (by decide) (by decide)
      obtain ⟨b93, g93⟩ : ∃ z, z = T92.heap.size := ⟨_, rfl⟩
      rw [← g93] at A93 D93 st93
      have g_b93 : n0 ≤ b93 := Nat.le_trans Zs (Nat.le_of_eq g93.symm)
      have Sf_b93 := own_sfn hR (Nat.le_of_eq g93.symm)
      replace Od := Od.ext E93
      replace Zs := Nat.le_trans Zs E93.1
      replace hk := Nat.le_trans hk E93.1
      have Sq_b93 := Safe.ext E93 hR.1 Sf_b93
      replace hR := hR.trans (CHr.ext E93 hR.1)
      replace Sf_b93 := Sq_b93
      have E_b93 := A93
      have F_b93_token : Fld Z h93 b93 "com/example/lean_bus/leanbus/api/Caller" "token" "Ljava/lang/String;" .null := D93 (Or.inr (own_w hw 19 rfl)) (ty := (.object "java/lang/String")) (by decide)
      have F_b93_name : Fld Z h93 b93 "com/example/lean_bus/leanbus/api/Caller" "name" "Ljava/lang/String;" .null := D93 (Or.inr (own_w hw 21 rfl)) (ty := (.object "java/lang/String")) (by decide)
      refine own_goH (x' := T93.setTop (mkF m 46 #[.val (.int p0), .val (.int p1), .val (.int p2), .val (.int p3), .val (.int p4), .val (.int 2), .val (.int 3), .val (.ref tk67), .val (.ref tk92), .val (.int 0), .unset, .unset] [(.ref b93)])) st93 ?_
      refine own_goH (x' := T93.setTop (mkF m 51 #[.val (.int p0), .val (.int p1), .val (.int p2), .val (.int p3), .val (.int p4), .val (.int 2), .val (.int 3), .val (.ref tk67), .val (.ref tk92), .val (.int 0), .unset, .unset] [(.ref tk92), (.ref tk67), (.ref b93), (.ref b93)])) (fun _ k => XS.dup X93.here hx rfl (hb hby at_46) rfl rfl (XS.aload X93.here hx rfl (hb hby at_47) rfl rfl (XS.aload X93.here hx rfl (hb hby at_49) rfl rfl k))) ?_
      obtain ⟨_, _, ⟨T94, L94, k94, n94⟩, -, X94, ⟨Lc94, hQ94, l94, y94, z94⟩, st94⟩ := X93.specialBack hx (y := (⟨"com/example/lean_bus/leanbus/api/Caller", "<init>", "(Ljava/lang/String;Ljava/lang/String;)V"⟩ : MethodName)) rfl hown (mvT hZ (own_w hw 7 rfl)) (mvT hZ (own_w hw 8 rfl)) (mvT hZ (own_w hw 9 rfl)) (by decide) (backOf (W := 1) (rm2RR l Z a0 hw [] b93 tk67 tk92 h93 n0 Zs E_b93 F_b93_token F_b93_name g_b93) hZ (own_w hw 9 rfl) (own_w hw 6 rfl) (by decide) (by decide)) (g := (mkF m 51 #[.val (.int p0), .val (.int p1), .val (.int p2), .val (.int p3), .val (.int p4), .val (.int 2), .val (.int 3), .val (.ref tk67), .val (.ref tk92), .val (.int 0), .unset, .unset] [(.ref tk92), (.ref tk67), (.ref b93), (.ref b93)])) rfl (by rw [hml]; rfl) (Steps.refl _) (a := b93) (argsL := [(.ref tk67), (.ref tk92)]) (rest := [(.ref b93)]) (lenOf pd_6 rfl) rfl (by show 2 * 0 + _ ≤ _; exact Nat.le_of_eq rfl) (hb hby at_51) (fun _ _ => ⟨rfl, e93, (by decide : 7 + 0 ≤ _), (by decide : 16 + 0 ≤ _)⟩)
      dsimp only [Pt.U, Pt.locs, Pt.cells, Pt.slots] at X94 l94 y94 z94 st94 hQ94
      subst l94 y94 z94
      obtain ⟨hv94, Nq94, K94, Eo94, Fo94_0, Fo94_1⟩ := hQ94
      subst hv94
      replace Nf := Fr.app Nf Nq94
      replace Od := Od.keep K94 (allS g_b93 all0)
      replace Zs := Nat.le_trans Zs K94.1
      replace hk := Nat.le_trans hk K94.1
      have Sq_b93 := Safe.keep K94 (allS Sf_b93 all0) hR.1 Sf_b93
      replace hR := hR.trans (CHr.keep K94 (allS Sf_b93 all0) hR.1)
      replace Sf_b93 := Sq_b93
      replace E_b93 := Eo94
      replace F_b93_token := Fo94_0
      replace F_b93_name := Fo94_1
      refine own_goH (x' := T94.setTop (mkF m 54 #[.val (.int p0), .val (.int p1), .val (.int p2), .val (.int p3), .val (.int p4), .val (.int 2), .val (.int 3), .val (.ref tk67), .val (.ref tk92), .val (.int 0), .unset, .unset] [(.ref b93)])) (fun _ k => st94.trans k) ?_
      refine own_goH (x' := T94.setTop (mkF m 58 #[.val (.int p0), .val (.int p1), .val (.int p2), .val (.int p3), .val (.int p4), .val (.int 2), .val (.int 3), .val (.ref tk67), .val (.ref tk92), .val (.int 0), .val (.ref b93), .unset] [(.ref b93)])) (fun _ k => XS.astore X94.here hx rfl (hb hby at_54) rfl rfl (l' := #[.val (.int p0), .val (.int p1), .val (.int p2), .val (.int p3), .val (.int p4), .val (.int 2), .val (.int 3), .val (.ref tk67), .val (.ref tk92), .val (.int 0), .val (.ref b93), .unset]) rfl (XS.aload X94.here hx rfl (hb hby at_56) rfl rfl k)) ?_
      obtain ⟨cq95, kq95, q95a, q95b, q95c⟩ := isOf hZ rfl E_b93
      obtain ⟨_, _, ⟨T95, L95, k95, n95⟩, -, X95, ⟨Lc95, hQ95, l95, y95, z95⟩, st95⟩ := X94.virtualBack hx (y := (⟨"com/example/lean_bus/leanbus/api/Caller", "isRoot", "()Z"⟩ : MethodName)) (z := (⟨"com/example/lean_bus/leanbus/api/Caller", "isRoot", "()Z"⟩ : MethodName)) hown (mvT hZ (own_w hw 22 rfl)) (mvT hZ (own_w hw 23 rfl)) (notFace_of_selects (args := #[]) (mvT hZ (own_w hw 25 rfl))) (mvT hZ (own_w hw 25 rfl)) (mvT hZ (own_w hw 24 rfl)) (by decide) (backOf (W := 0) (rm5R l Z a0 hw [] b93 tk67 T94.heap n0 Zs F_b93_token) hZ (own_w hw 26 rfl) (own_w hw 6 rfl) (by decide) (by decide)) q95a q95c (g := (mkF m 58 #[.val (.int p0), .val (.int p1), .val (.int p2), .val (.int p3), .val (.int p4), .val (.int 2), .val (.int 3), .val (.ref tk67), .val (.ref tk92), .val (.int 0), .val (.ref b93), .unset] [(.ref b93)])) rfl (by rw [hml]; rfl) (Steps.refl _) (argsL := []) (rest := []) (lenOf pd_8 rfl) rfl (by show 2 * 0 + _ ≤ _; exact Nat.le_of_eq rfl) (hb hby at_58) (fun _ _ => ⟨rfl, rfl, (by decide : 7 + 0 ≤ _), (by decide : 16 + 0 ≤ _)⟩)
      dsimp only [Pt.U, Pt.locs, Pt.cells, Pt.slots] at X95 l95 y95 z95 st95 hQ95
      subst l95 y95 z95
      obtain ⟨hv95, Nq95, eq95⟩ := hQ95
      subst hv95
      replace Nf := Fr.app Nf Nq95
      refine own_goH (x' := T95.setTop (mkF m 61 #[.val (.int p0), .val (.int p1), .val (.int p2), .val (.int p3), .val (.int p4), .val (.int 2), .val (.int 3), .val (.ref tk67), .val (.ref tk92), .val (.int 0), .val (.ref b93), .unset] [(.int 0)])) (fun _ k => st95.trans k) ?_
      refine own_goH (x' := T95.setTop (mkF m 75 #[.val (.int p0), .val (.int p1), .val (.int p2), .val (.int p3), .val (.int p4), .val (.int 2), .val (.int 3), .val (.ref tk67), .val (.ref tk92), .val (.int 0), .val (.ref b93), .val (.int 1)] [(.int 1)])) (fun _ k => XS.iload X95.here hx rfl (hb hby at_61) rfl (XS.icmpNo X95.here hx rfl (hb hby at_63) rfl (teq rfl).2 (XS.iconst X95.here hx rfl (hb hby at_66) (XS.goto X95.here hx rfl (pc0 := 67) (pc' := 71) rfl (hb hby at_67) (by decide) (by decide) (XS.istore X95.here hx rfl (hb hby at_71) rfl (l' := #[.val (.int p0), .val (.int p1), .val (.int p2), .val (.int p3), .val (.int p4), .val (.int 2), .val (.int 3), .val (.ref tk67), .val (.ref tk92), .val (.int 0), .val (.ref b93), .val (.int 1)]) rfl (XS.iload X95.here hx rfl (hb hby at_73) rfl k)))))) ?_
      refine own_goH (x' := T95.setTop (mkF m 78 #[.val (.int p0), .val (.int p1), .val (.int p2), .val (.int p3), .val (.int p4), .val (.int 2), .val (.int 3), .val (.ref tk67), .val (.ref tk92), .val (.int 0), .val (.ref b93), .val (.int 1)] [])) (fun _ k => XS.ifNo X95.here hx rfl (hb hby at_75) rfl ((if0 _ _).trans (feq (by decide +kernel : ¬ ((1 : Int32) = (0 : Int32)))).1) k) ?_
      obtain ⟨_, _, ⟨T96, L96, k96, n96⟩, -, X96, ⟨Lc96, hQ96, l96, y96, z96⟩, st96⟩ := Jvm.LawKit.callS X95 hx (y := (⟨"com/example/lean_bus/leanbus/api/Caller", "root", "()Lcom/example/lean_bus/leanbus/api/Caller;"⟩ : MethodName)) hown (mvT hZ (own_w hw 27 rfl)) (mvT hZ (own_w hw 28 rfl)) (mvT hZ (own_w hw 6 rfl)) (mvT hZ (own_w hw 29 rfl)) (by decide) (backOf (W := 0) (rm6 l Z a0 hw []  T94.heap n0 Zs ) hZ (own_w hw 29 rfl) (own_w hw 6 rfl) (by decide) (by decide)) (g := (mkF m 78 #[.val (.int p0), .val (.int p1), .val (.int p2), .val (.int p3), .val (.int p4), .val (.int 2), .val (.int 3), .val (.ref tk67), .val (.ref tk92), .val (.int 0), .val (.ref b93), .val (.int 1)] [])) rfl (by rw [hml]; rfl) (argsL := []) (rest := []) (lenOf pd_9 rfl) rfl (by show 2 * 0 + _ ≤ _; exact Nat.le_of_eq rfl) (hb hby at_78) (fun _ _ => ⟨rfl, eq95, (by decide : 7 + 1 ≤ _), (by decide : 16 + 2 ≤ _)⟩)
      dsimp only [Pt.U, Pt.locs, Pt.cells, Pt.slots] at X96 l96 y96 z96 st96 hQ96
      subst l96 y96 z96
      obtain ⟨b96, hv96, Nq96, K96, sq96, g_b96, E_b96, F_b96_token, F_b96_name⟩ := hQ96
      subst hv96
      replace Nf := Fr.app Nf Nq96
      have ne_b93_b96 : b93 ≠ b96 := Nat.ne_of_lt (Nat.lt_of_lt_of_le E_b93.lt sq96)
      replace Od := Od.keep K96 all0
      replace E_b93 := E_b93.keep K96
      replace F_b93_token := F_b93_token.keep K96 nin0
      replace F_b93_name := F_b93_name.keep K96 nin0
      replace Zs := Nat.le_trans Zs K96.1
      replace hk := Nat.le_trans hk K96.1
      have Sq_b93 := Safe.keep K96 all0 hR.1 Sf_b93
      replace hR := hR.trans (CHr.keep K96 all0 hR.1)
      replace Sf_b93 := Sq_b93
      refine own_goH (x' := T96.setTop (mkF m 81 #[.val (.int p0), .val (.int p1), .val (.int p2), .val (.int p3), .val (.int p4), .val (.int 2), .val (.int 3), .val (.ref tk67), .val (.ref tk92), .val (.int 0), .val (.ref b93), .val (.int 1)] [(.ref b96)])) st96 ?_
      obtain ⟨cq97, kq97, q97a, q97b, q97c⟩ := isOf hZ rfl E_b96
      obtain ⟨_, _, ⟨T97, L97, k97, n97⟩, -, X97, ⟨Lc97, hQ97, l97, y97, z97⟩, st97⟩ := X96.virtualBack hx (y := (⟨"com/example/lean_bus/leanbus/api/Caller", "isRoot", "()Z"⟩ : MethodName)) (z := (⟨"com/example/lean_bus/leanbus/api/Caller", "isRoot", "()Z"⟩ : MethodName)) hown (mvT hZ (own_w hw 22 rfl)) (mvT hZ (own_w hw 23 rfl)) (notFace_of_selects (args := #[]) (mvT hZ (own_w hw 25 rfl))) (mvT hZ (own_w hw 25 rfl)) (mvT hZ (own_w hw 24 rfl)) (by decide) (backOf (W := 0) (rm5N l Z a0 hw [] b96  T96.heap n0 Zs F_b96_token) hZ (own_w hw 26 rfl) (own_w hw 6 rfl) (by decide) (by decide)) q97a q97c (g := (mkF m 81 #[.val (.int p0), .val (.int p1), .val (.int p2), .val (.int p3), .val (.int p4), .val (.int 2), .val (.int 3), .val (.ref tk67), .val (.ref tk92), .val (.int 0), .val (.ref b93), .val (.int 1)] [(.ref b96)])) rfl (by rw [hml]; rfl) (Steps.refl _) (argsL := []) (rest := []) (lenOf pd_8 rfl) rfl (by show 2 * 0 + _ ≤ _; exact Nat.le_of_eq rfl) (hb hby at_81) (fun _ _ => ⟨rfl, rfl, (by decide : 8 + 0 ≤ _), (by decide : 18 + 0 ≤ _)⟩)
      dsimp only [Pt.U, Pt.locs, Pt.cells, Pt.slots] at X97 l97 y97 z97 st97 hQ97
      subst l97 y97 z97
      obtain ⟨hv97, Nq97, eq97⟩ := hQ97
      subst hv97
      replace Nf := Fr.app Nf Nq97
      refine own_goH (x' := T97.setTop (mkF m 84 #[.val (.int p0), .val (.int p1), .val (.int p2), .val (.int p3), .val (.int p4), .val (.int 2), .val (.int 3), .val (.ref tk67), .val (.ref tk92), .val (.int 0), .val (.ref b93), .val (.int 1)] [(.int 1)])) (fun _ k => st97.trans k) ?_
      refine own_goH (x' := T97.setTop (mkF m 99 #[.val (.int p0), .val (.int p1), .val (.int p2), .val (.int p3), .val (.int p4), .val (.int 2), .val (.int 3), .val (.ref tk67), .val (.ref tk92), .val (.int 0), .val (.ref b93), .val (.int 1)] [])) (fun _ k => XS.ifNo X97.here hx rfl (hb hby at_84) rfl ((if0 _ _).trans (feq (by decide +kernel : ¬ ((1 : Int32) = (0 : Int32)))).1) (XS.iconst X97.here hx rfl (hb hby at_87) (XS.goto X97.here hx rfl (pc0 := 88) (pc' := 92) rfl (hb hby at_88) (by decide) (by decide) (XS.istore X97.here hx rfl (hb hby at_92) rfl (l' := #[.val (.int p0), .val (.int p1), .val (.int p2), .val (.int p3), .val (.int p4), .val (.int 2), .val (.int 3), .val (.ref tk67), .val (.ref tk92), .val (.int 0), .val (.ref b93), .val (.int 1)]) rfl (XS.iload X97.here hx rfl (hb hby at_94) rfl (XS.ifNo X97.here hx rfl (hb hby at_96) rfl ((if0 _ _).trans (feq (by decide +kernel : ¬ ((1 : Int32) = (0 : Int32)))).1) k)))))) ?_
      refine own_goH (x' := T97.setTop (mkF m 101 #[.val (.int p0), .val (.int p1), .val (.int p2), .val (.int p3), .val (.int p4), .val (.int 2), .val (.int 3), .val (.ref tk67), .val (.ref tk92), .val (.int 0), .val (.ref b93), .val (.int 1)] [(.ref tk67)])) (fun _ k => XS.aload X97.here hx rfl (hb hby at_99) rfl rfl k) ?_
      obtain ⟨_, _, ⟨T98, L98, k98, n98⟩, -, X98, ⟨Lc98, hQ98, l98, y98, z98⟩, st98⟩ := Jvm.LawKit.callS X97 hx (y := (⟨"com/example/lean_bus/leanbus/api/Caller", "unchecked", "(Ljava/lang/String;)Lcom/example/lean_bus/leanbus/api/Caller;"⟩ : MethodName)) hown (mvT hZ (own_w hw 32 rfl)) (mvT hZ (own_w hw 33 rfl)) (mvT hZ (own_w hw 6 rfl)) (mvT hZ (own_w hw 34 rfl)) (by decide) (backOf (W := 0) (rm7R l Z a0 hw [] tk67 T96.heap n0 Zs ) hZ (own_w hw 34 rfl) (own_w hw 6 rfl) (by decide) (by decide)) (g := (mkF m 101 #[.val (.int p0), .val (.int p1), .val (.int p2), .val (.int p3), .val (.int p4), .val (.int 2), .val (.int 3), .val (.ref tk67), .val (.ref tk92), .val (.int 0), .val (.ref b93), .val (.int 1)] [(.ref tk67)])) rfl (by rw [hml]; rfl) (argsL := [(.ref tk67)]) (rest := []) (lenOf pd_10 rfl) rfl (by show 2 * 0 + _ ≤ _; exact Nat.le_of_eq rfl) (hb hby at_101) (fun _ _ => ⟨rfl, eq97, (by decide : 8 + 1 ≤ _), (by decide : 18 + 2 ≤ _)⟩)
      dsimp only [Pt.U, Pt.locs, Pt.cells, Pt.slots] at X98 l98 y98 z98 st98 hQ98
      subst l98 y98 z98
      obtain ⟨b98, hv98, Nq98, K98, sq98, g_b98, E_b98, F_b98_token, F_b98_name⟩ := hQ98
      subst hv98
      replace Nf := Fr.app Nf Nq98
      have ne_b93_b98 : b93 ≠ b98 := Nat.ne_of_lt (Nat.lt_of_lt_of_le E_b93.lt sq98)
      have ne_b96_b98 : b96 ≠ b98 := Nat.ne_of_lt (Nat.lt_of_lt_of_le E_b96.lt sq98)
      replace Od := Od.keep K98 all0
      replace E_b93 := E_b93.keep K98
      replace F_b93_token := F_b93_token.keep K98 nin0
      replace F_b93_name := F_b93_name.keep K98 nin0
      replace E_b96 := E_b96.keep K98
      replace F_b96_token := F_b96_token.keep K98 nin0
      replace F_b96_name := F_b96_name.keep K98 nin0
      replace Zs := Nat.le_trans Zs K98.1
      replace hk := Nat.le_trans hk K98.1
      have Sq_b93 := Safe.keep K98 all0 hR.1 Sf_b93
      replace hR := hR.trans (CHr.keep K98 all0 hR.1)
      replace Sf_b93 := Sq_b93
      refine own_goH (x' := T98.setTop (mkF m 104 #[.val (.int p0), .val (.int p1), .val (.int p2), .val (.int p3), .val (.int p4), .val (.int 2), .val (.int 3), .val (.ref tk67), .val (.ref tk92), .val (.int 0), .val (.ref b93), .val (.int 1)] [(.ref b98)])) st98 ?_
      obtain ⟨cq99, kq99, q99a, q99b, q99c⟩ := isOf hZ rfl E_b98
      obtain ⟨_, _, ⟨T99, L99, k99, n99⟩, -, X99, ⟨Lc99, hQ99, l99, y99, z99⟩, st99⟩ := X98.virtualBack hx (y := (⟨"com/example/lean_bus/leanbus/api/Caller", "isRoot", "()Z"⟩ : MethodName)) (z := (⟨"com/example/lean_bus/leanbus/api/Caller", "isRoot", "()Z"⟩ : MethodName)) hown (mvT hZ (own_w hw 22 rfl)) (mvT hZ (own_w hw 23 rfl)) (notFace_of_selects (args := #[]) (mvT hZ (own_w hw 25 rfl))) (mvT hZ (own_w hw 25 rfl)) (mvT hZ (own_w hw 24 rfl)) (by decide) (backOf (W := 0) (rm5R l Z a0 hw [] b98 tk67 T98.heap n0 Zs F_b98_token) hZ (own_w hw 26 rfl) (own_w hw 6 rfl) (by decide) (by decide)) q99a q99c (g := (mkF m 104 #[.val (.int p0), .val (.int p1), .val (.int p2), .val (.int p3), .val (.int p4), .val (.int 2), .val (.int 3), .val (.ref tk67), .val (.ref tk92), .val (.int 0), .val (.ref b93), .val (.int 1)] [(.ref b98)])) rfl (by rw [hml]; rfl) (Steps.refl _) (argsL := []) (rest := []) (lenOf pd_8 rfl) rfl (by show 2 * 0 + _ ≤ _; exact Nat.le_of_eq rfl) (hb hby at_104) (fun _ _ => ⟨rfl, rfl, (by decide : 9 + 0 ≤ _), (by decide : 20 + 0 ≤ _)⟩)
      dsimp only [Pt.U, Pt.locs, Pt.cells, Pt.slots] at X99 l99 y99 z99 st99 hQ99
      subst l99 y99 z99
      obtain ⟨hv99, Nq99, eq99⟩ := hQ99
      subst hv99
      replace Nf := Fr.app Nf Nq99
      refine own_goH (x' := T99.setTop (mkF m 107 #[.val (.int p0), .val (.int p1), .val (.int p2), .val (.int p3), .val (.int p4), .val (.int 2), .val (.int 3), .val (.ref tk67), .val (.ref tk92), .val (.int 0), .val (.ref b93), .val (.int 1)] [(.int 0)])) (fun _ k => st99.trans k) ?_
      refine own_goH (x' := T99.setTop (mkF m 121 #[.val (.int p0), .val (.int p1), .val (.int p2), .val (.int p3), .val (.int p4), .val (.int 2), .val (.int 3), .val (.ref tk67), .val (.ref tk92), .val (.int 0), .val (.ref b93), .val (.int 1)] [(.int 1)])) (fun _ k => XS.iload X99.here hx rfl (hb hby at_107) rfl (XS.icmpNo X99.here hx rfl (hb hby at_109) rfl (teq rfl).2 (XS.iconst X99.here hx rfl (hb hby at_112) (XS.goto X99.here hx rfl (pc0 := 113) (pc' := 117) rfl (hb hby at_113) (by decide) (by decide) (XS.istore X99.here hx rfl (hb hby at_117) rfl (l' := #[.val (.int p0), .val (.int p1), .val (.int p2), .val (.int p3), .val (.int p4), .val (.int 2), .val (.int 3), .val (.ref tk67), .val (.ref tk92), .val (.int 0), .val (.ref b93), .val (.int 1)]) rfl (XS.iload X99.here hx rfl (hb hby at_119) rfl k)))))) ?_
      refine own_retNH X99 hS (own_hk eq99 hk) (own_hr eq99 hR) hZ (own_EW hw) hx hlk (t := .boolean) hret (by simp) (hb hby at_121) (w := (1 : Int32)) rfl ?_ (by decide) (by decide)
      rw [eq99]
      exact ⟨rfl, Nf⟩
  · refine own_goH (x' := s₁.setTop (mkF m 16 #[.val (.int p0), .val (.int p1), .val (.int p2), .val (.int p3), .val (.int p4), .val (.int 3), .val (.int nkv), .unset, .unset, .unset, .unset, .unset] [(.int p2), (.int p1), (.int 3)])) (fun _ k => XS.iload X0.here hx rfl (hb hby at_12) rfl (XS.iloadN X0.here hx rfl (hb hby at_14) rfl (XS.iloadN X0.here hx rfl (hb hby at_15) rfl k))) ?_
    obtain ⟨_, _, ⟨T100, L100, k100, n100⟩, -, X100, Sw100, Gw100, ⟨Lc100, hQ100, l100, y100, z100, Cw100⟩, st100⟩ := Jvm.RoadKit.callSS X0 hx (y := (⟨"com/example/lean_bus/leanbus/api/CallerIsRootPinLaw", "draw", "(III)Ljava/lang/String;"⟩ : MethodName)) hown (mvT hZ (own_w hw 0 rfl)) (mvT hZ (own_w hw 1 rfl)) (mvT hZ (own_w hw 2 rfl)) (mvT hZ (own_w hw 3 rfl)) (by decide) (backOfSH (W := 0) (rm1_3 l Z a0 hw [] p1 p2 G1 h0 n0 Zs Od S_COMPACT_STRINGS hG) hZ (own_w hw 3 rfl) (own_w hw 2 rfl) (by decide) (by decide) (own_EW hw) hR.1) (g := (mkF m 16 #[.val (.int p0), .val (.int p1), .val (.int p2), .val (.int p3), .val (.int p4), .val (.int 3), .val (.int nkv), .unset, .unset, .unset, .unset, .unset] [(.int p2), (.int p1), (.int 3)])) rfl (by rw [hml]; rfl) (argsL := [(.int 3), (.int p1), (.int p2)]) (rest := []) (lenOf pd_7 rfl) rfl (by show 2 * 0 + _ ≤ _; exact Nat.le_of_eq rfl) (hb hby at_16) (fun _ _ => ⟨rfl, e0, (by decide : 0 + 3 ≤ _), (by decide : 0 + 8 ≤ _)⟩)
    dsimp only [Pt.U, Pt.locs, Pt.cells, Pt.slots] at X100 l100 y100 z100 st100 hQ100 Sw100 Gw100 Cw100
    subst l100 y100 z100
    obtain ⟨X100, Sw100, hZ, hown⟩ := rebS hS (own_hk e0 hk) X100 Sw100 Gw100 hZ hown
    replace hR := hR.trans Cw100
    obtain ⟨tk100, hv100, Nq100, K100⟩ := hQ100
    subst hv100
    replace Nf := Fr.app Nf Nq100
    replace Od := Od.keep K100 all0
    replace Zs := Nat.le_trans Zs K100.1
    replace hk := Nat.le_trans hk K100.1
    replace hS := Sw100
    replace hk := Nat.le_refl (Array.size T100.heap)
    refine own_goH (x' := T100.setTop (mkF m 19 #[.val (.int p0), .val (.int p1), .val (.int p2), .val (.int p3), .val (.int p4), .val (.int 3), .val (.int nkv), .unset, .unset, .unset, .unset, .unset] [(.ref tk100)])) (fun _ k => st100.trans k) ?_
    refine own_goH (x' := T100.setTop (mkF m 21 #[.val (.int p0), .val (.int p1), .val (.int p2), .val (.int p3), .val (.int p4), .val (.int 3), .val (.int nkv), .val (.ref tk100), .unset, .unset, .unset, .unset] [])) (fun _ k => XS.astore X100.here hx rfl (hb hby at_19) rfl rfl (l' := #[.val (.int p0), .val (.int p1), .val (.int p2), .val (.int p3), .val (.int p4), .val (.int 3), .val (.int nkv), .val (.ref tk100), .unset, .unset, .unset, .unset]) rfl k) ?_
    rcases hnk with rfl | rfl | rfl | rfl
    · refine own_goH (x' := T100.setTop (mkF m 26 #[.val (.int p0), .val (.int p1), .val (.int p2), .val (.int p3), .val (.int p4), .val (.int 3), .val (.int 0), .val (.ref tk100), .unset, .unset, .unset, .unset] [(.int p4), (.int p3), (.int 0)])) (fun _ k => XS.iload X100.here hx rfl (hb hby at_21) rfl (XS.iloadN X100.here hx rfl (hb hby at_23) rfl (XS.iload X100.here hx rfl (hb hby at_24) rfl k))) ?_
      obtain ⟨_, _, ⟨T101, L101, k101, n101⟩, -, X101, ⟨Lc101, hQ101, l101, y101, z101⟩, st101⟩ := Jvm.LawKit.callS X100 hx (y := (⟨"com/example/lean_bus/leanbus/api/CallerIsRootPinLaw", "draw", "(III)Ljava/lang/String;"⟩ : MethodName)) hown (mvT hZ (own_w hw 0 rfl)) (mvT hZ (own_w hw 1 rfl)) (mvT hZ (own_w hw 2 rfl)) (mvT hZ (own_w hw 3 rfl)) (by decide) (backOf (W := 0) (rm1_0 l Z a0 hw [] p3 p4 G1 T100.heap n0 Zs Od S_COMPACT_STRINGS hG) hZ (own_w hw 3 rfl) (own_w hw 2 rfl) (by decide) (by decide)) (g := (mkF m 26 #[.val (.int p0), .val (.int p1), .val (.int p2), .val (.int p3), .val (.int p4), .val (.int 3), .val (.int 0), .val (.ref tk100), .unset, .unset, .unset, .unset] [(.int p4), (.int p3), (.int 0)])) rfl (by rw [hml]; rfl) (argsL := [(.int 0), (.int p3), (.int p4)]) (rest := []) (lenOf pd_7 rfl) rfl (by show 2 * 0 + _ ≤ _; exact Nat.le_of_eq rfl) (hb hby at_26) (fun _ _ => ⟨rfl, rfl, (by decide : 3 + 0 ≤ _), (by decide : 8 + 0 ≤ _)⟩)
      dsimp only [Pt.U, Pt.locs, Pt.cells, Pt.slots] at X101 l101 y101 z101 st101 hQ101
      subst l101 y101 z101
      obtain ⟨hv101, Nq101, eq101⟩ := hQ101
      subst hv101
      replace Nf := Fr.app Nf Nq101
      refine own_goH (x' := T101.setTop (mkF m 29 #[.val (.int p0), .val (.int p1), .val (.int p2), .val (.int p3), .val (.int p4), .val (.int 3), .val (.int 0), .val (.ref tk100), .unset, .unset, .unset, .unset] [.null])) st101 ?_
      refine own_goH (x' := T101.setTop (mkF m 43 #[.val (.int p0), .val (.int p1), .val (.int p2), .val (.int p3), .val (.int p4), .val (.int 3), .val (.int 0), .val (.ref tk100), .val .null, .val (.int 0), .unset, .unset] [])) (fun _ k => XS.astore X101.here hx rfl (hb hby at_29) rfl rfl (l' := #[.val (.int p0), .val (.int p1), .val (.int p2), .val (.int p3), .val (.int p4), .val (.int 3), .val (.int 0), .val (.ref tk100), .val .null, .unset, .unset, .unset]) rfl (XS.iload X101.here hx rfl (hb hby at_31) rfl (XS.ifYes X101.here hx rfl (pc0 := 33) (pc' := 40) rfl (hb hby at_33) rfl ((if0 _ _).trans (feq (by decide +kernel : ¬ ((3 : Int32) = (0 : Int32)))).2) (by decide) (by decide) (XS.iconst X101.here hx rfl (hb hby at_40) (XS.istore X101.here hx rfl (hb hby at_41) rfl (l' := #[.val (.int p0), .val (.int p1), .val (.int p2), .val (.int p3), .val (.int p4), .val (.int 3), .val (.int 0), .val (.ref tk100), .val .null, .val (.int 0), .unset, .unset]) rfl k))))) ?_
      obtain ⟨T102, h102, X102, e102, E102, A102, D102, -, st102⟩ := newO X101 hx hZ hown (own_w hw 4 rfl) (own_w hw 5 rfl) (own_w hw 6 rfl) eq101 (g := (mkF m 43 #[.val (.int p0), .val (.int p1), .val (.int p2), .val (.int p3), .val (.int p4), .val (.int 3), .val (.int 0), .val (.ref tk100), .val .null, .val (.int 0), .unset, .unset] [])) rfl (hb hby at_43) (by decide) (by decide)
      obtain ⟨b102, g102⟩ : ∃ z, z = T100.heap.size := ⟨_, rfl⟩
      rw [← g102] at A102 D102 st102
      have g_b102 : n0 ≤ b102 := Nat.le_trans Zs (Nat.le_of_eq g102.symm)
      have Sf_b102 := own_sfn hR (Nat.le_of_eq g102.symm)
      replace Od := Od.ext E102
      replace Zs := Nat.le_trans Zs E102.1
      replace hk := Nat.le_trans hk E102.1
      have Sq_b102 := Safe.ext E102 hR.1 Sf_b102
      replace hR := hR.trans (CHr.ext E102 hR.1)
      replace Sf_b102 := Sq_b102
      have E_b102 := A102
      have F_b102_token : Fld Z h102 b102 "com/example/lean_bus/leanbus/api/Caller" "token" "Ljava/lang/String;" .null := D102 (Or.inr (own_w hw 19 rfl)) (ty := (.object "java/lang/String")) (by decide)
      have F_b102_name : Fld Z h102 b102 "com/example/lean_bus/leanbus/api/Caller" "name" "Ljava/lang/String;" .null := D102 (Or.inr (own_w hw 21 rfl)) (ty := (.object "java/lang/String")) (by decide)
      refine own_goH (x' := T102.setTop (mkF m 46 #[.val (.int p0), .val (.int p1), .val (.int p2), .val (.int p3), .val (.int p4), .val (.int 3), .val (.int 0), .val (.ref tk100), .val .null, .val (.int 0), .unset, .unset] [(.ref b102)])) st102 ?_
      refine own_goH (x' := T102.setTop (mkF m 51 #[.val (.int p0), .val (.int p1), .val (.int p2), .val (.int p3), .val (.int p4), .val (.int 3), .val (.int 0), .val (.ref tk100), .val .null, .val (.int 0), .unset, .unset] [.null, (.ref tk100), (.ref b102), (.ref b102)])) (fun _ k => XS.dup X102.here hx rfl (hb hby at_46) rfl rfl (XS.aload X102.here hx rfl (hb hby at_47) rfl rfl (XS.aload X102.here hx rfl (hb hby at_49) rfl rfl k))) ?_
      obtain ⟨_, _, ⟨T103, L103, k103, n103⟩, -, X103, ⟨Lc103, hQ103, l103, y103, z103⟩, st103⟩ := X102.specialBack hx (y := (⟨"com/example/lean_bus/leanbus/api/Caller", "<init>", "(Ljava/lang/String;Ljava/lang/String;)V"⟩ : MethodName)) rfl hown (mvT hZ (own_w hw 7 rfl)) (mvT hZ (own_w hw 8 rfl)) (mvT hZ (own_w hw 9 rfl)) (by decide) (backOf (W := 1) (rm2RN l Z a0 hw [] b102 tk100 h102 n0 Zs E_b102 F_b102_token F_b102_name g_b102) hZ (own_w hw 9 rfl) (own_w hw 6 rfl) (by decide) (by decide)) (g := (mkF m 51 #[.val (.int p0), .val (.int p1), .val (.int p2), .val (.int p3), .val (.int p4), .val (.int 3), .val (.int 0), .val (.ref tk100), .val .null, .val (.int 0), .unset, .unset] [.null, (.ref tk100), (.ref b102), (.ref b102)])) rfl (by rw [hml]; rfl) (Steps.refl _) (a := b102) (argsL := [(.ref tk100), .null]) (rest := [(.ref b102)]) (lenOf pd_6 rfl) rfl (by show 2 * 0 + _ ≤ _; exact Nat.le_of_eq rfl) (hb hby at_51) (fun _ _ => ⟨rfl, e102, (by decide : 4 + 0 ≤ _), (by decide : 10 + 0 ≤ _)⟩)
      dsimp only [Pt.U, Pt.locs, Pt.cells, Pt.slots] at X103 l103 y103 z103 st103 hQ103
      subst l103 y103 z103
      obtain ⟨hv103, Nq103, K103, Eo103, Fo103_0, Fo103_1⟩ := hQ103
      subst hv103
      replace Nf := Fr.app Nf Nq103
      replace Od := Od.keep K103 (allS g_b102 all0)
      replace Zs := Nat.le_trans Zs K103.1
      replace hk := Nat.le_trans hk K103.1
      have Sq_b102 := Safe.keep K103 (allS Sf_b102 all0) hR.1 Sf_b102
      replace hR := hR.trans (CHr.keep K103 (allS Sf_b102 all0) hR.1)
      replace Sf_b102 := Sq_b102
      replace E_b102 := Eo103
      replace F_b102_token := Fo103_0
      replace F_b102_name := Fo103_1
      refine own_goH (x' := T103.setTop (mkF m 54 #[.val (.int p0), .val (.int p1), .val (.int p2), .val (.int p3), .val (.int p4), .val (.int 3), .val (.int 0), .val (.ref tk100), .val .null, .val (.int 0), .unset, .unset] [(.ref b102)])) (fun _ k => st103.trans k) ?_
      refine own_goH (x' := T103.setTop (mkF m 58 #[.val (.int p0), .val (.int p1), .val (.int p2), .val (.int p3), .val (.int p4), .val (.int 3), .val (.int 0), .val (.ref tk100), .val .null, .val (.int 0), .val (.ref b102), .unset] [(.ref b102)])) (fun _ k => XS.astore X103.here hx rfl (hb hby at_54) rfl rfl (l' := #[.val (.int p0), .val (.int p1), .val (.int p2), .val (.int p3), .val (.int p4), .val (.int 3), .val (.int 0), .val (.ref tk100), .val .null, .val (.int 0), .val (.ref b102), .unset]) rfl (XS.aload X103.here hx rfl (hb hby at_56) rfl rfl k)) ?_
      obtain ⟨cq104, kq104, q104a, q104b, q104c⟩ := isOf hZ rfl E_b102
      obtain ⟨_, _, ⟨T104, L104, k104, n104⟩, -, X104, ⟨Lc104, hQ104, l104, y104, z104⟩, st104⟩ := X103.virtualBack hx (y := (⟨"com/example/lean_bus/leanbus/api/Caller", "isRoot", "()Z"⟩ : MethodName)) (z := (⟨"com/example/lean_bus/leanbus/api/Caller", "isRoot", "()Z"⟩ : MethodName)) hown (mvT hZ (own_w hw 22 rfl)) (mvT hZ (own_w hw 23 rfl)) (notFace_of_selects (args := #[]) (mvT hZ (own_w hw 25 rfl))) (mvT hZ (own_w hw 25 rfl)) (mvT hZ (own_w hw 24 rfl)) (by decide) (backOf (W := 0) (rm5R l Z a0 hw [] b102 tk100 T103.heap n0 Zs F_b102_token) hZ (own_w hw 26 rfl) (own_w hw 6 rfl) (by decide) (by decide)) q104a q104c (g := (mkF m 58 #[.val (.int p0), .val (.int p1), .val (.int p2), .val (.int p3), .val (.int p4), .val (.int 3), .val (.int 0), .val (.ref tk100), .val .null, .val (.int 0), .val (.ref b102), .unset] [(.ref b102)])) rfl (by rw [hml]; rfl) (Steps.refl _) (argsL := []) (rest := []) (lenOf pd_8 rfl) rfl (by show 2 * 0 + _ ≤ _; exact Nat.le_of_eq rfl) (hb hby at_58) (fun _ _ => ⟨rfl, rfl, (by decide : 4 + 0 ≤ _), (by decide : 10 + 0 ≤ _)⟩)
      dsimp only [Pt.U, Pt.locs, Pt.cells, Pt.slots] at X104 l104 y104 z104 st104 hQ104
      subst l104 y104 z104
      obtain ⟨hv104, Nq104, eq104⟩ := hQ104
      subst hv104
      replace Nf := Fr.app Nf Nq104
      refine own_goH (x' := T104.setTop (mkF m 61 #[.val (.int p0), .val (.int p1), .val (.int p2), .val (.int p3), .val (.int p4), .val (.int 3), .val (.int 0), .val (.ref tk100), .val .null, .val (.int 0), .val (.ref b102), .unset] [(.int 0)])) (fun _ k => st104.trans k) ?_
      refine own_goH (x' := T104.setTop (mkF m 75 #[.val (.int p0), .val (.int p1), .val (.int p2), .val (.int p3), .val (.int p4), .val (.int 3), .val (.int 0), .val (.ref tk100), .val .null, .val (.int 0), .val (.ref b102), .val (.int 1)] [(.int 1)])) (fun _ k => XS.iload X104.here hx rfl (hb hby at_61) rfl (XS.icmpNo X104.here hx rfl (hb hby at_63) rfl (teq rfl).2 (XS.iconst X104.here hx rfl (hb hby at_66) (XS.goto X104.here hx rfl (pc0 := 67) (pc' := 71) rfl (hb hby at_67) (by decide) (by decide) (XS.istore X104.here hx rfl (hb hby at_71) rfl (l' := #[.val (.int p0), .val (.int p1), .val (.int p2), .val (.int p3), .val (.int p4), .val (.int 3), .val (.int 0), .val (.ref tk100), .val .null, .val (.int 0), .val (.ref b102), .val (.int 1)]) rfl (XS.iload X104.here hx rfl (hb hby at_73) rfl k)))))) ?_
      refine own_goH (x' := T104.setTop (mkF m 78 #[.val (.int p0), .val (.int p1), .val (.int p2), .val (.int p3), .val (.int p4), .val (.int 3), .val (.int 0), .val (.ref tk100), .val .null, .val (.int 0), .val (.ref b102), .val (.int 1)] [])) (fun _ k => XS.ifNo X104.here hx rfl (hb hby at_75) rfl ((if0 _ _).trans (feq (by decide +kernel : ¬ ((1 : Int32) = (0 : Int32)))).1) k) ?_
      obtain ⟨_, _, ⟨T105, L105, k105, n105⟩, -, X105, ⟨Lc105, hQ105, l105, y105, z105⟩, st105⟩ := Jvm.LawKit.callS X104 hx (y := (⟨"com/example/lean_bus/leanbus/api/Caller", "root", "()Lcom/example/lean_bus/leanbus/api/Caller;"⟩ : MethodName)) hown (mvT hZ (own_w hw 27 rfl)) (mvT hZ (own_w hw 28 rfl)) (mvT hZ (own_w hw 6 rfl)) (mvT hZ (own_w hw 29 rfl)) (by decide) (backOf (W := 0) (rm6 l Z a0 hw []  T103.heap n0 Zs ) hZ (own_w hw 29 rfl) (own_w hw 6 rfl) (by decide) (by decide)) (g := (mkF m 78 #[.val (.int p0), .val (.int p1), .val (.int p2), .val (.int p3), .val (.int p4), .val (.int 3), .val (.int 0), .val (.ref tk100), .val .null, .val (.int 0), .val (.ref b102), .val (.int 1)] [])) rfl (by rw [hml]; rfl) (argsL := []) (rest := []) (lenOf pd_9 rfl) rfl (by show 2 * 0 + _ ≤ _; exact Nat.le_of_eq rfl) (hb hby at_78) (fun _ _ => ⟨rfl, eq104, (by decide : 4 + 1 ≤ _), (by decide : 10 + 2 ≤ _)⟩)
      dsimp only [Pt.U, Pt.locs, Pt.cells, Pt.slots] at X105 l105 y105 z105 st105 hQ105
      subst l105 y105 z105
      obtain ⟨b105, hv105, Nq105, K105, sq105, g_b105, E_b105, F_b105_token, F_b105_name⟩ := hQ105
      subst hv105
      replace Nf := Fr.app Nf Nq105
      have ne_b102_b105 : b102 ≠ b105 := Nat.ne_of_lt (Nat.lt_of_lt_of_le E_b102.lt sq105)
      replace Od := Od.keep K105 all0
      replace E_b102 := E_b102.keep K105
      replace F_b102_token := F_b102_token.keep K105 nin0
      replace F_b102_name := F_b102_name.keep K105 nin0
      replace Zs := Nat.le_trans Zs K105.1
      replace hk := Nat.le_trans hk K105.1
      have Sq_b102 := Safe.keep K105 all0 hR.1 Sf_b102
      replace hR := hR.trans (CHr.keep K105 all0 hR.1)
      replace Sf_b102 := Sq_b102
      refine own_goH (x' := T105.setTop (mkF m 81 #[.val (.int p0), .val (.int p1), .val (.int p2), .val (.int p3), .val (.int p4), .val (.int 3), .val (.int 0), .val (.ref tk100), .val .null, .val (.int 0), .val (.ref b102), .val (.int 1)] [(.ref b105)])) st105 ?_
      obtain ⟨cq106, kq106, q106a, q106b, q106c⟩ := isOf hZ rfl E_b105
      obtain ⟨_, _, ⟨T106, L106, k106, n106⟩, -, X106, ⟨Lc106, hQ106, l106, y106, z106⟩, st106⟩ := X105.virtualBack hx (y := (⟨"com/example/lean_bus/leanbus/api/Caller", "isRoot", "()Z"⟩ : MethodName)) (z := (⟨"com/example/lean_bus/leanbus/api/Caller", "isRoot", "()Z"⟩ : MethodName)) hown (mvT hZ (own_w hw 22 rfl)) (mvT hZ (own_w hw 23 rfl)) (notFace_of_selects (args := #[]) (mvT hZ (own_w hw 25 rfl))) (mvT hZ (own_w hw 25 rfl)) (mvT hZ (own_w hw 24 rfl)) (by decide) (backOf (W := 0) (rm5N l Z a0 hw [] b105  T105.heap n0 Zs F_b105_token) hZ (own_w hw 26 rfl) (own_w hw 6 rfl) (by decide) (by decide)) q106a q106c (g := (mkF m 81 #[.val (.int p0), .val (.int p1), .val (.int p2), .val (.int p3), .val (.int p4), .val (.int 3), .val (.int 0), .val (.ref tk100), .val .null, .val (.int 0), .val (.ref b102), .val (.int 1)] [(.ref b105)])) rfl (by rw [hml]; rfl) (Steps.refl _) (argsL := []) (rest := []) (lenOf pd_8 rfl) rfl (by show 2 * 0 + _ ≤ _; exact Nat.le_of_eq rfl) (hb hby at_81) (fun _ _ => ⟨rfl, rfl, (by decide : 5 + 0 ≤ _), (by decide : 12 + 0 ≤ _)⟩)
      dsimp only [Pt.U, Pt.locs, Pt.cells, Pt.slots] at X106 l106 y106 z106 st106 hQ106
      subst l106 y106 z106
      obtain ⟨hv106, Nq106, eq106⟩ := hQ106
      subst hv106
      replace Nf := Fr.app Nf Nq106
      refine own_goH (x' := T106.setTop (mkF m 84 #[.val (.int p0), .val (.int p1), .val (.int p2), .val (.int p3), .val (.int p4), .val (.int 3), .val (.int 0), .val (.ref tk100), .val .null, .val (.int 0), .val (.ref b102), .val (.int 1)] [(.int 1)])) (fun _ k => st106.trans k) ?_
      refine own_goH (x' := T106.setTop (mkF m 99 #[.val (.int p0), .val (.int p1), .val (.int p2), .val (.int p3), .val (.int p4), .val (.int 3), .val (.int 0), .val (.ref tk100), .val .null, .val (.int 0), .val (.ref b102), .val (.int 1)] [])) (fun _ k => XS.ifNo X106.here hx rfl (hb hby at_84) rfl ((if0 _ _).trans (feq (by decide +kernel : ¬ ((1 : Int32) = (0 : Int32)))).1) (XS.iconst X106.here hx rfl (hb hby at_87) (XS.goto X106.here hx rfl (pc0 := 88) (pc' := 92) rfl (hb hby at_88) (by decide) (by decide) (XS.istore X106.here hx rfl (hb hby at_92) rfl (l' := #[.val (.int p0), .val (.int p1), .val (.int p2), .val (.int p3), .val (.int p4), .val (.int 3), .val (.int 0), .val (.ref tk100), .val .null, .val (.int 0), .val (.ref b102), .val (.int 1)]) rfl (XS.iload X106.here hx rfl (hb hby at_94) rfl (XS.ifNo X106.here hx rfl (hb hby at_96) rfl ((if0 _ _).trans (feq (by decide +kernel : ¬ ((1 : Int32) = (0 : Int32)))).1) k)))))) ?_
      refine own_goH (x' := T106.setTop (mkF m 101 #[.val (.int p0), .val (.int p1), .val (.int p2), .val (.int p3), .val (.int p4), .val (.int 3), .val (.int 0), .val (.ref tk100), .val .null, .val (.int 0), .val (.ref b102), .val (.int 1)] [(.ref tk100)])) (fun _ k => XS.aload X106.here hx rfl (hb hby at_99) rfl rfl k) ?_
      obtain ⟨_, _, ⟨T107, L107, k107, n107⟩, -, X107, ⟨Lc107, hQ107, l107, y107, z107⟩, st107⟩ := Jvm.LawKit.callS X106 hx (y := (⟨"com/example/lean_bus/leanbus/api/Caller", "unchecked", "(Ljava/lang/String;)Lcom/example/lean_bus/leanbus/api/Caller;"⟩ : MethodName)) hown (mvT hZ (own_w hw 32 rfl)) (mvT hZ (own_w hw 33 rfl)) (mvT hZ (own_w hw 6 rfl)) (mvT hZ (own_w hw 34 rfl)) (by decide) (backOf (W := 0) (rm7R l Z a0 hw [] tk100 T105.heap n0 Zs ) hZ (own_w hw 34 rfl) (own_w hw 6 rfl) (by decide) (by decide)) (g := (mkF m 101 #[.val (.int p0), .val (.int p1), .val (.int p2), .val (.int p3), .val (.int p4), .val (.int 3), .val (.int 0), .val (.ref tk100), .val .null, .val (.int 0), .val (.ref b102), .val (.int 1)] [(.ref tk100)])) rfl (by rw [hml]; rfl) (argsL := [(.ref tk100)]) (rest := []) (lenOf pd_10 rfl) rfl (by show 2 * 0 + _ ≤ _; exact Nat.le_of_eq rfl) (hb hby at_101) (fun _ _ => ⟨rfl, eq106, (by decide : 5 + 1 ≤ _), (by decide : 12 + 2 ≤ _)⟩)
      dsimp only [Pt.U, Pt.locs, Pt.cells, Pt.slots] at X107 l107 y107 z107 st107 hQ107
      subst l107 y107 z107
      obtain ⟨b107, hv107, Nq107, K107, sq107, g_b107, E_b107, F_b107_token, F_b107_name⟩ := hQ107
      subst hv107
      replace Nf := Fr.app Nf Nq107
      have ne_b102_b107 : b102 ≠ b107 := Nat.ne_of_lt (Nat.lt_of_lt_of_le E_b102.lt sq107)
      have ne_b105_b107 : b105 ≠ b107 := Nat.ne_of_lt (Nat.lt_of_lt_of_le E_b105.lt sq107)
      replace Od := Od.keep K107 all0
      replace E_b102 := E_b102.keep K107
      replace F_b102_token := F_b102_token.keep K107 nin0
      replace F_b102_name := F_b102_name.keep K107 nin0
      replace E_b105 := E_b105.keep K107
      replace F_b105_token := F_b105_token.keep K107 nin0
      replace F_b105_name := F_b105_name.keep K107 nin0
      replace Zs := Nat.le_trans Zs K107.1
      replace hk := Nat.le_trans hk K107.1
      have Sq_b102 := Safe.keep K107 all0 hR.1 Sf_b102
      replace hR := hR.trans (CHr.keep K107 all0 hR.1)
      replace Sf_b102 := Sq_b102
      refine own_goH (x' := T107.setTop (mkF m 104 #[.val (.int p0), .val (.int p1), .val (.int p2), .val (.int p3), .val (.int p4), .val (.int 3), .val (.int 0), .val (.ref tk100), .val .null, .val (.int 0), .val (.ref b102), .val (.int 1)] [(.ref b107)])) st107 ?_
      obtain ⟨cq108, kq108, q108a, q108b, q108c⟩ := isOf hZ rfl E_b107
      obtain ⟨_, _, ⟨T108, L108, k108, n108⟩, -, X108, ⟨Lc108, hQ108, l108, y108, z108⟩, st108⟩ := X107.virtualBack hx (y := (⟨"com/example/lean_bus/leanbus/api/Caller", "isRoot", "()Z"⟩ : MethodName)) (z := (⟨"com/example/lean_bus/leanbus/api/Caller", "isRoot", "()Z"⟩ : MethodName)) hown (mvT hZ (own_w hw 22 rfl)) (mvT hZ (own_w hw 23 rfl)) (notFace_of_selects (args := #[]) (mvT hZ (own_w hw 25 rfl))) (mvT hZ (own_w hw 25 rfl)) (mvT hZ (own_w hw 24 rfl)) (by decide) (backOf (W := 0) (rm5R l Z a0 hw [] b107 tk100 T107.heap n0 Zs F_b107_token) hZ (own_w hw 26 rfl) (own_w hw 6 rfl) (by decide) (by decide)) q108a q108c (g := (mkF m 104 #[.val (.int p0), .val (.int p1), .val (.int p2), .val (.int p3), .val (.int p4), .val (.int 3), .val (.int 0), .val (.ref tk100), .val .null, .val (.int 0), .val (.ref b102), .val (.int 1)] [(.ref b107)])) rfl (by rw [hml]; rfl) (Steps.refl _) (argsL := []) (rest := []) (lenOf pd_8 rfl) rfl (by show 2 * 0 + _ ≤ _; exact Nat.le_of_eq rfl) (hb hby at_104) (fun _ _ => ⟨rfl, rfl, (by decide : 6 + 0 ≤ _), (by decide : 14 + 0 ≤ _)⟩)
      dsimp only [Pt.U, Pt.locs, Pt.cells, Pt.slots] at X108 l108 y108 z108 st108 hQ108
      subst l108 y108 z108
      obtain ⟨hv108, Nq108, eq108⟩ := hQ108
      subst hv108
      replace Nf := Fr.app Nf Nq108
      refine own_goH (x' := T108.setTop (mkF m 107 #[.val (.int p0), .val (.int p1), .val (.int p2), .val (.int p3), .val (.int p4), .val (.int 3), .val (.int 0), .val (.ref tk100), .val .null, .val (.int 0), .val (.ref b102), .val (.int 1)] [(.int 0)])) (fun _ k => st108.trans k) ?_
      refine own_goH (x' := T108.setTop (mkF m 121 #[.val (.int p0), .val (.int p1), .val (.int p2), .val (.int p3), .val (.int p4), .val (.int 3), .val (.int 0), .val (.ref tk100), .val .null, .val (.int 0), .val (.ref b102), .val (.int 1)] [(.int 1)])) (fun _ k => XS.iload X108.here hx rfl (hb hby at_107) rfl (XS.icmpNo X108.here hx rfl (hb hby at_109) rfl (teq rfl).2 (XS.iconst X108.here hx rfl (hb hby at_112) (XS.goto X108.here hx rfl (pc0 := 113) (pc' := 117) rfl (hb hby at_113) (by decide) (by decide) (XS.istore X108.here hx rfl (hb hby at_117) rfl (l' := #[.val (.int p0), .val (.int p1), .val (.int p2), .val (.int p3), .val (.int p4), .val (.int 3), .val (.int 0), .val (.ref tk100), .val .null, .val (.int 0), .val (.ref b102), .val (.int 1)]) rfl (XS.iload X108.here hx rfl (hb hby at_119) rfl k)))))) ?_
      refine own_retNH X108 hS (own_hk eq108 hk) (own_hr eq108 hR) hZ (own_EW hw) hx hlk (t := .boolean) hret (by simp) (hb hby at_121) (w := (1 : Int32)) rfl ?_ (by decide) (by decide)
      rw [eq108]
      exact ⟨rfl, Nf⟩
    · refine own_goH (x' := T100.setTop (mkF m 26 #[.val (.int p0), .val (.int p1), .val (.int p2), .val (.int p3), .val (.int p4), .val (.int 3), .val (.int 1), .val (.ref tk100), .unset, .unset, .unset, .unset] [(.int p4), (.int p3), (.int 1)])) (fun _ k => XS.iload X100.here hx rfl (hb hby at_21) rfl (XS.iloadN X100.here hx rfl (hb hby at_23) rfl (XS.iload X100.here hx rfl (hb hby at_24) rfl k))) ?_
      obtain ⟨_, _, ⟨T109, L109, k109, n109⟩, -, X109, Sw109, Gw109, ⟨Lc109, hQ109, l109, y109, z109, Cw109⟩, st109⟩ := Jvm.RoadKit.callSS X100 hx (y := (⟨"com/example/lean_bus/leanbus/api/CallerIsRootPinLaw", "draw", "(III)Ljava/lang/String;"⟩ : MethodName)) hown (mvT hZ (own_w hw 0 rfl)) (mvT hZ (own_w hw 1 rfl)) (mvT hZ (own_w hw 2 rfl)) (mvT hZ (own_w hw 3 rfl)) (by decide) (backOfSH (W := 0) (rm1_1 l Z a0 hw [] p3 p4 G1 T100.heap n0 Zs Od S_COMPACT_STRINGS hG) hZ (own_w hw 3 rfl) (own_w hw 2 rfl) (by decide) (by decide) (own_EW hw) hR.1) (g := (mkF m 26 #[.val (.int p0), .val (.int p1), .val (.int p2), .val (.int p3), .val (.int p4), .val (.int 3), .val (.int 1), .val (.ref tk100), .unset, .unset, .unset, .unset] [(.int p4), (.int p3), (.int 1)])) rfl (by rw [hml]; rfl) (argsL := [(.int 1), (.int p3), (.int p4)]) (rest := []) (lenOf pd_7 rfl) rfl (by show 2 * 0 + _ ≤ _; exact Nat.le_of_eq rfl) (hb hby at_26) (fun _ _ => ⟨rfl, rfl, (by decide : 3 + 6 ≤ _), (by decide : 8 + 12 ≤ _)⟩)
      dsimp only [Pt.U, Pt.locs, Pt.cells, Pt.slots] at X109 l109 y109 z109 st109 hQ109 Sw109 Gw109 Cw109
      subst l109 y109 z109
      obtain ⟨X109, Sw109, hZ, hown⟩ := rebS hS (own_hk rfl hk) X109 Sw109 Gw109 hZ hown
      replace hR := hR.trans Cw109
      obtain ⟨tk109, hv109, Nq109, K109⟩ := hQ109
      subst hv109
      replace Nf := Fr.app Nf Nq109
      replace Od := Od.keep K109 all0
      replace Zs := Nat.le_trans Zs K109.1
      replace hk := Nat.le_trans hk K109.1
      replace hS := Sw109
      replace hk := Nat.le_refl (Array.size T109.heap)
      refine own_goH (x' := T109.setTop (mkF m 29 #[.val (.int p0), .val (.int p1), .val (.int p2), .val (.int p3), .val (.int p4), .val (.int 3), .val (.int 1), .val (.ref tk100), .unset, .unset, .unset, .unset] [(.ref tk109)])) (fun _ k => st109.trans k) ?_
      refine own_goH (x' := T109.setTop (mkF m 43 #[.val (.int p0), .val (.int p1), .val (.int p2), .val (.int p3), .val (.int p4), .val (.int 3), .val (.int 1), .val (.ref tk100), .val (.ref tk109), .val (.int 0), .unset, .unset] [])) (fun _ k => XS.astore X109.here hx rfl (hb hby at_29) rfl rfl (l' := #[.val (.int p0), .val (.int p1), .val (.int p2), .val (.int p3), .val (.int p4), .val (.int 3), .val (.int 1), .val (.ref tk100), .val (.ref tk109), .unset, .unset, .unset]) rfl (XS.iload X109.here hx rfl (hb hby at_31) rfl (XS.ifYes X109.here hx rfl (pc0 := 33) (pc' := 40) rfl (hb hby at_33) rfl ((if0 _ _).trans (feq (by decide +kernel : ¬ ((3 : Int32) = (0 : Int32)))).2) (by decide) (by decide) (XS.iconst X109.here hx rfl (hb hby at_40) (XS.istore X109.here hx rfl (hb hby at_41) rfl (l' := #[.val (.int p0), .val (.int p1), .val (.int p2), .val (.int p3), .val (.int p4), .val (.int 3), .val (.int 1), .val (.ref tk100), .val (.ref tk109), .val (.int 0), .unset, .unset]) rfl k))))) ?_
      obtain ⟨T110, h110, X110, e110, E110, A110, D110, -, st110⟩ := newO X109 hx hZ hown (own_w hw 4 rfl) (own_w hw 5 rfl) (own_w hw 6 rfl) rfl (g := (mkF m 43 #[.val (.int p0), .val (.int p1), .val (.int p2), .val (.int p3), .val (.int p4), .val (.int 3), .val (.int 1), .val (.ref tk100), .val (.ref tk109), .val (.int 0), .unset, .unset] [])) rfl (hb hby at_43) (by decide) (by decide)
      obtain ⟨b110, g110⟩ : ∃ z, z = T109.heap.size := ⟨_, rfl⟩
      rw [← g110] at A110 D110 st110
      have g_b110 : n0 ≤ b110 := Nat.le_trans Zs (Nat.le_of_eq g110.symm)
      have Sf_b110 := own_sfn hR (Nat.le_of_eq g110.symm)
      replace Od := Od.ext E110
      replace Zs := Nat.le_trans Zs E110.1
      replace hk := Nat.le_trans hk E110.1
      have Sq_b110 := Safe.ext E110 hR.1 Sf_b110
      replace hR := hR.trans (CHr.ext E110 hR.1)
      replace Sf_b110 := Sq_b110
      have E_b110 := A110
      have F_b110_token : Fld Z h110 b110 "com/example/lean_bus/leanbus/api/Caller" "token" "Ljava/lang/String;" .null := D110 (Or.inr (own_w hw 19 rfl)) (ty := (.object "java/lang/String")) (by decide)
      have F_b110_name : Fld Z h110 b110 "com/example/lean_bus/leanbus/api/Caller" "name" "Ljava/lang/String;" .null := D110 (Or.inr (own_w hw 21 rfl)) (ty := (.object "java/lang/String")) (by decide)
      refine own_goH (x' := T110.setTop (mkF m 46 #[.val (.int p0), .val (.int p1), .val (.int p2), .val (.int p3), .val (.int p4), .val (.int 3), .val (.int 1), .val (.ref tk100), .val (.ref tk109), .val (.int 0), .unset, .unset] [(.ref b110)])) st110 ?_
      refine own_goH (x' := T110.setTop (mkF m 51 #[.val (.int p0), .val (.int p1), .val (.int p2), .val (.int p3), .val (.int p4), .val (.int 3), .val (.int 1), .val (.ref tk100), .val (.ref tk109), .val (.int 0), .unset, .unset] [(.ref tk109), (.ref tk100), (.ref b110), (.ref b110)])) (fun _ k => XS.dup X110.here hx rfl (hb hby at_46) rfl rfl (XS.aload X110.here hx rfl (hb hby at_47) rfl rfl (XS.aload X110.here hx rfl (hb hby at_49) rfl rfl k))) ?_
      obtain ⟨_, _, ⟨T111, L111, k111, n111⟩, -, X111, ⟨Lc111, hQ111, l111, y111, z111⟩, st111⟩ := X110.specialBack hx (y := (⟨"com/example/lean_bus/leanbus/api/Caller", "<init>", "(Ljava/lang/String;Ljava/lang/String;)V"⟩ : MethodName)) rfl hown (mvT hZ (own_w hw 7 rfl)) (mvT hZ (own_w hw 8 rfl)) (mvT hZ (own_w hw 9 rfl)) (by decide) (backOf (W := 1) (rm2RR l Z a0 hw [] b110 tk100 tk109 h110 n0 Zs E_b110 F_b110_token F_b110_name g_b110) hZ (own_w hw 9 rfl) (own_w hw 6 rfl) (by decide) (by decide)) (g := (mkF m 51 #[.val (.int p0), .val (.int p1), .val (.int p2), .val (.int p3), .val (.int p4), .val (.int 3), .val (.int 1), .val (.ref tk100), .val (.ref tk109), .val (.int 0), .unset, .unset] [(.ref tk109), (.ref tk100), (.ref b110), (.ref b110)])) rfl (by rw [hml]; rfl) (Steps.refl _) (a := b110) (argsL := [(.ref tk100), (.ref tk109)]) (rest := [(.ref b110)]) (lenOf pd_6 rfl) rfl (by show 2 * 0 + _ ≤ _; exact Nat.le_of_eq rfl) (hb hby at_51) (fun _ _ => ⟨rfl, e110, (by decide : 10 + 0 ≤ _), (by decide : 22 + 0 ≤ _)⟩)
      dsimp only [Pt.U, Pt.locs, Pt.cells, Pt.slots] at X111 l111 y111 z111 st111 hQ111
      subst l111 y111 z111
      obtain ⟨hv111, Nq111, K111, Eo111, Fo111_0, Fo111_1⟩ := hQ111
      subst hv111
      replace Nf := Fr.app Nf Nq111
      replace Od := Od.keep K111 (allS g_b110 all0)
      replace Zs := Nat.le_trans Zs K111.1
      replace hk := Nat.le_trans hk K111.1
      have Sq_b110 := Safe.keep K111 (allS Sf_b110 all0) hR.1 Sf_b110
      replace hR := hR.trans (CHr.keep K111 (allS Sf_b110 all0) hR.1)
      replace Sf_b110 := Sq_b110
      replace E_b110 := Eo111
      replace F_b110_token := Fo111_0
      replace F_b110_name := Fo111_1
      refine own_goH (x' := T111.setTop (mkF m 54 #[.val (.int p0), .val (.int p1), .val (.int p2), .val (.int p3), .val (.int p4), .val (.int 3), .val (.int 1), .val (.ref tk100), .val (.ref tk109), .val (.int 0), .unset, .unset] [(.ref b110)])) (fun _ k => st111.trans k) ?_
      refine own_goH (x' := T111.setTop (mkF m 58 #[.val (.int p0), .val (.int p1), .val (.int p2), .val (.int p3), .val (.int p4), .val (.int 3), .val (.int 1), .val (.ref tk100), .val (.ref tk109), .val (.int 0), .val (.ref b110), .unset] [(.ref b110)])) (fun _ k => XS.astore X111.here hx rfl (hb hby at_54) rfl rfl (l' := #[.val (.int p0), .val (.int p1), .val (.int p2), .val (.int p3), .val (.int p4), .val (.int 3), .val (.int 1), .val (.ref tk100), .val (.ref tk109), .val (.int 0), .val (.ref b110), .unset]) rfl (XS.aload X111.here hx rfl (hb hby at_56) rfl rfl k)) ?_
      obtain ⟨cq112, kq112, q112a, q112b, q112c⟩ := isOf hZ rfl E_b110
      obtain ⟨_, _, ⟨T112, L112, k112, n112⟩, -, X112, ⟨Lc112, hQ112, l112, y112, z112⟩, st112⟩ := X111.virtualBack hx (y := (⟨"com/example/lean_bus/leanbus/api/Caller", "isRoot", "()Z"⟩ : MethodName)) (z := (⟨"com/example/lean_bus/leanbus/api/Caller", "isRoot", "()Z"⟩ : MethodName)) hown (mvT hZ (own_w hw 22 rfl)) (mvT hZ (own_w hw 23 rfl)) (notFace_of_selects (args := #[]) (mvT hZ (own_w hw 25 rfl))) (mvT hZ (own_w hw 25 rfl)) (mvT hZ (own_w hw 24 rfl)) (by decide) (backOf (W := 0) (rm5R l Z a0 hw [] b110 tk100 T111.heap n0 Zs F_b110_token) hZ (own_w hw 26 rfl) (own_w hw 6 rfl) (by decide) (by decide)) q112a q112c (g := (mkF m 58 #[.val (.int p0), .val (.int p1), .val (.int p2), .val (.int p3), .val (.int p4), .val (.int 3), .val (.int 1), .val (.ref tk100), .val (.ref tk109), .val (.int 0), .val (.ref b110), .unset] [(.ref b110)])) rfl (by rw [hml]; rfl) (Steps.refl _) (argsL := []) (rest := []) (lenOf pd_8 rfl) rfl (by show 2 * 0 + _ ≤ _; exact Nat.le_of_eq rfl) (hb hby at_58) (fun _ _ => ⟨rfl, rfl, (by decide : 10 + 0 ≤ _), (by decide : 22 + 0 ≤ _)⟩)
      dsimp only [Pt.U, Pt.locs, Pt.cells, Pt.slots] at X112 l112 y112 z112 st112 hQ112
      subst l112 y112 z112
      obtain ⟨hv112, Nq112, eq112⟩ := hQ112
      subst hv112
      replace Nf := Fr.app Nf Nq112
      refine own_goH (x' := T112.setTop (mkF m 61 #[.val (.int p0), .val (.int p1), .val (.int p2), .val (.int p3), .val (.int p4), .val (.int 3), .val (.int 1), .val (.ref tk100), .val (.ref tk109), .val (.int 0), .val (.ref b110), .unset] [(.int 0)])) (fun _ k => st112.trans k) ?_
      refine own_goH (x' := T112.setTop (mkF m 75 #[.val (.int p0), .val (.int p1), .val (.int p2), .val (.int p3), .val (.int p4), .val (.int 3), .val (.int 1), .val (.ref tk100), .val (.ref tk109), .val (.int 0), .val (.ref b110), .val (.int 1)] [(.int 1)])) (fun _ k => XS.iload X112.here hx rfl (hb hby at_61) rfl (XS.icmpNo X112.here hx rfl (hb hby at_63) rfl (teq rfl).2 (XS.iconst X112.here hx rfl (hb hby at_66) (XS.goto X112.here hx rfl (pc0 := 67) (pc' := 71) rfl (hb hby at_67) (by decide) (by decide) (XS.istore X112.here hx rfl (hb hby at_71) rfl (l' := #[.val (.int p0), .val (.int p1), .val (.int p2), .val (.int p3), .val (.int p4), .val (.int 3), .val (.int 1), .val (.ref tk100), .val (.ref tk109), .val (.int 0), .val (.ref b110), .val (.int 1)]) rfl (XS.iload X112.here hx rfl (hb hby at_73) rfl k)))))) ?_
      refine own_goH (x' := T112.setTop (mkF m 78 #[.val (.int p0), .val (.int p1), .val (.int p2), .val (.int p3), .val (.int p4), .val (.int 3), .val (.int 1), .val (.ref tk100), .val (.ref tk109), .val (.int 0), .val (.ref b110), .val (.int 1)] [])) (fun _ k => XS.ifNo X112.here hx rfl (hb hby at_75) rfl ((if0 _ _).trans (feq (by decide +kernel : ¬ ((1 : Int32) = (0 : Int32)))).1) k) ?_
      obtain ⟨_, _, ⟨T113, L113, k113, n113⟩, -, X113, ⟨Lc113, hQ113, l113, y113, z113⟩, st113⟩ := Jvm.LawKit.callS X112 hx (y := (⟨"com/example/lean_bus/leanbus/api/Caller", "root", "()Lcom/example/lean_bus/leanbus/api/Caller;"⟩ : MethodName)) hown (mvT hZ (own_w hw 27 rfl)) (mvT hZ (own_w hw 28 rfl)) (mvT hZ (own_w hw 6 rfl)) (mvT hZ (own_w hw 29 rfl)) (by decide) (backOf (W := 0) (rm6 l Z a0 hw []  T111.heap n0 Zs ) hZ (own_w hw 29 rfl) (own_w hw 6 rfl) (by decide) (by decide)) (g := (mkF m 78 #[.val (.int p0), .val (.int p1), .val (.int p2), .val (.int p3), .val (.int p4), .val (.int 3), .val (.int 1), .val (.ref tk100), .val (.ref tk109), .val (.int 0), .val (.ref b110), .val (.int 1)] [])) rfl (by rw [hml]; rfl) (argsL := []) (rest := []) (lenOf pd_9 rfl) rfl (by show 2 * 0 + _ ≤ _; exact Nat.le_of_eq rfl) (hb hby at_78) (fun _ _ => ⟨rfl, eq112, (by decide : 10 + 1 ≤ _), (by decide : 22 + 2 ≤ _)⟩)
      dsimp only [Pt.U, Pt.locs, Pt.cells, Pt.slots] at X113 l113 y113 z113 st113 hQ113
      subst l113 y113 z113
      obtain ⟨b113, hv113, Nq113, K113, sq113, g_b113, E_b113, F_b113_token, F_b113_name⟩ := hQ113
      subst hv113
      replace Nf := Fr.app Nf Nq113
      have ne_b110_b113 : b110 ≠ b113 := Nat.ne_of_lt (Nat.lt_of_lt_of_le E_b110.lt sq113)
      replace Od := Od.keep K113 all0
      replace E_b110 := E_b110.keep K113
      replace F_b110_token := F_b110_token.keep K113 nin0
      replace F_b110_name := F_b110_name.keep K113 nin0
      replace Zs := Nat.le_trans Zs K113.1
      replace hk := Nat.le_trans hk K113.1
      have Sq_b110 := Safe.keep K113 all0 hR.1 Sf_b110
      replace hR := hR.trans (CHr.keep K113 all0 hR.1)
      replace Sf_b110 := Sq_b110
      refine own_goH (x' := T113.setTop (mkF m 81 #[.val (.int p0), .val (.int p1), .val (.int p2), .val (.int p3), .val (.int p4), .val (.int 3), .val (.int 1), .val (.ref tk100), .val (.ref tk109), .val (.int 0), .val (.ref b110), .val (.int 1)] [(.ref b113)])) st113 ?_
      obtain ⟨cq114, kq114, q114a, q114b, q114c⟩ := isOf hZ rfl E_b113
      obtain ⟨_, _, ⟨T114, L114, k114, n114⟩, -, X114, ⟨Lc114, hQ114, l114, y114, z114⟩, st114⟩ := X113.virtualBack hx (y := (⟨"com/example/lean_bus/leanbus/api/Caller", "isRoot", "()Z"⟩ : MethodName)) (z := (⟨"com/example/lean_bus/leanbus/api/Caller", "isRoot", "()Z"⟩ : MethodName)) hown (mvT hZ (own_w hw 22 rfl)) (mvT hZ (own_w hw 23 rfl)) (notFace_of_selects (args := #[]) (mvT hZ (own_w hw 25 rfl))) (mvT hZ (own_w hw 25 rfl)) (mvT hZ (own_w hw 24 rfl)) (by decide) (backOf (W := 0) (rm5N l Z a0 hw [] b113  T113.heap n0 Zs F_b113_token) hZ (own_w hw 26 rfl) (own_w hw 6 rfl) (by decide) (by decide)) q114a q114c (g := (mkF m 81 #[.val (.int p0), .val (.int p1), .val (.int p2), .val (.int p3), .val (.int p4), .val (.int 3), .val (.int 1), .val (.ref tk100), .val (.ref tk109), .val (.int 0), .val (.ref b110), .val (.int 1)] [(.ref b113)])) rfl (by rw [hml]; rfl) (Steps.refl _) (argsL := []) (rest := []) (lenOf pd_8 rfl) rfl (by show 2 * 0 + _ ≤ _; exact Nat.le_of_eq rfl) (hb hby at_81) (fun _ _ => ⟨rfl, rfl, (by decide : 11 + 0 ≤ _), (by decide : 24 + 0 ≤ _)⟩)
      dsimp only [Pt.U, Pt.locs, Pt.cells, Pt.slots] at X114 l114 y114 z114 st114 hQ114
      subst l114 y114 z114
      obtain ⟨hv114, Nq114, eq114⟩ := hQ114
      subst hv114
      replace Nf := Fr.app Nf Nq114
      refine own_goH (x' := T114.setTop (mkF m 84 #[.val (.int p0), .val (.int p1), .val (.int p2), .val (.int p3), .val (.int p4), .val (.int 3), .val (.int 1), .val (.ref tk100), .val (.ref tk109), .val (.int 0), .val (.ref b110), .val (.int 1)] [(.int 1)])) (fun _ k => st114.trans k) ?_
      refine own_goH (x' := T114.setTop (mkF m 99 #[.val (.int p0), .val (.int p1), .val (.int p2), .val (.int p3), .val (.int p4), .val (.int 3), .val (.int 1), .val (.ref tk100), .val (.ref tk109), .val (.int 0), .val (.ref b110), .val (.int 1)] [])) (fun _ k => XS.ifNo X114.here hx rfl (hb hby at_84) rfl ((if0 _ _).trans (feq (by decide +kernel : ¬ ((1 : Int32) = (0 : Int32)))).1) (XS.iconst X114.here hx rfl (hb hby at_87) (XS.goto X114.here hx rfl (pc0 := 88) (pc' := 92) rfl (hb hby at_88) (by decide) (by decide) (XS.istore X114.here hx rfl (hb hby at_92) rfl (l' := #[.val (.int p0), .val (.int p1), .val (.int p2), .val (.int p3), .val (.int p4), .val (.int 3), .val (.int 1), .val (.ref tk100), .val (.ref tk109), .val (.int 0), .val (.ref b110), .val (.int 1)]) rfl (XS.iload X114.here hx rfl (hb hby at_94) rfl (XS.ifNo X114.here hx rfl (hb hby at_96) rfl ((if0 _ _).trans (feq (by decide +kernel : ¬ ((1 : Int32) = (0 : Int32)))).1) k)))))) ?_
      refine own_goH (x' := T114.setTop (mkF m 101 #[.val (.int p0), .val (.int p1), .val (.int p2), .val (.int p3), .val (.int p4), .val (.int 3), .val (.int 1), .val (.ref tk100), .val (.ref tk109), .val (.int 0), .val (.ref b110), .val (.int 1)] [(.ref tk100)])) (fun _ k => XS.aload X114.here hx rfl (hb hby at_99) rfl rfl k) ?_
      obtain ⟨_, _, ⟨T115, L115, k115, n115⟩, -, X115, ⟨Lc115, hQ115, l115, y115, z115⟩, st115⟩ := Jvm.LawKit.callS X114 hx (y := (⟨"com/example/lean_bus/leanbus/api/Caller", "unchecked", "(Ljava/lang/String;)Lcom/example/lean_bus/leanbus/api/Caller;"⟩ : MethodName)) hown (mvT hZ (own_w hw 32 rfl)) (mvT hZ (own_w hw 33 rfl)) (mvT hZ (own_w hw 6 rfl)) (mvT hZ (own_w hw 34 rfl)) (by decide) (backOf (W := 0) (rm7R l Z a0 hw [] tk100 T113.heap n0 Zs ) hZ (own_w hw 34 rfl) (own_w hw 6 rfl) (by decide) (by decide)) (g := (mkF m 101 #[.val (.int p0), .val (.int p1), .val (.int p2), .val (.int p3), .val (.int p4), .val (.int 3), .val (.int 1), .val (.ref tk100), .val (.ref tk109), .val (.int 0), .val (.ref b110), .val (.int 1)] [(.ref tk100)])) rfl (by rw [hml]; rfl) (argsL := [(.ref tk100)]) (rest := []) (lenOf pd_10 rfl) rfl (by show 2 * 0 + _ ≤ _; exact Nat.le_of_eq rfl) (hb hby at_101) (fun _ _ => ⟨rfl, eq114, (by decide : 11 + 1 ≤ _), (by decide : 24 + 2 ≤ _)⟩)
      dsimp only [Pt.U, Pt.locs, Pt.cells, Pt.slots] at X115 l115 y115 z115 st115 hQ115
      subst l115 y115 z115
      obtain ⟨b115, hv115, Nq115, K115, sq115, g_b115, E_b115, F_b115_token, F_b115_name⟩ := hQ115
      subst hv115
      replace Nf := Fr.app Nf Nq115
      have ne_b110_b115 : b110 ≠ b115 := Nat.ne_of_lt (Nat.lt_of_lt_of_le E_b110.lt sq115)
      have ne_b113_b115 : b113 ≠ b115 := Nat.ne_of_lt (Nat.lt_of_lt_of_le E_b113.lt sq115)
      replace Od := Od.keep K115 all0
      replace E_b110 := E_b110.keep K115
      replace F_b110_token := F_b110_token.keep K115 nin0
      replace F_b110_name := F_b110_name.keep K115 nin0
      replace E_b113 := E_b113.keep K115
      replace F_b113_token := F_b113_token.keep K115 nin0
      replace F_b113_name := F_b113_name.keep K115 nin0
      replace Zs := Nat.le_trans Zs K115.1
      replace hk := Nat.le_trans hk K115.1
      have Sq_b110 := Safe.keep K115 all0 hR.1 Sf_b110
      replace hR := hR.trans (CHr.keep K115 all0 hR.1)
      replace Sf_b110 := Sq_b110
      refine own_goH (x' := T115.setTop (mkF m 104 #[.val (.int p0), .val (.int p1), .val (.int p2), .val (.int p3), .val (.int p4), .val (.int 3), .val (.int 1), .val (.ref tk100), .val (.ref tk109), .val (.int 0), .val (.ref b110), .val (.int 1)] [(.ref b115)])) st115 ?_
      obtain ⟨cq116, kq116, q116a, q116b, q116c⟩ := isOf hZ rfl E_b115
      obtain ⟨_, _, ⟨T116, L116, k116, n116⟩, -, X116, ⟨Lc116, hQ116, l116, y116, z116⟩, st116⟩ := X115.virtualBack hx (y := (⟨"com/example/lean_bus/leanbus/api/Caller", "isRoot", "()Z"⟩ : MethodName)) (z := (⟨"com/example/lean_bus/leanbus/api/Caller", "isRoot", "()Z"⟩ : MethodName)) hown (mvT hZ (own_w hw 22 rfl)) (mvT hZ (own_w hw 23 rfl)) (notFace_of_selects (args := #[]) (mvT hZ (own_w hw 25 rfl))) (mvT hZ (own_w hw 25 rfl)) (mvT hZ (own_w hw 24 rfl)) (by decide) (backOf (W := 0) (rm5R l Z a0 hw [] b115 tk100 T115.heap n0 Zs F_b115_token) hZ (own_w hw 26 rfl) (own_w hw 6 rfl) (by decide) (by decide)) q116a q116c (g := (mkF m 104 #[.val (.int p0), .val (.int p1), .val (.int p2), .val (.int p3), .val (.int p4), .val (.int 3), .val (.int 1), .val (.ref tk100), .val (.ref tk109), .val (.int 0), .val (.ref b110), .val (.int 1)] [(.ref b115)])) rfl (by rw [hml]; rfl) (Steps.refl _) (argsL := []) (rest := []) (lenOf pd_8 rfl) rfl (by show 2 * 0 + _ ≤ _; exact Nat.le_of_eq rfl) (hb hby at_104) (fun _ _ => ⟨rfl, rfl, (by decide : 12 + 0 ≤ _), (by decide : 26 + 0 ≤ _)⟩)
      dsimp only [Pt.U, Pt.locs, Pt.cells, Pt.slots] at X116 l116 y116 z116 st116 hQ116
      subst l116 y116 z116
      obtain ⟨hv116, Nq116, eq116⟩ := hQ116
      subst hv116
      replace Nf := Fr.app Nf Nq116
      refine own_goH (x' := T116.setTop (mkF m 107 #[.val (.int p0), .val (.int p1), .val (.int p2), .val (.int p3), .val (.int p4), .val (.int 3), .val (.int 1), .val (.ref tk100), .val (.ref tk109), .val (.int 0), .val (.ref b110), .val (.int 1)] [(.int 0)])) (fun _ k => st116.trans k) ?_
      refine own_goH (x' := T116.setTop (mkF m 121 #[.val (.int p0), .val (.int p1), .val (.int p2), .val (.int p3), .val (.int p4), .val (.int 3), .val (.int 1), .val (.ref tk100), .val (.ref tk109), .val (.int 0), .val (.ref b110), .val (.int 1)] [(.int 1)])) (fun _ k => XS.iload X116.here hx rfl (hb hby at_107) rfl (XS.icmpNo X116.here hx rfl (hb hby at_109) rfl (teq rfl).2 (XS.iconst X116.here hx rfl (hb hby at_112) (XS.goto X116.here hx rfl (pc0 := 113) (pc' := 117) rfl (hb hby at_113) (by decide) (by decide) (XS.istore X116.here hx rfl (hb hby at_117) rfl (l' := #[.val (.int p0), .val (.int p1), .val (.int p2), .val (.int p3), .val (.int p4), .val (.int 3), .val (.int 1), .val (.ref tk100), .val (.ref tk109), .val (.int 0), .val (.ref b110), .val (.int 1)]) rfl (XS.iload X116.here hx rfl (hb hby at_119) rfl k)))))) ?_
      refine own_retNH X116 hS (own_hk eq116 hk) (own_hr eq116 hR) hZ (own_EW hw) hx hlk (t := .boolean) hret (by simp) (hb hby at_121) (w := (1 : Int32)) rfl ?_ (by decide) (by decide)
      rw [eq116]
      exact ⟨rfl, Nf⟩
    · refine own_goH (x' := T100.setTop (mkF m 26 #[.val (.int p0), .val (.int p1), .val (.int p2), .val (.int p3), .val (.int p4), .val (.int 3), .val (.int 2), .val (.ref tk100), .unset, .unset, .unset, .unset] [(.int p4), (.int p3), (.int 2)])) (fun _ k => XS.iload X100.here hx rfl (hb hby at_21) rfl (XS.iloadN X100.here hx rfl (hb hby at_23) rfl (XS.iload X100.here hx rfl (hb hby at_24) rfl k))) ?_
      obtain ⟨_, _, ⟨T117, L117, k117, n117⟩, -, X117, Sw117, Gw117, ⟨Lc117, hQ117, l117, y117, z117, Cw117⟩, st117⟩ := Jvm.RoadKit.callSS X100 hx (y := (⟨"com/example/lean_bus/leanbus/api/CallerIsRootPinLaw", "draw", "(III)Ljava/lang/String;"⟩ : MethodName)) hown (mvT hZ (own_w hw 0 rfl)) (mvT hZ (own_w hw 1 rfl)) (mvT hZ (own_w hw 2 rfl)) (mvT hZ (own_w hw 3 rfl)) (by decide) (backOfSH (W := 0) (rm1_2 l Z a0 hw [] p3 p4 G1 T100.heap n0 Zs Od S_COMPACT_STRINGS hG) hZ (own_w hw 3 rfl) (own_w hw 2 rfl) (by decide) (by decide) (own_EW hw) hR.1) (g := (mkF m 26 #[.val (.int p0), .val (.int p1), .val (.int p2), .val (.int p3), .val (.int p4), .val (.int 3), .val (.int 2), .val (.ref tk100), .unset, .unset, .unset, .unset] [(.int p4), (.int p3), (.int 2)])) rfl (by rw [hml]; rfl) (argsL := [(.int 2), (.int p3), (.int p4)]) (rest := []) (lenOf pd_7 rfl) rfl (by show 2 * 0 + _ ≤ _; exact Nat.le_of_eq rfl) (hb hby at_26) (fun _ _ => ⟨rfl, rfl, (by decide : 3 + 3 ≤ _), (by decide : 8 + 6 ≤ _)⟩)
      dsimp only [Pt.U, Pt.locs, Pt.cells, Pt.slots] at X117 l117 y117 z117 st117 hQ117 Sw117 Gw117 Cw117
      subst l117 y117 z117
      obtain ⟨X117, Sw117, hZ, hown⟩ := rebS hS (own_hk rfl hk) X117 Sw117 Gw117 hZ hown
      replace hR := hR.trans Cw117
      obtain ⟨tk117, hv117, Nq117, K117⟩ := hQ117
      subst hv117
      replace Nf := Fr.app Nf Nq117
      replace Od := Od.keep K117 all0
      replace Zs := Nat.le_trans Zs K117.1
      replace hk := Nat.le_trans hk K117.1
      replace hS := Sw117
      replace hk := Nat.le_refl (Array.size T117.heap)
      refine own_goH (x' := T117.setTop (mkF m 29 #[.val (.int p0), .val (.int p1), .val (.int p2), .val (.int p3), .val (.int p4), .val (.int 3), .val (.int 2), .val (.ref tk100), .unset, .unset, .unset, .unset] [(.ref tk117)])) (fun _ k => st117.trans k) ?_
      refine own_goH (x' := T117.setTop (mkF m 43 #[.val (.int p0), .val (.int p1), .val (.int p2), .val (.int p3), .val (.int p4), .val (.int 3), .val (.int 2), .val (.ref tk100), .val (.ref tk117), .val (.int 0), .unset, .unset] [])) (fun _ k => XS.astore X117.here hx rfl (hb hby at_29) rfl rfl (l' := #[.val (.int p0), .val (.int p1), .val (.int p2), .val (.int p3), .val (.int p4), .val (.int 3), .val (.int 2), .val (.ref tk100), .val (.ref tk117), .unset, .unset, .unset]) rfl (XS.iload X117.here hx rfl (hb hby at_31) rfl (XS.ifYes X117.here hx rfl (pc0 := 33) (pc' := 40) rfl (hb hby at_33) rfl ((if0 _ _).trans (feq (by decide +kernel : ¬ ((3 : Int32) = (0 : Int32)))).2) (by decide) (by decide) (XS.iconst X117.here hx rfl (hb hby at_40) (XS.istore X117.here hx rfl (hb hby at_41) rfl (l' := #[.val (.int p0), .val (.int p1), .val (.int p2), .val (.int p3), .val (.int p4), .val (.int 3), .val (.int 2), .val (.ref tk100), .val (.ref tk117), .val (.int 0), .unset, .unset]) rfl k))))) ?_
      obtain ⟨T118, h118, X118, e118, E118, A118, D118, -, st118⟩ := newO X117 hx hZ hown (own_w hw 4 rfl) (own_w hw 5 rfl) (own_w hw 6 rfl) rfl (g := (mkF m 43 #[.val (.int p0), .val (.int p1), .val (.int p2), .val (.int p3), .val (.int p4), .val (.int 3), .val (.int 2), .val (.ref tk100), .val (.ref tk117), .val (.int 0), .unset, .unset] [])) rfl (hb hby at_43) (by decide) (by decide)
      obtain ⟨b118, g118⟩ : ∃ z, z = T117.heap.size := ⟨_, rfl⟩
      rw [← g118] at A118 D118 st118
      have g_b118 : n0 ≤ b118 := Nat.le_trans Zs (Nat.le_of_eq g118.symm)
      have Sf_b118 := own_sfn hR (Nat.le_of_eq g118.symm)
      replace Od := Od.ext E118
      replace Zs := Nat.le_trans Zs E118.1
      replace hk := Nat.le_trans hk E118.1
      have Sq_b118 := Safe.ext E118 hR.1 Sf_b118
      replace hR := hR.trans (CHr.ext E118 hR.1)
      replace Sf_b118 := Sq_b118
      have E_b118 := A118
      have F_b118_token : Fld Z h118 b118 "com/example/lean_bus/leanbus/api/Caller" "token" "Ljava/lang/String;" .null := D118 (Or.inr (own_w hw 19 rfl)) (ty := (.object "java/lang/String")) (by decide)
      have F_b118_name : Fld Z h118 b118 "com/example/lean_bus/leanbus/api/Caller" "name" "Ljava/lang/String;" .null := D118 (Or.inr (own_w hw 21 rfl)) (ty := (.object "java/lang/String")) (by decide)
      refine own_goH (x' := T118.setTop (mkF m 46 #[.val (.int p0), .val (.int p1), .val (.int p2), .val (.int p3), .val (.int p4), .val (.int 3), .val (.int 2), .val (.ref tk100), .val (.ref tk117), .val (.int 0), .unset, .unset] [(.ref b118)])) st118 ?_
      refine own_goH (x' := T118.setTop (mkF m 51 #[.val (.int p0), .val (.int p1), .val (.int p2), .val (.int p3), .val (.int p4), .val (.int 3), .val (.int 2), .val (.ref tk100), .val (.ref tk117), .val (.int 0), .unset, .unset] [(.ref tk117), (.ref tk100), (.ref b118), (.ref b118)])) (fun _ k => XS.dup X118.here hx rfl (hb hby at_46) rfl rfl (XS.aload X118.here hx rfl (hb hby at_47) rfl rfl (XS.aload X118.here hx rfl (hb hby at_49) rfl rfl k))) ?_
      obtain ⟨_, _, ⟨T119, L119, k119, n119⟩, -, X119, ⟨Lc119, hQ119, l119, y119, z119⟩, st119⟩ := X118.specialBack hx (y := (⟨"com/example/lean_bus/leanbus/api/Caller", "<init>", "(Ljava/lang/String;Ljava/lang/String;)V"⟩ : MethodName)) rfl hown (mvT hZ (own_w hw 7 rfl)) (mvT hZ (own_w hw 8 rfl)) (mvT hZ (own_w hw 9 rfl)) (by decide) (backOf (W := 1) (rm2RR l Z a0 hw [] b118 tk100 tk117 h118 n0 Zs E_b118 F_b118_token F_b118_name g_b118) hZ (own_w hw 9 rfl) (own_w hw 6 rfl) (by decide) (by decide)) (g := (mkF m 51 #[.val (.int p0), .val (.int p1), .val (.int p2), .val (.int p3), .val (.int p4), .val (.int 3), .val (.int 2), .val (.ref tk100), .val (.ref tk117), .val (.int 0), .unset, .unset] [(.ref tk117), (.ref tk100), (.ref b118), (.ref b118)])) rfl (by rw [hml]; rfl) (Steps.refl _) (a := b118) (argsL := [(.ref tk100), (.ref tk117)]) (rest := [(.ref b118)]) (lenOf pd_6 rfl) rfl (by show 2 * 0 + _ ≤ _; exact Nat.le_of_eq rfl) (hb hby at_51) (fun _ _ => ⟨rfl, e118, (by decide : 7 + 0 ≤ _), (by decide : 16 + 0 ≤ _)⟩)
      dsimp only [Pt.U, Pt.locs, Pt.cells, Pt.slots] at X119 l119 y119 z119 st119 hQ119
      subst l119 y119 z119
      obtain ⟨hv119, Nq119, K119, Eo119, Fo119_0, Fo119_1⟩ := hQ119
      subst hv119
      replace Nf := Fr.app Nf Nq119
      replace Od := Od.keep K119 (allS g_b118 all0)
      replace Zs := Nat.le_trans Zs K119.1
      replace hk := Nat.le_trans hk K119.1
      have Sq_b118 := Safe.keep K119 (allS Sf_b118 all0) hR.1 Sf_b118
      replace hR := hR.trans (CHr.keep K119 (allS Sf_b118 all0) hR.1)
      replace Sf_b118 := Sq_b118
      replace E_b118 := Eo119
      replace F_b118_token := Fo119_0
      replace F_b118_name := Fo119_1
      refine own_goH (x' := T119.setTop (mkF m 54 #[.val (.int p0), .val (.int p1), .val (.int p2), .val (.int p3), .val (.int p4), .val (.int 3), .val (.int 2), .val (.ref tk100), .val (.ref tk117), .val (.int 0), .unset, .unset] [(.ref b118)])) (fun _ k => st119.trans k) ?_
      refine own_goH (x' := T119.setTop (mkF m 58 #[.val (.int p0), .val (.int p1), .val (.int p2), .val (.int p3), .val (.int p4), .val (.int 3), .val (.int 2), .val (.ref tk100), .val (.ref tk117), .val (.int 0), .val (.ref b118), .unset] [(.ref b118)])) (fun _ k => XS.astore X119.here hx rfl (hb hby at_54) rfl rfl (l' := #[.val (.int p0), .val (.int p1), .val (.int p2), .val (.int p3), .val (.int p4), .val (.int 3), .val (.int 2), .val (.ref tk100), .val (.ref tk117), .val (.int 0), .val (.ref b118), .unset]) rfl (XS.aload X119.here hx rfl (hb hby at_56) rfl rfl k)) ?_
      obtain ⟨cq120, kq120, q120a, q120b, q120c⟩ := isOf hZ rfl E_b118
      obtain ⟨_, _, ⟨T120, L120, k120, n120⟩, -, X120, ⟨Lc120, hQ120, l120, y120, z120⟩, st120⟩ := X119.virtualBack hx (y := (⟨"com/example/lean_bus/leanbus/api/Caller", "isRoot", "()Z"⟩ : MethodName)) (z := (⟨"com/example/lean_bus/leanbus/api/Caller", "isRoot", "()Z"⟩ : MethodName)) hown (mvT hZ (own_w hw 22 rfl)) (mvT hZ (own_w hw 23 rfl)) (notFace_of_selects (args := #[]) (mvT hZ (own_w hw 25 rfl))) (mvT hZ (own_w hw 25 rfl)) (mvT hZ (own_w hw 24 rfl)) (by decide) (backOf (W := 0) (rm5R l Z a0 hw [] b118 tk100 T119.heap n0 Zs F_b118_token) hZ (own_w hw 26 rfl) (own_w hw 6 rfl) (by decide) (by decide)) q120a q120c (g := (mkF m 58 #[.val (.int p0), .val (.int p1), .val (.int p2), .val (.int p3), .val (.int p4), .val (.int 3), .val (.int 2), .val (.ref tk100), .val (.ref tk117), .val (.int 0), .val (.ref b118), .unset] [(.ref b118)])) rfl (by rw [hml]; rfl) (Steps.refl _) (argsL := []) (rest := []) (lenOf pd_8 rfl) rfl (by show 2 * 0 + _ ≤ _; exact Nat.le_of_eq rfl) (hb hby at_58) (fun _ _ => ⟨rfl, rfl, (by decide : 7 + 0 ≤ _), (by decide : 16 + 0 ≤ _)⟩)
      dsimp only [Pt.U, Pt.locs, Pt.cells, Pt.slots] at X120 l120 y120 z120 st120 hQ120
      subst l120 y120 z120
      obtain ⟨hv120, Nq120, eq120⟩ := hQ120
      subst hv120
      replace Nf := Fr.app Nf Nq120
      refine own_goH (x' := T120.setTop (mkF m 61 #[.val (.int p0), .val (.int p1), .val (.int p2), .val (.int p3), .val (.int p4), .val (.int 3), .val (.int 2), .val (.ref tk100), .val (.ref tk117), .val (.int 0), .val (.ref b118), .unset] [(.int 0)])) (fun _ k => st120.trans k) ?_
      refine own_goH (x' := T120.setTop (mkF m 75 #[.val (.int p0), .val (.int p1), .val (.int p2), .val (.int p3), .val (.int p4), .val (.int 3), .val (.int 2), .val (.ref tk100), .val (.ref tk117), .val (.int 0), .val (.ref b118), .val (.int 1)] [(.int 1)])) (fun _ k => XS.iload X120.here hx rfl (hb hby at_61) rfl (XS.icmpNo X120.here hx rfl (hb hby at_63) rfl (teq rfl).2 (XS.iconst X120.here hx rfl (hb hby at_66) (XS.goto X120.here hx rfl (pc0 := 67) (pc' := 71) rfl (hb hby at_67) (by decide) (by decide) (XS.istore X120.here hx rfl (hb hby at_71) rfl (l' := #[.val (.int p0), .val (.int p1), .val (.int p2), .val (.int p3), .val (.int p4), .val (.int 3), .val (.int 2), .val (.ref tk100), .val (.ref tk117), .val (.int 0), .val (.ref b118), .val (.int 1)]) rfl (XS.iload X120.here hx rfl (hb hby at_73) rfl k)))))) ?_
      refine own_goH (x' := T120.setTop (mkF m 78 #[.val (.int p0), .val (.int p1), .val (.int p2), .val (.int p3), .val (.int p4), .val (.int 3), .val (.int 2), .val (.ref tk100), .val (.ref tk117), .val (.int 0), .val (.ref b118), .val (.int 1)] [])) (fun _ k => XS.ifNo X120.here hx rfl (hb hby at_75) rfl ((if0 _ _).trans (feq (by decide +kernel : ¬ ((1 : Int32) = (0 : Int32)))).1) k) ?_
      obtain ⟨_, _, ⟨T121, L121, k121, n121⟩, -, X121, ⟨Lc121, hQ121, l121, y121, z121⟩, st121⟩ := Jvm.LawKit.callS X120 hx (y := (⟨"com/example/lean_bus/leanbus/api/Caller", "root", "()Lcom/example/lean_bus/leanbus/api/Caller;"⟩ : MethodName)) hown (mvT hZ (own_w hw 27 rfl)) (mvT hZ (own_w hw 28 rfl)) (mvT hZ (own_w hw 6 rfl)) (mvT hZ (own_w hw 29 rfl)) (by decide) (backOf (W := 0) (rm6 l Z a0 hw []  T119.heap n0 Zs ) hZ (own_w hw 29 rfl) (own_w hw 6 rfl) (by decide) (by decide)) (g := (mkF m 78 #[.val (.int p0), .val (.int p1), .val (.int p2), .val (.int p3), .val (.int p4), .val (.int 3), .val (.int 2), .val (.ref tk100), .val (.ref tk117), .val (.int 0), .val (.ref b118), .val (.int 1)] [])) rfl (by rw [hml]; rfl) (argsL := []) (rest := []) (lenOf pd_9 rfl) rfl (by show 2 * 0 + _ ≤ _; exact Nat.le_of_eq rfl) (hb hby at_78) (fun _ _ => ⟨rfl, eq120, (by decide : 7 + 1 ≤ _), (by decide : 16 + 2 ≤ _)⟩)
      dsimp only [Pt.U, Pt.locs, Pt.cells, Pt.slots] at X121 l121 y121 z121 st121 hQ121
      subst l121 y121 z121
      obtain ⟨b121, hv121, Nq121, K121, sq121, g_b121, E_b121, F_b121_token, F_b121_name⟩ := hQ121
      subst hv121
      replace Nf := Fr.app Nf Nq121
      have ne_b118_b121 : b118 ≠ b121 := Nat.ne_of_lt (Nat.lt_of_lt_of_le E_b118.lt sq121)
      replace Od := Od.keep K121 all0
      replace E_b118 := E_b118.keep K121
      replace F_b118_token := F_b118_token.keep K121 nin0
      replace F_b118_name := F_b118_name.keep K121 nin0
      replace Zs := Nat.le_trans Zs K121.1
      replace hk := Nat.le_trans hk K121.1
      have Sq_b118 := Safe.keep K121 all0 hR.1 Sf_b118
      replace hR := hR.trans (CHr.keep K121 all0 hR.1)
      replace Sf_b118 := Sq_b118
      refine own_goH (x' := T121.setTop (mkF m 81 #[.val (.int p0), .val (.int p1), .val (.int p2), .val (.int p3), .val (.int p4), .val (.int 3), .val (.int 2), .val (.ref tk100), .val (.ref tk117), .val (.int 0), .val (.ref b118), .val (.int 1)] [(.ref b121)])) st121 ?_
      obtain ⟨cq122, kq122, q122a, q122b, q122c⟩ := isOf hZ rfl E_b121
      obtain ⟨_, _, ⟨T122, L122, k122, n122⟩, -, X122, ⟨Lc122, hQ122, l122, y122, z122⟩, st122⟩ := X121.virtualBack hx (y := (⟨"com/example/lean_bus/leanbus/api/Caller", "isRoot", "()Z"⟩ : MethodName)) (z := (⟨"com/example/lean_bus/leanbus/api/Caller", "isRoot", "()Z"⟩ : MethodName)) hown (mvT hZ (own_w hw 22 rfl)) (mvT hZ (own_w hw 23 rfl)) (notFace_of_selects (args := #[]) (mvT hZ (own_w hw 25 rfl))) (mvT hZ (own_w hw 25 rfl)) (mvT hZ (own_w hw 24 rfl)) (by decide) (backOf (W := 0) (rm5N l Z a0 hw [] b121  T121.heap n0 Zs F_b121_token) hZ (own_w hw 26 rfl) (own_w hw 6 rfl) (by decide) (by decide)) q122a q122c (g := (mkF m 81 #[.val (.int p0), .val (.int p1), .val (.int p2), .val (.int p3), .val (.int p4), .val (.int 3), .val (.int 2), .val (.ref tk100), .val (.ref tk117), .val (.int 0), .val (.ref b118), .val (.int 1)] [(.ref b121)])) rfl (by rw [hml]; rfl) (Steps.refl _) (argsL := []) (rest := []) (lenOf pd_8 rfl) rfl (by show 2 * 0 + _ ≤ _; exact Nat.le_of_eq rfl) (hb hby at_81) (fun _ _ => ⟨rfl, rfl, (by decide : 8 + 0 ≤ _), (by decide : 18 + 0 ≤ _)⟩)
      dsimp only [Pt.U, Pt.locs, Pt.cells, Pt.slots] at X122 l122 y122 z122 st122 hQ122
      subst l122 y122 z122
      obtain ⟨hv122, Nq122, eq122⟩ := hQ122
      subst hv122
      replace Nf := Fr.app Nf Nq122
      refine own_goH (x' := T122.setTop (mkF m 84 #[.val (.int p0), .val (.int p1), .val (.int p2), .val (.int p3), .val (.int p4), .val (.int 3), .val (.int 2), .val (.ref tk100), .val (.ref tk117), .val (.int 0), .val (.ref b118), .val (.int 1)] [(.int 1)])) (fun _ k => st122.trans k) ?_
      refine own_goH (x' := T122.setTop (mkF m 99 #[.val (.int p0), .val (.int p1), .val (.int p2), .val (.int p3), .val (.int p4), .val (.int 3), .val (.int 2), .val (.ref tk100), .val (.ref tk117), .val (.int 0), .val (.ref b118), .val (.int 1)] [])) (fun _ k => XS.ifNo X122.here hx rfl (hb hby at_84) rfl ((if0 _ _).trans (feq (by decide +kernel : ¬ ((1 : Int32) = (0 : Int32)))).1) (XS.iconst X122.here hx rfl (hb hby at_87) (XS.goto X122.here hx rfl (pc0 := 88) (pc' := 92) rfl (hb hby at_88) (by decide) (by decide) (XS.istore X122.here hx rfl (hb hby at_92) rfl (l' := #[.val (.int p0), .val (.int p1), .val (.int p2), .val (.int p3), .val (.int p4), .val (.int 3), .val (.int 2), .val (.ref tk100), .val (.ref tk117), .val (.int 0), .val (.ref b118), .val (.int 1)]) rfl (XS.iload X122.here hx rfl (hb hby at_94) rfl (XS.ifNo X122.here hx rfl (hb hby at_96) rfl ((if0 _ _).trans (feq (by decide +kernel : ¬ ((1 : Int32) = (0 : Int32)))).1) k)))))) ?_
      refine own_goH (x' := T122.setTop (mkF m 101 #[.val (.int p0), .val (.int p1), .val (.int p2), .val (.int p3), .val (.int p4), .val (.int 3), .val (.int 2), .val (.ref tk100), .val (.ref tk117), .val (.int 0), .val (.ref b118), .val (.int 1)] [(.ref tk100)])) (fun _ k => XS.aload X122.here hx rfl (hb hby at_99) rfl rfl k) ?_
      obtain ⟨_, _, ⟨T123, L123, k123, n123⟩, -, X123, ⟨Lc123, hQ123, l123, y123, z123⟩, st123⟩ := Jvm.LawKit.callS X122 hx (y := (⟨"com/example/lean_bus/leanbus/api/Caller", "unchecked", "(Ljava/lang/String;)Lcom/example/lean_bus/leanbus/api/Caller;"⟩ : MethodName)) hown (mvT hZ (own_w hw 32 rfl)) (mvT hZ (own_w hw 33 rfl)) (mvT hZ (own_w hw 6 rfl)) (mvT hZ (own_w hw 34 rfl)) (by decide) (backOf (W := 0) (rm7R l Z a0 hw [] tk100 T121.heap n0 Zs ) hZ (own_w hw 34 rfl) (own_w hw 6 rfl) (by decide) (by decide)) (g := (mkF m 101 #[.val (.int p0), .val (.int p1), .val (.int p2), .val (.int p3), .val (.int p4), .val (.int 3), .val (.int 2), .val (.ref tk100), .val (.ref tk117), .val (.int 0), .val (.ref b118), .val (.int 1)] [(.ref tk100)])) rfl (by rw [hml]; rfl) (argsL := [(.ref tk100)]) (rest := []) (lenOf pd_10 rfl) rfl (by show 2 * 0 + _ ≤ _; exact Nat.le_of_eq rfl) (hb hby at_101) (fun _ _ => ⟨rfl, eq122, (by decide : 8 + 1 ≤ _), (by decide : 18 + 2 ≤ _)⟩)
      dsimp only [Pt.U, Pt.locs, Pt.cells, Pt.slots] at X123 l123 y123 z123 st123 hQ123
      subst l123 y123 z123
      obtain ⟨b123, hv123, Nq123, K123, sq123, g_b123, E_b123, F_b123_token, F_b123_name⟩ := hQ123
      subst hv123
      replace Nf := Fr.app Nf Nq123
      have ne_b118_b123 : b118 ≠ b123 := Nat.ne_of_lt (Nat.lt_of_lt_of_le E_b118.lt sq123)
      have ne_b121_b123 : b121 ≠ b123 := Nat.ne_of_lt (Nat.lt_of_lt_of_le E_b121.lt sq123)
      replace Od := Od.keep K123 all0
      replace E_b118 := E_b118.keep K123
      replace F_b118_token := F_b118_token.keep K123 nin0
      replace F_b118_name := F_b118_name.keep K123 nin0
      replace E_b121 := E_b121.keep K123
      replace F_b121_token := F_b121_token.keep K123 nin0
      replace F_b121_name := F_b121_name.keep K123 nin0
      replace Zs := Nat.le_trans Zs K123.1
      replace hk := Nat.le_trans hk K123.1
      have Sq_b118 := Safe.keep K123 all0 hR.1 Sf_b118
      replace hR := hR.trans (CHr.keep K123 all0 hR.1)
      replace Sf_b118 := Sq_b118
      refine own_goH (x' := T123.setTop (mkF m 104 #[.val (.int p0), .val (.int p1), .val (.int p2), .val (.int p3), .val (.int p4), .val (.int 3), .val (.int 2), .val (.ref tk100), .val (.ref tk117), .val (.int 0), .val (.ref b118), .val (.int 1)] [(.ref b123)])) st123 ?_
      obtain ⟨cq124, kq124, q124a, q124b, q124c⟩ := isOf hZ rfl E_b123
      obtain ⟨_, _, ⟨T124, L124, k124, n124⟩, -, X124, ⟨Lc124, hQ124, l124, y124, z124⟩, st124⟩ := X123.virtualBack hx (y := (⟨"com/example/lean_bus/leanbus/api/Caller", "isRoot", "()Z"⟩ : MethodName)) (z := (⟨"com/example/lean_bus/leanbus/api/Caller", "isRoot", "()Z"⟩ : MethodName)) hown (mvT hZ (own_w hw 22 rfl)) (mvT hZ (own_w hw 23 rfl)) (notFace_of_selects (args := #[]) (mvT hZ (own_w hw 25 rfl))) (mvT hZ (own_w hw 25 rfl)) (mvT hZ (own_w hw 24 rfl)) (by decide) (backOf (W := 0) (rm5R l Z a0 hw [] b123 tk100 T123.heap n0 Zs F_b123_token) hZ (own_w hw 26 rfl) (own_w hw 6 rfl) (by decide) (by decide)) q124a q124c (g := (mkF m 104 #[.val (.int p0), .val (.int p1), .val (.int p2), .val (.int p3), .val (.int p4), .val (.int 3), .val (.int 2), .val (.ref tk100), .val (.ref tk117), .val (.int 0), .val (.ref b118), .val (.int 1)] [(.ref b123)])) rfl (by rw [hml]; rfl) (Steps.refl _) (argsL := []) (rest := []) (lenOf pd_8 rfl) rfl (by show 2 * 0 + _ ≤ _; exact Nat.le_of_eq rfl) (hb hby at_104) (fun _ _ => ⟨rfl, rfl, (by decide : 9 + 0 ≤ _), (by decide : 20 + 0 ≤ _)⟩)
      dsimp only [Pt.U, Pt.locs, Pt.cells, Pt.slots] at X124 l124 y124 z124 st124 hQ124
      subst l124 y124 z124
      obtain ⟨hv124, Nq124, eq124⟩ := hQ124
      subst hv124
      replace Nf := Fr.app Nf Nq124
      refine own_goH (x' := T124.setTop (mkF m 107 #[.val (.int p0), .val (.int p1), .val (.int p2), .val (.int p3), .val (.int p4), .val (.int 3), .val (.int 2), .val (.ref tk100), .val (.ref tk117), .val (.int 0), .val (.ref b118), .val (.int 1)] [(.int 0)])) (fun _ k => st124.trans k) ?_
      refine own_goH (x' := T124.setTop (mkF m 121 #[.val (.int p0), .val (.int p1), .val (.int p2), .val (.int p3), .val (.int p4), .val (.int 3), .val (.int 2), .val (.ref tk100), .val (.ref tk117), .val (.int 0), .val (.ref b118), .val (.int 1)] [(.int 1)])) (fun _ k => XS.iload X124.here hx rfl (hb hby at_107) rfl (XS.icmpNo X124.here hx rfl (hb hby at_109) rfl (teq rfl).2 (XS.iconst X124.here hx rfl (hb hby at_112) (XS.goto X124.here hx rfl (pc0 := 113) (pc' := 117) rfl (hb hby at_113) (by decide) (by decide) (XS.istore X124.here hx rfl (hb hby at_117) rfl (l' := #[.val (.int p0), .val (.int p1), .val (.int p2), .val (.int p3), .val (.int p4), .val (.int 3), .val (.int 2), .val (.ref tk100), .val (.ref tk117), .val (.int 0), .val (.ref b118), .val (.int 1)]) rfl (XS.iload X124.here hx rfl (hb hby at_119) rfl k)))))) ?_
      refine own_retNH X124 hS (own_hk eq124 hk) (own_hr eq124 hR) hZ (own_EW hw) hx hlk (t := .boolean) hret (by simp) (hb hby at_121) (w := (1 : Int32)) rfl ?_ (by decide) (by decide)
      rw [eq124]
      exact ⟨rfl, Nf⟩
    · refine own_goH (x' := T100.setTop (mkF m 26 #[.val (.int p0), .val (.int p1), .val (.int p2), .val (.int p3), .val (.int p4), .val (.int 3), .val (.int 3), .val (.ref tk100), .unset, .unset, .unset, .unset] [(.int p4), (.int p3), (.int 3)])) (fun _ k => XS.iload X100.here hx rfl (hb hby at_21) rfl (XS.iloadN X100.here hx rfl (hb hby at_23) rfl (XS.iload X100.here hx rfl (hb hby at_24) rfl k))) ?_
      obtain ⟨_, _, ⟨T125, L125, k125, n125⟩, -, X125, Sw125, Gw125, ⟨Lc125, hQ125, l125, y125, z125, Cw125⟩, st125⟩ := Jvm.RoadKit.callSS X100 hx (y := (⟨"com/example/lean_bus/leanbus/api/CallerIsRootPinLaw", "draw", "(III)Ljava/lang/String;"⟩ : MethodName)) hown (mvT hZ (own_w hw 0 rfl)) (mvT hZ (own_w hw 1 rfl)) (mvT hZ (own_w hw 2 rfl)) (mvT hZ (own_w hw 3 rfl)) (by decide) (backOfSH (W := 0) (rm1_3 l Z a0 hw [] p3 p4 G1 T100.heap n0 Zs Od S_COMPACT_STRINGS hG) hZ (own_w hw 3 rfl) (own_w hw 2 rfl) (by decide) (by decide) (own_EW hw) hR.1) (g := (mkF m 26 #[.val (.int p0), .val (.int p1), .val (.int p2), .val (.int p3), .val (.int p4), .val (.int 3), .val (.int 3), .val (.ref tk100), .unset, .unset, .unset, .unset] [(.int p4), (.int p3), (.int 3)])) rfl (by rw [hml]; rfl) (argsL := [(.int 3), (.int p3), (.int p4)]) (rest := []) (lenOf pd_7 rfl) rfl (by show 2 * 0 + _ ≤ _; exact Nat.le_of_eq rfl) (hb hby at_26) (fun _ _ => ⟨rfl, rfl, (by decide : 3 + 3 ≤ _), (by decide : 8 + 8 ≤ _)⟩)
      dsimp only [Pt.U, Pt.locs, Pt.cells, Pt.slots] at X125 l125 y125 z125 st125 hQ125 Sw125 Gw125 Cw125
      subst l125 y125 z125
      obtain ⟨X125, Sw125, hZ, hown⟩ := rebS hS (own_hk rfl hk) X125 Sw125 Gw125 hZ hown
      replace hR := hR.trans Cw125
      obtain ⟨tk125, hv125, Nq125, K125⟩ := hQ125
      subst hv125
      replace Nf := Fr.app Nf Nq125
      replace Od := Od.keep K125 all0
      replace Zs := Nat.le_trans Zs K125.1
      replace hk := Nat.le_trans hk K125.1
      replace hS := Sw125
      replace hk := Nat.le_refl (Array.size T125.heap)
      refine own_goH (x' := T125.setTop (mkF m 29 #[.val (.int p0), .val (.int p1), .val (.int p2), .val (.int p3), .val (.int p4), .val (.int 3), .val (.int 3), .val (.ref tk100), .unset, .unset, .unset, .unset] [(.ref tk125)])) (fun _ k => st125.trans k) ?_
      refine own_goH (x' := T125.setTop (mkF m 43 #[.val (.int p0), .val (.int p1), .val (.int p2), .val (.int p3), .val (.int p4), .val (.int 3), .val (.int 3), .val (.ref tk100), .val (.ref tk125), .val (.int 0), .unset, .unset] [])) (fun _ k => XS.astore X125.here hx rfl (hb hby at_29) rfl rfl (l' := #[.val (.int p0), .val (.int p1), .val (.int p2), .val (.int p3), .val (.int p4), .val (.int 3), .val (.int 3), .val (.ref tk100), .val (.ref tk125), .unset, .unset, .unset]) rfl (XS.iload X125.here hx rfl (hb hby at_31) rfl (XS.ifYes X125.here hx rfl (pc0 := 33) (pc' := 40) rfl (hb hby at_33) rfl ((if0 _ _).trans (feq (by decide +kernel : ¬ ((3 : Int32) = (0 : Int32)))).2) (by decide) (by decide) (XS.iconst X125.here hx rfl (hb hby at_40) (XS.istore X125.here hx rfl (hb hby at_41) rfl (l' := #[.val (.int p0), .val (.int p1), .val (.int p2), .val (.int p3), .val (.int p4), .val (.int 3), .val (.int 3), .val (.ref tk100), .val (.ref tk125), .val (.int 0), .unset, .unset]) rfl k))))) ?_
      obtain ⟨T126, h126, X126, e126, E126, A126, D126, -, st126⟩ := newO X125 hx hZ hown (own_w hw 4 rfl) (own_w hw 5 rfl) (own_w hw 6 rfl) rfl (g := (mkF m 43 #[.val (.int p0), .val (.int p1), .val (.int p2), .val (.int p3), .val (.int p4), .val (.int 3), .val (.int 3), .val (.ref tk100), .val (.ref tk125), .val (.int 0), .unset, .unset] [])) rfl (hb hby at_43) (by decide) (by decide)
      obtain ⟨b126, g126⟩ : ∃ z, z = T125.heap.size := ⟨_, rfl⟩
      rw [← g126] at A126 D126 st126
      have g_b126 : n0 ≤ b126 := Nat.le_trans Zs (Nat.le_of_eq g126.symm)
      have Sf_b126 := own_sfn hR (Nat.le_of_eq g126.symm)
      replace Od := Od.ext E126
      replace Zs := Nat.le_trans Zs E126.1
      replace hk := Nat.le_trans hk E126.1
      have Sq_b126 := Safe.ext E126 hR.1 Sf_b126
      replace hR := hR.trans (CHr.ext E126 hR.1)
      replace Sf_b126 := Sq_b126
      have E_b126 := A126
      have F_b126_token : Fld Z h126 b126 "com/example/lean_bus/leanbus/api/Caller" "token" "Ljava/lang/String;" .null := D126 (Or.inr (own_w hw 19 rfl)) (ty := (.object "java/lang/String")) (by decide)
      have F_b126_name : Fld Z h126 b126 "com/example/lean_bus/leanbus/api/Caller" "name" "Ljava/lang/String;" .null := D126 (Or.inr (own_w hw 21 rfl)) (ty := (.object "java/lang/String")) (by decide)
      refine own_goH (x' := T126.setTop (mkF m 46 #[.val (.int p0), .val (.int p1), .val (.int p2), .val (.int p3), .val (.int p4), .val (.int 3), .val (.int 3), .val (.ref tk100), .val (.ref tk125), .val (.int 0), .unset, .unset] [(.ref b126)])) st126 ?_
      refine own_goH (x' := T126.setTop (mkF m 51 #[.val (.int p0), .val (.int p1), .val (.int p2), .val (.int p3), .val (.int p4), .val (.int 3), .val (.int 3), .val (.ref tk100), .val (.ref tk125), .val (.int 0), .unset, .unset] [(.ref tk125), (.ref tk100), (.ref b126), (.ref b126)])) (fun _ k => XS.dup X126.here hx rfl (hb hby at_46) rfl rfl (XS.aload X126.here hx rfl (hb hby at_47) rfl rfl (XS.aload X126.here hx rfl (hb hby at_49) rfl rfl k))) ?_
      obtain ⟨_, _, ⟨T127, L127, k127, n127⟩, -, X127, ⟨Lc127, hQ127, l127, y127, z127⟩, st127⟩ := X126.specialBack hx (y := (⟨"com/example/lean_bus/leanbus/api/Caller", "<init>", "(Ljava/lang/String;Ljava/lang/String;)V"⟩ : MethodName)) rfl hown (mvT hZ (own_w hw 7 rfl)) (mvT hZ (own_w hw 8 rfl)) (mvT hZ (own_w hw 9 rfl)) (by decide) (backOf (W := 1) (rm2RR l Z a0 hw [] b126 tk100 tk125 h126 n0 Zs E_b126 F_b126_token F_b126_name g_b126) hZ (own_w hw 9 rfl) (own_w hw 6 rfl) (by decide) (by decide)) (g := (mkF m 51 #[.val (.int p0), .val (.int p1), .val (.int p2), .val (.int p3), .val (.int p4), .val (.int 3), .val (.int 3), .val (.ref tk100), .val (.ref tk125), .val (.int 0), .unset, .unset] [(.ref tk125), (.ref tk100), (.ref b126), (.ref b126)])) rfl (by rw [hml]; rfl) (Steps.refl _) (a := b126) (argsL := [(.ref tk100), (.ref tk125)]) (rest := [(.ref b126)]) (lenOf pd_6 rfl) rfl (by show 2 * 0 + _ ≤ _; exact Nat.le_of_eq rfl) (hb hby at_51) (fun _ _ => ⟨rfl, e126, (by decide : 7 + 0 ≤ _), (by decide : 18 + 0 ≤ _)⟩)
      dsimp only [Pt.U, Pt.locs, Pt.cells, Pt.slots] at X127 l127 y127 z127 st127 hQ127
      subst l127 y127 z127
      obtain ⟨hv127, Nq127, K127, Eo127, Fo127_0, Fo127_1⟩ := hQ127
      subst hv127
      replace Nf := Fr.app Nf Nq127
      replace Od := Od.keep K127 (allS g_b126 all0)
      replace Zs := Nat.le_trans Zs K127.1
      replace hk := Nat.le_trans hk K127.1
      have Sq_b126 := Safe.keep K127 (allS Sf_b126 all0) hR.1 Sf_b126
      replace hR := hR.trans (CHr.keep K127 (allS Sf_b126 all0) hR.1)
      replace Sf_b126 := Sq_b126
      replace E_b126 := Eo127
      replace F_b126_token := Fo127_0
      replace F_b126_name := Fo127_1
      refine own_goH (x' := T127.setTop (mkF m 54 #[.val (.int p0), .val (.int p1), .val (.int p2), .val (.int p3), .val (.int p4), .val (.int 3), .val (.int 3), .val (.ref tk100), .val (.ref tk125), .val (.int 0), .unset, .unset] [(.ref b126)])) (fun _ k => st127.trans k) ?_
      refine own_goH (x' := T127.setTop (mkF m 58 #[.val (.int p0), .val (.int p1), .val (.int p2), .val (.int p3), .val (.int p4), .val (.int 3), .val (.int 3), .val (.ref tk100), .val (.ref tk125), .val (.int 0), .val (.ref b126), .unset] [(.ref b126)])) (fun _ k => XS.astore X127.here hx rfl (hb hby at_54) rfl rfl (l' := #[.val (.int p0), .val (.int p1), .val (.int p2), .val (.int p3), .val (.int p4), .val (.int 3), .val (.int 3), .val (.ref tk100), .val (.ref tk125), .val (.int 0), .val (.ref b126), .unset]) rfl (XS.aload X127.here hx rfl (hb hby at_56) rfl rfl k)) ?_
      obtain ⟨cq128, kq128, q128a, q128b, q128c⟩ := isOf hZ rfl E_b126
      obtain ⟨_, _, ⟨T128, L128, k128, n128⟩, -, X128, ⟨Lc128, hQ128, l128, y128, z128⟩, st128⟩ := X127.virtualBack hx (y := (⟨"com/example/lean_bus/leanbus/api/Caller", "isRoot", "()Z"⟩ : MethodName)) (z := (⟨"com/example/lean_bus/leanbus/api/Caller", "isRoot", "()Z"⟩ : MethodName)) hown (mvT hZ (own_w hw 22 rfl)) (mvT hZ (own_w hw 23 rfl)) (notFace_of_selects (args := #[]) (mvT hZ (own_w hw 25 rfl))) (mvT hZ (own_w hw 25 rfl)) (mvT hZ (own_w hw 24 rfl)) (by decide) (backOf (W := 0) (rm5R l Z a0 hw [] b126 tk100 T127.heap n0 Zs F_b126_token) hZ (own_w hw 26 rfl) (own_w hw 6 rfl) (by decide) (by decide)) q128a q128c (g := (mkF m 58 #[.val (.int p0), .val (.int p1), .val (.int p2), .val (.int p3), .val (.int p4), .val (.int 3), .val (.int 3), .val (.ref tk100), .val (.ref tk125), .val (.int 0), .val (.ref b126), .unset] [(.ref b126)])) rfl (by rw [hml]; rfl) (Steps.refl _) (argsL := []) (rest := []) (lenOf pd_8 rfl) rfl (by show 2 * 0 + _ ≤ _; exact Nat.le_of_eq rfl) (hb hby at_58) (fun _ _ => ⟨rfl, rfl, (by decide : 7 + 0 ≤ _), (by decide : 18 + 0 ≤ _)⟩)
      dsimp only [Pt.U, Pt.locs, Pt.cells, Pt.slots] at X128 l128 y128 z128 st128 hQ128
      subst l128 y128 z128
      obtain ⟨hv128, Nq128, eq128⟩ := hQ128
      subst hv128
      replace Nf := Fr.app Nf Nq128
      refine own_goH (x' := T128.setTop (mkF m 61 #[.val (.int p0), .val (.int p1), .val (.int p2), .val (.int p3), .val (.int p4), .val (.int 3), .val (.int 3), .val (.ref tk100), .val (.ref tk125), .val (.int 0), .val (.ref b126), .unset] [(.int 0)])) (fun _ k => st128.trans k) ?_
      refine own_goH (x' := T128.setTop (mkF m 75 #[.val (.int p0), .val (.int p1), .val (.int p2), .val (.int p3), .val (.int p4), .val (.int 3), .val (.int 3), .val (.ref tk100), .val (.ref tk125), .val (.int 0), .val (.ref b126), .val (.int 1)] [(.int 1)])) (fun _ k => XS.iload X128.here hx rfl (hb hby at_61) rfl (XS.icmpNo X128.here hx rfl (hb hby at_63) rfl (teq rfl).2 (XS.iconst X128.here hx rfl (hb hby at_66) (XS.goto X128.here hx rfl (pc0 := 67) (pc' := 71) rfl (hb hby at_67) (by decide) (by decide) (XS.istore X128.here hx rfl (hb hby at_71) rfl (l' := #[.val (.int p0), .val (.int p1), .val (.int p2), .val (.int p3), .val (.int p4), .val (.int 3), .val (.int 3), .val (.ref tk100), .val (.ref tk125), .val (.int 0), .val (.ref b126), .val (.int 1)]) rfl (XS.iload X128.here hx rfl (hb hby at_73) rfl k)))))) ?_
      refine own_goH (x' := T128.setTop (mkF m 78 #[.val (.int p0), .val (.int p1), .val (.int p2), .val (.int p3), .val (.int p4), .val (.int 3), .val (.int 3), .val (.ref tk100), .val (.ref tk125), .val (.int 0), .val (.ref b126), .val (.int 1)] [])) (fun _ k => XS.ifNo X128.here hx rfl (hb hby at_75) rfl ((if0 _ _).trans (feq (by decide +kernel : ¬ ((1 : Int32) = (0 : Int32)))).1) k) ?_
      obtain ⟨_, _, ⟨T129, L129, k129, n129⟩, -, X129, ⟨Lc129, hQ129, l129, y129, z129⟩, st129⟩ := Jvm.LawKit.callS X128 hx (y := (⟨"com/example/lean_bus/leanbus/api/Caller", "root", "()Lcom/example/lean_bus/leanbus/api/Caller;"⟩ : MethodName)) hown (mvT hZ (own_w hw 27 rfl)) (mvT hZ (own_w hw 28 rfl)) (mvT hZ (own_w hw 6 rfl)) (mvT hZ (own_w hw 29 rfl)) (by decide) (backOf (W := 0) (rm6 l Z a0 hw []  T127.heap n0 Zs ) hZ (own_w hw 29 rfl) (own_w hw 6 rfl) (by decide) (by decide)) (g := (mkF m 78 #[.val (.int p0), .val (.int p1), .val (.int p2), .val (.int p3), .val (.int p4), .val (.int 3), .val (.int 3), .val (.ref tk100), .val (.ref tk125), .val (.int 0), .val (.ref b126), .val (.int 1)] [])) rfl (by rw [hml]; rfl) (argsL := []) (rest := []) (lenOf pd_9 rfl) rfl (by show 2 * 0 + _ ≤ _; exact Nat.le_of_eq rfl) (hb hby at_78) (fun _ _ => ⟨rfl, eq128, (by decide : 7 + 1 ≤ _), (by decide : 18 + 2 ≤ _)⟩)
      dsimp only [Pt.U, Pt.locs, Pt.cells, Pt.slots] at X129 l129 y129 z129 st129 hQ129
      subst l129 y129 z129
      obtain ⟨b129, hv129, Nq129, K129, sq129, g_b129, E_b129, F_b129_token, F_b129_name⟩ := hQ129
      subst hv129
      replace Nf := Fr.app Nf Nq129
      have ne_b126_b129 : b126 ≠ b129 := Nat.ne_of_lt (Nat.lt_of_lt_of_le E_b126.lt sq129)
      replace Od := Od.keep K129 all0
      replace E_b126 := E_b126.keep K129
      replace F_b126_token := F_b126_token.keep K129 nin0
      replace F_b126_name := F_b126_name.keep K129 nin0
      replace Zs := Nat.le_trans Zs K129.1
      replace hk := Nat.le_trans hk K129.1
      have Sq_b126 := Safe.keep K129 all0 hR.1 Sf_b126
      replace hR := hR.trans (CHr.keep K129 all0 hR.1)
      replace Sf_b126 := Sq_b126
      refine own_goH (x' := T129.setTop (mkF m 81 #[.val (.int p0), .val (.int p1), .val (.int p2), .val (.int p3), .val (.int p4), .val (.int 3), .val (.int 3), .val (.ref tk100), .val (.ref tk125), .val (.int 0), .val (.ref b126), .val (.int 1)] [(.ref b129)])) st129 ?_
      obtain ⟨cq130, kq130, q130a, q130b, q130c⟩ := isOf hZ rfl E_b129
      obtain ⟨_, _, ⟨T130, L130, k130, n130⟩, -, X130, ⟨Lc130, hQ130, l130, y130, z130⟩, st130⟩ := X129.virtualBack hx (y := (⟨"com/example/lean_bus/leanbus/api/Caller", "isRoot", "()Z"⟩ : MethodName)) (z := (⟨"com/example/lean_bus/leanbus/api/Caller", "isRoot", "()Z"⟩ : MethodName)) hown (mvT hZ (own_w hw 22 rfl)) (mvT hZ (own_w hw 23 rfl)) (notFace_of_selects (args := #[]) (mvT hZ (own_w hw 25 rfl))) (mvT hZ (own_w hw 25 rfl)) (mvT hZ (own_w hw 24 rfl)) (by decide) (backOf (W := 0) (rm5N l Z a0 hw [] b129  T129.heap n0 Zs F_b129_token) hZ (own_w hw 26 rfl) (own_w hw 6 rfl) (by decide) (by decide)) q130a q130c (g := (mkF m 81 #[.val (.int p0), .val (.int p1), .val (.int p2), .val (.int p3), .val (.int p4), .val (.int 3), .val (.int 3), .val (.ref tk100), .val (.ref tk125), .val (.int 0), .val (.ref b126), .val (.int 1)] [(.ref b129)])) rfl (by rw [hml]; rfl) (Steps.refl _) (argsL := []) (rest := []) (lenOf pd_8 rfl) rfl (by show 2 * 0 + _ ≤ _; exact Nat.le_of_eq rfl) (hb hby at_81) (fun _ _ => ⟨rfl, rfl, (by decide : 8 + 0 ≤ _), (by decide : 20 + 0 ≤ _)⟩)
      dsimp only [Pt.U, Pt.locs, Pt.cells, Pt.slots] at X130 l130 y130 z130 st130 hQ130
      subst l130 y130 z130
      obtain ⟨hv130, Nq130, eq130⟩ := hQ130
      subst hv130
      replace Nf := Fr.app Nf Nq130
      refine own_goH (x' := T130.setTop (mkF m 84 #[.val (.int p0), .val (.int p1), .val (.int p2), .val (.int p3), .val (.int p4), .val (.int 3), .val (.int 3), .val (.ref tk100), .val (.ref tk125), .val (.int 0), .val (.ref b126), .val (.int 1)] [(.int 1)])) (fun _ k => st130.trans k) ?_
      refine own_goH (x' := T130.setTop (mkF m 99 #[.val (.int p0), .val (.int p1), .val (.int p2), .val (.int p3), .val (.int p4), .val (.int 3), .val (.int 3), .val (.ref tk100), .val (.ref tk125), .val (.int 0), .val (.ref b126), .val (.int 1)] [])) (fun _ k => XS.ifNo X130.here hx rfl (hb hby at_84) rfl ((if0 _ _).trans (feq (by decide +kernel : ¬ ((1 : Int32) = (0 : Int32)))).1) (XS.iconst X130.here hx rfl (hb hby at_87) (XS.goto X130.here hx rfl (pc0 := 88) (pc' := 92) rfl (hb hby at_88) (by decide) (by decide) (XS.istore X130.here hx rfl (hb hby at_92) rfl (l' := #[.val (.int p0), .val (.int p1), .val (.int p2), .val (.int p3), .val (.int p4), .val (.int 3), .val (.int 3), .val (.ref tk100), .val (.ref tk125), .val (.int 0), .val (.ref b126), .val (.int 1)]) rfl (XS.iload X130.here hx rfl (hb hby at_94) rfl (XS.ifNo X130.here hx rfl (hb hby at_96) rfl ((if0 _ _).trans (feq (by decide +kernel : ¬ ((1 : Int32) = (0 : Int32)))).1) k)))))) ?_
      refine own_goH (x' := T130.setTop (mkF m 101 #[.val (.int p0), .val (.int p1), .val (.int p2), .val (.int p3), .val (.int p4), .val (.int 3), .val (.int 3), .val (.ref tk100), .val (.ref tk125), .val (.int 0), .val (.ref b126), .val (.int 1)] [(.ref tk100)])) (fun _ k => XS.aload X130.here hx rfl (hb hby at_99) rfl rfl k) ?_
      obtain ⟨_, _, ⟨T131, L131, k131, n131⟩, -, X131, ⟨Lc131, hQ131, l131, y131, z131⟩, st131⟩ := Jvm.LawKit.callS X130 hx (y := (⟨"com/example/lean_bus/leanbus/api/Caller", "unchecked", "(Ljava/lang/String;)Lcom/example/lean_bus/leanbus/api/Caller;"⟩ : MethodName)) hown (mvT hZ (own_w hw 32 rfl)) (mvT hZ (own_w hw 33 rfl)) (mvT hZ (own_w hw 6 rfl)) (mvT hZ (own_w hw 34 rfl)) (by decide) (backOf (W := 0) (rm7R l Z a0 hw [] tk100 T129.heap n0 Zs ) hZ (own_w hw 34 rfl) (own_w hw 6 rfl) (by decide) (by decide)) (g := (mkF m 101 #[.val (.int p0), .val (.int p1), .val (.int p2), .val (.int p3), .val (.int p4), .val (.int 3), .val (.int 3), .val (.ref tk100), .val (.ref tk125), .val (.int 0), .val (.ref b126), .val (.int 1)] [(.ref tk100)])) rfl (by rw [hml]; rfl) (argsL := [(.ref tk100)]) (rest := []) (lenOf pd_10 rfl) rfl (by show 2 * 0 + _ ≤ _; exact Nat.le_of_eq rfl) (hb hby at_101) (fun _ _ => ⟨rfl, eq130, (by decide : 8 + 1 ≤ _), (by decide : 20 + 2 ≤ _)⟩)
      dsimp only [Pt.U, Pt.locs, Pt.cells, Pt.slots] at X131 l131 y131 z131 st131 hQ131
      subst l131 y131 z131
      obtain ⟨b131, hv131, Nq131, K131, sq131, g_b131, E_b131, F_b131_token, F_b131_name⟩ := hQ131
      subst hv131
      replace Nf := Fr.app Nf Nq131
      have ne_b126_b131 : b126 ≠ b131 := Nat.ne_of_lt (Nat.lt_of_lt_of_le E_b126.lt sq131)
      have ne_b129_b131 : b129 ≠ b131 := Nat.ne_of_lt (Nat.lt_of_lt_of_le E_b129.lt sq131)
      replace Od := Od.keep K131 all0
      replace E_b126 := E_b126.keep K131
      replace F_b126_token := F_b126_token.keep K131 nin0
      replace F_b126_name := F_b126_name.keep K131 nin0
      replace E_b129 := E_b129.keep K131
      replace F_b129_token := F_b129_token.keep K131 nin0
      replace F_b129_name := F_b129_name.keep K131 nin0
      replace Zs := Nat.le_trans Zs K131.1
      replace hk := Nat.le_trans hk K131.1
      have Sq_b126 := Safe.keep K131 all0 hR.1 Sf_b126
      replace hR := hR.trans (CHr.keep K131 all0 hR.1)
      replace Sf_b126 := Sq_b126
      refine own_goH (x' := T131.setTop (mkF m 104 #[.val (.int p0), .val (.int p1), .val (.int p2), .val (.int p3), .val (.int p4), .val (.int 3), .val (.int 3), .val (.ref tk100), .val (.ref tk125), .val (.int 0), .val (.ref b126), .val (.int 1)] [(.ref b131)])) st131 ?_
      obtain ⟨cq132, kq132, q132a, q132b, q132c⟩ := isOf hZ rfl E_b131
      obtain ⟨_, _, ⟨T132, L132, k132, n132⟩, -, X132, ⟨Lc132, hQ132, l132, y132, z132⟩, st132⟩ := X131.virtualBack hx (y := (⟨"com/example/lean_bus/leanbus/api/Caller", "isRoot", "()Z"⟩ : MethodName)) (z := (⟨"com/example/lean_bus/leanbus/api/Caller", "isRoot", "()Z"⟩ : MethodName)) hown (mvT hZ (own_w hw 22 rfl)) (mvT hZ (own_w hw 23 rfl)) (notFace_of_selects (args := #[]) (mvT hZ (own_w hw 25 rfl))) (mvT hZ (own_w hw 25 rfl)) (mvT hZ (own_w hw 24 rfl)) (by decide) (backOf (W := 0) (rm5R l Z a0 hw [] b131 tk100 T131.heap n0 Zs F_b131_token) hZ (own_w hw 26 rfl) (own_w hw 6 rfl) (by decide) (by decide)) q132a q132c (g := (mkF m 104 #[.val (.int p0), .val (.int p1), .val (.int p2), .val (.int p3), .val (.int p4), .val (.int 3), .val (.int 3), .val (.ref tk100), .val (.ref tk125), .val (.int 0), .val (.ref b126), .val (.int 1)] [(.ref b131)])) rfl (by rw [hml]; rfl) (Steps.refl _) (argsL := []) (rest := []) (lenOf pd_8 rfl) rfl (by show 2 * 0 + _ ≤ _; exact Nat.le_of_eq rfl) (hb hby at_104) (fun _ _ => ⟨rfl, rfl, (by decide : 9 + 0 ≤ _), (by decide : 22 + 0 ≤ _)⟩)
      dsimp only [Pt.U, Pt.locs, Pt.cells, Pt.slots] at X132 l132 y132 z132 st132 hQ132
      subst l132 y132 z132
      obtain ⟨hv132, Nq132, eq132⟩ := hQ132
      subst hv132
      replace Nf := Fr.app Nf Nq132
      refine own_goH (x' := T132.setTop (mkF m 107 #[.val (.int p0), .val (.int p1), .val (.int p2), .val (.int p3), .val (.int p4), .val (.int 3), .val (.int 3), .val (.ref tk100), .val (.ref tk125), .val (.int 0), .val (.ref b126), .val (.int 1)] [(.int 0)])) (fun _ k => st132.trans k) ?_
      refine own_goH (x' := T132.setTop (mkF m 121 #[.val (.int p0), .val (.int p1), .val (.int p2), .val (.int p3), .val (.int p4), .val (.int 3), .val (.int 3), .val (.ref tk100), .val (.ref tk125), .val (.int 0), .val (.ref b126), .val (.int 1)] [(.int 1)])) (fun _ k => XS.iload X132.here hx rfl (hb hby at_107) rfl (XS.icmpNo X132.here hx rfl (hb hby at_109) rfl (teq rfl).2 (XS.iconst X132.here hx rfl (hb hby at_112) (XS.goto X132.here hx rfl (pc0 := 113) (pc' := 117) rfl (hb hby at_113) (by decide) (by decide) (XS.istore X132.here hx rfl (hb hby at_117) rfl (l' := #[.val (.int p0), .val (.int p1), .val (.int p2), .val (.int p3), .val (.int p4), .val (.int 3), .val (.int 3), .val (.ref tk100), .val (.ref tk125), .val (.int 0), .val (.ref b126), .val (.int 1)]) rfl (XS.iload X132.here hx rfl (hb hby at_119) rfl k)))))) ?_
      refine own_retNH X132 hS (own_hk eq132 hk) (own_hr eq132 hR) hZ (own_EW hw) hx hlk (t := .boolean) hret (by simp) (hb hby at_121) (w := (1 : Int32)) rfl ?_ (by decide) (by decide)
      rw [eq132]
      exact ⟨rfl, Nf⟩
set_option maxRecDepth 65536 in
set_option maxHeartbeats 40000000 in
theorem comes_1 {Post : Tables → Env → Array Value → State → Outcome → State → Prop} (hpost : ∀ tb e args s v u, (limb_1_1.after args s (.returned v) u = true ∧ limb_1_2.after args s (.returned v) u = true ∧ True) → ReturnedEndW s (.returned v) u (Jvm.fieldLocs frame_1_writes args s ++ Jvm.arrayLocs frame_1_arrays args s ++ Jvm.staticLocs frame_1_statics s) 32 1152 → Post tb e args s (.returned v) u) :
    ArmFor flags0 classFile x code maxLocals ret World_1 tables_1 room_1 Calls_1 rest_1 Pre_1 Post := by
  intro l hfl _ _ p e ha hc hk s m args below hf hA hF happ hP
  obtain ⟨hcalls, hrest, hpre⟩ := hP
  obtain ⟨-, -, -, hnamed, -, -, -, hat⟩ := (Spec.applies_iff hf).mp happ
  obtain ⟨hg, hn⟩ := and_e (Cond.before_iff.mp (show (Jvm.Cond.and given_1 narrow_1).before args s = true from hpre))
  obtain ⟨gg1, gg2⟩ := and_e hg
  obtain ⟨gg3, gg4⟩ := and_e gg2
  obtain ⟨gg5, gg6⟩ := and_e gg4
  obtain ⟨gg7, gg8⟩ := and_e gg6
  obtain ⟨gg9, gg10⟩ := and_e gg8
  obtain ⟨w0, w1, w2, w3, w4, rfl⟩ : ∃ w0 w1 w2 w3 w4 : Value, args = #[w0, w1, w2, w3, w4] := by
    have hs : args.size = 5 := by simpa [Cond.value, given_1] using gg1
    obtain ⟨L⟩ := args
    match L, hs with
    | [w0, w1, w2, w3, w4], _ => exact ⟨w0, w1, w2, w3, w4, rfl⟩
  have hw := fun d (hd : d ∈ tables_1) => atoms_spec (ws := Jvm.Cond.code x code maxLocals ret :: tables_1) hat d (List.mem_cons_of_mem _ hd)
  have hfit : Fit s := fun {y c} hc i hi => by
    obtain ⟨ha, rfl⟩ := Array.getElem?_eq_some_iff.mp hc
    have q := List.all_eq_true.mp ((Array.all_eq_true_iff_forall_mem.mp hF) _ (Array.getElem_mem ha)) i (List.mem_range.mpr hi)
    simpa [Array.getElem?_eq_getElem hi] using q
  obtain ⟨hsets, hown0⟩ := atoms_of _ (rest_1_c_eq ▸ (show rest_1_c.before _ s = true from hrest))
  have hr0 := Cond.before_iff.mp hown0
  obtain ⟨i0, ei0⟩ := is_v gg3
  obtain rfl : w0 = (.int i0) := Option.some.inj ei0
  obtain ⟨i1, ei1⟩ := is_v gg5
  obtain rfl : w1 = (.int i1) := Option.some.inj ei1
  obtain ⟨i2, ei2⟩ := is_v gg7
  obtain rfl : w2 = (.int i2) := Option.some.inj ei2
  obtain ⟨i3, ei3⟩ := is_v gg9
  obtain rfl : w3 = (.int i3) := Option.some.inj ei3
  obtain ⟨i4, ei4⟩ := is_v gg10
  obtain rfl : w4 = (.int i4) := Option.some.inj ei4
  have nCS := not_v (Cond.before_iff.mp (hsets _ (List.mem_of_getElem? (i := 2) rfl)))
  obtain ⟨G1, eG1⟩ := is_v (Cond.before_iff.mp (hsets _ (List.mem_of_getElem? (i := 1) rfl)))
  have S_CS : Sta s s.heap "java/lang/String" "COMPACT_STRINGS" "Z" (.int G1) := Sta.start eG1 (Or.inl (hsets _ (List.mem_of_getElem? (i := 0) rfl)))
  have hG : ¬ (G1 = (0 : Int32)) := gotF (Cond.eq_ints eG1 (Term.int_eval (0))) nCS
  have hCH := CHv.start (own_EW hw) (fun p hp => hcalls.1 p hp) (hsets _ (List.mem_of_getElem? (i := 2) rfl)) (own_w hw 52 rfl) (own_w hw 37 rfl)
  obtain ⟨n, o, h1, h2, h3, _, L, rfl, ⟨rfl, N⟩, -, hq⟩ := rm0 l s _ hw tables_1 i0 i1 i2 i3 i4 G1 s.heap s.heap.size (Nat.le_refl _) (Old.start s) S_CS hG p e ha hc hk s m _ below hf ((Spec.applies_iff_loose hf).mp happ).1 ⟨rfl, State.Warmed39.refl s, rfl, hCH⟩ trivial
  refine ⟨n, _, h1, h2, h3, hpost _ _ _ _ _ _ ⟨Cond.after_iff.mpr rfl, Cond.after_iff.mpr (eq_i res_at (Term.int_eval (1)) rfl), trivial⟩ ⟨hq.1, hq.2.1, hq.2.2.1, (hq.2.2.2.sift fun y hy => Or.inr (N y hy)).mono (by decide) (by decide)⟩⟩
theorem main_1_1 : Claimed_1_1 := comes_1 fun _ _ _ _ _ _ h hF => ⟨h.1, hF⟩
theorem main_1_2 : Claimed_1_2 := comes_1 fun _ _ _ _ _ _ h hF => ⟨h.2.1, hF⟩
end Jvm.Pilot.@@N@@
namespace Jvm.Pilot.@@N@@
open Jvm Jvm.ClassFile Sem Op Lib Jvm.Free Jvm.Stand Jvm.Pilot.@@N@@.Jvm.D
/-! MADE BY PROGRAM (witnessworld.py) out of the Statement's table words and the real class files: 21 classes; the members and pool entries that the words name. The judged class is class 1, her method 2. -/
namespace start1
open Jvm.ClassFile
def u (s : String) : CpInfo := .utf8 (stringToUtf16 s)
/-- a pool by its gaps: so many unusable entries, then the entry; so many at the end -/
def gap : Nat → List CpInfo → List CpInfo
  | 0, r => r
  | n + 1, r => .unusable :: gap n r
def poolList (es : List (Nat × CpInfo)) (last : Nat) : List CpInfo := es.foldr (fun e r => gap e.1 (e.2 :: r)) (gap last [])
def pool (es : List (Nat × CpInfo)) (last : Nat) : Array CpInfo := ⟨poolList es last⟩
def fileOf (pool : Array CpInfo) (this : Nat) (attrs : Array Attribute := #[]) (ms : Array MethodInfo := #[]) (fl : Nat := 33) (sup : Nat := 0) (ifs : Array Nat := #[]) (fds : Array FieldInfo := #[]) : ClassFile where
  minorVersion := 0
  majorVersion := 65
  constantPool := pool
  accessFlags := fl
  thisClass := this
  superClass := sup
  interfaces := ifs
  fields := fds
  methods := ms
  attributes := attrs
def plain (name : String) (sup : Option ClassId) : Class where
  name := name
  kind := .ordinary
  loader := none
  accessFlags := 33
  super := sup
  interfaces := #[]
  cf := none
  fields := #[]
  methods := #[]
  instanceTypes := #[]
  staticTypes := #[]
  resolved := #[]
  callSites := []
  init := .initialized
  statics := none
  mirror := none

def pool0 : Array CpInfo := pool [(5, u "<init>"), (0, u "()V"), (1, .class_ 10), (1, u "java/lang/Object")] 113

def k0c0 : Code := { maxStack := 0, maxLocals := 1, code := object_method_1_code, exceptionTable := #[], attributes := #[] }
def k0m0 : Method := { name := "<init>", desc := "()V", sig := { parameters := [], returnType := none }, accessFlags := 1, code := some k0c0 }
/-- java/lang/Object -/
def k0 : Class := { plain "java/lang/Object" none with
  accessFlags := 33
  interfaces := #[]
  cf := some (fileOf pool0 8 #[] #[{ accessFlags := 1, nameIndex := 5, descriptorIndex := 6, attributes := #[] }] 33 0 #[] #[])
  fields := #[]
  methods := #[k0m0]
  instanceTypes := #[]
  staticTypes := #[]
  resolved := Array.replicate 124 none
  statics := none }

def pool1 : Array CpInfo := pool [(2, .class_ 4), (1, u "java/lang/Object"), (0, u "<init>"), (0, u "()V"), (0, .class_ 8), (0, u "java/lang/String"), (0, .methodref 7 10), (0, .nameAndType 5 11), (0, u "([C)V"), (0, .methodref 13 14), (0, .class_ 15), (0, .nameAndType 16 17), (0, u "com/example/lean_bus/leanbus/api/CallerIsRootPinLaw"), (0, u "draw"), (0, u "(III)Ljava/lang/String;"), (0, .class_ 19), (0, u "com/example/lean_bus/leanbus/api/Caller"), (0, .methodref 18 21), (0, .nameAndType 5 22), (0, u "(Ljava/lang/String;Ljava/lang/String;)V"), (0, .methodref 18 24), (0, .nameAndType 25 26), (0, u "isRoot"), (0, u "()Z"), (0, .methodref 18 28), (0, .nameAndType 29 30), (0, u "root"), (0, u "()Lcom/example/lean_bus/leanbus/api/Caller;"), (0, .methodref 18 32), (0, .nameAndType 33 34), (0, u "unchecked"), (0, u "(Ljava/lang/String;)Lcom/example/lean_bus/leanbus/api/Caller;"), (3, u "law"), (0, u "(IIIII)Z")] 2

def k1m0 : Method := { name := "<init>", desc := "()V", sig := { parameters := [], returnType := none }, accessFlags := 1, code := none }
def k1c1 : Code := { maxStack := 4, maxLocals := 4, code := method_2_code, exceptionTable := #[], attributes := #[] }
def k1m1 : Method := { name := "draw", desc := "(III)Ljava/lang/String;", sig := { parameters := [.int, .int, .int], returnType := some (.object "java/lang/String") }, accessFlags := 10, code := some k1c1 }
def k1c2 : Code := { maxStack := 4, maxLocals := 12, code := code, exceptionTable := #[], attributes := #[] }
def k1m2 : Method := { name := "law", desc := "(IIIII)Z", sig := { parameters := [.int, .int, .int, .int, .int], returnType := some .boolean }, accessFlags := 9, code := some k1c2 }
/-- com/example/lean_bus/leanbus/api/CallerIsRootPinLaw -/
def k1 : Class := { plain "com/example/lean_bus/leanbus/api/CallerIsRootPinLaw" (some 0) with
  accessFlags := 49
  interfaces := #[]
  cf := some (fileOf pool1 13 #[] #[{ accessFlags := 1, nameIndex := 5, descriptorIndex := 6, attributes := #[] }, { accessFlags := 10, nameIndex := 16, descriptorIndex := 17, attributes := #[] }, { accessFlags := 9, nameIndex := 38, descriptorIndex := 39, attributes := #[] }] 49 2 #[] #[])
  fields := #[]
  methods := #[k1m0, k1m1, k1m2]
  instanceTypes := #[]
  staticTypes := #[]
  resolved := Array.replicate 42 none
  statics := none }

def pool2 : Array CpInfo := pool [(1, .methodref 2 3), (0, .class_ 4), (0, .nameAndType 5 6), (0, u "java/lang/Object"), (0, u "<init>"), (0, u "()V"), (0, .class_ 8), (0, u "java/lang/Record")] 13

def k2c0 : Code := { maxStack := 1, maxLocals := 1, code := jdk_30_method_1_code, exceptionTable := #[], attributes := #[] }
def k2m0 : Method := { name := "<init>", desc := "()V", sig := { parameters := [], returnType := none }, accessFlags := 4, code := some k2c0 }
/-- java/lang/Record -/
def k2 : Class := { plain "java/lang/Record" (some 0) with
  accessFlags := 1057
  interfaces := #[]
  cf := some (fileOf pool2 7 #[] #[{ accessFlags := 4, nameIndex := 5, descriptorIndex := 6, attributes := #[] }] 1057 2 #[] #[])
  fields := #[]
  methods := #[k2m0]
  instanceTypes := #[]
  staticTypes := #[]
  resolved := Array.replicate 22 none
  statics := none }

def pool3 : Array CpInfo := pool [(1, .methodref 2 3), (0, .class_ 4), (0, .nameAndType 5 6), (0, u "java/lang/Record"), (0, u "<init>"), (0, u "()V"), (0, .fieldref 8 9), (0, .class_ 10), (0, .nameAndType 11 12), (0, u "com/example/lean_bus/leanbus/api/Caller"), (0, u "token"), (0, u "Ljava/lang/String;"), (0, .fieldref 8 14), (0, .nameAndType 15 12), (0, u "name"), (0, .methodref 8 17), (0, .nameAndType 5 18), (0, u "(Ljava/lang/String;Ljava/lang/String;)V"), (2, u "isRoot"), (0, u "()Z"), (17, u "root"), (0, u "()Lcom/example/lean_bus/leanbus/api/Caller;"), (0, u "unchecked"), (0, u "(Ljava/lang/String;)Lcom/example/lean_bus/leanbus/api/Caller;")] 37

def k3c0 : Code := { maxStack := 2, maxLocals := 3, code := prog_2_method_1_code, exceptionTable := #[], attributes := #[] }
def k3m0 : Method := { name := "<init>", desc := "(Ljava/lang/String;Ljava/lang/String;)V", sig := { parameters := [(.object "java/lang/String"), (.object "java/lang/String")], returnType := none }, accessFlags := 0, code := some k3c0 }
def k3c1 : Code := { maxStack := 4, maxLocals := 0, code := prog_2_method_2_code, exceptionTable := #[], attributes := #[] }
def k3m1 : Method := { name := "root", desc := "()Lcom/example/lean_bus/leanbus/api/Caller;", sig := { parameters := [], returnType := some (.object "com/example/lean_bus/leanbus/api/Caller") }, accessFlags := 8, code := some k3c1 }
def k3c2 : Code := { maxStack := 4, maxLocals := 1, code := prog_2_method_3_code, exceptionTable := #[], attributes := #[] }
def k3m2 : Method := { name := "unchecked", desc := "(Ljava/lang/String;)Lcom/example/lean_bus/leanbus/api/Caller;", sig := { parameters := [(.object "java/lang/String")], returnType := some (.object "com/example/lean_bus/leanbus/api/Caller") }, accessFlags := 8, code := some k3c2 }
def k3c3 : Code := { maxStack := 1, maxLocals := 1, code := prog_2_method_4_code, exceptionTable := #[], attributes := #[] }
def k3m3 : Method := { name := "isRoot", desc := "()Z", sig := { parameters := [], returnType := some .boolean }, accessFlags := 0, code := some k3c3 }
/-- com/example/lean_bus/leanbus/api/Caller -/
def k3 : Class := { plain "com/example/lean_bus/leanbus/api/Caller" (some 2) with
  accessFlags := 48
  interfaces := #[]
  cf := some (fileOf pool3 8 #[] #[{ accessFlags := 0, nameIndex := 5, descriptorIndex := 18, attributes := #[] }, { accessFlags := 8, nameIndex := 40, descriptorIndex := 41, attributes := #[] }, { accessFlags := 8, nameIndex := 42, descriptorIndex := 43, attributes := #[] }, { accessFlags := 0, nameIndex := 21, descriptorIndex := 22, attributes := #[] }] 48 2 #[] #[{ accessFlags := 18, nameIndex := 11, descriptorIndex := 12, attributes := #[] }, { accessFlags := 18, nameIndex := 15, descriptorIndex := 12, attributes := #[] }])
  fields := #[{ name := "token", type := (.object "java/lang/String"), accessFlags := 18, slot := 0, constantValue := 0 }, { name := "name", type := (.object "java/lang/String"), accessFlags := 18, slot := 1, constantValue := 0 }]
  methods := #[k3m0, k3m1, k3m2, k3m3]
  instanceTypes := #[(.object "java/lang/String"), (.object "java/lang/String")]
  staticTypes := #[]
  resolved := Array.replicate 81 none
  statics := none }

def pool4 : Array CpInfo := pool [(1, .class_ 2), (0, u "java/io/Serializable"), (0, .class_ 4), (0, u "java/lang/Object")] 2

/-- java/io/Serializable -/
def k4 : Class := { plain "java/io/Serializable" (some 0) with
  accessFlags := 1537
  interfaces := #[]
  cf := some (fileOf pool4 1 #[] #[] 1537 3 #[] #[])
  fields := #[]
  methods := #[]
  instanceTypes := #[]
  staticTypes := #[]
  resolved := Array.replicate 7 none
  statics := none }

def pool5 : Array CpInfo := pool [(1, .class_ 2), (0, u "java/lang/Comparable"), (0, .class_ 4), (0, u "java/lang/Object")] 7

/-- java/lang/Comparable -/
def k5 : Class := { plain "java/lang/Comparable" (some 0) with
  accessFlags := 1537
  interfaces := #[]
  cf := some (fileOf pool5 1 #[] #[] 1537 3 #[] #[])
  fields := #[]
  methods := #[]
  instanceTypes := #[]
  staticTypes := #[]
  resolved := Array.replicate 12 none
  statics := none }

def pool6 : Array CpInfo := pool [(2, .class_ 4), (1, u "java/lang/CharSequence"), (42, .class_ 48), (0, u "java/lang/CharSequence$1CodePointIterator"), (10, .class_ 60), (0, u "java/lang/CharSequence$1CharIterator"), (5, .class_ 67), (0, u "java/lang/Object")] 63

/-- java/lang/CharSequence -/
def k6 : Class := { plain "java/lang/CharSequence" (some 0) with
  accessFlags := 1537
  interfaces := #[]
  cf := some (fileOf pool6 2 #[.nestMembers #[47, 59]] #[] 1537 66 #[] #[])
  fields := #[]
  methods := #[]
  instanceTypes := #[]
  staticTypes := #[]
  resolved := Array.replicate 131 none
  statics := none }

def pool7 : Array CpInfo := pool [(1, .class_ 2), (0, u "java/lang/constant/Constable"), (0, .class_ 4), (0, u "java/lang/Object")] 6

/-- java/lang/constant/Constable -/
def k7 : Class := { plain "java/lang/constant/Constable" (some 0) with
  accessFlags := 1537
  interfaces := #[]
  cf := some (fileOf pool7 1 #[] #[] 1537 3 #[] #[])
  fields := #[]
  methods := #[]
  instanceTypes := #[]
  staticTypes := #[]
  resolved := Array.replicate 11 none
  statics := none }

def pool8 : Array CpInfo := pool [(1, .class_ 2), (0, u "java/lang/constant/ConstantDesc"), (0, .class_ 4), (0, u "java/lang/Object")] 32

/-- java/lang/constant/ConstantDesc -/
def k8 : Class := { plain "java/lang/constant/ConstantDesc" (some 0) with
  accessFlags := 1537
  interfaces := #[]
  cf := some (fileOf pool8 1 #[] #[] 1537 3 #[] #[])
  fields := #[]
  methods := #[]
  instanceTypes := #[]
  staticTypes := #[]
  resolved := Array.replicate 37 none
  statics := none }

def pool9 : Array CpInfo := pool [(1, .methodref 2 3), (0, .class_ 4), (0, .nameAndType 5 6), (0, u "java/lang/Object"), (0, u "<init>"), (0, u "()V"), (0, .string 8), (0, u ""), (0, .fieldref 10 11), (0, .class_ 12), (0, .nameAndType 13 14), (0, u "java/lang/String"), (0, u "value"), (0, u "[B"), (0, .fieldref 10 16), (0, .nameAndType 17 18), (0, u "coder"), (0, u "B"), (2, u "hash"), (0, u "I"), (2, u "hashIsZero"), (0, u "Z"), (0, .methodref 10 28), (0, .nameAndType 5 29), (0, u "([CIILjava/lang/Void;)V"), (8, .fieldref 10 39), (0, .nameAndType 40 26), (0, u "COMPACT_STRINGS"), (1, .class_ 44), (1, u "java/lang/StringUTF16"), (0, u "compress"), (1, .methodref 42 48), (0, .nameAndType 49 50), (0, u "coderFromArrayLen"), (0, u "([BI)B"), (126, .methodref 42 178), (0, .nameAndType 45 179), (0, u "([CII)[B"), (395, .class_ 576), (0, u "java/lang/CharSequence"), (22, u "CASE_INSENSITIVE_ORDER"), (0, u "Ljava/util/Comparator;"), (409, u "([C)V"), (90, u "serialPersistentFields"), (0, u "[Ljava/io/ObjectStreamField;"), (0, .class_ 1104), (0, u "java/lang/String$CaseInsensitiveComparator"), (1, .class_ 1107), (0, u "java/io/Serializable"), (0, .class_ 1109), (0, u "java/lang/Comparable"), (0, .class_ 1111), (0, u "java/lang/constant/Constable"), (0, .class_ 1113), (0, u "java/lang/constant/ConstantDesc"), (2, u "serialVersionUID"), (0, u "J"), (3, u "REPL"), (0, u "C"), (2, u "LATIN1"), (1, u "UTF16")] 323

def k9m0 : Method := { name := "<init>", desc := "()V", sig := { parameters := [], returnType := none }, accessFlags := 1, code := none }
def k9c1 : Code := { maxStack := 5, maxLocals := 2, code := jdk_42_method_3_code, exceptionTable := #[], attributes := #[] }
def k9m1 : Method := { name := "<init>", desc := "([C)V", sig := { parameters := [(.array .char)], returnType := none }, accessFlags := 1, code := some k9c1 }
def k9c2 : Code := { maxStack := 4, maxLocals := 6, code := jdk_42_method_149_code, exceptionTable := #[], attributes := #[] }
def k9m2 : Method := { name := "<init>", desc := "([CIILjava/lang/Void;)V", sig := { parameters := [(.array .char), .int, .int, (.object "java/lang/Void")], returnType := none }, accessFlags := 2, code := some k9c2 }
/-- java/lang/String -/
def k9 : Class := { plain "java/lang/String" (some 0) with
  accessFlags := 49
  interfaces := #[4, 5, 6, 7, 8]
  cf := some (fileOf pool9 10 #[.nestMembers #[1103]] #[{ accessFlags := 1, nameIndex := 5, descriptorIndex := 6, attributes := #[] }, { accessFlags := 1, nameIndex := 5, descriptorIndex := 1010, attributes := #[] }, { accessFlags := 2, nameIndex := 5, descriptorIndex := 29, attributes := #[] }] 49 2 #[1106, 1108, 575, 1110, 1112] #[{ accessFlags := 18, nameIndex := 13, descriptorIndex := 14, attributes := #[] }, { accessFlags := 18, nameIndex := 17, descriptorIndex := 18, attributes := #[] }, { accessFlags := 2, nameIndex := 21, descriptorIndex := 22, attributes := #[] }, { accessFlags := 2, nameIndex := 25, descriptorIndex := 26, attributes := #[] }, { accessFlags := 26, nameIndex := 1116, descriptorIndex := 1117, attributes := #[] }, { accessFlags := 24, nameIndex := 40, descriptorIndex := 26, attributes := #[] }, { accessFlags := 26, nameIndex := 1101, descriptorIndex := 1102, attributes := #[] }, { accessFlags := 26, nameIndex := 1121, descriptorIndex := 1122, attributes := #[] }, { accessFlags := 25, nameIndex := 599, descriptorIndex := 600, attributes := #[] }, { accessFlags := 24, nameIndex := 1125, descriptorIndex := 18, attributes := #[] }, { accessFlags := 24, nameIndex := 1127, descriptorIndex := 18, attributes := #[] }])
  fields := #[{ name := "value", type := (.array .byte), accessFlags := 18, slot := 0, constantValue := 0 }, { name := "coder", type := .byte, accessFlags := 18, slot := 1, constantValue := 0 }, { name := "hash", type := .int, accessFlags := 2, slot := 2, constantValue := 0 }, { name := "hashIsZero", type := .boolean, accessFlags := 2, slot := 3, constantValue := 0 }, { name := "serialVersionUID", type := .long, accessFlags := 26, slot := 0, constantValue := 0 }, { name := "COMPACT_STRINGS", type := .boolean, accessFlags := 24, slot := 1, constantValue := 0 }, { name := "serialPersistentFields", type := (.array (.object "java/io/ObjectStreamField")), accessFlags := 26, slot := 2, constantValue := 0 }, { name := "REPL", type := .char, accessFlags := 26, slot := 3, constantValue := 0 }, { name := "CASE_INSENSITIVE_ORDER", type := (.object "java/util/Comparator"), accessFlags := 25, slot := 4, constantValue := 0 }, { name := "LATIN1", type := .byte, accessFlags := 24, slot := 5, constantValue := 0 }, { name := "UTF16", type := .byte, accessFlags := 24, slot := 6, constantValue := 0 }]
  methods := #[k9m0, k9m1, k9m2]
  instanceTypes := #[(.array .byte), .byte, .int, .boolean]
  staticTypes := #[.long, .boolean, (.array (.object "java/io/ObjectStreamField")), .char, (.object "java/util/Comparator"), .byte, .byte]
  resolved := Array.replicate 1451 none
  statics := some 0 }

def pool10 : Array CpInfo := pool [(6, .class_ 8), (1, u "java/lang/Object"), (0, u "<init>"), (0, u "()V"), (1, .class_ 14), (1, u "java/lang/StringUTF16"), (31, u "$assertionsDisabled"), (0, u "Z"), (13, u "HI_BYTE_SHIFT"), (0, u "I"), (2, u "LO_BYTE_SHIFT"), (49, .methodref 12 116), (0, .nameAndType 117 118), (0, u "compress"), (0, u "([CI[BII)I"), (3, u "([CII)[B"), (138, u "coderFromArrayLen"), (0, u "([BI)B"), (106, .class_ 371), (1, u "java/lang/StringUTF16$LinesSpliterator"), (58, u "MAX_LENGTH"), (196, .class_ 628), (0, u "java/lang/StringUTF16$CodePointsSpliterator"), (0, .class_ 630), (0, u "java/lang/StringUTF16$CharsSpliterator")] 4

def k10m0 : Method := { name := "<init>", desc := "()V", sig := { parameters := [], returnType := none }, accessFlags := 0, code := none }
def k10c1 : Code := { maxStack := 2, maxLocals := 2, code := jdk_52_method_15_code, exceptionTable := #[], attributes := #[] }
def k10m1 : Method := { name := "coderFromArrayLen", desc := "([BI)B", sig := { parameters := [(.array .byte), .int], returnType := some .byte }, accessFlags := 8, code := some k10c1 }
def k10c2 : Code := { maxStack := 5, maxLocals := 6, code := jdk_52_method_16_code, exceptionTable := #[], attributes := #[] }
def k10m2 : Method := { name := "compress", desc := "([CII)[B", sig := { parameters := [(.array .char), .int, .int], returnType := some (.array .byte) }, accessFlags := 9, code := some k10c2 }
def k10c3 : Code := { maxStack := 3, maxLocals := 7, code := jdk_52_method_21_code, exceptionTable := #[], attributes := #[] }
def k10m3 : Method := { name := "compress", desc := "([CI[BII)I", sig := { parameters := [(.array .char), .int, (.array .byte), .int, .int], returnType := some .int }, accessFlags := 9, code := some k10c3 }
/-- java/lang/StringUTF16 -/
def k10 : Class := { plain "java/lang/StringUTF16" (some 0) with
  accessFlags := 48
  interfaces := #[]
  cf := some (fileOf pool10 12 #[.nestMembers #[627, 629, 369]] #[{ accessFlags := 0, nameIndex := 9, descriptorIndex := 10, attributes := #[] }, { accessFlags := 8, nameIndex := 261, descriptorIndex := 262, attributes := #[] }, { accessFlags := 9, nameIndex := 117, descriptorIndex := 122, attributes := #[] }, { accessFlags := 9, nameIndex := 117, descriptorIndex := 118, attributes := #[] }] 48 6 #[] #[{ accessFlags := 26, nameIndex := 61, descriptorIndex := 62, attributes := #[] }, { accessFlags := 26, nameIndex := 65, descriptorIndex := 62, attributes := #[] }, { accessFlags := 24, nameIndex := 430, descriptorIndex := 62, attributes := #[] }, { accessFlags := 4120, nameIndex := 46, descriptorIndex := 47, attributes := #[] }])
  fields := #[{ name := "HI_BYTE_SHIFT", type := .int, accessFlags := 26, slot := 0, constantValue := 0 }, { name := "LO_BYTE_SHIFT", type := .int, accessFlags := 26, slot := 1, constantValue := 0 }, { name := "MAX_LENGTH", type := .int, accessFlags := 24, slot := 2, constantValue := 0 }, { name := "$assertionsDisabled", type := .boolean, accessFlags := 4120, slot := 3, constantValue := 0 }]
  methods := #[k10m0, k10m1, k10m2, k10m3]
  instanceTypes := #[]
  staticTypes := #[.int, .int, .int, .boolean]
  resolved := Array.replicate 635 none
  statics := none }

def pool11 : Array CpInfo := pool [(4, .class_ 6), (1, u "java/lang/Object"), (0, u "<init>"), (0, u "()V"), (5, .class_ 16), (1, u "java/lang/StringLatin1"), (104, u "$assertionsDisabled"), (0, u "Z"), (98, .class_ 223), (1, u "java/lang/StringLatin1$LinesSpliterator"), (166, .class_ 391), (0, u "java/lang/StringLatin1$CharsSpliterator")] 3

def k11m0 : Method := { name := "<init>", desc := "()V", sig := { parameters := [], returnType := none }, accessFlags := 0, code := none }
/-- java/lang/StringLatin1 -/
def k11 : Class := { plain "java/lang/StringLatin1" (some 0) with
  accessFlags := 48
  interfaces := #[]
  cf := some (fileOf pool11 14 #[.nestMembers #[390, 221]] #[{ accessFlags := 0, nameIndex := 7, descriptorIndex := 8, attributes := #[] }] 48 4 #[] #[{ accessFlags := 4120, nameIndex := 121, descriptorIndex := 122, attributes := #[] }])
  fields := #[{ name := "$assertionsDisabled", type := .boolean, accessFlags := 4120, slot := 0, constantValue := 0 }]
  methods := #[k11m0]
  instanceTypes := #[]
  staticTypes := #[.boolean]
  resolved := Array.replicate 395 none
  statics := none }

def pool12 : Array CpInfo := pool [(2, .class_ 4), (1, u "java/lang/Object"), (0, u "<init>"), (0, u "()V"), (17, .class_ 26), (1, u "jdk/internal/util/Preconditions"), (28, .class_ 56), (0, u "jdk/internal/util/Preconditions$4"), (57, .class_ 115), (0, u "jdk/internal/util/Preconditions$1"), (7, u "SIOOBE_FORMATTER"), (0, u "Ljava/util/function/BiFunction;"), (0, .class_ 126), (0, u "jdk/internal/util/Preconditions$2"), (3, u "AIOOBE_FORMATTER"), (0, .class_ 132), (0, u "jdk/internal/util/Preconditions$3"), (3, u "IOOBE_FORMATTER")] 57

def k12m0 : Method := { name := "<init>", desc := "()V", sig := { parameters := [], returnType := none }, accessFlags := 1, code := none }
/-- jdk/internal/util/Preconditions -/
def k12 : Class := { plain "jdk/internal/util/Preconditions" (some 0) with
  accessFlags := 33
  interfaces := #[]
  cf := some (fileOf pool12 24 #[.nestMembers #[55, 131, 125, 114]] #[{ accessFlags := 1, nameIndex := 5, descriptorIndex := 6, attributes := #[] }] 33 2 #[] #[{ accessFlags := 25, nameIndex := 123, descriptorIndex := 124, attributes := #[] }, { accessFlags := 25, nameIndex := 130, descriptorIndex := 124, attributes := #[] }, { accessFlags := 25, nameIndex := 136, descriptorIndex := 124, attributes := #[] }])
  fields := #[{ name := "SIOOBE_FORMATTER", type := (.object "java/util/function/BiFunction"), accessFlags := 25, slot := 0, constantValue := 0 }, { name := "AIOOBE_FORMATTER", type := (.object "java/util/function/BiFunction"), accessFlags := 25, slot := 1, constantValue := 0 }, { name := "IOOBE_FORMATTER", type := (.object "java/util/function/BiFunction"), accessFlags := 25, slot := 2, constantValue := 0 }]
  methods := #[k12m0]
  instanceTypes := #[]
  staticTypes := #[(.object "java/util/function/BiFunction"), (.object "java/util/function/BiFunction"), (.object "java/util/function/BiFunction")]
  resolved := Array.replicate 194 none
  statics := some 1 }

def pool13 : Array CpInfo := pool [(9, u "<init>"), (6, .class_ 18), (1, u "java/lang/Object"), (0, u "()V"), (1, .class_ 23), (1, u "jdk/internal/util/ArraysSupport"), (0, u "LOG2_ARRAY_LONG_INDEX_SCALE"), (0, u "I"), (2, u "U"), (0, u "Ljdk/internal/misc/Unsafe;"), (8, u "BIG_ENDIAN"), (0, u "Z"), (8, u "LOG2_BYTE_BIT_SIZE"), (4, u "LOG2_ARRAY_INT_INDEX_SCALE"), (54, u "JLA"), (0, u "Ljdk/internal/access/JavaLangAccess;"), (11, u "LOG2_ARRAY_BOOLEAN_INDEX_SCALE"), (9, u "LOG2_ARRAY_BYTE_INDEX_SCALE"), (5, u "LOG2_ARRAY_CHAR_INDEX_SCALE"), (5, u "LOG2_ARRAY_SHORT_INDEX_SCALE"), (18, u "LOG2_ARRAY_FLOAT_INDEX_SCALE"), (24, u "LOG2_ARRAY_DOUBLE_INDEX_SCALE"), (89, u "T_BOOLEAN"), (2, u "T_CHAR"), (1, u "T_FLOAT"), (1, u "T_DOUBLE"), (1, u "T_BYTE"), (1, u "T_SHORT"), (1, u "T_INT"), (1, u "T_LONG"), (1, u "SOFT_MAX_ARRAY_LENGTH")] 83

def k13m0 : Method := { name := "<init>", desc := "()V", sig := { parameters := [], returnType := none }, accessFlags := 2, code := none }
/-- jdk/internal/util/ArraysSupport -/
def k13 : Class := { plain "jdk/internal/util/ArraysSupport" (some 0) with
  accessFlags := 33
  interfaces := #[]
  cf := some (fileOf pool13 21 #[] #[{ accessFlags := 2, nameIndex := 9, descriptorIndex := 19, attributes := #[] }] 33 16 #[] #[{ accessFlags := 24, nameIndex := 28, descriptorIndex := 29, attributes := #[] }, { accessFlags := 26, nameIndex := 38, descriptorIndex := 39, attributes := #[] }, { accessFlags := 25, nameIndex := 121, descriptorIndex := 25, attributes := #[] }, { accessFlags := 25, nameIndex := 131, descriptorIndex := 25, attributes := #[] }, { accessFlags := 25, nameIndex := 137, descriptorIndex := 25, attributes := #[] }, { accessFlags := 25, nameIndex := 143, descriptorIndex := 25, attributes := #[] }, { accessFlags := 25, nameIndex := 53, descriptorIndex := 25, attributes := #[] }, { accessFlags := 25, nameIndex := 24, descriptorIndex := 25, attributes := #[] }, { accessFlags := 25, nameIndex := 162, descriptorIndex := 25, attributes := #[] }, { accessFlags := 25, nameIndex := 187, descriptorIndex := 25, attributes := #[] }, { accessFlags := 26, nameIndex := 48, descriptorIndex := 25, attributes := #[] }, { accessFlags := 25, nameIndex := 277, descriptorIndex := 25, attributes := #[] }, { accessFlags := 25, nameIndex := 280, descriptorIndex := 25, attributes := #[] }, { accessFlags := 25, nameIndex := 282, descriptorIndex := 25, attributes := #[] }, { accessFlags := 25, nameIndex := 284, descriptorIndex := 25, attributes := #[] }, { accessFlags := 25, nameIndex := 286, descriptorIndex := 25, attributes := #[] }, { accessFlags := 25, nameIndex := 288, descriptorIndex := 25, attributes := #[] }, { accessFlags := 25, nameIndex := 290, descriptorIndex := 25, attributes := #[] }, { accessFlags := 25, nameIndex := 292, descriptorIndex := 25, attributes := #[] }, { accessFlags := 26, nameIndex := 108, descriptorIndex := 109, attributes := #[] }, { accessFlags := 25, nameIndex := 294, descriptorIndex := 25, attributes := #[] }])
  fields := #[{ name := "U", type := (.object "jdk/internal/misc/Unsafe"), accessFlags := 24, slot := 0, constantValue := 0 }, { name := "BIG_ENDIAN", type := .boolean, accessFlags := 26, slot := 1, constantValue := 0 }, { name := "LOG2_ARRAY_BOOLEAN_INDEX_SCALE", type := .int, accessFlags := 25, slot := 2, constantValue := 0 }, { name := "LOG2_ARRAY_BYTE_INDEX_SCALE", type := .int, accessFlags := 25, slot := 3, constantValue := 0 }, { name := "LOG2_ARRAY_CHAR_INDEX_SCALE", type := .int, accessFlags := 25, slot := 4, constantValue := 0 }, { name := "LOG2_ARRAY_SHORT_INDEX_SCALE", type := .int, accessFlags := 25, slot := 5, constantValue := 0 }, { name := "LOG2_ARRAY_INT_INDEX_SCALE", type := .int, accessFlags := 25, slot := 6, constantValue := 0 }, { name := "LOG2_ARRAY_LONG_INDEX_SCALE", type := .int, accessFlags := 25, slot := 7, constantValue := 0 }, { name := "LOG2_ARRAY_FLOAT_INDEX_SCALE", type := .int, accessFlags := 25, slot := 8, constantValue := 0 }, { name := "LOG2_ARRAY_DOUBLE_INDEX_SCALE", type := .int, accessFlags := 25, slot := 9, constantValue := 0 }, { name := "LOG2_BYTE_BIT_SIZE", type := .int, accessFlags := 26, slot := 10, constantValue := 0 }, { name := "T_BOOLEAN", type := .int, accessFlags := 25, slot := 11, constantValue := 0 }, { name := "T_CHAR", type := .int, accessFlags := 25, slot := 12, constantValue := 0 }, { name := "T_FLOAT", type := .int, accessFlags := 25, slot := 13, constantValue := 0 }, { name := "T_DOUBLE", type := .int, accessFlags := 25, slot := 14, constantValue := 0 }, { name := "T_BYTE", type := .int, accessFlags := 25, slot := 15, constantValue := 0 }, { name := "T_SHORT", type := .int, accessFlags := 25, slot := 16, constantValue := 0 }, { name := "T_INT", type := .int, accessFlags := 25, slot := 17, constantValue := 0 }, { name := "T_LONG", type := .int, accessFlags := 25, slot := 18, constantValue := 0 }, { name := "JLA", type := (.object "jdk/internal/access/JavaLangAccess"), accessFlags := 26, slot := 19, constantValue := 0 }, { name := "SOFT_MAX_ARRAY_LENGTH", type := .int, accessFlags := 25, slot := 20, constantValue := 0 }]
  methods := #[k13m0]
  instanceTypes := #[]
  staticTypes := #[(.object "jdk/internal/misc/Unsafe"), .boolean, .int, .int, .int, .int, .int, .int, .int, .int, .int, .int, .int, .int, .int, .int, .int, .int, .int, (.object "jdk/internal/access/JavaLangAccess"), .int]
  resolved := Array.replicate 378 none
  statics := none }

def pool14 : Array CpInfo := pool [(1, u "java/lang/Cloneable"), (0, .class_ 1), (0, u "java/lang/Object"), (0, .class_ 3)] 3

/-- java/lang/Cloneable -/
def k14 : Class := { plain "java/lang/Cloneable" (some 0) with
  accessFlags := 1537
  interfaces := #[]
  cf := some (fileOf pool14 2 #[] #[] 1537 4 #[] #[])
  fields := #[]
  methods := #[]
  instanceTypes := #[]
  staticTypes := #[]
  resolved := Array.replicate 8 none
  statics := none }

/-- the primitive byte -/
def k15 : Class := { plain "byte" none with kind := .primitive 'B', accessFlags := 0x411 }
/-- [B -/
def k16 : Class := { plain "[B" (some 0) with kind := .array 15 .byte, interfaces := #[14, 4], accessFlags := 1041 }

/-- the primitive char -/
def k17 : Class := { plain "char" none with kind := .primitive 'C', accessFlags := 0x411 }
/-- [C -/
def k18 : Class := { plain "[C" (some 0) with kind := .array 17 .char, interfaces := #[14, 4], accessFlags := 1041 }

/-- the primitive int -/
def k19 : Class := { plain "int" none with kind := .primitive 'I', accessFlags := 0x411 }
/-- [I -/
def k20 : Class := { plain "[I" (some 0) with kind := .array 19 .int, interfaces := #[14, 4], accessFlags := 1041 }

def heap : Heap := #[{ cls := 9, slots := #[.long 0, .int 1, .null, .int 0, .null, .int 0, .int 0], vm := .statics 9 },
  { cls := 12, slots := #[.null, .null, .null], vm := .statics 12 }]
def classes : Array Class := #[k0, k1, k2, k3, k4, k5, k6, k7, k8, k9, k10, k11, k12, k13, k14, k15, k16, k17, k18, k19, k20]
def interned : List (Array UInt16 × Addr) := []
def slotsUsed : Nat := 10
def theMethod : MethodId := ⟨1, 2⟩
def args0 : Array Value := #[.int 3, .int 4, .int 5, .int 6, .int 7]
def aboutOver (below : List Frame) : State where
  vm := { classes := classes, interned := interned.toArray }
  heap := heap
  slotsUsed := slotsUsed
  threads := #[{ frames := .invoking theMethod args0 :: below }]
def below0 : List Frame := [.native { method := ⟨0, 0⟩, args := #[] }]
def about1 : State := aboutOver below0
def p0 : Program := .bare "" "" ""
def e0 : Env := launch0.env 0 0 0
theorem w_frames : about1.frames = Frame.invoking theMethod args0 :: below0 := rfl
set_option maxRecDepth 65536 in
theorem w_args : argsFit about1.vm theMethod args0 = true := by decide +kernel
set_option maxRecDepth 65536 in
theorem w_heap : heapFits about1 = true := by decide +kernel
set_option maxRecDepth 65536 in
theorem w_runnable : about1.curStatus? = some .runnable := by decide +kernel
set_option maxRecDepth 65536 in
theorem w_alone : about1.alone = true := by decide +kernel
set_option maxRecDepth 65536 in
theorem w_named : about1.methodNamed? x = some theMethod := by decide +kernel
set_option maxRecDepth 65536 in
theorem w_hears : about1.hears theMethod below0 = true := by decide +kernel
set_option maxRecDepth 65536 in
theorem w_ripe : about1.ripe theMethod args0 below0 = true := by decide +kernel
theorem w_running : about1.status = .running := rfl
set_option maxRecDepth 65536 in
theorem w_room : about1.hasRoom e0.platform room_1 = true :=
  launch0.hasRoom_least _ room_1 (by decide +kernel) (by decide +kernel) (by decide +kernel) (by decide +kernel) (by decide +kernel) (by decide +kernel)
theorem allAtoms_all (ts : List Jvm.Cond) (a : Array Jvm.Value) (st : Jvm.State) : (allAtoms ts).before a st = ts.all (fun c => c.before a st) := by
  induction ts with
  | nil => rfl
  | cons c t ih =>
    show (Jvm.Cond.and c (allAtoms t)).before a st = _
    rw [Jvm.Cond.before_and, ih, List.all_cons]
def words1 : List Jvm.Cond := Jvm.Cond.code x code maxLocals ret :: tables_1
/-- a 'code' word, met by the world's own term for the bytes: nothing is compared byte by byte -/
theorem code_word {y : MethodName} {bytes : ByteArray} {mx : Nat} {rt : Option FieldType} {a : Array Value} {s : State} {m : MethodId} {meth : Method} {c : Code} (h1 : s.methodNamed? y = some m) (h2 : s.vm.method? m = some meth) (h3 : meth.code = some c) (h4 : c.code = bytes)
    (h5 : (c.maxLocals == mx && c.exceptionTable.isEmpty && decide (c.maxStack ≤ mostOperands) && decide (meth.sig.returnType = rt) && !meth.locks && decide (parseMethodDescriptor y.desc = some meth.sig)) = true) : (Jvm.Cond.code y bytes mx rt).before a s = true := by
  simp only [Bool.and_eq_true, beq_iff_eq, Bool.not_eq_true', decide_eq_true_eq] at h5
  obtain ⟨⟨⟨⟨⟨g1, g2⟩, g3⟩, g4⟩, g5⟩, g6⟩ := h5
  simp [Cond.before, Cond.holds, Cond.value, h1, h2, h3, h4, g1, g2, g3, g4, g5, g6]
def isCode : Jvm.Cond → Bool
  | .code _ _ _ _ => true
  | _ => false
theorem all_split {L : List Jvm.Cond} {P : Jvm.Cond → Bool} (h1 : L.all (fun c => isCode c || P c) = true) (h2 : ∀ c ∈ L.filter isCode, P c = true) : L.all P = true := by
  refine List.all_eq_true.mpr fun c hc => ?_
  have h := List.all_eq_true.mp h1 c hc
  rcases Bool.eq_false_or_eq_true (isCode c) with hi | hi
  · exact h2 c (List.mem_filter.mpr ⟨hc, hi⟩)
  · simpa [hi] using h
set_option maxRecDepth 65536 in
theorem w_c0 : (Jvm.Cond.code x code maxLocals ret).before args0 about1 = true := code_word (m := ⟨1, 2⟩) (meth := k1m2) (c := k1c2) (by decide +kernel) rfl rfl rfl (by decide +kernel)
set_option maxRecDepth 65536 in
theorem w_c1 : (Jvm.Cond.code ({ cls := "com/example/lean_bus/leanbus/api/CallerIsRootPinLaw", name := "draw", desc := "(III)Ljava/lang/String;" } : Jvm.MethodName) method_2_code (4 : Nat) (Option.some (Jvm.ClassFile.FieldType.object "java/lang/String"))).before args0 about1 = true := code_word (m := ⟨1, 1⟩) (meth := k1m1) (c := k1c1) (by decide +kernel) rfl rfl rfl (by decide +kernel)
set_option maxRecDepth 65536 in
theorem w_c2 : (Jvm.Cond.code ({ cls := "com/example/lean_bus/leanbus/api/Caller", name := "<init>", desc := "(Ljava/lang/String;Ljava/lang/String;)V" } : Jvm.MethodName) prog_2_method_1_code (3 : Nat) (Option.none : Option Jvm.ClassFile.FieldType)).before args0 about1 = true := code_word (m := ⟨3, 0⟩) (meth := k3m0) (c := k3c0) (by decide +kernel) rfl rfl rfl (by decide +kernel)
set_option maxRecDepth 65536 in
theorem w_c3 : (Jvm.Cond.code ({ cls := "java/lang/Record", name := "<init>", desc := "()V" } : Jvm.MethodName) jdk_30_method_1_code (1 : Nat) (Option.none : Option Jvm.ClassFile.FieldType)).before args0 about1 = true := code_word (m := ⟨2, 0⟩) (meth := k2m0) (c := k2c0) (by decide +kernel) rfl rfl rfl (by decide +kernel)
set_option maxRecDepth 65536 in
theorem w_c4 : (Jvm.Cond.code ({ cls := "java/lang/Object", name := "<init>", desc := "()V" } : Jvm.MethodName) object_method_1_code (1 : Nat) (Option.none : Option Jvm.ClassFile.FieldType)).before args0 about1 = true := code_word (m := ⟨0, 0⟩) (meth := k0m0) (c := k0c0) (by decide +kernel) rfl rfl rfl (by decide +kernel)
set_option maxRecDepth 65536 in
theorem w_c5 : (Jvm.Cond.code ({ cls := "com/example/lean_bus/leanbus/api/Caller", name := "isRoot", desc := "()Z" } : Jvm.MethodName) prog_2_method_4_code (1 : Nat) (Option.some Jvm.ClassFile.FieldType.boolean)).before args0 about1 = true := code_word (m := ⟨3, 3⟩) (meth := k3m3) (c := k3c3) (by decide +kernel) rfl rfl rfl (by decide +kernel)
set_option maxRecDepth 65536 in
theorem w_c6 : (Jvm.Cond.code ({ cls := "com/example/lean_bus/leanbus/api/Caller", name := "root", desc := "()Lcom/example/lean_bus/leanbus/api/Caller;" } : Jvm.MethodName) prog_2_method_2_code (0 : Nat) (Option.some (Jvm.ClassFile.FieldType.object "com/example/lean_bus/leanbus/api/Caller"))).before args0 about1 = true := code_word (m := ⟨3, 1⟩) (meth := k3m1) (c := k3c1) (by decide +kernel) rfl rfl rfl (by decide +kernel)
set_option maxRecDepth 65536 in
theorem w_c7 : (Jvm.Cond.code ({ cls := "com/example/lean_bus/leanbus/api/Caller", name := "unchecked", desc := "(Ljava/lang/String;)Lcom/example/lean_bus/leanbus/api/Caller;" } : Jvm.MethodName) prog_2_method_3_code (1 : Nat) (Option.some (Jvm.ClassFile.FieldType.object "com/example/lean_bus/leanbus/api/Caller"))).before args0 about1 = true := code_word (m := ⟨3, 2⟩) (meth := k3m2) (c := k3c2) (by decide +kernel) rfl rfl rfl (by decide +kernel)
set_option maxRecDepth 65536 in
theorem w_c8 : (Jvm.Cond.code ({ cls := "java/lang/String", name := "<init>", desc := "([C)V" } : Jvm.MethodName) jdk_42_method_3_code (2 : Nat) (Option.none : Option Jvm.ClassFile.FieldType)).before args0 about1 = true := code_word (m := ⟨9, 1⟩) (meth := k9m1) (c := k9c1) (by decide +kernel) rfl rfl rfl (by decide +kernel)
set_option maxRecDepth 65536 in
theorem w_c9 : (Jvm.Cond.code ({ cls := "java/lang/String", name := "<init>", desc := "([CIILjava/lang/Void;)V" } : Jvm.MethodName) jdk_42_method_149_code (6 : Nat) (Option.none : Option Jvm.ClassFile.FieldType)).before args0 about1 = true := code_word (m := ⟨9, 2⟩) (meth := k9m2) (c := k9c2) (by decide +kernel) rfl rfl rfl (by decide +kernel)
set_option maxRecDepth 65536 in
theorem w_c10 : (Jvm.Cond.code ({ cls := "java/lang/StringUTF16", name := "compress", desc := "([CII)[B" } : Jvm.MethodName) jdk_52_method_16_code (6 : Nat) (Option.some (Jvm.ClassFile.FieldType.array Jvm.ClassFile.FieldType.byte))).before args0 about1 = true := code_word (m := ⟨10, 2⟩) (meth := k10m2) (c := k10c2) (by decide +kernel) rfl rfl rfl (by decide +kernel)
set_option maxRecDepth 65536 in
theorem w_c11 : (Jvm.Cond.code ({ cls := "java/lang/StringUTF16", name := "compress", desc := "([CI[BII)I" } : Jvm.MethodName) jdk_52_method_21_code (7 : Nat) (Option.some Jvm.ClassFile.FieldType.int)).before args0 about1 = true := code_word (m := ⟨10, 3⟩) (meth := k10m3) (c := k10c3) (by decide +kernel) rfl rfl rfl (by decide +kernel)
set_option maxRecDepth 65536 in
theorem w_c12 : (Jvm.Cond.code ({ cls := "java/lang/StringUTF16", name := "coderFromArrayLen", desc := "([BI)B" } : Jvm.MethodName) jdk_52_method_15_code (2 : Nat) (Option.some Jvm.ClassFile.FieldType.byte)).before args0 about1 = true := code_word (m := ⟨10, 1⟩) (meth := k10m1) (c := k10c1) (by decide +kernel) rfl rfl rfl (by decide +kernel)
def codes1 : List Jvm.Cond := [Jvm.Cond.code x code maxLocals ret, Jvm.Cond.code ({ cls := "com/example/lean_bus/leanbus/api/CallerIsRootPinLaw", name := "draw", desc := "(III)Ljava/lang/String;" } : Jvm.MethodName) method_2_code (4 : Nat) (Option.some (Jvm.ClassFile.FieldType.object "java/lang/String")), Jvm.Cond.code ({ cls := "com/example/lean_bus/leanbus/api/Caller", name := "<init>", desc := "(Ljava/lang/String;Ljava/lang/String;)V" } : Jvm.MethodName) prog_2_method_1_code (3 : Nat) (Option.none : Option Jvm.ClassFile.FieldType), Jvm.Cond.code ({ cls := "java/lang/Record", name := "<init>", desc := "()V" } : Jvm.MethodName) jdk_30_method_1_code (1 : Nat) (Option.none : Option Jvm.ClassFile.FieldType), Jvm.Cond.code ({ cls := "java/lang/Object", name := "<init>", desc := "()V" } : Jvm.MethodName) object_method_1_code (1 : Nat) (Option.none : Option Jvm.ClassFile.FieldType), Jvm.Cond.code ({ cls := "com/example/lean_bus/leanbus/api/Caller", name := "isRoot", desc := "()Z" } : Jvm.MethodName) prog_2_method_4_code (1 : Nat) (Option.some Jvm.ClassFile.FieldType.boolean), Jvm.Cond.code ({ cls := "com/example/lean_bus/leanbus/api/Caller", name := "root", desc := "()Lcom/example/lean_bus/leanbus/api/Caller;" } : Jvm.MethodName) prog_2_method_2_code (0 : Nat) (Option.some (Jvm.ClassFile.FieldType.object "com/example/lean_bus/leanbus/api/Caller")), Jvm.Cond.code ({ cls := "com/example/lean_bus/leanbus/api/Caller", name := "unchecked", desc := "(Ljava/lang/String;)Lcom/example/lean_bus/leanbus/api/Caller;" } : Jvm.MethodName) prog_2_method_3_code (1 : Nat) (Option.some (Jvm.ClassFile.FieldType.object "com/example/lean_bus/leanbus/api/Caller")), Jvm.Cond.code ({ cls := "java/lang/String", name := "<init>", desc := "([C)V" } : Jvm.MethodName) jdk_42_method_3_code (2 : Nat) (Option.none : Option Jvm.ClassFile.FieldType), Jvm.Cond.code ({ cls := "java/lang/String", name := "<init>", desc := "([CIILjava/lang/Void;)V" } : Jvm.MethodName) jdk_42_method_149_code (6 : Nat) (Option.none : Option Jvm.ClassFile.FieldType), Jvm.Cond.code ({ cls := "java/lang/StringUTF16", name := "compress", desc := "([CII)[B" } : Jvm.MethodName) jdk_52_method_16_code (6 : Nat) (Option.some (Jvm.ClassFile.FieldType.array Jvm.ClassFile.FieldType.byte)), Jvm.Cond.code ({ cls := "java/lang/StringUTF16", name := "compress", desc := "([CI[BII)I" } : Jvm.MethodName) jdk_52_method_21_code (7 : Nat) (Option.some Jvm.ClassFile.FieldType.int), Jvm.Cond.code ({ cls := "java/lang/StringUTF16", name := "coderFromArrayLen", desc := "([BI)B" } : Jvm.MethodName) jdk_52_method_15_code (2 : Nat) (Option.some Jvm.ClassFile.FieldType.byte)]
set_option maxRecDepth 65536 in
theorem codes_eq : words1.filter isCode = codes1 := rfl
theorem w_codes : ∀ c ∈ words1.filter isCode, c.before args0 about1 = true := by
  rw [codes_eq]
  intro c hc
  simp only [codes1, List.mem_cons, List.not_mem_nil, or_false] at hc
  rcases hc with rfl | rfl | rfl | rfl | rfl | rfl | rfl | rfl | rfl | rfl | rfl | rfl | rfl
  · exact w_c0
  · exact w_c1
  · exact w_c2
  · exact w_c3
  · exact w_c4
  · exact w_c5
  · exact w_c6
  · exact w_c7
  · exact w_c8
  · exact w_c9
  · exact w_c10
  · exact w_c11
  · exact w_c12
set_option maxRecDepth 65536 in
theorem w_t1 : (words1.take 24).all (fun c => isCode c || c.before args0 about1) = true := by decide +kernel
set_option maxRecDepth 65536 in
theorem w_t2 : ((words1.drop 24).take 24).all (fun c => isCode c || c.before args0 about1) = true := by decide +kernel
set_option maxRecDepth 65536 in
theorem w_t3 : ((words1.drop 24).drop 24).all (fun c => isCode c || c.before args0 about1) = true := by decide +kernel
theorem w_tables : (allAtoms (Jvm.Cond.code x code maxLocals ret :: tables_1)).before args0 about1 = true := by
  rw [allAtoms_all]
  show words1.all (fun c => c.before args0 about1) = true
  refine all_split ?_ w_codes
  rw [← List.take_append_drop 24 words1, List.all_append, w_t1, ← List.take_append_drop 24 (words1.drop 24), List.all_append, w_t2, w_t3]
  rfl
set_option maxRecDepth 65536 in
theorem w_rest : rest_1_c.before args0 about1 = true := by decide +kernel
set_option maxRecDepth 65536 in
theorem w_case : (Jvm.Cond.and given_1 narrow_1).before args0 about1 = true := by decide +kernel
set_option maxRecDepth 65536 in
theorem w_consts : constsHeld consts_1 about1 := Jvm.Lit.constsHeldB_iff.mp (by decide +kernel)
theorem w_applies : (headSpec (Jvm.Cond.code x code maxLocals ret :: tables_1) room_1).applies x e0.platform about1 = true :=
  (Spec.applies_iff w_frames).mpr ⟨w_running, w_runnable, w_alone, w_named, w_hears, w_ripe, w_room, w_tables⟩
theorem atStart : AtStart classFile x code maxLocals ret World_1 tables_1 room_1 Calls_1 rest_1 Pre_1 launch0 p0 e0 about1 theMethod args0 below0 :=
  ⟨lists_1, trivial, launch0.admits_env _ _ _, launch0.least_env, fairChoices_fair.cas, fairChoices_fair.clock, w_frames, w_args, w_heap, w_applies, ⟨w_consts, trivial⟩, w_rest, w_case⟩
end start1
theorem witness_1 : WitnessClaimed_1 := ⟨start1.p0, start1.e0, start1.about1, start1.theMethod, start1.args0, start1.below0, start1.atStart⟩
end Jvm.Pilot.@@N@@
