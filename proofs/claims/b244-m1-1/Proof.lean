import JvmDerived
import JvmDerived.Pilot.@@N@@Statement
import JvmDerived.Pilot.@@N@@Code
set_option linter.unusedVariables false
set_option linter.unusedSimpArgs false
namespace Jvm.Pilot.@@N@@
open Jvm Jvm.ClassFile Sem Op Lib Jvm.Free Jvm.Stand Jvm.LawKit Jvm.RoadKit Bundle Jvm.Pilot.@@N@@.Jvm.D
section OwnKit
variable {p : Program} {l : Launch} {e : Env} {R : Room} {s : State} {m : MethodId} {args : Array Value} {below : List Frame} {meth : Method} {c : Code} {T : State} {locs : List Loc} {cells slots : Nat} {Q : Option Value → Heap → List Loc → Prop} {C S : Nat}
/-- from x the run ends, returning, with what Q says -/
def own_End (p : Program) (e : Env) (below : List Frame) (s : State) (Q : Option Value → Heap → List Loc → Prop) (C S : Nat) (x : State) : Prop :=
  ∃ t o, Steps p.tables e below x t ∧ t.status = .running ∧ Ended t below o ∧ ∃ v L, o = .returned v ∧ Q v t.heap L ∧ FrameEnd s o t L C S
theorem own_go {x x' : State} (h : ∀ t, Steps p.tables e below x' t → Steps p.tables e below x t) (k : own_End p e below s Q C S x') : own_End p e below s Q C S x := by
  obtain ⟨t, o, h1, h2⟩ := k
  exact ⟨t, o, h t h1, h2⟩
theorem own_mono {Q' : Option Value → Heap → List Loc → Prop} {x : State} (h : ∀ v h L, Q v h L → Q' v h L) (k : own_End p e below s Q C S x) : own_End p e below s Q' C S x := by
  obtain ⟨t, o, h1, h2, h3, v, L, h4, h5, h6⟩ := k
  exact ⟨t, o, h1, h2, h3, v, L, h4, h _ _ _ h5, h6⟩
theorem own_out (X : Stand p l e R s m args below meth c T locs cells slots) (hlk : meth.locks = false) {v : Option Value} (hv : meth.sig.returnType = none → v = none) {x : State}
    (h : ∀ fs, (∀ (f : JFrame) (acts : List Action), f.method = m → f.locked = none → f.entered = [] → (doReturn e (T.setTop f) acts v).1 = T.setFrames fs) → Steps p.tables e below x (T.setFrames fs))
    (hq : Q v T.heap locs) (hc : cells ≤ C) (hs : slots ≤ S) : own_End p e below s Q C S x := by
  obtain ⟨fs, hr, hrun, hended, hW, hsame⟩ := X.leave hv hlk
  exact ⟨_, _, h fs hr, hrun, hended, _, _, rfl, hq, ⟨_, rfl⟩, hW, hsame.mono hc hs⟩
theorem own_retV (X : Stand p l e R s m args below meth c T locs cells slots) (hx : p.tables.exec = Jvm.exec) (hlk : meth.locks = false) {pc : Nat} {Ls : Array Slot} (hret : meth.sig.returnType = none) (hd : decode c.code pc = .ok (.return_, 1))
    (hq : Q none T.heap locs) (hc : cells ≤ C) (hs : slots ≤ S) : own_End p e below s Q C S (T.setTop (mkF m pc Ls [])) :=
  own_out X hlk (fun _ => rfl) (fun fs hr => X.returnOut hx hret hd hr) hq hc hs
theorem own_retN (X : Stand p l e R s m args below meth c T locs cells slots) (hx : p.tables.exec = Jvm.exec) (hlk : meth.locks = false) {pc : Nat} {Ls : Array Slot} {z w : Int32} {t : FieldType} {rest : List Value} (hret : meth.sig.returnType = some t) (ht : t = .boolean ∨ t = .byte ∨ t = .char ∨ t = .short) (hd : decode c.code pc = .ok (.ireturn, 1))
    (hz : nar t z = w) (hq : Q (some (.int w)) T.heap locs) (hc : cells ≤ C) (hs : slots ≤ S) : own_End p e below s Q C S (T.setTop (mkF m pc Ls (.int z :: rest))) := by
  subst hz
  exact own_out X hlk (fun h => by rw [hret] at h; cases h) (fun fs hr => retN X hx hret ht hd hr) hq hc hs
theorem own_retI (X : Stand p l e R s m args below meth c T locs cells slots) (hx : p.tables.exec = Jvm.exec) (hlk : meth.locks = false) {pc : Nat} {Ls : Array Slot} {z : Int32} {rest : List Value} (hret : meth.sig.returnType = some .int) (hd : decode c.code pc = .ok (.ireturn, 1))
    (hq : Q (some (.int z)) T.heap locs) (hc : cells ≤ C) (hs : slots ≤ S) : own_End p e below s Q C S (T.setTop (mkF m pc Ls (.int z :: rest))) :=
  own_out X hlk (fun h => by rw [hret] at h; cases h) (fun fs hr => retOut X hx hret rfl (Or.inl ⟨rfl, Or.inl rfl, _, rfl⟩) hd hr) hq hc hs
theorem own_retJ (X : Stand p l e R s m args below meth c T locs cells slots) (hx : p.tables.exec = Jvm.exec) (hlk : meth.locks = false) {pc : Nat} {Ls : Array Slot} {z : Int64} {rest : List Value} (hret : meth.sig.returnType = some .long) (hd : decode c.code pc = .ok (.lreturn, 1))
    (hq : Q (some (.long z)) T.heap locs) (hc : cells ≤ C) (hs : slots ≤ S) : own_End p e below s Q C S (T.setTop (mkF m pc Ls (.long z :: rest))) :=
  own_out X hlk (fun h => by rw [hret] at h; cases h) (fun fs hr => retOut X hx hret rfl (Or.inr (Or.inl ⟨rfl, rfl, _, rfl⟩)) hd hr) hq hc hs
theorem own_retR (X : Stand p l e R s m args below meth c T locs cells slots) (hx : p.tables.exec = Jvm.exec) (hlk : meth.locks = false) {pc : Nat} {Ls : Array Slot} {z : Value} {t : FieldType} {rest : List Value} (hret : meth.sig.returnType = some t) (ht : t.isReference = true) (hv : z.isRef = true) (hd : decode c.code pc = .ok (.areturn, 1))
    (hq : Q (some z) T.heap locs) (hc : cells ≤ C) (hs : slots ≤ S) : own_End p e below s Q C S (T.setTop (mkF m pc Ls (z :: rest))) :=
  own_out X hlk (fun h => by rw [hret] at h; cases h) (fun fs hr => retOut X hx hret (by cases t <;> first | rfl | cases ht) (Or.inr (Or.inr (Or.inr (Or.inr ⟨rfl, ht, hv⟩)))) hd hr) hq hc hs
theorem own_w {a0 : Array Value} {Z : State} (hw : ∀ d ∈ tables_1, d.before a0 Z = true) (i : Nat) {d : Jvm.Cond} (h : tables_1[i]? = some d) : d.before a0 Z = true := hw _ (List.mem_of_getElem? h)
end OwnKit
def own_f_147 (p0 : Int32) : Int32 := (0 : Int32)
def own_f_143 (p0 : Int32) : Int32 := (1 : Int32)
def own_f_131 (p0 : Int32) : Int32 := (if p0 < (921600 : Int32) then (own_f_147 p0) else (if (983037 : Int32) < p0 then (own_f_147 p0) else (own_f_143 p0)))
def own_f_110 (p0 : Int32) : Int32 := (if p0 < (65536 : Int32) then (own_f_131 p0) else (if (917503 : Int32) < p0 then (own_f_131 p0) else (if (65533 : Int32) < (p0 &&& (65535 : Int32)) then (own_f_131 p0) else (own_f_143 p0))))
def own_f_98 (p0 : Int32) : Int32 := (if p0 < (65008 : Int32) then (own_f_110 p0) else (if (65519 : Int32) < p0 then (own_f_110 p0) else (own_f_143 p0)))
def own_f_86 (p0 : Int32) : Int32 := (if p0 < (63744 : Int32) then (own_f_98 p0) else (if (64975 : Int32) < p0 then (own_f_98 p0) else (own_f_143 p0)))
def own_f_73 (p0 : Int32) : Int32 := (if p0 < (160 : Int32) then (own_f_86 p0) else (if (55295 : Int32) < p0 then (own_f_86 p0) else (own_f_143 p0)))
def own_f_71 (p0 : Int32) : Int32 := (0 : Int32)
def own_f_67 (p0 : Int32) : Int32 := (1 : Int32)
def own_f_43 (p0 : Int32) : Int32 := (if p0 = (45 : Int32) then (own_f_67 p0) else (if p0 = (46 : Int32) then (own_f_67 p0) else (if p0 = (95 : Int32) then (own_f_67 p0) else (if p0 = (126 : Int32) then (own_f_67 p0) else (own_f_71 p0)))))
def own_f_31 (p0 : Int32) : Int32 := (if p0 < (48 : Int32) then (own_f_43 p0) else (if (57 : Int32) < p0 then (own_f_43 p0) else (own_f_67 p0)))
def own_f_19 (p0 : Int32) : Int32 := (if p0 < (65 : Int32) then (own_f_31 p0) else (if (90 : Int32) < p0 then (own_f_31 p0) else (own_f_67 p0)))
def own_f_0 (p0 : Int32) : Int32 := (if p0 < (128 : Int32) then (if p0 < (97 : Int32) then (own_f_19 p0) else (if (122 : Int32) < p0 then (own_f_19 p0) else (own_f_67 p0))) else (own_f_73 p0))
theorem d1_0 : decode prog_36_method_7_code 0 = .ok (.iload_n 0, 1) := by decide +kernel
theorem d1_1 : decode prog_36_method_7_code 1 = .ok (.sipush 128, 3) := by decide +kernel
theorem d1_4 : decode prog_36_method_7_code 4 = .ok (.if_icmp .ge 69, 3) := by decide +kernel
theorem d1_7 : decode prog_36_method_7_code 7 = .ok (.iload_n 0, 1) := by decide +kernel
theorem d1_8 : decode prog_36_method_7_code 8 = .ok (.bipush 97, 2) := by decide +kernel
theorem d1_10 : decode prog_36_method_7_code 10 = .ok (.if_icmp .lt 9, 3) := by decide +kernel
theorem d1_13 : decode prog_36_method_7_code 13 = .ok (.iload_n 0, 1) := by decide +kernel
theorem d1_14 : decode prog_36_method_7_code 14 = .ok (.bipush 122, 2) := by decide +kernel
theorem d1_16 : decode prog_36_method_7_code 16 = .ok (.if_icmp .le 51, 3) := by decide +kernel
theorem d1_19 : decode prog_36_method_7_code 19 = .ok (.iload_n 0, 1) := by decide +kernel
theorem d1_20 : decode prog_36_method_7_code 20 = .ok (.bipush 65, 2) := by decide +kernel
theorem d1_22 : decode prog_36_method_7_code 22 = .ok (.if_icmp .lt 9, 3) := by decide +kernel
theorem d1_25 : decode prog_36_method_7_code 25 = .ok (.iload_n 0, 1) := by decide +kernel
theorem d1_26 : decode prog_36_method_7_code 26 = .ok (.bipush 90, 2) := by decide +kernel
theorem d1_28 : decode prog_36_method_7_code 28 = .ok (.if_icmp .le 39, 3) := by decide +kernel
theorem d1_31 : decode prog_36_method_7_code 31 = .ok (.iload_n 0, 1) := by decide +kernel
theorem d1_32 : decode prog_36_method_7_code 32 = .ok (.bipush 48, 2) := by decide +kernel
theorem d1_34 : decode prog_36_method_7_code 34 = .ok (.if_icmp .lt 9, 3) := by decide +kernel
theorem d1_37 : decode prog_36_method_7_code 37 = .ok (.iload_n 0, 1) := by decide +kernel
theorem d1_38 : decode prog_36_method_7_code 38 = .ok (.bipush 57, 2) := by decide +kernel
theorem d1_40 : decode prog_36_method_7_code 40 = .ok (.if_icmp .le 27, 3) := by decide +kernel
theorem d1_43 : decode prog_36_method_7_code 43 = .ok (.iload_n 0, 1) := by decide +kernel
theorem d1_44 : decode prog_36_method_7_code 44 = .ok (.bipush 45, 2) := by decide +kernel
theorem d1_46 : decode prog_36_method_7_code 46 = .ok (.if_icmp .eq 21, 3) := by decide +kernel
theorem d1_49 : decode prog_36_method_7_code 49 = .ok (.iload_n 0, 1) := by decide +kernel
theorem d1_50 : decode prog_36_method_7_code 50 = .ok (.bipush 46, 2) := by decide +kernel
theorem d1_52 : decode prog_36_method_7_code 52 = .ok (.if_icmp .eq 15, 3) := by decide +kernel
theorem d1_55 : decode prog_36_method_7_code 55 = .ok (.iload_n 0, 1) := by decide +kernel
theorem d1_56 : decode prog_36_method_7_code 56 = .ok (.bipush 95, 2) := by decide +kernel
theorem d1_58 : decode prog_36_method_7_code 58 = .ok (.if_icmp .eq 9, 3) := by decide +kernel
theorem d1_61 : decode prog_36_method_7_code 61 = .ok (.iload_n 0, 1) := by decide +kernel
theorem d1_62 : decode prog_36_method_7_code 62 = .ok (.bipush 126, 2) := by decide +kernel
theorem d1_64 : decode prog_36_method_7_code 64 = .ok (.if_icmp .ne 7, 3) := by decide +kernel
theorem d1_67 : decode prog_36_method_7_code 67 = .ok (.iconst 1, 1) := by decide +kernel
theorem d1_68 : decode prog_36_method_7_code 68 = .ok (.goto 4, 3) := by decide +kernel
theorem d1_71 : decode prog_36_method_7_code 71 = .ok (.iconst 0, 1) := by decide +kernel
theorem d1_72 : decode prog_36_method_7_code 72 = .ok (.ireturn, 1) := by decide +kernel
theorem d1_73 : decode prog_36_method_7_code 73 = .ok (.iload_n 0, 1) := by decide +kernel
theorem d1_74 : decode prog_36_method_7_code 74 = .ok (.sipush 160, 3) := by decide +kernel
theorem d1_77 : decode prog_36_method_7_code 77 = .ok (.if_icmp .lt 9, 3) := by decide +kernel
theorem d1_80 : decode prog_36_method_7_code 80 = .ok (.iload_n 0, 1) := by decide +kernel
theorem d1_81 : decode prog_36_method_7_code 81 = .ok (.ldc 131, 2) := by decide +kernel
theorem d1_83 : decode prog_36_method_7_code 83 = .ok (.if_icmp .le 60, 3) := by decide +kernel
theorem d1_86 : decode prog_36_method_7_code 86 = .ok (.iload_n 0, 1) := by decide +kernel
theorem d1_87 : decode prog_36_method_7_code 87 = .ok (.ldc 132, 2) := by decide +kernel
theorem d1_89 : decode prog_36_method_7_code 89 = .ok (.if_icmp .lt 9, 3) := by decide +kernel
theorem d1_92 : decode prog_36_method_7_code 92 = .ok (.iload_n 0, 1) := by decide +kernel
theorem d1_93 : decode prog_36_method_7_code 93 = .ok (.ldc 133, 2) := by decide +kernel
theorem d1_95 : decode prog_36_method_7_code 95 = .ok (.if_icmp .le 48, 3) := by decide +kernel
theorem d1_98 : decode prog_36_method_7_code 98 = .ok (.iload_n 0, 1) := by decide +kernel
theorem d1_99 : decode prog_36_method_7_code 99 = .ok (.ldc 134, 2) := by decide +kernel
theorem d1_101 : decode prog_36_method_7_code 101 = .ok (.if_icmp .lt 9, 3) := by decide +kernel
theorem d1_104 : decode prog_36_method_7_code 104 = .ok (.iload_n 0, 1) := by decide +kernel
theorem d1_105 : decode prog_36_method_7_code 105 = .ok (.ldc 135, 2) := by decide +kernel
theorem d1_107 : decode prog_36_method_7_code 107 = .ok (.if_icmp .le 36, 3) := by decide +kernel
theorem d1_110 : decode prog_36_method_7_code 110 = .ok (.iload_n 0, 1) := by decide +kernel
theorem d1_111 : decode prog_36_method_7_code 111 = .ok (.ldc 136, 2) := by decide +kernel
theorem d1_113 : decode prog_36_method_7_code 113 = .ok (.if_icmp .lt 18, 3) := by decide +kernel
theorem d1_116 : decode prog_36_method_7_code 116 = .ok (.iload_n 0, 1) := by decide +kernel
theorem d1_117 : decode prog_36_method_7_code 117 = .ok (.ldc 137, 2) := by decide +kernel
theorem d1_119 : decode prog_36_method_7_code 119 = .ok (.if_icmp .gt 12, 3) := by decide +kernel
theorem d1_122 : decode prog_36_method_7_code 122 = .ok (.iload_n 0, 1) := by decide +kernel
theorem d1_123 : decode prog_36_method_7_code 123 = .ok (.ldc 138, 2) := by decide +kernel
theorem d1_125 : decode prog_36_method_7_code 125 = .ok (.iand, 1) := by decide +kernel
theorem d1_126 : decode prog_36_method_7_code 126 = .ok (.ldc 139, 2) := by decide +kernel
theorem d1_128 : decode prog_36_method_7_code 128 = .ok (.if_icmp .le 15, 3) := by decide +kernel
theorem d1_131 : decode prog_36_method_7_code 131 = .ok (.iload_n 0, 1) := by decide +kernel
theorem d1_132 : decode prog_36_method_7_code 132 = .ok (.ldc 140, 2) := by decide +kernel
theorem d1_134 : decode prog_36_method_7_code 134 = .ok (.if_icmp .lt 13, 3) := by decide +kernel
theorem d1_137 : decode prog_36_method_7_code 137 = .ok (.iload_n 0, 1) := by decide +kernel
theorem d1_138 : decode prog_36_method_7_code 138 = .ok (.ldc 141, 2) := by decide +kernel
theorem d1_140 : decode prog_36_method_7_code 140 = .ok (.if_icmp .gt 7, 3) := by decide +kernel
theorem d1_143 : decode prog_36_method_7_code 143 = .ok (.iconst 1, 1) := by decide +kernel
theorem d1_144 : decode prog_36_method_7_code 144 = .ok (.goto 4, 3) := by decide +kernel
theorem d1_147 : decode prog_36_method_7_code 147 = .ok (.iconst 0, 1) := by decide +kernel
theorem d1_148 : decode prog_36_method_7_code 148 = .ok (.ireturn, 1) := by decide +kernel
def Q_rm1 (Z : State) (p0 : Int32) (h0 : Heap) (n0 : Nat) (v : Option Value) (h : Heap) (L : List Loc) : Prop := v = some (.int (own_f_0 p0)) ∧ Fr n0 L ∧ h = h0
theorem pn_rm1 : plainName "com/example/triplewright/triplewright/Term$Iri" = true := by first | (simp [plainName, overriddenIn]; done) | decide +kernel
theorem ef_rm1 (m : MethodId) (x0 : Int32) : entryFrame m #[(.int x0)] 1 = mkF m 0 #[.val (.int x0)] [] := by first | (simp [entryFrame, mkF, argsToLocals, Value.category]; done) | rfl
set_option maxRecDepth 65536 in
set_option maxHeartbeats 40000000 in
theorem rm1 (l : Launch) (Z : State) (a0 : Array Value) (hw : ∀ d ∈ tables_1, d.before a0 Z = true) (ws : List Jvm.Cond) (p0 : Int32) (h0 : Heap) (n0 : Nat) (Z0 : n0 ≤ h0.size) :
    MetFree l (⟨"com/example/triplewright/triplewright/Term$Iri", "isIunreserved", "(I)Z"⟩ : MethodName) (head1 (Jvm.Cond.code (⟨"com/example/triplewright/triplewright/Term$Iri", "isIunreserved", "(I)Z"⟩ : MethodName) prog_36_method_7_code 1 (some .boolean) :: ws) ({ frames := 0, cells := 0, slots := 0, locals := 0 } : Room)) (fun a U => a = #[(.int p0)] ∧ Z.Warmed39 U.vm ∧ U.heap = h0) (fun _ _ _ _ _ => True) (fun _ U o U' => ∃ v L, o = .returned v ∧ (Q_rm1 Z p0 h0 n0) v U'.heap L ∧ FrameEnd U o U' L ({ frames := 0, cells := 0, slots := 0, locals := 0 } : Room).cells ({ frames := 0, cells := 0, slots := 0, locals := 0 } : Room).slots) := by
  refine MetFree.of_bodySF (plainFor_of_name pn_rm1) hisR ?_
  intro p e s m args below meth c s₁ Bd hml0 hP hK
  obtain ⟨rfl, hZ, hh⟩ := hP
  have hx := Bd.exec
  have hby := Bd.bytes
  have hlk := BodyLoose.notSynchronized Bd
  have hret := Bd.returns
  have hml : c.maxLocals = 1 := hml0
  have hown : s.vm.findClass "com/example/triplewright/triplewright/Term$Iri" = some m.cls := findClass_of_methodNamed Bd.named
  have hnm := (name_of_methodNamed Bd.named Bd.method).1
  have X0 : Stand p l e ({ frames := 0, cells := 0, slots := 0, locals := 0 } : Room) s m #[(.int p0)] below meth c s₁ [] 0 0 := Stand.of_body Bd
  have e0 : s₁.heap = h0 := by rw [← hh, Bd.state]; rfl
  have Nf := Fr.nil n0
  have Zs := Z0
  have Kp : Keep h0 h0 [] := Keep.refl _ _
  show own_End p e below s (Q_rm1 Z p0 h0 n0) ({ frames := 0, cells := 0, slots := 0, locals := 0 } : Room).cells ({ frames := 0, cells := 0, slots := 0, locals := 0 } : Room).slots (s₁.setTop (entryFrame m #[(.int p0)] 1))
  refine own_go (x' := s₁.setTop (mkF m 0 #[.val (.int p0)] [])) (fun t k => castTop (ef_rm1 m p0) k) ?_
  have blk147 : own_f_0 p0 = own_f_147 p0 → own_End p e below s (Q_rm1 Z p0 h0 n0) 0 0 (s₁.setTop (mkF m 147 #[.val (.int p0)] [])) := by
    intro hF
    refine own_go (x' := s₁.setTop (mkF m 148 #[.val (.int p0)] [(.int (0 : Int32))])) (fun _ k => XS.iconst X0.here hx rfl (hb hby d1_147) k) ?_
    refine own_retN X0 hx hlk (t := .boolean) hret (by simp) (hb hby d1_148) (w := (0 : Int32)) rfl ?_ (by decide) (by decide)
    rw [e0]
    exact ⟨by rw [hF]; rfl, Nf, rfl⟩
  have blk143 : own_f_0 p0 = own_f_143 p0 → own_End p e below s (Q_rm1 Z p0 h0 n0) 0 0 (s₁.setTop (mkF m 143 #[.val (.int p0)] [])) := by
    intro hF
    refine own_go (x' := s₁.setTop (mkF m 148 #[.val (.int p0)] [(.int (1 : Int32))])) (fun _ k => XS.iconst X0.here hx rfl (hb hby d1_143) (XS.goto X0.here hx rfl (pc0 := 144) (pc' := 148) rfl (hb hby d1_144) (by decide) (by decide) k)) ?_
    refine own_retN X0 hx hlk (t := .boolean) hret (by simp) (hb hby d1_148) (w := (1 : Int32)) rfl ?_ (by decide) (by decide)
    rw [e0]
    exact ⟨by rw [hF]; rfl, Nf, rfl⟩
  have blk131 : own_f_0 p0 = own_f_131 p0 → own_End p e below s (Q_rm1 Z p0 h0 n0) 0 0 (s₁.setTop (mkF m 131 #[.val (.int p0)] [])) := by
    intro hF
    refine own_go (x' := s₁.setTop (mkF m 132 #[.val (.int p0)] [(.int p0)])) (fun _ k => XS.iloadN X0.here hx rfl (hb hby d1_131) rfl k) ?_
    refine own_go (x' := s₁.setTop (mkF m 134 #[.val (.int p0)] [(.int (921600 : Int32)), (.int p0)])) (fun t k => X0.ldcInt hx hown (mvT hZ (own_w hw 17 rfl)) (g := (mkF m 132 #[.val (.int p0)] [(.int p0)])) rfl (hb hby d1_132) t k) ?_
    by_cases hc134 : p0 < (921600 : Int32)
    · refine own_go (x' := s₁.setTop (mkF m 147 #[.val (.int p0)] [])) (fun _ k => XS.icmpYes X0.here hx rfl (pc0 := 134) (pc' := 147) rfl (hb hby d1_134) rfl (tlt hc134).1 (by decide) (by decide) k) ?_
      exact blk147 (hF.trans (by simp only [own_f_131, if_pos hc134]))
    · refine own_go (x' := s₁.setTop (mkF m 138 #[.val (.int p0)] [(.int p0)])) (fun _ k => XS.icmpNo X0.here hx rfl (hb hby d1_134) rfl (flt hc134).1 (XS.iloadN X0.here hx rfl (hb hby d1_137) rfl k)) ?_
      refine own_go (x' := s₁.setTop (mkF m 140 #[.val (.int p0)] [(.int (983037 : Int32)), (.int p0)])) (fun t k => X0.ldcInt hx hown (mvT hZ (own_w hw 21 rfl)) (g := (mkF m 138 #[.val (.int p0)] [(.int p0)])) rfl (hb hby d1_138) t k) ?_
      by_cases hc140 : (983037 : Int32) < p0
      · refine own_go (x' := s₁.setTop (mkF m 147 #[.val (.int p0)] [])) (fun _ k => XS.icmpYes X0.here hx rfl (pc0 := 140) (pc' := 147) rfl (hb hby d1_140) rfl (tlt hc140).2.2.1 (by decide) (by decide) k) ?_
        exact blk147 (hF.trans (by simp only [own_f_131, if_neg hc134, if_pos hc140]))
      · refine own_go (x' := s₁.setTop (mkF m 143 #[.val (.int p0)] [])) (fun _ k => XS.icmpNo X0.here hx rfl (hb hby d1_140) rfl (flt hc140).2.2.1 k) ?_
        exact blk143 (hF.trans (by simp only [own_f_131, if_neg hc134, if_neg hc140]))
  have blk110 : own_f_0 p0 = own_f_110 p0 → own_End p e below s (Q_rm1 Z p0 h0 n0) 0 0 (s₁.setTop (mkF m 110 #[.val (.int p0)] [])) := by
    intro hF
    refine own_go (x' := s₁.setTop (mkF m 111 #[.val (.int p0)] [(.int p0)])) (fun _ k => XS.iloadN X0.here hx rfl (hb hby d1_110) rfl k) ?_
    refine own_go (x' := s₁.setTop (mkF m 113 #[.val (.int p0)] [(.int (65536 : Int32)), (.int p0)])) (fun t k => X0.ldcInt hx hown (mvT hZ (own_w hw 16 rfl)) (g := (mkF m 111 #[.val (.int p0)] [(.int p0)])) rfl (hb hby d1_111) t k) ?_
    by_cases hc113 : p0 < (65536 : Int32)
    · refine own_go (x' := s₁.setTop (mkF m 131 #[.val (.int p0)] [])) (fun _ k => XS.icmpYes X0.here hx rfl (pc0 := 113) (pc' := 131) rfl (hb hby d1_113) rfl (tlt hc113).1 (by decide) (by decide) k) ?_
      exact blk131 (hF.trans (by simp only [own_f_110, if_pos hc113]))
    · refine own_go (x' := s₁.setTop (mkF m 117 #[.val (.int p0)] [(.int p0)])) (fun _ k => XS.icmpNo X0.here hx rfl (hb hby d1_113) rfl (flt hc113).1 (XS.iloadN X0.here hx rfl (hb hby d1_116) rfl k)) ?_
      refine own_go (x' := s₁.setTop (mkF m 119 #[.val (.int p0)] [(.int (917503 : Int32)), (.int p0)])) (fun t k => X0.ldcInt hx hown (mvT hZ (own_w hw 20 rfl)) (g := (mkF m 117 #[.val (.int p0)] [(.int p0)])) rfl (hb hby d1_117) t k) ?_
      by_cases hc119 : (917503 : Int32) < p0
      · refine own_go (x' := s₁.setTop (mkF m 131 #[.val (.int p0)] [])) (fun _ k => XS.icmpYes X0.here hx rfl (pc0 := 119) (pc' := 131) rfl (hb hby d1_119) rfl (tlt hc119).2.2.1 (by decide) (by decide) k) ?_
        exact blk131 (hF.trans (by simp only [own_f_110, if_neg hc113, if_pos hc119]))
      · refine own_go (x' := s₁.setTop (mkF m 123 #[.val (.int p0)] [(.int p0)])) (fun _ k => XS.icmpNo X0.here hx rfl (hb hby d1_119) rfl (flt hc119).2.2.1 (XS.iloadN X0.here hx rfl (hb hby d1_122) rfl k)) ?_
        refine own_go (x' := s₁.setTop (mkF m 125 #[.val (.int p0)] [(.int (65535 : Int32)), (.int p0)])) (fun t k => X0.ldcInt hx hown (mvT hZ (own_w hw 23 rfl)) (g := (mkF m 123 #[.val (.int p0)] [(.int p0)])) rfl (hb hby d1_123) t k) ?_
        refine own_go (x' := s₁.setTop (mkF m 126 #[.val (.int p0)] [(.int (p0 &&& (65535 : Int32)))])) (fun _ k => XS.iand X0.here hx rfl (hb hby d1_125) rfl k) ?_
        refine own_go (x' := s₁.setTop (mkF m 128 #[.val (.int p0)] [(.int (65533 : Int32)), (.int (p0 &&& (65535 : Int32)))])) (fun t k => X0.ldcInt hx hown (mvT hZ (own_w hw 24 rfl)) (g := (mkF m 126 #[.val (.int p0)] [(.int (p0 &&& (65535 : Int32)))])) rfl (hb hby d1_126) t k) ?_
        by_cases hc128 : (65533 : Int32) < (p0 &&& (65535 : Int32))
        · refine own_go (x' := s₁.setTop (mkF m 131 #[.val (.int p0)] [])) (fun _ k => XS.icmpNo X0.here hx rfl (hb hby d1_128) rfl (tlt hc128).2.2.2 k) ?_
          exact blk131 (hF.trans (by simp only [own_f_110, if_neg hc113, if_neg hc119, if_pos hc128]))
        · refine own_go (x' := s₁.setTop (mkF m 143 #[.val (.int p0)] [])) (fun _ k => XS.icmpYes X0.here hx rfl (pc0 := 128) (pc' := 143) rfl (hb hby d1_128) rfl (flt hc128).2.2.2 (by decide) (by decide) k) ?_
          exact blk143 (hF.trans (by simp only [own_f_110, if_neg hc113, if_neg hc119, if_neg hc128]))
  have blk98 : own_f_0 p0 = own_f_98 p0 → own_End p e below s (Q_rm1 Z p0 h0 n0) 0 0 (s₁.setTop (mkF m 98 #[.val (.int p0)] [])) := by
    intro hF
    refine own_go (x' := s₁.setTop (mkF m 99 #[.val (.int p0)] [(.int p0)])) (fun _ k => XS.iloadN X0.here hx rfl (hb hby d1_98) rfl k) ?_
    refine own_go (x' := s₁.setTop (mkF m 101 #[.val (.int p0)] [(.int (65008 : Int32)), (.int p0)])) (fun t k => X0.ldcInt hx hown (mvT hZ (own_w hw 15 rfl)) (g := (mkF m 99 #[.val (.int p0)] [(.int p0)])) rfl (hb hby d1_99) t k) ?_
    by_cases hc101 : p0 < (65008 : Int32)
    · refine own_go (x' := s₁.setTop (mkF m 110 #[.val (.int p0)] [])) (fun _ k => XS.icmpYes X0.here hx rfl (pc0 := 101) (pc' := 110) rfl (hb hby d1_101) rfl (tlt hc101).1 (by decide) (by decide) k) ?_
      exact blk110 (hF.trans (by simp only [own_f_98, if_pos hc101]))
    · refine own_go (x' := s₁.setTop (mkF m 105 #[.val (.int p0)] [(.int p0)])) (fun _ k => XS.icmpNo X0.here hx rfl (hb hby d1_101) rfl (flt hc101).1 (XS.iloadN X0.here hx rfl (hb hby d1_104) rfl k)) ?_
      refine own_go (x' := s₁.setTop (mkF m 107 #[.val (.int p0)] [(.int (65519 : Int32)), (.int p0)])) (fun t k => X0.ldcInt hx hown (mvT hZ (own_w hw 19 rfl)) (g := (mkF m 105 #[.val (.int p0)] [(.int p0)])) rfl (hb hby d1_105) t k) ?_
      by_cases hc107 : (65519 : Int32) < p0
      · refine own_go (x' := s₁.setTop (mkF m 110 #[.val (.int p0)] [])) (fun _ k => XS.icmpNo X0.here hx rfl (hb hby d1_107) rfl (tlt hc107).2.2.2 k) ?_
        exact blk110 (hF.trans (by simp only [own_f_98, if_neg hc101, if_pos hc107]))
      · refine own_go (x' := s₁.setTop (mkF m 143 #[.val (.int p0)] [])) (fun _ k => XS.icmpYes X0.here hx rfl (pc0 := 107) (pc' := 143) rfl (hb hby d1_107) rfl (flt hc107).2.2.2 (by decide) (by decide) k) ?_
        exact blk143 (hF.trans (by simp only [own_f_98, if_neg hc101, if_neg hc107]))
  have blk86 : own_f_0 p0 = own_f_86 p0 → own_End p e below s (Q_rm1 Z p0 h0 n0) 0 0 (s₁.setTop (mkF m 86 #[.val (.int p0)] [])) := by
    intro hF
    refine own_go (x' := s₁.setTop (mkF m 87 #[.val (.int p0)] [(.int p0)])) (fun _ k => XS.iloadN X0.here hx rfl (hb hby d1_86) rfl k) ?_
    refine own_go (x' := s₁.setTop (mkF m 89 #[.val (.int p0)] [(.int (63744 : Int32)), (.int p0)])) (fun t k => X0.ldcInt hx hown (mvT hZ (own_w hw 14 rfl)) (g := (mkF m 87 #[.val (.int p0)] [(.int p0)])) rfl (hb hby d1_87) t k) ?_
    by_cases hc89 : p0 < (63744 : Int32)
    · refine own_go (x' := s₁.setTop (mkF m 98 #[.val (.int p0)] [])) (fun _ k => XS.icmpYes X0.here hx rfl (pc0 := 89) (pc' := 98) rfl (hb hby d1_89) rfl (tlt hc89).1 (by decide) (by decide) k) ?_
      exact blk98 (hF.trans (by simp only [own_f_86, if_pos hc89]))
    · refine own_go (x' := s₁.setTop (mkF m 93 #[.val (.int p0)] [(.int p0)])) (fun _ k => XS.icmpNo X0.here hx rfl (hb hby d1_89) rfl (flt hc89).1 (XS.iloadN X0.here hx rfl (hb hby d1_92) rfl k)) ?_
      refine own_go (x' := s₁.setTop (mkF m 95 #[.val (.int p0)] [(.int (64975 : Int32)), (.int p0)])) (fun t k => X0.ldcInt hx hown (mvT hZ (own_w hw 18 rfl)) (g := (mkF m 93 #[.val (.int p0)] [(.int p0)])) rfl (hb hby d1_93) t k) ?_
      by_cases hc95 : (64975 : Int32) < p0
      · refine own_go (x' := s₁.setTop (mkF m 98 #[.val (.int p0)] [])) (fun _ k => XS.icmpNo X0.here hx rfl (hb hby d1_95) rfl (tlt hc95).2.2.2 k) ?_
        exact blk98 (hF.trans (by simp only [own_f_86, if_neg hc89, if_pos hc95]))
      · refine own_go (x' := s₁.setTop (mkF m 143 #[.val (.int p0)] [])) (fun _ k => XS.icmpYes X0.here hx rfl (pc0 := 95) (pc' := 143) rfl (hb hby d1_95) rfl (flt hc95).2.2.2 (by decide) (by decide) k) ?_
        exact blk143 (hF.trans (by simp only [own_f_86, if_neg hc89, if_neg hc95]))
  have blk73 : own_f_0 p0 = own_f_73 p0 → own_End p e below s (Q_rm1 Z p0 h0 n0) 0 0 (s₁.setTop (mkF m 73 #[.val (.int p0)] [])) := by
    intro hF
    refine own_go (x' := s₁.setTop (mkF m 77 #[.val (.int p0)] [(.int (160 : Int32)), (.int p0)])) (fun _ k => XS.iloadN X0.here hx rfl (hb hby d1_73) rfl (XS.sipush X0.here hx rfl (hb hby d1_74) k)) ?_
    by_cases hc77 : p0 < (160 : Int32)
    · refine own_go (x' := s₁.setTop (mkF m 86 #[.val (.int p0)] [])) (fun _ k => XS.icmpYes X0.here hx rfl (pc0 := 77) (pc' := 86) rfl (hb hby d1_77) rfl (tlt hc77).1 (by decide) (by decide) k) ?_
      exact blk86 (hF.trans (by simp only [own_f_73, if_pos hc77]))
    · refine own_go (x' := s₁.setTop (mkF m 81 #[.val (.int p0)] [(.int p0)])) (fun _ k => XS.icmpNo X0.here hx rfl (hb hby d1_77) rfl (flt hc77).1 (XS.iloadN X0.here hx rfl (hb hby d1_80) rfl k)) ?_
      refine own_go (x' := s₁.setTop (mkF m 83 #[.val (.int p0)] [(.int (55295 : Int32)), (.int p0)])) (fun t k => X0.ldcInt hx hown (mvT hZ (own_w hw 11 rfl)) (g := (mkF m 81 #[.val (.int p0)] [(.int p0)])) rfl (hb hby d1_81) t k) ?_
      by_cases hc83 : (55295 : Int32) < p0
      · refine own_go (x' := s₁.setTop (mkF m 86 #[.val (.int p0)] [])) (fun _ k => XS.icmpNo X0.here hx rfl (hb hby d1_83) rfl (tlt hc83).2.2.2 k) ?_
        exact blk86 (hF.trans (by simp only [own_f_73, if_neg hc77, if_pos hc83]))
      · refine own_go (x' := s₁.setTop (mkF m 143 #[.val (.int p0)] [])) (fun _ k => XS.icmpYes X0.here hx rfl (pc0 := 83) (pc' := 143) rfl (hb hby d1_83) rfl (flt hc83).2.2.2 (by decide) (by decide) k) ?_
        exact blk143 (hF.trans (by simp only [own_f_73, if_neg hc77, if_neg hc83]))
  have blk71 : own_f_0 p0 = own_f_71 p0 → own_End p e below s (Q_rm1 Z p0 h0 n0) 0 0 (s₁.setTop (mkF m 71 #[.val (.int p0)] [])) := by
    intro hF
    refine own_go (x' := s₁.setTop (mkF m 72 #[.val (.int p0)] [(.int (0 : Int32))])) (fun _ k => XS.iconst X0.here hx rfl (hb hby d1_71) k) ?_
    refine own_retN X0 hx hlk (t := .boolean) hret (by simp) (hb hby d1_72) (w := (0 : Int32)) rfl ?_ (by decide) (by decide)
    rw [e0]
    exact ⟨by rw [hF]; rfl, Nf, rfl⟩
  have blk67 : own_f_0 p0 = own_f_67 p0 → own_End p e below s (Q_rm1 Z p0 h0 n0) 0 0 (s₁.setTop (mkF m 67 #[.val (.int p0)] [])) := by
    intro hF
    refine own_go (x' := s₁.setTop (mkF m 72 #[.val (.int p0)] [(.int (1 : Int32))])) (fun _ k => XS.iconst X0.here hx rfl (hb hby d1_67) (XS.goto X0.here hx rfl (pc0 := 68) (pc' := 72) rfl (hb hby d1_68) (by decide) (by decide) k)) ?_
    refine own_retN X0 hx hlk (t := .boolean) hret (by simp) (hb hby d1_72) (w := (1 : Int32)) rfl ?_ (by decide) (by decide)
    rw [e0]
    exact ⟨by rw [hF]; rfl, Nf, rfl⟩
  have blk43 : own_f_0 p0 = own_f_43 p0 → own_End p e below s (Q_rm1 Z p0 h0 n0) 0 0 (s₁.setTop (mkF m 43 #[.val (.int p0)] [])) := by
    intro hF
    refine own_go (x' := s₁.setTop (mkF m 46 #[.val (.int p0)] [(.int (45 : Int32)), (.int p0)])) (fun _ k => XS.iloadN X0.here hx rfl (hb hby d1_43) rfl (XS.bipush X0.here hx rfl (hb hby d1_44) k)) ?_
    by_cases hc46 : p0 = (45 : Int32)
    · refine own_go (x' := s₁.setTop (mkF m 67 #[.val (.int p0)] [])) (fun _ k => XS.icmpYes X0.here hx rfl (pc0 := 46) (pc' := 67) rfl (hb hby d1_46) rfl (teq hc46).1 (by decide) (by decide) k) ?_
      exact blk67 (hF.trans (by simp only [own_f_43, if_pos hc46]))
    · refine own_go (x' := s₁.setTop (mkF m 52 #[.val (.int p0)] [(.int (46 : Int32)), (.int p0)])) (fun _ k => XS.icmpNo X0.here hx rfl (hb hby d1_46) rfl (feq hc46).1 (XS.iloadN X0.here hx rfl (hb hby d1_49) rfl (XS.bipush X0.here hx rfl (hb hby d1_50) k))) ?_
      by_cases hc52 : p0 = (46 : Int32)
      · refine own_go (x' := s₁.setTop (mkF m 67 #[.val (.int p0)] [])) (fun _ k => XS.icmpYes X0.here hx rfl (pc0 := 52) (pc' := 67) rfl (hb hby d1_52) rfl (teq hc52).1 (by decide) (by decide) k) ?_
        exact blk67 (hF.trans (by simp only [own_f_43, if_neg hc46, if_pos hc52]))
      · refine own_go (x' := s₁.setTop (mkF m 58 #[.val (.int p0)] [(.int (95 : Int32)), (.int p0)])) (fun _ k => XS.icmpNo X0.here hx rfl (hb hby d1_52) rfl (feq hc52).1 (XS.iloadN X0.here hx rfl (hb hby d1_55) rfl (XS.bipush X0.here hx rfl (hb hby d1_56) k))) ?_
        by_cases hc58 : p0 = (95 : Int32)
        · refine own_go (x' := s₁.setTop (mkF m 67 #[.val (.int p0)] [])) (fun _ k => XS.icmpYes X0.here hx rfl (pc0 := 58) (pc' := 67) rfl (hb hby d1_58) rfl (teq hc58).1 (by decide) (by decide) k) ?_
          exact blk67 (hF.trans (by simp only [own_f_43, if_neg hc46, if_neg hc52, if_pos hc58]))
        · refine own_go (x' := s₁.setTop (mkF m 64 #[.val (.int p0)] [(.int (126 : Int32)), (.int p0)])) (fun _ k => XS.icmpNo X0.here hx rfl (hb hby d1_58) rfl (feq hc58).1 (XS.iloadN X0.here hx rfl (hb hby d1_61) rfl (XS.bipush X0.here hx rfl (hb hby d1_62) k))) ?_
          by_cases hc64 : p0 = (126 : Int32)
          · refine own_go (x' := s₁.setTop (mkF m 67 #[.val (.int p0)] [])) (fun _ k => XS.icmpNo X0.here hx rfl (hb hby d1_64) rfl (teq hc64).2 k) ?_
            exact blk67 (hF.trans (by simp only [own_f_43, if_neg hc46, if_neg hc52, if_neg hc58, if_pos hc64]))
          · refine own_go (x' := s₁.setTop (mkF m 71 #[.val (.int p0)] [])) (fun _ k => XS.icmpYes X0.here hx rfl (pc0 := 64) (pc' := 71) rfl (hb hby d1_64) rfl (feq hc64).2 (by decide) (by decide) k) ?_
            exact blk71 (hF.trans (by simp only [own_f_43, if_neg hc46, if_neg hc52, if_neg hc58, if_neg hc64]))
  have blk31 : own_f_0 p0 = own_f_31 p0 → own_End p e below s (Q_rm1 Z p0 h0 n0) 0 0 (s₁.setTop (mkF m 31 #[.val (.int p0)] [])) := by
    intro hF
    refine own_go (x' := s₁.setTop (mkF m 34 #[.val (.int p0)] [(.int (48 : Int32)), (.int p0)])) (fun _ k => XS.iloadN X0.here hx rfl (hb hby d1_31) rfl (XS.bipush X0.here hx rfl (hb hby d1_32) k)) ?_
    by_cases hc34 : p0 < (48 : Int32)
    · refine own_go (x' := s₁.setTop (mkF m 43 #[.val (.int p0)] [])) (fun _ k => XS.icmpYes X0.here hx rfl (pc0 := 34) (pc' := 43) rfl (hb hby d1_34) rfl (tlt hc34).1 (by decide) (by decide) k) ?_
      exact blk43 (hF.trans (by simp only [own_f_31, if_pos hc34]))
    · refine own_go (x' := s₁.setTop (mkF m 40 #[.val (.int p0)] [(.int (57 : Int32)), (.int p0)])) (fun _ k => XS.icmpNo X0.here hx rfl (hb hby d1_34) rfl (flt hc34).1 (XS.iloadN X0.here hx rfl (hb hby d1_37) rfl (XS.bipush X0.here hx rfl (hb hby d1_38) k))) ?_
      by_cases hc40 : (57 : Int32) < p0
      · refine own_go (x' := s₁.setTop (mkF m 43 #[.val (.int p0)] [])) (fun _ k => XS.icmpNo X0.here hx rfl (hb hby d1_40) rfl (tlt hc40).2.2.2 k) ?_
        exact blk43 (hF.trans (by simp only [own_f_31, if_neg hc34, if_pos hc40]))
      · refine own_go (x' := s₁.setTop (mkF m 67 #[.val (.int p0)] [])) (fun _ k => XS.icmpYes X0.here hx rfl (pc0 := 40) (pc' := 67) rfl (hb hby d1_40) rfl (flt hc40).2.2.2 (by decide) (by decide) k) ?_
        exact blk67 (hF.trans (by simp only [own_f_31, if_neg hc34, if_neg hc40]))
  have blk19 : own_f_0 p0 = own_f_19 p0 → own_End p e below s (Q_rm1 Z p0 h0 n0) 0 0 (s₁.setTop (mkF m 19 #[.val (.int p0)] [])) := by
    intro hF
    refine own_go (x' := s₁.setTop (mkF m 22 #[.val (.int p0)] [(.int (65 : Int32)), (.int p0)])) (fun _ k => XS.iloadN X0.here hx rfl (hb hby d1_19) rfl (XS.bipush X0.here hx rfl (hb hby d1_20) k)) ?_
    by_cases hc22 : p0 < (65 : Int32)
    · refine own_go (x' := s₁.setTop (mkF m 31 #[.val (.int p0)] [])) (fun _ k => XS.icmpYes X0.here hx rfl (pc0 := 22) (pc' := 31) rfl (hb hby d1_22) rfl (tlt hc22).1 (by decide) (by decide) k) ?_
      exact blk31 (hF.trans (by simp only [own_f_19, if_pos hc22]))
    · refine own_go (x' := s₁.setTop (mkF m 28 #[.val (.int p0)] [(.int (90 : Int32)), (.int p0)])) (fun _ k => XS.icmpNo X0.here hx rfl (hb hby d1_22) rfl (flt hc22).1 (XS.iloadN X0.here hx rfl (hb hby d1_25) rfl (XS.bipush X0.here hx rfl (hb hby d1_26) k))) ?_
      by_cases hc28 : (90 : Int32) < p0
      · refine own_go (x' := s₁.setTop (mkF m 31 #[.val (.int p0)] [])) (fun _ k => XS.icmpNo X0.here hx rfl (hb hby d1_28) rfl (tlt hc28).2.2.2 k) ?_
        exact blk31 (hF.trans (by simp only [own_f_19, if_neg hc22, if_pos hc28]))
      · refine own_go (x' := s₁.setTop (mkF m 67 #[.val (.int p0)] [])) (fun _ k => XS.icmpYes X0.here hx rfl (pc0 := 28) (pc' := 67) rfl (hb hby d1_28) rfl (flt hc28).2.2.2 (by decide) (by decide) k) ?_
        exact blk67 (hF.trans (by simp only [own_f_19, if_neg hc22, if_neg hc28]))
  have hF : own_f_0 p0 = own_f_0 p0 := rfl
  refine own_go (x' := s₁.setTop (mkF m 4 #[.val (.int p0)] [(.int (128 : Int32)), (.int p0)])) (fun _ k => XS.iloadN X0.here hx rfl (hb hby d1_0) rfl (XS.sipush X0.here hx rfl (hb hby d1_1) k)) ?_
  by_cases hc4 : p0 < (128 : Int32)
  · refine own_go (x' := s₁.setTop (mkF m 10 #[.val (.int p0)] [(.int (97 : Int32)), (.int p0)])) (fun _ k => XS.icmpNo X0.here hx rfl (hb hby d1_4) rfl (tlt hc4).2.1 (XS.iloadN X0.here hx rfl (hb hby d1_7) rfl (XS.bipush X0.here hx rfl (hb hby d1_8) k))) ?_
    by_cases hc10 : p0 < (97 : Int32)
    · refine own_go (x' := s₁.setTop (mkF m 19 #[.val (.int p0)] [])) (fun _ k => XS.icmpYes X0.here hx rfl (pc0 := 10) (pc' := 19) rfl (hb hby d1_10) rfl (tlt hc10).1 (by decide) (by decide) k) ?_
      exact blk19 (hF.trans (by simp only [own_f_0, if_pos hc4, if_pos hc10]))
    · refine own_go (x' := s₁.setTop (mkF m 16 #[.val (.int p0)] [(.int (122 : Int32)), (.int p0)])) (fun _ k => XS.icmpNo X0.here hx rfl (hb hby d1_10) rfl (flt hc10).1 (XS.iloadN X0.here hx rfl (hb hby d1_13) rfl (XS.bipush X0.here hx rfl (hb hby d1_14) k))) ?_
      by_cases hc16 : (122 : Int32) < p0
      · refine own_go (x' := s₁.setTop (mkF m 19 #[.val (.int p0)] [])) (fun _ k => XS.icmpNo X0.here hx rfl (hb hby d1_16) rfl (tlt hc16).2.2.2 k) ?_
        exact blk19 (hF.trans (by simp only [own_f_0, if_pos hc4, if_neg hc10, if_pos hc16]))
      · refine own_go (x' := s₁.setTop (mkF m 67 #[.val (.int p0)] [])) (fun _ k => XS.icmpYes X0.here hx rfl (pc0 := 16) (pc' := 67) rfl (hb hby d1_16) rfl (flt hc16).2.2.2 (by decide) (by decide) k) ?_
        exact blk67 (hF.trans (by simp only [own_f_0, if_pos hc4, if_neg hc10, if_neg hc16]))
  · refine own_go (x' := s₁.setTop (mkF m 73 #[.val (.int p0)] [])) (fun _ k => XS.icmpYes X0.here hx rfl (pc0 := 4) (pc' := 73) rfl (hb hby d1_4) rfl (flt hc4).2.1 (by decide) (by decide) k) ?_
    exact blk73 (hF.trans (by simp only [own_f_0, if_neg hc4]))
def own_g_115 (p0 : Int32) : Int32 := (if (65519 : Int32) < (p0 &&& (65535 : Int32)) then (0 : Int32) else (1 : Int32))
def own_g_62 (p0 : Int32) : Int32 := (if ((p0.toUInt32 >>> ((16 : Int32) &&& 31).toUInt32).toInt32) = (0 : Int32) then (if (p0 &&& (65535 : Int32)) < (160 : Int32) then (0 : Int32) else (if (p0 &&& (65535 : Int32)) < (55296 : Int32) then (1 : Int32) else (if (p0 &&& (65535 : Int32)) < (63744 : Int32) then (0 : Int32) else (if (p0 &&& (65535 : Int32)) < (64976 : Int32) then (own_g_115 p0) else (if (65007 : Int32) < (p0 &&& (65535 : Int32)) then (own_g_115 p0) else (0 : Int32)))))) else (if (13 : Int32) < ((p0.toUInt32 >>> ((16 : Int32) &&& 31).toUInt32).toInt32) then (if ((p0.toUInt32 >>> ((16 : Int32) &&& 31).toUInt32).toInt32) = (14 : Int32) then (if (p0 &&& (65535 : Int32)) < (4096 : Int32) then (0 : Int32) else (if (65533 : Int32) < (p0 &&& (65535 : Int32)) then (0 : Int32) else (1 : Int32))) else (0 : Int32)) else (if (65533 : Int32) < (p0 &&& (65535 : Int32)) then (0 : Int32) else (1 : Int32))))
def own_g_0 (p0 : Int32) : Int32 := (if p0 < (0 : Int32) then (0 : Int32) else (if p0 < (128 : Int32) then (if p0 < (64 : Int32) then (if ((((288054454291267584 : Int64).toUInt64 >>> (p0 &&& 0x3f).toInt64.toUInt64).toInt64) &&& (1 : Int64)) = (0 : Int64) then (0 : Int32) else (1 : Int32)) else (if ((((5188146764422578174 : Int64).toUInt64 >>> ((p0 - (64 : Int32)) &&& 0x3f).toInt64.toUInt64).toInt64) &&& (1 : Int64)) = (0 : Int64) then (0 : Int32) else (1 : Int32))) else (own_g_62 p0)))
theorem d2_0 : decode method_3_code 0 = .ok (.iload_n 0, 1) := by decide +kernel
theorem d2_1 : decode method_3_code 1 = .ok (.ifCond .ge 5, 3) := by decide +kernel
theorem d2_4 : decode method_3_code 4 = .ok (.iconst 0, 1) := by decide +kernel
theorem d2_5 : decode method_3_code 5 = .ok (.ireturn, 1) := by decide +kernel
theorem d2_6 : decode method_3_code 6 = .ok (.iload_n 0, 1) := by decide +kernel
theorem d2_7 : decode method_3_code 7 = .ok (.sipush 128, 3) := by decide +kernel
theorem d2_10 : decode method_3_code 10 = .ok (.if_icmp .ge 52, 3) := by decide +kernel
theorem d2_13 : decode method_3_code 13 = .ok (.ldc2_w 20, 3) := by decide +kernel
theorem d2_16 : decode method_3_code 16 = .ok (.lstore_n 1, 1) := by decide +kernel
theorem d2_17 : decode method_3_code 17 = .ok (.ldc2_w 22, 3) := by decide +kernel
theorem d2_20 : decode method_3_code 20 = .ok (.lstore_n 3, 1) := by decide +kernel
theorem d2_21 : decode method_3_code 21 = .ok (.iload_n 0, 1) := by decide +kernel
theorem d2_22 : decode method_3_code 22 = .ok (.bipush 64, 2) := by decide +kernel
theorem d2_24 : decode method_3_code 24 = .ok (.if_icmp .ge 19, 3) := by decide +kernel
theorem d2_27 : decode method_3_code 27 = .ok (.lload_n 1, 1) := by decide +kernel
theorem d2_28 : decode method_3_code 28 = .ok (.iload_n 0, 1) := by decide +kernel
theorem d2_29 : decode method_3_code 29 = .ok (.lushr, 1) := by decide +kernel
theorem d2_30 : decode method_3_code 30 = .ok (.lconst 1, 1) := by decide +kernel
theorem d2_31 : decode method_3_code 31 = .ok (.land, 1) := by decide +kernel
theorem d2_32 : decode method_3_code 32 = .ok (.lconst 0, 1) := by decide +kernel
theorem d2_33 : decode method_3_code 33 = .ok (.lcmp, 1) := by decide +kernel
theorem d2_34 : decode method_3_code 34 = .ok (.ifCond .eq 7, 3) := by decide +kernel
theorem d2_37 : decode method_3_code 37 = .ok (.iconst 1, 1) := by decide +kernel
theorem d2_38 : decode method_3_code 38 = .ok (.goto 4, 3) := by decide +kernel
theorem d2_41 : decode method_3_code 41 = .ok (.iconst 0, 1) := by decide +kernel
theorem d2_42 : decode method_3_code 42 = .ok (.ireturn, 1) := by decide +kernel
theorem d2_43 : decode method_3_code 43 = .ok (.lload_n 3, 1) := by decide +kernel
theorem d2_44 : decode method_3_code 44 = .ok (.iload_n 0, 1) := by decide +kernel
theorem d2_45 : decode method_3_code 45 = .ok (.bipush 64, 2) := by decide +kernel
theorem d2_47 : decode method_3_code 47 = .ok (.isub, 1) := by decide +kernel
theorem d2_48 : decode method_3_code 48 = .ok (.lushr, 1) := by decide +kernel
theorem d2_49 : decode method_3_code 49 = .ok (.lconst 1, 1) := by decide +kernel
theorem d2_50 : decode method_3_code 50 = .ok (.land, 1) := by decide +kernel
theorem d2_51 : decode method_3_code 51 = .ok (.lconst 0, 1) := by decide +kernel
theorem d2_52 : decode method_3_code 52 = .ok (.lcmp, 1) := by decide +kernel
theorem d2_53 : decode method_3_code 53 = .ok (.ifCond .eq 7, 3) := by decide +kernel
theorem d2_56 : decode method_3_code 56 = .ok (.iconst 1, 1) := by decide +kernel
theorem d2_57 : decode method_3_code 57 = .ok (.goto 4, 3) := by decide +kernel
theorem d2_60 : decode method_3_code 60 = .ok (.iconst 0, 1) := by decide +kernel
theorem d2_61 : decode method_3_code 61 = .ok (.ireturn, 1) := by decide +kernel
theorem d2_62 : decode method_3_code 62 = .ok (.iload_n 0, 1) := by decide +kernel
theorem d2_63 : decode method_3_code 63 = .ok (.bipush 16, 2) := by decide +kernel
theorem d2_65 : decode method_3_code 65 = .ok (.iushr, 1) := by decide +kernel
theorem d2_66 : decode method_3_code 66 = .ok (.istore_n 1, 1) := by decide +kernel
theorem d2_67 : decode method_3_code 67 = .ok (.iload_n 0, 1) := by decide +kernel
theorem d2_68 : decode method_3_code 68 = .ok (.ldc 7, 2) := by decide +kernel
theorem d2_70 : decode method_3_code 70 = .ok (.iand, 1) := by decide +kernel
theorem d2_71 : decode method_3_code 71 = .ok (.istore_n 2, 1) := by decide +kernel
theorem d2_72 : decode method_3_code 72 = .ok (.iload_n 1, 1) := by decide +kernel
theorem d2_73 : decode method_3_code 73 = .ok (.ifCond .ne 54, 3) := by decide +kernel
theorem d2_76 : decode method_3_code 76 = .ok (.iload_n 2, 1) := by decide +kernel
theorem d2_77 : decode method_3_code 77 = .ok (.sipush 160, 3) := by decide +kernel
theorem d2_80 : decode method_3_code 80 = .ok (.if_icmp .ge 5, 3) := by decide +kernel
theorem d2_83 : decode method_3_code 83 = .ok (.iconst 0, 1) := by decide +kernel
theorem d2_84 : decode method_3_code 84 = .ok (.ireturn, 1) := by decide +kernel
theorem d2_85 : decode method_3_code 85 = .ok (.iload_n 2, 1) := by decide +kernel
theorem d2_86 : decode method_3_code 86 = .ok (.ldc 24, 2) := by decide +kernel
theorem d2_88 : decode method_3_code 88 = .ok (.if_icmp .ge 5, 3) := by decide +kernel
theorem d2_91 : decode method_3_code 91 = .ok (.iconst 1, 1) := by decide +kernel
theorem d2_92 : decode method_3_code 92 = .ok (.ireturn, 1) := by decide +kernel
theorem d2_93 : decode method_3_code 93 = .ok (.iload_n 2, 1) := by decide +kernel
theorem d2_94 : decode method_3_code 94 = .ok (.ldc 25, 2) := by decide +kernel
theorem d2_96 : decode method_3_code 96 = .ok (.if_icmp .ge 5, 3) := by decide +kernel
theorem d2_99 : decode method_3_code 99 = .ok (.iconst 0, 1) := by decide +kernel
theorem d2_100 : decode method_3_code 100 = .ok (.ireturn, 1) := by decide +kernel
theorem d2_101 : decode method_3_code 101 = .ok (.iload_n 2, 1) := by decide +kernel
theorem d2_102 : decode method_3_code 102 = .ok (.ldc 26, 2) := by decide +kernel
theorem d2_104 : decode method_3_code 104 = .ok (.if_icmp .lt 11, 3) := by decide +kernel
theorem d2_107 : decode method_3_code 107 = .ok (.iload_n 2, 1) := by decide +kernel
theorem d2_108 : decode method_3_code 108 = .ok (.ldc 27, 2) := by decide +kernel
theorem d2_110 : decode method_3_code 110 = .ok (.if_icmp .gt 5, 3) := by decide +kernel
theorem d2_113 : decode method_3_code 113 = .ok (.iconst 0, 1) := by decide +kernel
theorem d2_114 : decode method_3_code 114 = .ok (.ireturn, 1) := by decide +kernel
theorem d2_115 : decode method_3_code 115 = .ok (.iload_n 2, 1) := by decide +kernel
theorem d2_116 : decode method_3_code 116 = .ok (.ldc 28, 2) := by decide +kernel
theorem d2_118 : decode method_3_code 118 = .ok (.if_icmp .gt 7, 3) := by decide +kernel
theorem d2_121 : decode method_3_code 121 = .ok (.iconst 1, 1) := by decide +kernel
theorem d2_122 : decode method_3_code 122 = .ok (.goto 4, 3) := by decide +kernel
theorem d2_125 : decode method_3_code 125 = .ok (.iconst 0, 1) := by decide +kernel
theorem d2_126 : decode method_3_code 126 = .ok (.ireturn, 1) := by decide +kernel
theorem d2_127 : decode method_3_code 127 = .ok (.iload_n 1, 1) := by decide +kernel
theorem d2_128 : decode method_3_code 128 = .ok (.bipush 13, 2) := by decide +kernel
theorem d2_130 : decode method_3_code 130 = .ok (.if_icmp .gt 15, 3) := by decide +kernel
theorem d2_133 : decode method_3_code 133 = .ok (.iload_n 2, 1) := by decide +kernel
theorem d2_134 : decode method_3_code 134 = .ok (.ldc 29, 2) := by decide +kernel
theorem d2_136 : decode method_3_code 136 = .ok (.if_icmp .gt 7, 3) := by decide +kernel
theorem d2_139 : decode method_3_code 139 = .ok (.iconst 1, 1) := by decide +kernel
theorem d2_140 : decode method_3_code 140 = .ok (.goto 4, 3) := by decide +kernel
theorem d2_143 : decode method_3_code 143 = .ok (.iconst 0, 1) := by decide +kernel
theorem d2_144 : decode method_3_code 144 = .ok (.ireturn, 1) := by decide +kernel
theorem d2_145 : decode method_3_code 145 = .ok (.iload_n 1, 1) := by decide +kernel
theorem d2_146 : decode method_3_code 146 = .ok (.bipush 14, 2) := by decide +kernel
theorem d2_148 : decode method_3_code 148 = .ok (.if_icmp .ne 22, 3) := by decide +kernel
theorem d2_151 : decode method_3_code 151 = .ok (.iload_n 2, 1) := by decide +kernel
theorem d2_152 : decode method_3_code 152 = .ok (.sipush 4096, 3) := by decide +kernel
theorem d2_155 : decode method_3_code 155 = .ok (.if_icmp .lt 13, 3) := by decide +kernel
theorem d2_158 : decode method_3_code 158 = .ok (.iload_n 2, 1) := by decide +kernel
theorem d2_159 : decode method_3_code 159 = .ok (.ldc 29, 2) := by decide +kernel
theorem d2_161 : decode method_3_code 161 = .ok (.if_icmp .gt 7, 3) := by decide +kernel
theorem d2_164 : decode method_3_code 164 = .ok (.iconst 1, 1) := by decide +kernel
theorem d2_165 : decode method_3_code 165 = .ok (.goto 4, 3) := by decide +kernel
theorem d2_168 : decode method_3_code 168 = .ok (.iconst 0, 1) := by decide +kernel
theorem d2_169 : decode method_3_code 169 = .ok (.ireturn, 1) := by decide +kernel
theorem d2_170 : decode method_3_code 170 = .ok (.iconst 0, 1) := by decide +kernel
theorem d2_171 : decode method_3_code 171 = .ok (.ireturn, 1) := by decide +kernel
def Q_rm2 (Z : State) (p0 : Int32) (h0 : Heap) (n0 : Nat) (v : Option Value) (h : Heap) (L : List Loc) : Prop := v = some (.int (own_g_0 p0)) ∧ Fr n0 L ∧ h = h0
theorem pn_rm2 : plainName "com/example/triplewright/triplewright/IriIsIunreservedPinLaw" = true := by first | (simp [plainName, overriddenIn]; done) | decide +kernel
theorem ef_rm2 (m : MethodId) (x0 : Int32) : entryFrame m #[(.int x0)] 5 = mkF m 0 #[.val (.int x0), .unset, .unset, .unset, .unset] [] := by first | (simp [entryFrame, mkF, argsToLocals, Value.category]; done) | rfl
set_option maxRecDepth 65536 in
set_option maxHeartbeats 40000000 in
theorem rm2 (l : Launch) (Z : State) (a0 : Array Value) (hw : ∀ d ∈ tables_1, d.before a0 Z = true) (ws : List Jvm.Cond) (p0 : Int32) (h0 : Heap) (n0 : Nat) (Z0 : n0 ≤ h0.size) :
    MetFree l (⟨"com/example/triplewright/triplewright/IriIsIunreservedPinLaw", "expected", "(I)Z"⟩ : MethodName) (head1 (Jvm.Cond.code (⟨"com/example/triplewright/triplewright/IriIsIunreservedPinLaw", "expected", "(I)Z"⟩ : MethodName) method_3_code 5 (some .boolean) :: ws) ({ frames := 0, cells := 0, slots := 0, locals := 0 } : Room)) (fun a U => a = #[(.int p0)] ∧ Z.Warmed39 U.vm ∧ U.heap = h0) (fun _ _ _ _ _ => True) (fun _ U o U' => ∃ v L, o = .returned v ∧ (Q_rm2 Z p0 h0 n0) v U'.heap L ∧ FrameEnd U o U' L ({ frames := 0, cells := 0, slots := 0, locals := 0 } : Room).cells ({ frames := 0, cells := 0, slots := 0, locals := 0 } : Room).slots) := by
  refine MetFree.of_bodySF (plainFor_of_name pn_rm2) hisR ?_
  intro p e s m args below meth c s₁ Bd hml0 hP hK
  obtain ⟨rfl, hZ, hh⟩ := hP
  have hx := Bd.exec
  have hby := Bd.bytes
  have hlk := BodyLoose.notSynchronized Bd
  have hret := Bd.returns
  have hml : c.maxLocals = 5 := hml0
  have hown : s.vm.findClass "com/example/triplewright/triplewright/IriIsIunreservedPinLaw" = some m.cls := findClass_of_methodNamed Bd.named
  have hnm := (name_of_methodNamed Bd.named Bd.method).1
  have X0 : Stand p l e ({ frames := 0, cells := 0, slots := 0, locals := 0 } : Room) s m #[(.int p0)] below meth c s₁ [] 0 0 := Stand.of_body Bd
  have e0 : s₁.heap = h0 := by rw [← hh, Bd.state]; rfl
  have Nf := Fr.nil n0
  have Zs := Z0
  have Kp : Keep h0 h0 [] := Keep.refl _ _
  show own_End p e below s (Q_rm2 Z p0 h0 n0) ({ frames := 0, cells := 0, slots := 0, locals := 0 } : Room).cells ({ frames := 0, cells := 0, slots := 0, locals := 0 } : Room).slots (s₁.setTop (entryFrame m #[(.int p0)] 5))
  refine own_go (x' := s₁.setTop (mkF m 0 #[.val (.int p0), .unset, .unset, .unset, .unset] [])) (fun t k => castTop (ef_rm2 m p0) k) ?_
  have blk115 : own_g_0 p0 = own_g_115 p0 → own_End p e below s (Q_rm2 Z p0 h0 n0) 0 0 (s₁.setTop (mkF m 115 #[.val (.int p0), .val (.int ((p0.toUInt32 >>> ((16 : Int32) &&& 31).toUInt32).toInt32)), .val (.int (p0 &&& (65535 : Int32))), .unset, .unset] [])) := by
    intro hF
    refine own_go (x' := s₁.setTop (mkF m 116 #[.val (.int p0), .val (.int ((p0.toUInt32 >>> ((16 : Int32) &&& 31).toUInt32).toInt32)), .val (.int (p0 &&& (65535 : Int32))), .unset, .unset] [(.int (p0 &&& (65535 : Int32)))])) (fun _ k => XS.iloadN X0.here hx rfl (hb hby d2_115) rfl k) ?_
    refine own_go (x' := s₁.setTop (mkF m 118 #[.val (.int p0), .val (.int ((p0.toUInt32 >>> ((16 : Int32) &&& 31).toUInt32).toInt32)), .val (.int (p0 &&& (65535 : Int32))), .unset, .unset] [(.int (65519 : Int32)), (.int (p0 &&& (65535 : Int32)))])) (fun t k => X0.ldcInt hx hown (mvT hZ (own_w hw 28 rfl)) (g := (mkF m 116 #[.val (.int p0), .val (.int ((p0.toUInt32 >>> ((16 : Int32) &&& 31).toUInt32).toInt32)), .val (.int (p0 &&& (65535 : Int32))), .unset, .unset] [(.int (p0 &&& (65535 : Int32)))])) rfl (hb hby d2_116) t k) ?_
    by_cases hc118 : (65519 : Int32) < (p0 &&& (65535 : Int32))
    · refine own_go (x' := s₁.setTop (mkF m 126 #[.val (.int p0), .val (.int ((p0.toUInt32 >>> ((16 : Int32) &&& 31).toUInt32).toInt32)), .val (.int (p0 &&& (65535 : Int32))), .unset, .unset] [(.int (0 : Int32))])) (fun _ k => XS.icmpYes X0.here hx rfl (pc0 := 118) (pc' := 125) rfl (hb hby d2_118) rfl (tlt hc118).2.2.1 (by decide) (by decide) (XS.iconst X0.here hx rfl (hb hby d2_125) k)) ?_
      refine own_retN X0 hx hlk (t := .boolean) hret (by simp) (hb hby d2_126) (w := (0 : Int32)) rfl ?_ (by decide) (by decide)
      rw [e0]
      exact ⟨by rw [hF]; simp only [own_g_115, if_pos hc118], Nf, rfl⟩
    · refine own_go (x' := s₁.setTop (mkF m 126 #[.val (.int p0), .val (.int ((p0.toUInt32 >>> ((16 : Int32) &&& 31).toUInt32).toInt32)), .val (.int (p0 &&& (65535 : Int32))), .unset, .unset] [(.int (1 : Int32))])) (fun _ k => XS.icmpNo X0.here hx rfl (hb hby d2_118) rfl (flt hc118).2.2.1 (XS.iconst X0.here hx rfl (hb hby d2_121) (XS.goto X0.here hx rfl (pc0 := 122) (pc' := 126) rfl (hb hby d2_122) (by decide) (by decide) k))) ?_
      refine own_retN X0 hx hlk (t := .boolean) hret (by simp) (hb hby d2_126) (w := (1 : Int32)) rfl ?_ (by decide) (by decide)
      rw [e0]
      exact ⟨by rw [hF]; simp only [own_g_115, if_neg hc118], Nf, rfl⟩
  have blk62 : own_g_0 p0 = own_g_62 p0 → own_End p e below s (Q_rm2 Z p0 h0 n0) 0 0 (s₁.setTop (mkF m 62 #[.val (.int p0), .unset, .unset, .unset, .unset] [])) := by
    intro hF
    refine own_go (x' := s₁.setTop (mkF m 68 #[.val (.int p0), .val (.int ((p0.toUInt32 >>> ((16 : Int32) &&& 31).toUInt32).toInt32)), .unset, .unset, .unset] [(.int p0)])) (fun _ k => XS.iloadN X0.here hx rfl (hb hby d2_62) rfl (XS.bipush X0.here hx rfl (hb hby d2_63) (XS.iushr X0.here hx rfl (hb hby d2_65) rfl (XS.istoreN X0.here hx rfl (hb hby d2_66) rfl (l' := #[.val (.int p0), .val (.int ((p0.toUInt32 >>> ((16 : Int32) &&& 31).toUInt32).toInt32)), .unset, .unset, .unset]) rfl (XS.iloadN X0.here hx rfl (hb hby d2_67) rfl k))))) ?_
    refine own_go (x' := s₁.setTop (mkF m 70 #[.val (.int p0), .val (.int ((p0.toUInt32 >>> ((16 : Int32) &&& 31).toUInt32).toInt32)), .unset, .unset, .unset] [(.int (65535 : Int32)), (.int p0)])) (fun t k => X0.ldcInt hx hown (mvT hZ (own_w hw 12 rfl)) (g := (mkF m 68 #[.val (.int p0), .val (.int ((p0.toUInt32 >>> ((16 : Int32) &&& 31).toUInt32).toInt32)), .unset, .unset, .unset] [(.int p0)])) rfl (hb hby d2_68) t k) ?_
    refine own_go (x' := s₁.setTop (mkF m 73 #[.val (.int p0), .val (.int ((p0.toUInt32 >>> ((16 : Int32) &&& 31).toUInt32).toInt32)), .val (.int (p0 &&& (65535 : Int32))), .unset, .unset] [(.int ((p0.toUInt32 >>> ((16 : Int32) &&& 31).toUInt32).toInt32))])) (fun _ k => XS.iand X0.here hx rfl (hb hby d2_70) rfl (XS.istoreN X0.here hx rfl (hb hby d2_71) rfl (l' := #[.val (.int p0), .val (.int ((p0.toUInt32 >>> ((16 : Int32) &&& 31).toUInt32).toInt32)), .val (.int (p0 &&& (65535 : Int32))), .unset, .unset]) rfl (XS.iloadN X0.here hx rfl (hb hby d2_72) rfl k))) ?_
    by_cases hc73 : ((p0.toUInt32 >>> ((16 : Int32) &&& 31).toUInt32).toInt32) = (0 : Int32)
    · refine own_go (x' := s₁.setTop (mkF m 80 #[.val (.int p0), .val (.int ((p0.toUInt32 >>> ((16 : Int32) &&& 31).toUInt32).toInt32)), .val (.int (p0 &&& (65535 : Int32))), .unset, .unset] [(.int (160 : Int32)), (.int (p0 &&& (65535 : Int32)))])) (fun _ k => XS.ifNo X0.here hx rfl (hb hby d2_73) rfl ((if0 _ _).trans (teq hc73).2) (XS.iloadN X0.here hx rfl (hb hby d2_76) rfl (XS.sipush X0.here hx rfl (hb hby d2_77) k))) ?_
      by_cases hc80 : (p0 &&& (65535 : Int32)) < (160 : Int32)
      · refine own_go (x' := s₁.setTop (mkF m 84 #[.val (.int p0), .val (.int ((p0.toUInt32 >>> ((16 : Int32) &&& 31).toUInt32).toInt32)), .val (.int (p0 &&& (65535 : Int32))), .unset, .unset] [(.int (0 : Int32))])) (fun _ k => XS.icmpNo X0.here hx rfl (hb hby d2_80) rfl (tlt hc80).2.1 (XS.iconst X0.here hx rfl (hb hby d2_83) k)) ?_
        refine own_retN X0 hx hlk (t := .boolean) hret (by simp) (hb hby d2_84) (w := (0 : Int32)) rfl ?_ (by decide) (by decide)
        rw [e0]
        exact ⟨by rw [hF]; simp only [own_g_62, if_pos hc73, if_pos hc80], Nf, rfl⟩
      · refine own_go (x' := s₁.setTop (mkF m 86 #[.val (.int p0), .val (.int ((p0.toUInt32 >>> ((16 : Int32) &&& 31).toUInt32).toInt32)), .val (.int (p0 &&& (65535 : Int32))), .unset, .unset] [(.int (p0 &&& (65535 : Int32)))])) (fun _ k => XS.icmpYes X0.here hx rfl (pc0 := 80) (pc' := 85) rfl (hb hby d2_80) rfl (flt hc80).2.1 (by decide) (by decide) (XS.iloadN X0.here hx rfl (hb hby d2_85) rfl k)) ?_
        refine own_go (x' := s₁.setTop (mkF m 88 #[.val (.int p0), .val (.int ((p0.toUInt32 >>> ((16 : Int32) &&& 31).toUInt32).toInt32)), .val (.int (p0 &&& (65535 : Int32))), .unset, .unset] [(.int (55296 : Int32)), (.int (p0 &&& (65535 : Int32)))])) (fun t k => X0.ldcInt hx hown (mvT hZ (own_w hw 13 rfl)) (g := (mkF m 86 #[.val (.int p0), .val (.int ((p0.toUInt32 >>> ((16 : Int32) &&& 31).toUInt32).toInt32)), .val (.int (p0 &&& (65535 : Int32))), .unset, .unset] [(.int (p0 &&& (65535 : Int32)))])) rfl (hb hby d2_86) t k) ?_
        by_cases hc88 : (p0 &&& (65535 : Int32)) < (55296 : Int32)
        · refine own_go (x' := s₁.setTop (mkF m 92 #[.val (.int p0), .val (.int ((p0.toUInt32 >>> ((16 : Int32) &&& 31).toUInt32).toInt32)), .val (.int (p0 &&& (65535 : Int32))), .unset, .unset] [(.int (1 : Int32))])) (fun _ k => XS.icmpNo X0.here hx rfl (hb hby d2_88) rfl (tlt hc88).2.1 (XS.iconst X0.here hx rfl (hb hby d2_91) k)) ?_
          refine own_retN X0 hx hlk (t := .boolean) hret (by simp) (hb hby d2_92) (w := (1 : Int32)) rfl ?_ (by decide) (by decide)
          rw [e0]
          exact ⟨by rw [hF]; simp only [own_g_62, if_pos hc73, if_neg hc80, if_pos hc88], Nf, rfl⟩
        · refine own_go (x' := s₁.setTop (mkF m 94 #[.val (.int p0), .val (.int ((p0.toUInt32 >>> ((16 : Int32) &&& 31).toUInt32).toInt32)), .val (.int (p0 &&& (65535 : Int32))), .unset, .unset] [(.int (p0 &&& (65535 : Int32)))])) (fun _ k => XS.icmpYes X0.here hx rfl (pc0 := 88) (pc' := 93) rfl (hb hby d2_88) rfl (flt hc88).2.1 (by decide) (by decide) (XS.iloadN X0.here hx rfl (hb hby d2_93) rfl k)) ?_
          refine own_go (x' := s₁.setTop (mkF m 96 #[.val (.int p0), .val (.int ((p0.toUInt32 >>> ((16 : Int32) &&& 31).toUInt32).toInt32)), .val (.int (p0 &&& (65535 : Int32))), .unset, .unset] [(.int (63744 : Int32)), (.int (p0 &&& (65535 : Int32)))])) (fun t k => X0.ldcInt hx hown (mvT hZ (own_w hw 22 rfl)) (g := (mkF m 94 #[.val (.int p0), .val (.int ((p0.toUInt32 >>> ((16 : Int32) &&& 31).toUInt32).toInt32)), .val (.int (p0 &&& (65535 : Int32))), .unset, .unset] [(.int (p0 &&& (65535 : Int32)))])) rfl (hb hby d2_94) t k) ?_
          by_cases hc96 : (p0 &&& (65535 : Int32)) < (63744 : Int32)
          · refine own_go (x' := s₁.setTop (mkF m 100 #[.val (.int p0), .val (.int ((p0.toUInt32 >>> ((16 : Int32) &&& 31).toUInt32).toInt32)), .val (.int (p0 &&& (65535 : Int32))), .unset, .unset] [(.int (0 : Int32))])) (fun _ k => XS.icmpNo X0.here hx rfl (hb hby d2_96) rfl (tlt hc96).2.1 (XS.iconst X0.here hx rfl (hb hby d2_99) k)) ?_
            refine own_retN X0 hx hlk (t := .boolean) hret (by simp) (hb hby d2_100) (w := (0 : Int32)) rfl ?_ (by decide) (by decide)
            rw [e0]
            exact ⟨by rw [hF]; simp only [own_g_62, if_pos hc73, if_neg hc80, if_neg hc88, if_pos hc96], Nf, rfl⟩
          · refine own_go (x' := s₁.setTop (mkF m 102 #[.val (.int p0), .val (.int ((p0.toUInt32 >>> ((16 : Int32) &&& 31).toUInt32).toInt32)), .val (.int (p0 &&& (65535 : Int32))), .unset, .unset] [(.int (p0 &&& (65535 : Int32)))])) (fun _ k => XS.icmpYes X0.here hx rfl (pc0 := 96) (pc' := 101) rfl (hb hby d2_96) rfl (flt hc96).2.1 (by decide) (by decide) (XS.iloadN X0.here hx rfl (hb hby d2_101) rfl k)) ?_
            refine own_go (x' := s₁.setTop (mkF m 104 #[.val (.int p0), .val (.int ((p0.toUInt32 >>> ((16 : Int32) &&& 31).toUInt32).toInt32)), .val (.int (p0 &&& (65535 : Int32))), .unset, .unset] [(.int (64976 : Int32)), (.int (p0 &&& (65535 : Int32)))])) (fun t k => X0.ldcInt hx hown (mvT hZ (own_w hw 26 rfl)) (g := (mkF m 102 #[.val (.int p0), .val (.int ((p0.toUInt32 >>> ((16 : Int32) &&& 31).toUInt32).toInt32)), .val (.int (p0 &&& (65535 : Int32))), .unset, .unset] [(.int (p0 &&& (65535 : Int32)))])) rfl (hb hby d2_102) t k) ?_
            by_cases hc104 : (p0 &&& (65535 : Int32)) < (64976 : Int32)
            · refine own_go (x' := s₁.setTop (mkF m 115 #[.val (.int p0), .val (.int ((p0.toUInt32 >>> ((16 : Int32) &&& 31).toUInt32).toInt32)), .val (.int (p0 &&& (65535 : Int32))), .unset, .unset] [])) (fun _ k => XS.icmpYes X0.here hx rfl (pc0 := 104) (pc' := 115) rfl (hb hby d2_104) rfl (tlt hc104).1 (by decide) (by decide) k) ?_
              exact blk115 (hF.trans (by simp only [own_g_62, if_pos hc73, if_neg hc80, if_neg hc88, if_neg hc96, if_pos hc104]))
            · refine own_go (x' := s₁.setTop (mkF m 108 #[.val (.int p0), .val (.int ((p0.toUInt32 >>> ((16 : Int32) &&& 31).toUInt32).toInt32)), .val (.int (p0 &&& (65535 : Int32))), .unset, .unset] [(.int (p0 &&& (65535 : Int32)))])) (fun _ k => XS.icmpNo X0.here hx rfl (hb hby d2_104) rfl (flt hc104).1 (XS.iloadN X0.here hx rfl (hb hby d2_107) rfl k)) ?_
              refine own_go (x' := s₁.setTop (mkF m 110 #[.val (.int p0), .val (.int ((p0.toUInt32 >>> ((16 : Int32) &&& 31).toUInt32).toInt32)), .val (.int (p0 &&& (65535 : Int32))), .unset, .unset] [(.int (65007 : Int32)), (.int (p0 &&& (65535 : Int32)))])) (fun t k => X0.ldcInt hx hown (mvT hZ (own_w hw 27 rfl)) (g := (mkF m 108 #[.val (.int p0), .val (.int ((p0.toUInt32 >>> ((16 : Int32) &&& 31).toUInt32).toInt32)), .val (.int (p0 &&& (65535 : Int32))), .unset, .unset] [(.int (p0 &&& (65535 : Int32)))])) rfl (hb hby d2_108) t k) ?_
              by_cases hc110 : (65007 : Int32) < (p0 &&& (65535 : Int32))
              · refine own_go (x' := s₁.setTop (mkF m 115 #[.val (.int p0), .val (.int ((p0.toUInt32 >>> ((16 : Int32) &&& 31).toUInt32).toInt32)), .val (.int (p0 &&& (65535 : Int32))), .unset, .unset] [])) (fun _ k => XS.icmpYes X0.here hx rfl (pc0 := 110) (pc' := 115) rfl (hb hby d2_110) rfl (tlt hc110).2.2.1 (by decide) (by decide) k) ?_
                exact blk115 (hF.trans (by simp only [own_g_62, if_pos hc73, if_neg hc80, if_neg hc88, if_neg hc96, if_neg hc104, if_pos hc110]))
              · refine own_go (x' := s₁.setTop (mkF m 114 #[.val (.int p0), .val (.int ((p0.toUInt32 >>> ((16 : Int32) &&& 31).toUInt32).toInt32)), .val (.int (p0 &&& (65535 : Int32))), .unset, .unset] [(.int (0 : Int32))])) (fun _ k => XS.icmpNo X0.here hx rfl (hb hby d2_110) rfl (flt hc110).2.2.1 (XS.iconst X0.here hx rfl (hb hby d2_113) k)) ?_
                refine own_retN X0 hx hlk (t := .boolean) hret (by simp) (hb hby d2_114) (w := (0 : Int32)) rfl ?_ (by decide) (by decide)
                rw [e0]
                exact ⟨by rw [hF]; simp only [own_g_62, if_pos hc73, if_neg hc80, if_neg hc88, if_neg hc96, if_neg hc104, if_neg hc110], Nf, rfl⟩
    · refine own_go (x' := s₁.setTop (mkF m 130 #[.val (.int p0), .val (.int ((p0.toUInt32 >>> ((16 : Int32) &&& 31).toUInt32).toInt32)), .val (.int (p0 &&& (65535 : Int32))), .unset, .unset] [(.int (13 : Int32)), (.int ((p0.toUInt32 >>> ((16 : Int32) &&& 31).toUInt32).toInt32))])) (fun _ k => XS.ifYes X0.here hx rfl (pc0 := 73) (pc' := 127) rfl (hb hby d2_73) rfl ((if0 _ _).trans (feq hc73).2) (by decide) (by decide) (XS.iloadN X0.here hx rfl (hb hby d2_127) rfl (XS.bipush X0.here hx rfl (hb hby d2_128) k))) ?_
      by_cases hc130 : (13 : Int32) < ((p0.toUInt32 >>> ((16 : Int32) &&& 31).toUInt32).toInt32)
      · refine own_go (x' := s₁.setTop (mkF m 148 #[.val (.int p0), .val (.int ((p0.toUInt32 >>> ((16 : Int32) &&& 31).toUInt32).toInt32)), .val (.int (p0 &&& (65535 : Int32))), .unset, .unset] [(.int (14 : Int32)), (.int ((p0.toUInt32 >>> ((16 : Int32) &&& 31).toUInt32).toInt32))])) (fun _ k => XS.icmpYes X0.here hx rfl (pc0 := 130) (pc' := 145) rfl (hb hby d2_130) rfl (tlt hc130).2.2.1 (by decide) (by decide) (XS.iloadN X0.here hx rfl (hb hby d2_145) rfl (XS.bipush X0.here hx rfl (hb hby d2_146) k))) ?_
        by_cases hc148 : ((p0.toUInt32 >>> ((16 : Int32) &&& 31).toUInt32).toInt32) = (14 : Int32)
        · refine own_go (x' := s₁.setTop (mkF m 155 #[.val (.int p0), .val (.int ((p0.toUInt32 >>> ((16 : Int32) &&& 31).toUInt32).toInt32)), .val (.int (p0 &&& (65535 : Int32))), .unset, .unset] [(.int (4096 : Int32)), (.int (p0 &&& (65535 : Int32)))])) (fun _ k => XS.icmpNo X0.here hx rfl (hb hby d2_148) rfl (teq hc148).2 (XS.iloadN X0.here hx rfl (hb hby d2_151) rfl (XS.sipush X0.here hx rfl (hb hby d2_152) k))) ?_
          by_cases hc155 : (p0 &&& (65535 : Int32)) < (4096 : Int32)
          · refine own_go (x' := s₁.setTop (mkF m 169 #[.val (.int p0), .val (.int ((p0.toUInt32 >>> ((16 : Int32) &&& 31).toUInt32).toInt32)), .val (.int (p0 &&& (65535 : Int32))), .unset, .unset] [(.int (0 : Int32))])) (fun _ k => XS.icmpYes X0.here hx rfl (pc0 := 155) (pc' := 168) rfl (hb hby d2_155) rfl (tlt hc155).1 (by decide) (by decide) (XS.iconst X0.here hx rfl (hb hby d2_168) k)) ?_
            refine own_retN X0 hx hlk (t := .boolean) hret (by simp) (hb hby d2_169) (w := (0 : Int32)) rfl ?_ (by decide) (by decide)
            rw [e0]
            exact ⟨by rw [hF]; simp only [own_g_62, if_neg hc73, if_pos hc130, if_pos hc148, if_pos hc155], Nf, rfl⟩
          · refine own_go (x' := s₁.setTop (mkF m 159 #[.val (.int p0), .val (.int ((p0.toUInt32 >>> ((16 : Int32) &&& 31).toUInt32).toInt32)), .val (.int (p0 &&& (65535 : Int32))), .unset, .unset] [(.int (p0 &&& (65535 : Int32)))])) (fun _ k => XS.icmpNo X0.here hx rfl (hb hby d2_155) rfl (flt hc155).1 (XS.iloadN X0.here hx rfl (hb hby d2_158) rfl k)) ?_
            refine own_go (x' := s₁.setTop (mkF m 161 #[.val (.int p0), .val (.int ((p0.toUInt32 >>> ((16 : Int32) &&& 31).toUInt32).toInt32)), .val (.int (p0 &&& (65535 : Int32))), .unset, .unset] [(.int (65533 : Int32)), (.int (p0 &&& (65535 : Int32)))])) (fun t k => X0.ldcInt hx hown (mvT hZ (own_w hw 25 rfl)) (g := (mkF m 159 #[.val (.int p0), .val (.int ((p0.toUInt32 >>> ((16 : Int32) &&& 31).toUInt32).toInt32)), .val (.int (p0 &&& (65535 : Int32))), .unset, .unset] [(.int (p0 &&& (65535 : Int32)))])) rfl (hb hby d2_159) t k) ?_
            by_cases hc161 : (65533 : Int32) < (p0 &&& (65535 : Int32))
            · refine own_go (x' := s₁.setTop (mkF m 169 #[.val (.int p0), .val (.int ((p0.toUInt32 >>> ((16 : Int32) &&& 31).toUInt32).toInt32)), .val (.int (p0 &&& (65535 : Int32))), .unset, .unset] [(.int (0 : Int32))])) (fun _ k => XS.icmpYes X0.here hx rfl (pc0 := 161) (pc' := 168) rfl (hb hby d2_161) rfl (tlt hc161).2.2.1 (by decide) (by decide) (XS.iconst X0.here hx rfl (hb hby d2_168) k)) ?_
              refine own_retN X0 hx hlk (t := .boolean) hret (by simp) (hb hby d2_169) (w := (0 : Int32)) rfl ?_ (by decide) (by decide)
              rw [e0]
              exact ⟨by rw [hF]; simp only [own_g_62, if_neg hc73, if_pos hc130, if_pos hc148, if_neg hc155, if_pos hc161], Nf, rfl⟩
            · refine own_go (x' := s₁.setTop (mkF m 169 #[.val (.int p0), .val (.int ((p0.toUInt32 >>> ((16 : Int32) &&& 31).toUInt32).toInt32)), .val (.int (p0 &&& (65535 : Int32))), .unset, .unset] [(.int (1 : Int32))])) (fun _ k => XS.icmpNo X0.here hx rfl (hb hby d2_161) rfl (flt hc161).2.2.1 (XS.iconst X0.here hx rfl (hb hby d2_164) (XS.goto X0.here hx rfl (pc0 := 165) (pc' := 169) rfl (hb hby d2_165) (by decide) (by decide) k))) ?_
              refine own_retN X0 hx hlk (t := .boolean) hret (by simp) (hb hby d2_169) (w := (1 : Int32)) rfl ?_ (by decide) (by decide)
              rw [e0]
              exact ⟨by rw [hF]; simp only [own_g_62, if_neg hc73, if_pos hc130, if_pos hc148, if_neg hc155, if_neg hc161], Nf, rfl⟩
        · refine own_go (x' := s₁.setTop (mkF m 171 #[.val (.int p0), .val (.int ((p0.toUInt32 >>> ((16 : Int32) &&& 31).toUInt32).toInt32)), .val (.int (p0 &&& (65535 : Int32))), .unset, .unset] [(.int (0 : Int32))])) (fun _ k => XS.icmpYes X0.here hx rfl (pc0 := 148) (pc' := 170) rfl (hb hby d2_148) rfl (feq hc148).2 (by decide) (by decide) (XS.iconst X0.here hx rfl (hb hby d2_170) k)) ?_
          refine own_retN X0 hx hlk (t := .boolean) hret (by simp) (hb hby d2_171) (w := (0 : Int32)) rfl ?_ (by decide) (by decide)
          rw [e0]
          exact ⟨by rw [hF]; simp only [own_g_62, if_neg hc73, if_pos hc130, if_neg hc148], Nf, rfl⟩
      · refine own_go (x' := s₁.setTop (mkF m 134 #[.val (.int p0), .val (.int ((p0.toUInt32 >>> ((16 : Int32) &&& 31).toUInt32).toInt32)), .val (.int (p0 &&& (65535 : Int32))), .unset, .unset] [(.int (p0 &&& (65535 : Int32)))])) (fun _ k => XS.icmpNo X0.here hx rfl (hb hby d2_130) rfl (flt hc130).2.2.1 (XS.iloadN X0.here hx rfl (hb hby d2_133) rfl k)) ?_
        refine own_go (x' := s₁.setTop (mkF m 136 #[.val (.int p0), .val (.int ((p0.toUInt32 >>> ((16 : Int32) &&& 31).toUInt32).toInt32)), .val (.int (p0 &&& (65535 : Int32))), .unset, .unset] [(.int (65533 : Int32)), (.int (p0 &&& (65535 : Int32)))])) (fun t k => X0.ldcInt hx hown (mvT hZ (own_w hw 25 rfl)) (g := (mkF m 134 #[.val (.int p0), .val (.int ((p0.toUInt32 >>> ((16 : Int32) &&& 31).toUInt32).toInt32)), .val (.int (p0 &&& (65535 : Int32))), .unset, .unset] [(.int (p0 &&& (65535 : Int32)))])) rfl (hb hby d2_134) t k) ?_
        by_cases hc136 : (65533 : Int32) < (p0 &&& (65535 : Int32))
        · refine own_go (x' := s₁.setTop (mkF m 144 #[.val (.int p0), .val (.int ((p0.toUInt32 >>> ((16 : Int32) &&& 31).toUInt32).toInt32)), .val (.int (p0 &&& (65535 : Int32))), .unset, .unset] [(.int (0 : Int32))])) (fun _ k => XS.icmpYes X0.here hx rfl (pc0 := 136) (pc' := 143) rfl (hb hby d2_136) rfl (tlt hc136).2.2.1 (by decide) (by decide) (XS.iconst X0.here hx rfl (hb hby d2_143) k)) ?_
          refine own_retN X0 hx hlk (t := .boolean) hret (by simp) (hb hby d2_144) (w := (0 : Int32)) rfl ?_ (by decide) (by decide)
          rw [e0]
          exact ⟨by rw [hF]; simp only [own_g_62, if_neg hc73, if_neg hc130, if_pos hc136], Nf, rfl⟩
        · refine own_go (x' := s₁.setTop (mkF m 144 #[.val (.int p0), .val (.int ((p0.toUInt32 >>> ((16 : Int32) &&& 31).toUInt32).toInt32)), .val (.int (p0 &&& (65535 : Int32))), .unset, .unset] [(.int (1 : Int32))])) (fun _ k => XS.icmpNo X0.here hx rfl (hb hby d2_136) rfl (flt hc136).2.2.1 (XS.iconst X0.here hx rfl (hb hby d2_139) (XS.goto X0.here hx rfl (pc0 := 140) (pc' := 144) rfl (hb hby d2_140) (by decide) (by decide) k))) ?_
          refine own_retN X0 hx hlk (t := .boolean) hret (by simp) (hb hby d2_144) (w := (1 : Int32)) rfl ?_ (by decide) (by decide)
          rw [e0]
          exact ⟨by rw [hF]; simp only [own_g_62, if_neg hc73, if_neg hc130, if_neg hc136], Nf, rfl⟩
  have hF : own_g_0 p0 = own_g_0 p0 := rfl
  refine own_go (x' := s₁.setTop (mkF m 1 #[.val (.int p0), .unset, .unset, .unset, .unset] [(.int p0)])) (fun _ k => XS.iloadN X0.here hx rfl (hb hby d2_0) rfl k) ?_
  by_cases hc1 : p0 < (0 : Int32)
  · refine own_go (x' := s₁.setTop (mkF m 5 #[.val (.int p0), .unset, .unset, .unset, .unset] [(.int (0 : Int32))])) (fun _ k => XS.ifNo X0.here hx rfl (hb hby d2_1) rfl ((if0 _ _).trans (tlt hc1).2.1) (XS.iconst X0.here hx rfl (hb hby d2_4) k)) ?_
    refine own_retN X0 hx hlk (t := .boolean) hret (by simp) (hb hby d2_5) (w := (0 : Int32)) rfl ?_ (by decide) (by decide)
    rw [e0]
    exact ⟨by rw [hF]; simp only [own_g_0, if_pos hc1], Nf, rfl⟩
  · refine own_go (x' := s₁.setTop (mkF m 10 #[.val (.int p0), .unset, .unset, .unset, .unset] [(.int (128 : Int32)), (.int p0)])) (fun _ k => XS.ifYes X0.here hx rfl (pc0 := 1) (pc' := 6) rfl (hb hby d2_1) rfl ((if0 _ _).trans (flt hc1).2.1) (by decide) (by decide) (XS.iloadN X0.here hx rfl (hb hby d2_6) rfl (XS.sipush X0.here hx rfl (hb hby d2_7) k))) ?_
    by_cases hc10 : p0 < (128 : Int32)
    · refine own_go (x' := s₁.setTop (mkF m 13 #[.val (.int p0), .unset, .unset, .unset, .unset] [])) (fun _ k => XS.icmpNo X0.here hx rfl (hb hby d2_10) rfl (tlt hc10).2.1 k) ?_
      refine own_go (x' := s₁.setTop (mkF m 16 #[.val (.int p0), .unset, .unset, .unset, .unset] [(.long (288054454291267584 : Int64))])) (fun t k => X0.ldc2Long hx hown (mvT hZ (own_w hw 9 rfl)) (g := (mkF m 13 #[.val (.int p0), .unset, .unset, .unset, .unset] [])) rfl (hb hby d2_13) t k) ?_
      refine own_go (x' := s₁.setTop (mkF m 17 #[.val (.int p0), .val (.long (288054454291267584 : Int64)), .second, .unset, .unset] [])) (fun _ k => XS.lstoreN X0.here hx rfl (hb hby d2_16) rfl (l' := #[.val (.int p0), .val (.long (288054454291267584 : Int64)), .second, .unset, .unset]) rfl k) ?_
      refine own_go (x' := s₁.setTop (mkF m 20 #[.val (.int p0), .val (.long (288054454291267584 : Int64)), .second, .unset, .unset] [(.long (5188146764422578174 : Int64))])) (fun t k => X0.ldc2Long hx hown (mvT hZ (own_w hw 10 rfl)) (g := (mkF m 17 #[.val (.int p0), .val (.long (288054454291267584 : Int64)), .second, .unset, .unset] [])) rfl (hb hby d2_17) t k) ?_
      refine own_go (x' := s₁.setTop (mkF m 24 #[.val (.int p0), .val (.long (288054454291267584 : Int64)), .second, .val (.long (5188146764422578174 : Int64)), .second] [(.int (64 : Int32)), (.int p0)])) (fun _ k => XS.lstoreN X0.here hx rfl (hb hby d2_20) rfl (l' := #[.val (.int p0), .val (.long (288054454291267584 : Int64)), .second, .val (.long (5188146764422578174 : Int64)), .second]) rfl (XS.iloadN X0.here hx rfl (hb hby d2_21) rfl (XS.bipush X0.here hx rfl (hb hby d2_22) k))) ?_
      by_cases hc24 : p0 < (64 : Int32)
      · refine own_go (x' := s₁.setTop (mkF m 32 #[.val (.int p0), .val (.long (288054454291267584 : Int64)), .second, .val (.long (5188146764422578174 : Int64)), .second] [(.long ((((288054454291267584 : Int64).toUInt64 >>> (p0 &&& 0x3f).toInt64.toUInt64).toInt64) &&& (1 : Int64)))])) (fun _ k => XS.icmpNo X0.here hx rfl (hb hby d2_24) rfl (tlt hc24).2.1 (XS.lloadN X0.here hx rfl (hb hby d2_27) rfl (XS.iloadN X0.here hx rfl (hb hby d2_28) rfl (XS.lushr X0.here hx rfl (hb hby d2_29) rfl (XS.lconst X0.here hx rfl (hb hby d2_30) (XS.land X0.here hx rfl (hb hby d2_31) rfl k)))))) ?_
        refine own_go (x' := s₁.setTop (mkF m 34 #[.val (.int p0), .val (.long (288054454291267584 : Int64)), .second, .val (.long (5188146764422578174 : Int64)), .second] [(.int (lcmpW ((((288054454291267584 : Int64).toUInt64 >>> (p0 &&& 0x3f).toInt64.toUInt64).toInt64) &&& (1 : Int64)) (0 : Int64)))])) (fun _ k => XS.lconst X0.here hx rfl (hb hby d2_32) (XS.lcmp X0.here hx rfl (hb hby d2_33) rfl k)) ?_
        by_cases hc34 : ((((288054454291267584 : Int64).toUInt64 >>> (p0 &&& 0x3f).toInt64.toUInt64).toInt64) &&& (1 : Int64)) = (0 : Int64)
        · refine own_go (x' := s₁.setTop (mkF m 42 #[.val (.int p0), .val (.long (288054454291267584 : Int64)), .second, .val (.long (5188146764422578174 : Int64)), .second] [(.int (0 : Int32))])) (fun _ k => XS.ifYes X0.here hx rfl (pc0 := 34) (pc' := 41) rfl (hb hby d2_34) rfl ((if0 _ _).trans (teq ((lw_eq ((((288054454291267584 : Int64).toUInt64 >>> (p0 &&& 0x3f).toInt64.toUInt64).toInt64) &&& (1 : Int64)) (0 : Int64)).mpr hc34)).1) (by decide) (by decide) (XS.iconst X0.here hx rfl (hb hby d2_41) k)) ?_
          refine own_retN X0 hx hlk (t := .boolean) hret (by simp) (hb hby d2_42) (w := (0 : Int32)) rfl ?_ (by decide) (by decide)
          rw [e0]
          exact ⟨by rw [hF]; simp only [own_g_0, if_neg hc1, if_pos hc10, if_pos hc24, if_pos hc34], Nf, rfl⟩
        · refine own_go (x' := s₁.setTop (mkF m 42 #[.val (.int p0), .val (.long (288054454291267584 : Int64)), .second, .val (.long (5188146764422578174 : Int64)), .second] [(.int (1 : Int32))])) (fun _ k => XS.ifNo X0.here hx rfl (hb hby d2_34) rfl ((if0 _ _).trans (feq (fun q_ => hc34 ((lw_eq ((((288054454291267584 : Int64).toUInt64 >>> (p0 &&& 0x3f).toInt64.toUInt64).toInt64) &&& (1 : Int64)) (0 : Int64)).mp q_))).1) (XS.iconst X0.here hx rfl (hb hby d2_37) (XS.goto X0.here hx rfl (pc0 := 38) (pc' := 42) rfl (hb hby d2_38) (by decide) (by decide) k))) ?_
          refine own_retN X0 hx hlk (t := .boolean) hret (by simp) (hb hby d2_42) (w := (1 : Int32)) rfl ?_ (by decide) (by decide)
          rw [e0]
          exact ⟨by rw [hF]; simp only [own_g_0, if_neg hc1, if_pos hc10, if_pos hc24, if_neg hc34], Nf, rfl⟩
      · refine own_go (x' := s₁.setTop (mkF m 49 #[.val (.int p0), .val (.long (288054454291267584 : Int64)), .second, .val (.long (5188146764422578174 : Int64)), .second] [(.long (((5188146764422578174 : Int64).toUInt64 >>> ((p0 - (64 : Int32)) &&& 0x3f).toInt64.toUInt64).toInt64))])) (fun _ k => XS.icmpYes X0.here hx rfl (pc0 := 24) (pc' := 43) rfl (hb hby d2_24) rfl (flt hc24).2.1 (by decide) (by decide) (XS.lloadN X0.here hx rfl (hb hby d2_43) rfl (XS.iloadN X0.here hx rfl (hb hby d2_44) rfl (XS.bipush X0.here hx rfl (hb hby d2_45) (XS.isub X0.here hx rfl (hb hby d2_47) rfl (XS.lushr X0.here hx rfl (hb hby d2_48) rfl k)))))) ?_
        refine own_go (x' := s₁.setTop (mkF m 53 #[.val (.int p0), .val (.long (288054454291267584 : Int64)), .second, .val (.long (5188146764422578174 : Int64)), .second] [(.int (lcmpW ((((5188146764422578174 : Int64).toUInt64 >>> ((p0 - (64 : Int32)) &&& 0x3f).toInt64.toUInt64).toInt64) &&& (1 : Int64)) (0 : Int64)))])) (fun _ k => XS.lconst X0.here hx rfl (hb hby d2_49) (XS.land X0.here hx rfl (hb hby d2_50) rfl (XS.lconst X0.here hx rfl (hb hby d2_51) (XS.lcmp X0.here hx rfl (hb hby d2_52) rfl k)))) ?_
        by_cases hc53 : ((((5188146764422578174 : Int64).toUInt64 >>> ((p0 - (64 : Int32)) &&& 0x3f).toInt64.toUInt64).toInt64) &&& (1 : Int64)) = (0 : Int64)
        · refine own_go (x' := s₁.setTop (mkF m 61 #[.val (.int p0), .val (.long (288054454291267584 : Int64)), .second, .val (.long (5188146764422578174 : Int64)), .second] [(.int (0 : Int32))])) (fun _ k => XS.ifYes X0.here hx rfl (pc0 := 53) (pc' := 60) rfl (hb hby d2_53) rfl ((if0 _ _).trans (teq ((lw_eq ((((5188146764422578174 : Int64).toUInt64 >>> ((p0 - (64 : Int32)) &&& 0x3f).toInt64.toUInt64).toInt64) &&& (1 : Int64)) (0 : Int64)).mpr hc53)).1) (by decide) (by decide) (XS.iconst X0.here hx rfl (hb hby d2_60) k)) ?_
          refine own_retN X0 hx hlk (t := .boolean) hret (by simp) (hb hby d2_61) (w := (0 : Int32)) rfl ?_ (by decide) (by decide)
          rw [e0]
          exact ⟨by rw [hF]; simp only [own_g_0, if_neg hc1, if_pos hc10, if_neg hc24, if_pos hc53], Nf, rfl⟩
        · refine own_go (x' := s₁.setTop (mkF m 61 #[.val (.int p0), .val (.long (288054454291267584 : Int64)), .second, .val (.long (5188146764422578174 : Int64)), .second] [(.int (1 : Int32))])) (fun _ k => XS.ifNo X0.here hx rfl (hb hby d2_53) rfl ((if0 _ _).trans (feq (fun q_ => hc53 ((lw_eq ((((5188146764422578174 : Int64).toUInt64 >>> ((p0 - (64 : Int32)) &&& 0x3f).toInt64.toUInt64).toInt64) &&& (1 : Int64)) (0 : Int64)).mp q_))).1) (XS.iconst X0.here hx rfl (hb hby d2_56) (XS.goto X0.here hx rfl (pc0 := 57) (pc' := 61) rfl (hb hby d2_57) (by decide) (by decide) k))) ?_
          refine own_retN X0 hx hlk (t := .boolean) hret (by simp) (hb hby d2_61) (w := (1 : Int32)) rfl ?_ (by decide) (by decide)
          rw [e0]
          exact ⟨by rw [hF]; simp only [own_g_0, if_neg hc1, if_pos hc10, if_neg hc24, if_neg hc53], Nf, rfl⟩
    · refine own_go (x' := s₁.setTop (mkF m 62 #[.val (.int p0), .unset, .unset, .unset, .unset] [])) (fun _ k => XS.icmpYes X0.here hx rfl (pc0 := 10) (pc' := 62) rfl (hb hby d2_10) rfl (flt hc10).2.1 (by decide) (by decide) k) ?_
      exact blk62 (hF.trans (by simp only [own_g_0, if_neg hc1, if_neg hc10]))
def own_is (v : Int32) (P : Prop) : Prop := (v = 1 ∧ P) ∨ (v = 0 ∧ ¬ P)
theorem own_is1 : own_is (1 : Int32) True := Or.inl ⟨rfl, trivial⟩
theorem own_is0 : own_is (0 : Int32) False := Or.inr ⟨rfl, id⟩
theorem own_ite {q A B : Prop} [Decidable q] {a b : Int32} (h1 : own_is a A) (h2 : own_is b B) : own_is (if q then a else b) ((q ∧ A) ∨ (¬ q ∧ B)) := by
  by_cases h : q
  · rw [if_pos h]
    rcases h1 with ⟨e, h1⟩ | ⟨e, h1⟩
    · exact Or.inl ⟨e, Or.inl ⟨h, h1⟩⟩
    · exact Or.inr ⟨e, fun k => k.elim (fun k => h1 k.2) (fun k => k.1 h)⟩
  · rw [if_neg h]
    rcases h2 with ⟨e, h2⟩ | ⟨e, h2⟩
    · exact Or.inl ⟨e, Or.inr ⟨h, h2⟩⟩
    · exact Or.inr ⟨e, fun k => k.elim (fun k => h k.1) (fun k => h2 k.2)⟩
theorem own_is_eq {v w : Int32} {P P' : Prop} (h1 : own_is v P) (h2 : own_is w P') (h : P ↔ P') : v = w := by
  rcases h1 with ⟨e, h1⟩ | ⟨e, h1⟩ <;> rcases h2 with ⟨e', h2⟩ | ⟨e', h2⟩
  · rw [e, e']
  · exact absurd (h.mp h1) h2
  · exact absurd (h.mpr h2) h1
  · rw [e, e']
def own_fP_147 (p0 : Int32) : Prop := False
theorem is_own_f_147 (p0 : Int32) : own_is (own_f_147 p0) (own_fP_147 p0) := own_is0
def own_fP_143 (p0 : Int32) : Prop := True
theorem is_own_f_143 (p0 : Int32) : own_is (own_f_143 p0) (own_fP_143 p0) := own_is1
def own_fP_131 (p0 : Int32) : Prop := ((p0 < (921600 : Int32) ∧ own_fP_147 p0) ∨ (¬ (p0 < (921600 : Int32)) ∧ (((983037 : Int32) < p0 ∧ own_fP_147 p0) ∨ (¬ ((983037 : Int32) < p0) ∧ own_fP_143 p0))))
theorem is_own_f_131 (p0 : Int32) : own_is (own_f_131 p0) (own_fP_131 p0) := (own_ite (is_own_f_147 p0) (own_ite (is_own_f_147 p0) (is_own_f_143 p0)))
def own_fP_110 (p0 : Int32) : Prop := ((p0 < (65536 : Int32) ∧ own_fP_131 p0) ∨ (¬ (p0 < (65536 : Int32)) ∧ (((917503 : Int32) < p0 ∧ own_fP_131 p0) ∨ (¬ ((917503 : Int32) < p0) ∧ (((65533 : Int32) < (p0 &&& (65535 : Int32)) ∧ own_fP_131 p0) ∨ (¬ ((65533 : Int32) < (p0 &&& (65535 : Int32))) ∧ own_fP_143 p0))))))
theorem is_own_f_110 (p0 : Int32) : own_is (own_f_110 p0) (own_fP_110 p0) := (own_ite (is_own_f_131 p0) (own_ite (is_own_f_131 p0) (own_ite (is_own_f_131 p0) (is_own_f_143 p0))))
def own_fP_98 (p0 : Int32) : Prop := ((p0 < (65008 : Int32) ∧ own_fP_110 p0) ∨ (¬ (p0 < (65008 : Int32)) ∧ (((65519 : Int32) < p0 ∧ own_fP_110 p0) ∨ (¬ ((65519 : Int32) < p0) ∧ own_fP_143 p0))))
theorem is_own_f_98 (p0 : Int32) : own_is (own_f_98 p0) (own_fP_98 p0) := (own_ite (is_own_f_110 p0) (own_ite (is_own_f_110 p0) (is_own_f_143 p0)))
def own_fP_86 (p0 : Int32) : Prop := ((p0 < (63744 : Int32) ∧ own_fP_98 p0) ∨ (¬ (p0 < (63744 : Int32)) ∧ (((64975 : Int32) < p0 ∧ own_fP_98 p0) ∨ (¬ ((64975 : Int32) < p0) ∧ own_fP_143 p0))))
theorem is_own_f_86 (p0 : Int32) : own_is (own_f_86 p0) (own_fP_86 p0) := (own_ite (is_own_f_98 p0) (own_ite (is_own_f_98 p0) (is_own_f_143 p0)))
def own_fP_73 (p0 : Int32) : Prop := ((p0 < (160 : Int32) ∧ own_fP_86 p0) ∨ (¬ (p0 < (160 : Int32)) ∧ (((55295 : Int32) < p0 ∧ own_fP_86 p0) ∨ (¬ ((55295 : Int32) < p0) ∧ own_fP_143 p0))))
theorem is_own_f_73 (p0 : Int32) : own_is (own_f_73 p0) (own_fP_73 p0) := (own_ite (is_own_f_86 p0) (own_ite (is_own_f_86 p0) (is_own_f_143 p0)))
def own_fP_71 (p0 : Int32) : Prop := False
theorem is_own_f_71 (p0 : Int32) : own_is (own_f_71 p0) (own_fP_71 p0) := own_is0
def own_fP_67 (p0 : Int32) : Prop := True
theorem is_own_f_67 (p0 : Int32) : own_is (own_f_67 p0) (own_fP_67 p0) := own_is1
def own_fP_43 (p0 : Int32) : Prop := ((p0 = (45 : Int32) ∧ own_fP_67 p0) ∨ (¬ (p0 = (45 : Int32)) ∧ ((p0 = (46 : Int32) ∧ own_fP_67 p0) ∨ (¬ (p0 = (46 : Int32)) ∧ ((p0 = (95 : Int32) ∧ own_fP_67 p0) ∨ (¬ (p0 = (95 : Int32)) ∧ ((p0 = (126 : Int32) ∧ own_fP_67 p0) ∨ (¬ (p0 = (126 : Int32)) ∧ own_fP_71 p0))))))))
theorem is_own_f_43 (p0 : Int32) : own_is (own_f_43 p0) (own_fP_43 p0) := (own_ite (is_own_f_67 p0) (own_ite (is_own_f_67 p0) (own_ite (is_own_f_67 p0) (own_ite (is_own_f_67 p0) (is_own_f_71 p0)))))
def own_fP_31 (p0 : Int32) : Prop := ((p0 < (48 : Int32) ∧ own_fP_43 p0) ∨ (¬ (p0 < (48 : Int32)) ∧ (((57 : Int32) < p0 ∧ own_fP_43 p0) ∨ (¬ ((57 : Int32) < p0) ∧ own_fP_67 p0))))
theorem is_own_f_31 (p0 : Int32) : own_is (own_f_31 p0) (own_fP_31 p0) := (own_ite (is_own_f_43 p0) (own_ite (is_own_f_43 p0) (is_own_f_67 p0)))
def own_fP_19 (p0 : Int32) : Prop := ((p0 < (65 : Int32) ∧ own_fP_31 p0) ∨ (¬ (p0 < (65 : Int32)) ∧ (((90 : Int32) < p0 ∧ own_fP_31 p0) ∨ (¬ ((90 : Int32) < p0) ∧ own_fP_67 p0))))
theorem is_own_f_19 (p0 : Int32) : own_is (own_f_19 p0) (own_fP_19 p0) := (own_ite (is_own_f_31 p0) (own_ite (is_own_f_31 p0) (is_own_f_67 p0)))
def own_fP_0 (p0 : Int32) : Prop := ((p0 < (128 : Int32) ∧ ((p0 < (97 : Int32) ∧ own_fP_19 p0) ∨ (¬ (p0 < (97 : Int32)) ∧ (((122 : Int32) < p0 ∧ own_fP_19 p0) ∨ (¬ ((122 : Int32) < p0) ∧ own_fP_67 p0))))) ∨ (¬ (p0 < (128 : Int32)) ∧ own_fP_73 p0))
theorem is_own_f_0 (p0 : Int32) : own_is (own_f_0 p0) (own_fP_0 p0) := (own_ite (own_ite (is_own_f_19 p0) (own_ite (is_own_f_19 p0) (is_own_f_67 p0))) (is_own_f_73 p0))
def own_gP_115 (p0 : Int32) : Prop := (((65519 : Int32) < (p0 &&& (65535 : Int32)) ∧ False) ∨ (¬ ((65519 : Int32) < (p0 &&& (65535 : Int32))) ∧ True))
theorem is_own_g_115 (p0 : Int32) : own_is (own_g_115 p0) (own_gP_115 p0) := (own_ite own_is0 own_is1)
def own_gP_62 (p0 : Int32) : Prop := ((((p0.toUInt32 >>> ((16 : Int32) &&& 31).toUInt32).toInt32) = (0 : Int32) ∧ (((p0 &&& (65535 : Int32)) < (160 : Int32) ∧ False) ∨ (¬ ((p0 &&& (65535 : Int32)) < (160 : Int32)) ∧ (((p0 &&& (65535 : Int32)) < (55296 : Int32) ∧ True) ∨ (¬ ((p0 &&& (65535 : Int32)) < (55296 : Int32)) ∧ (((p0 &&& (65535 : Int32)) < (63744 : Int32) ∧ False) ∨ (¬ ((p0 &&& (65535 : Int32)) < (63744 : Int32)) ∧ (((p0 &&& (65535 : Int32)) < (64976 : Int32) ∧ own_gP_115 p0) ∨ (¬ ((p0 &&& (65535 : Int32)) < (64976 : Int32)) ∧ (((65007 : Int32) < (p0 &&& (65535 : Int32)) ∧ own_gP_115 p0) ∨ (¬ ((65007 : Int32) < (p0 &&& (65535 : Int32))) ∧ False))))))))))) ∨ (¬ (((p0.toUInt32 >>> ((16 : Int32) &&& 31).toUInt32).toInt32) = (0 : Int32)) ∧ (((13 : Int32) < ((p0.toUInt32 >>> ((16 : Int32) &&& 31).toUInt32).toInt32) ∧ ((((p0.toUInt32 >>> ((16 : Int32) &&& 31).toUInt32).toInt32) = (14 : Int32) ∧ (((p0 &&& (65535 : Int32)) < (4096 : Int32) ∧ False) ∨ (¬ ((p0 &&& (65535 : Int32)) < (4096 : Int32)) ∧ (((65533 : Int32) < (p0 &&& (65535 : Int32)) ∧ False) ∨ (¬ ((65533 : Int32) < (p0 &&& (65535 : Int32))) ∧ True))))) ∨ (¬ (((p0.toUInt32 >>> ((16 : Int32) &&& 31).toUInt32).toInt32) = (14 : Int32)) ∧ False))) ∨ (¬ ((13 : Int32) < ((p0.toUInt32 >>> ((16 : Int32) &&& 31).toUInt32).toInt32)) ∧ (((65533 : Int32) < (p0 &&& (65535 : Int32)) ∧ False) ∨ (¬ ((65533 : Int32) < (p0 &&& (65535 : Int32))) ∧ True))))))
theorem is_own_g_62 (p0 : Int32) : own_is (own_g_62 p0) (own_gP_62 p0) := (own_ite (own_ite own_is0 (own_ite own_is1 (own_ite own_is0 (own_ite (is_own_g_115 p0) (own_ite (is_own_g_115 p0) own_is0))))) (own_ite (own_ite (own_ite own_is0 (own_ite own_is0 own_is1)) own_is0) (own_ite own_is0 own_is1)))
def own_gP_0 (p0 : Int32) : Prop := ((p0 < (0 : Int32) ∧ False) ∨ (¬ (p0 < (0 : Int32)) ∧ ((p0 < (128 : Int32) ∧ ((p0 < (64 : Int32) ∧ ((((((288054454291267584 : Int64).toUInt64 >>> (p0 &&& 0x3f).toInt64.toUInt64).toInt64) &&& (1 : Int64)) = (0 : Int64) ∧ False) ∨ (¬ (((((288054454291267584 : Int64).toUInt64 >>> (p0 &&& 0x3f).toInt64.toUInt64).toInt64) &&& (1 : Int64)) = (0 : Int64)) ∧ True))) ∨ (¬ (p0 < (64 : Int32)) ∧ ((((((5188146764422578174 : Int64).toUInt64 >>> ((p0 - (64 : Int32)) &&& 0x3f).toInt64.toUInt64).toInt64) &&& (1 : Int64)) = (0 : Int64) ∧ False) ∨ (¬ (((((5188146764422578174 : Int64).toUInt64 >>> ((p0 - (64 : Int32)) &&& 0x3f).toInt64.toUInt64).toInt64) &&& (1 : Int64)) = (0 : Int64)) ∧ True))))) ∨ (¬ (p0 < (128 : Int32)) ∧ own_gP_62 p0))))
theorem is_own_g_0 (p0 : Int32) : own_is (own_g_0 p0) (own_gP_0 p0) := (own_ite own_is0 (own_ite (own_ite (own_ite own_is0 own_is1) (own_ite own_is0 own_is1)) (is_own_g_62 p0)))
theorem own_low : ∀ n : Fin 128, own_f_0 (Int32.ofNat n.val) = own_g_0 (Int32.ofNat n.val) := by decide +kernel
theorem own_same (c : Int32) : own_f_0 c = own_g_0 c := by
  by_cases h0 : c < 0
  · refine own_is_eq (is_own_f_0 c) (is_own_g_0 c) ?_
    have t0 := Int32.lt_iff_toInt_lt.mp h0
    simp only [own_fP_0, own_fP_19, own_fP_67, own_fP_73, own_fP_31, own_fP_86, own_fP_143, own_fP_43, own_fP_98, own_fP_71, own_fP_110, own_fP_131, own_fP_147, own_gP_0, own_gP_62, own_gP_115, Int32.lt_iff_toInt_lt, ← Int32.toInt_inj, Int32.reduceToInt] at t0 ⊢
    simp only [t0, and_false, not_true_eq_false, false_and, or_false, iff_false]
    omega
  · by_cases h1 : c < 128
    · have t0 := mt Int32.lt_iff_toInt_lt.mpr h0
      have t1 := Int32.lt_iff_toInt_lt.mp h1
      simp only [Int32.reduceToInt] at t0 t1
      have e : c = Int32.ofNat c.toInt.toNat := by
        apply Int32.toInt_inj.mp
        rw [Int32.toInt_ofNat_of_lt (by omega)]
        omega
      rw [e]
      exact own_low ⟨c.toInt.toNat, by omega⟩
    · refine own_is_eq (is_own_f_0 c) (is_own_g_0 c) ?_
      have t0 := mt Int32.lt_iff_toInt_lt.mpr h0
      have t1 := mt Int32.lt_iff_toInt_lt.mpr h1
      have e1 := c_iushr c 16 16 (by decide) (by decide)
      have e2 := c_mask c 65535 16 (by decide) (by decide)
      have r := rng32 c
      simp only [own_fP_0, own_fP_19, own_fP_67, own_fP_73, own_fP_31, own_fP_86, own_fP_143, own_fP_43, own_fP_98, own_fP_71, own_fP_110, own_fP_131, own_fP_147, own_gP_0, own_gP_62, own_gP_115, Int32.lt_iff_toInt_lt, ← Int32.toInt_inj, Int32.reduceToInt] at t0 t1 ⊢
      rw [e1, e2]
      have q1 : ¬ c.toInt < 0 := t0
      simp only [t0, t1, false_and, and_false, not_false_eq_true, true_and, and_true, false_or, or_false]
      omega

theorem pd_0 : parseMethodDescriptor "(I)Z" = some ⟨[.int], some .boolean⟩ := by decide +kernel
def Q_rm0 (Z : State) (p0 : Int32) (p1 : Int32) (h0 : Heap) (n0 : Nat) (v : Option Value) (h : Heap) (L : List Loc) : Prop := v = some (.int 1) ∧ Fr n0 L
theorem pn_rm0 : plainName "com/example/triplewright/triplewright/IriIsIunreservedPinLaw" = true := by first | (simp [plainName, overriddenIn]; done) | decide +kernel
theorem ef_rm0 (m : MethodId) (x0 : Int32) (x1 : Int32) : entryFrame m #[(.int x0), (.int x1)] maxLocals = mkF m 0 #[.val (.int x0), .val (.int x1), .unset, .unset] [] := by first | (simp [entryFrame, mkF, argsToLocals, Value.category, maxLocals]; done) | rfl
set_option maxRecDepth 65536 in
set_option maxHeartbeats 40000000 in
theorem rm0 (l : Launch) (Z : State) (a0 : Array Value) (hw : ∀ d ∈ tables_1, d.before a0 Z = true) (ws : List Jvm.Cond) (p0 : Int32) (p1 : Int32) (h0 : Heap) (n0 : Nat) (Z0 : n0 ≤ h0.size) :
    MetFree l x (head1 (Jvm.Cond.code x code maxLocals ret :: ws) room_1) (fun a U => a = #[(.int p0), (.int p1)] ∧ Z.Warmed39 U.vm ∧ U.heap = h0) (fun _ _ _ _ _ => True) (fun _ U o U' => ∃ v L, o = .returned v ∧ (Q_rm0 Z p0 p1 h0 n0) v U'.heap L ∧ FrameEnd U o U' L room_1.cells room_1.slots) := by
  refine MetFree.of_bodySF (plainFor_of_name pn_rm0) hisR ?_
  intro p e s m args below meth c s₁ Bd hml0 hP hK
  obtain ⟨rfl, hZ, hh⟩ := hP
  have hx := Bd.exec
  have hby := Bd.bytes
  have hlk := BodyLoose.notSynchronized Bd
  have hret := Bd.returns
  have hml : c.maxLocals = 4 := hml0
  have hown : s.vm.findClass "com/example/triplewright/triplewright/IriIsIunreservedPinLaw" = some m.cls := findClass_of_methodNamed Bd.named
  have hnm := (name_of_methodNamed Bd.named Bd.method).1
  have X0 : Stand p l e room_1 s m #[(.int p0), (.int p1)] below meth c s₁ [] 0 0 := Stand.of_body Bd
  have e0 : s₁.heap = h0 := by rw [← hh, Bd.state]; rfl
  have Nf := Fr.nil n0
  have Zs := Z0
  have Kp : Keep h0 h0 [] := Keep.refl _ _
  show own_End p e below s (Q_rm0 Z p0 p1 h0 n0) room_1.cells room_1.slots (s₁.setTop (entryFrame m #[(.int p0), (.int p1)] maxLocals))
  refine own_go (x' := s₁.setTop (mkF m 0 #[.val (.int p0), .val (.int p1), .unset, .unset] [])) (fun t k => castTop (ef_rm0 m p0 p1) k) ?_
  refine own_go (x' := s₁.setTop (mkF m 5 #[.val (.int p0), .val (.int p1), .val (.int (p1 &&& (3 : Int32))), .unset] [(.int (p1 &&& (3 : Int32)))])) (fun _ k => XS.iloadN X0.here hx rfl (hb hby at_0) rfl (XS.iconst X0.here hx rfl (hb hby at_1) (XS.iand X0.here hx rfl (hb hby at_2) rfl (XS.istoreN X0.here hx rfl (hb hby at_3) rfl (l' := #[.val (.int p0), .val (.int p1), .val (.int (p1 &&& (3 : Int32))), .unset]) rfl (XS.iloadN X0.here hx rfl (hb hby at_4) rfl k))))) ?_
  have mg5_4 : ∀ t, Steps p.tables e below (s₁.setTop (mkF m 44 #[.val (.int p0), .val (.int p1), .val (.int (p1 &&& (3 : Int32))), .val (.int (if (p1 &&& (3 : Int32)) = (0 : Int32) then p0 else (if (p1 &&& (3 : Int32)) = (1 : Int32) then (p0 &&& (127 : Int32)) else (if (p1 &&& (3 : Int32)) = (2 : Int32) then (p0 &&& (65535 : Int32)) else (p0 &&& (2097151 : Int32))))))] [])) t → Steps p.tables e below (s₁.setTop (mkF m 5 #[.val (.int p0), .val (.int p1), .val (.int (p1 &&& (3 : Int32))), .unset] [(.int (p1 &&& (3 : Int32)))])) t := by
    intro t k
    by_cases hm5_1 : (p1 &&& (3 : Int32)) = (0 : Int32)
    · simp only [if_pos hm5_1] at k
      exact XS.ifNo X0.here hx rfl (hb hby at_5) rfl ((if0 _ _).trans (teq hm5_1).2) (XS.iloadN X0.here hx rfl (hb hby at_8) rfl (XS.istoreN X0.here hx rfl (hb hby at_9) rfl (l' := #[.val (.int p0), .val (.int p1), .val (.int (p1 &&& (3 : Int32))), .val (.int p0)]) rfl (XS.goto X0.here hx rfl (pc0 := 10) (pc' := 44) rfl (hb hby at_10) (by decide) (by decide) k)))
    · by_cases hm15_2 : (p1 &&& (3 : Int32)) = (1 : Int32)
      · simp only [if_neg hm5_1, if_pos hm15_2] at k
        exact XS.ifYes X0.here hx rfl (pc0 := 5) (pc' := 13) rfl (hb hby at_5) rfl ((if0 _ _).trans (feq hm5_1).2) (by decide) (by decide) (XS.iloadN X0.here hx rfl (hb hby at_13) rfl (XS.iconst X0.here hx rfl (hb hby at_14) (XS.icmpNo X0.here hx rfl (hb hby at_15) rfl (teq hm15_2).2 (XS.iloadN X0.here hx rfl (hb hby at_18) rfl (XS.bipush X0.here hx rfl (hb hby at_19) (XS.iand X0.here hx rfl (hb hby at_21) rfl (XS.istoreN X0.here hx rfl (hb hby at_22) rfl (l' := #[.val (.int p0), .val (.int p1), .val (.int (p1 &&& (3 : Int32))), .val (.int (p0 &&& (127 : Int32)))]) rfl (XS.goto X0.here hx rfl (pc0 := 23) (pc' := 44) rfl (hb hby at_23) (by decide) (by decide) k))))))))
      · by_cases hm28_3 : (p1 &&& (3 : Int32)) = (2 : Int32)
        · simp only [if_neg hm5_1, if_neg hm15_2, if_pos hm28_3] at k
          exact XS.ifYes X0.here hx rfl (pc0 := 5) (pc' := 13) rfl (hb hby at_5) rfl ((if0 _ _).trans (feq hm5_1).2) (by decide) (by decide) (XS.iloadN X0.here hx rfl (hb hby at_13) rfl (XS.iconst X0.here hx rfl (hb hby at_14) (XS.icmpYes X0.here hx rfl (pc0 := 15) (pc' := 26) rfl (hb hby at_15) rfl (feq hm15_2).2 (by decide) (by decide) (XS.iloadN X0.here hx rfl (hb hby at_26) rfl (XS.iconst X0.here hx rfl (hb hby at_27) (XS.icmpNo X0.here hx rfl (hb hby at_28) rfl (teq hm28_3).2 (XS.iloadN X0.here hx rfl (hb hby at_31) rfl (X0.ldcInt hx hown (mvT hZ (own_w hw 12 rfl)) (g := (mkF m 32 #[.val (.int p0), .val (.int p1), .val (.int (p1 &&& (3 : Int32))), .unset] [(.int p0)])) rfl (hb hby at_32) _ (XS.iand X0.here hx rfl (hb hby at_34) rfl (XS.istoreN X0.here hx rfl (hb hby at_35) rfl (l' := #[.val (.int p0), .val (.int p1), .val (.int (p1 &&& (3 : Int32))), .val (.int (p0 &&& (65535 : Int32)))]) rfl (XS.goto X0.here hx rfl (pc0 := 36) (pc' := 44) rfl (hb hby at_36) (by decide) (by decide) k)))))))))))
        · simp only [if_neg hm5_1, if_neg hm15_2, if_neg hm28_3] at k
          exact XS.ifYes X0.here hx rfl (pc0 := 5) (pc' := 13) rfl (hb hby at_5) rfl ((if0 _ _).trans (feq hm5_1).2) (by decide) (by decide) (XS.iloadN X0.here hx rfl (hb hby at_13) rfl (XS.iconst X0.here hx rfl (hb hby at_14) (XS.icmpYes X0.here hx rfl (pc0 := 15) (pc' := 26) rfl (hb hby at_15) rfl (feq hm15_2).2 (by decide) (by decide) (XS.iloadN X0.here hx rfl (hb hby at_26) rfl (XS.iconst X0.here hx rfl (hb hby at_27) (XS.icmpYes X0.here hx rfl (pc0 := 28) (pc' := 39) rfl (hb hby at_28) rfl (feq hm28_3).2 (by decide) (by decide) (XS.iloadN X0.here hx rfl (hb hby at_39) rfl (X0.ldcInt hx hown (mvT hZ (own_w hw 0 rfl)) (g := (mkF m 40 #[.val (.int p0), .val (.int p1), .val (.int (p1 &&& (3 : Int32))), .unset] [(.int p0)])) rfl (hb hby at_40) _ (XS.iand X0.here hx rfl (hb hby at_42) rfl (XS.istoreN X0.here hx rfl (hb hby at_43) rfl (l' := #[.val (.int p0), .val (.int p1), .val (.int (p1 &&& (3 : Int32))), .val (.int (p0 &&& (2097151 : Int32)))]) rfl k))))))))))
  refine own_go (x' := s₁.setTop (mkF m 44 #[.val (.int p0), .val (.int p1), .val (.int (p1 &&& (3 : Int32))), .val (.int (if (p1 &&& (3 : Int32)) = (0 : Int32) then p0 else (if (p1 &&& (3 : Int32)) = (1 : Int32) then (p0 &&& (127 : Int32)) else (if (p1 &&& (3 : Int32)) = (2 : Int32) then (p0 &&& (65535 : Int32)) else (p0 &&& (2097151 : Int32))))))] [])) mg5_4 ?_
  generalize (if (p1 &&& (3 : Int32)) = (0 : Int32) then p0 else (if (p1 &&& (3 : Int32)) = (1 : Int32) then (p0 &&& (127 : Int32)) else (if (p1 &&& (3 : Int32)) = (2 : Int32) then (p0 &&& (65535 : Int32)) else (p0 &&& (2097151 : Int32))))) = t3
  refine own_go (x' := s₁.setTop (mkF m 45 #[.val (.int p0), .val (.int p1), .val (.int (p1 &&& (3 : Int32))), .val (.int t3)] [(.int t3)])) (fun _ k => XS.iloadN X0.here hx rfl (hb hby at_44) rfl k) ?_
  obtain ⟨_, _, ⟨T5, L5, k5, n5⟩, -, X5, ⟨Lc5, hQ5, l5, y5, z5⟩, st5⟩ := Jvm.LawKit.callS X0 hx (y := (⟨"com/example/triplewright/triplewright/Term$Iri", "isIunreserved", "(I)Z"⟩ : MethodName)) hown (mvT hZ (own_w hw 1 rfl)) (mvT hZ (own_w hw 2 rfl)) (mvT hZ (own_w hw 3 rfl)) (mvT hZ (own_w hw 4 rfl)) (by decide) (backOf (W := 0) (rm1 l Z a0 hw [] t3 h0 n0 Zs ) hZ (own_w hw 4 rfl) (own_w hw 3 rfl) (by decide) (by decide)) (g := (mkF m 45 #[.val (.int p0), .val (.int p1), .val (.int (p1 &&& (3 : Int32))), .val (.int t3)] [(.int t3)])) rfl (by rw [hml]; rfl) (argsL := [(.int t3)]) (rest := []) (lenOf pd_0 rfl) rfl (by show 2 * 0 + _ ≤ _; exact Nat.le_of_eq rfl) (hb hby at_45) (fun _ _ => ⟨rfl, e0, (by decide : 0 + 0 ≤ _), (by decide : 0 + 0 ≤ _)⟩)
  dsimp only [Pt.U, Pt.locs, Pt.cells, Pt.slots] at X5 l5 y5 z5 st5 hQ5
  subst l5 y5 z5
  obtain ⟨hv5, Nq5, eq5⟩ := hQ5
  subst hv5
  replace Nf := Fr.app Nf Nq5
  refine own_go (x' := T5.setTop (mkF m 48 #[.val (.int p0), .val (.int p1), .val (.int (p1 &&& (3 : Int32))), .val (.int t3)] [(.int (own_f_0 t3))])) st5 ?_
  refine own_go (x' := T5.setTop (mkF m 49 #[.val (.int p0), .val (.int p1), .val (.int (p1 &&& (3 : Int32))), .val (.int t3)] [(.int t3), (.int (own_f_0 t3))])) (fun _ k => XS.iloadN X5.here hx rfl (hb hby at_48) rfl k) ?_
  obtain ⟨_, _, ⟨T6, L6, k6, n6⟩, -, X6, ⟨Lc6, hQ6, l6, y6, z6⟩, st6⟩ := Jvm.LawKit.callS X5 hx (y := (⟨"com/example/triplewright/triplewright/IriIsIunreservedPinLaw", "expected", "(I)Z"⟩ : MethodName)) hown (mvT hZ (own_w hw 5 rfl)) (mvT hZ (own_w hw 6 rfl)) (mvT hZ (own_w hw 7 rfl)) (mvT hZ (own_w hw 8 rfl)) (by decide) (backOf (W := 1) (rm2 l Z a0 hw [] t3 h0 n0 Zs ) hZ (own_w hw 8 rfl) (own_w hw 7 rfl) (by decide) (by decide)) (g := (mkF m 49 #[.val (.int p0), .val (.int p1), .val (.int (p1 &&& (3 : Int32))), .val (.int t3)] [(.int t3), (.int (own_f_0 t3))])) rfl (by rw [hml]; rfl) (argsL := [(.int t3)]) (rest := [(.int (own_f_0 t3))]) (lenOf pd_0 rfl) rfl (by show 2 * 0 + _ ≤ _; exact Nat.le_of_eq rfl) (hb hby at_49) (fun _ _ => ⟨rfl, eq5, (by decide : 0 + 0 ≤ _), (by decide : 0 + 0 ≤ _)⟩)
  dsimp only [Pt.U, Pt.locs, Pt.cells, Pt.slots] at X6 l6 y6 z6 st6 hQ6
  subst l6 y6 z6
  obtain ⟨hv6, Nq6, eq6⟩ := hQ6
  subst hv6
  replace Nf := Fr.app Nf Nq6
  refine own_go (x' := T6.setTop (mkF m 52 #[.val (.int p0), .val (.int p1), .val (.int (p1 &&& (3 : Int32))), .val (.int t3)] [(.int (own_g_0 t3)), (.int (own_f_0 t3))])) st6 ?_
  refine own_go (x' := T6.setTop (mkF m 60 #[.val (.int p0), .val (.int p1), .val (.int (p1 &&& (3 : Int32))), .val (.int t3)] [(.int (1 : Int32))])) (fun _ k => XS.icmpNo X6.here hx rfl (hb hby at_52) rfl (teq (own_same t3)).2 (XS.iconst X6.here hx rfl (hb hby at_55) (XS.goto X6.here hx rfl (pc0 := 56) (pc' := 60) rfl (hb hby at_56) (by decide) (by decide) k))) ?_
  refine own_retN X6 hx hlk (t := .boolean) hret (by simp) (hb hby at_60) (w := (1 : Int32)) rfl ?_ (by decide) (by decide)
  rw [eq6]
  exact ⟨rfl, Nf⟩
set_option maxRecDepth 65536 in
set_option maxHeartbeats 40000000 in
theorem comes_1 {Post : Tables → Env → Array Value → State → Outcome → State → Prop} (hpost : ∀ tb e args s v u, (limb_1_1.after args s (.returned v) u = true ∧ limb_1_2.after args s (.returned v) u = true ∧ True) → FrameEnd s (.returned v) u (Jvm.fieldLocs frame_1_writes args s ++ Jvm.arrayLocs frame_1_arrays args s ++ Jvm.staticLocs frame_1_statics s) 0 0 → Post tb e args s (.returned v) u) :
    ArmFor flags0 classFile x code maxLocals ret World_1 tables_1 room_1 Calls_1 rest_1 Pre_1 Post := by
  intro l hfl _ _ p e ha hc hk s m args below hf hA hF happ hP
  obtain ⟨hcalls, hrest, hpre⟩ := hP
  obtain ⟨-, -, -, hnamed, -, -, -, hat⟩ := (Spec.applies_iff hf).mp happ
  obtain ⟨hg, hn⟩ := and_e (Cond.before_iff.mp (show (Jvm.Cond.and given_1 narrow_1).before args s = true from hpre))
  obtain ⟨gg1, gg2⟩ := and_e hg
  obtain ⟨gg3, gg4⟩ := and_e gg2
  obtain ⟨w0, w1, rfl⟩ : ∃ w0 w1 : Value, args = #[w0, w1] := by
    have hs : args.size = 2 := by simpa [Cond.value, given_1] using gg1
    obtain ⟨L⟩ := args
    match L, hs with
    | [w0, w1], _ => exact ⟨w0, w1, rfl⟩
  have hw := fun d (hd : d ∈ tables_1) => atoms_spec (ws := Jvm.Cond.code x code maxLocals ret :: tables_1) hat d (List.mem_cons_of_mem _ hd)
  have hfit : Fit s := fun {y c} hc i hi => by
    obtain ⟨ha, rfl⟩ := Array.getElem?_eq_some_iff.mp hc
    have q := List.all_eq_true.mp ((Array.all_eq_true_iff_forall_mem.mp hF) _ (Array.getElem_mem ha)) i (List.mem_range.mpr hi)
    simpa [Array.getElem?_eq_getElem hi] using q
  obtain ⟨i0, ei0⟩ := is_v gg3
  obtain rfl : w0 = (.int i0) := Option.some.inj ei0
  obtain ⟨i1, ei1⟩ := is_v gg4
  obtain rfl : w1 = (.int i1) := Option.some.inj ei1
  obtain ⟨n, o, h1, h2, h3, _, L, rfl, ⟨rfl, N⟩, hq⟩ := rm0 l s _ hw tables_1 i0 i1  s.heap s.heap.size (Nat.le_refl _)  p e ha hc hk s m _ below hf ((Spec.applies_iff_loose hf).mp happ).1 ⟨rfl, State.Warmed39.refl s, rfl⟩ trivial
  refine ⟨n, _, h1, h2, h3, hpost _ _ _ _ _ _ ⟨Cond.after_iff.mpr rfl, Cond.after_iff.mpr (eq_i res_at (Term.int_eval (1)) rfl), trivial⟩ ⟨hq.1, hq.2.1, (hq.2.2.sift fun y hy => Or.inr (N y hy)).mono (by decide) (by decide)⟩⟩
theorem main_1_1 : Claimed_1_1 := comes_1 fun _ _ _ _ _ _ h hF => ⟨h.1, hF⟩
theorem main_1_2 : Claimed_1_2 := comes_1 fun _ _ _ _ _ _ h hF => ⟨h.2.1, hF⟩
end Jvm.Pilot.@@N@@
namespace Jvm.Pilot.@@N@@
open Jvm Jvm.ClassFile Sem Op Lib Jvm.Free Jvm.Stand Jvm.Pilot.@@N@@.Jvm.D
/-! MADE BY PROGRAM (witnessworld.py) out of the Statement's table words and the real class files: 9 classes; the members and pool entries that the words name. The judged class is class 1, her method 1. -/
namespace start1
open Jvm.ClassFile
def u (s : String) : CpInfo := .utf8 (stringToUtf16 s)
/-- a pool by its gaps: so many unusable entries, then the entry; so many at the end -/
def gap : Nat → List CpInfo → List CpInfo
  | 0, r => r
  | n + 1, r => .unusable :: gap n r
def poolList (es : List (Nat × CpInfo)) (last : Nat) : List CpInfo := es.foldr (fun e r => gap e.1 (e.2 :: r)) (gap last [])
def pool (es : List (Nat × CpInfo)) (last : Nat) : Array CpInfo := ⟨poolList es last⟩
def fileOf (pool : Array CpInfo) (this : Nat) (attrs : Array Attribute := #[]) (ms : Array MethodInfo := #[]) (fl : Nat := 33) (sup : Nat := 0) (ifs : Array Nat := #[]) (fds : Array FieldInfo := #[]) : ClassFile where
  minorVersion := 0
  majorVersion := 65
  constantPool := pool
  accessFlags := fl
  thisClass := this
  superClass := sup
  interfaces := ifs
  fields := fds
  methods := ms
  attributes := attrs
def plain (name : String) (sup : Option ClassId) : Class where
  name := name
  kind := .ordinary
  loader := none
  accessFlags := 33
  super := sup
  interfaces := #[]
  cf := none
  fields := #[]
  methods := #[]
  instanceTypes := #[]
  staticTypes := #[]
  resolved := #[]
  callSites := []
  init := .initialized
  statics := none
  mirror := none

def pool0 : Array CpInfo := pool [(5, u "<init>"), (0, u "()V"), (1, .class_ 10), (1, u "java/lang/Object")] 113

def k0m0 : Method := { name := "<init>", desc := "()V", sig := { parameters := [], returnType := none }, accessFlags := 1, code := none }
/-- java/lang/Object -/
def k0 : Class := { plain "java/lang/Object" none with
  accessFlags := 33
  interfaces := #[]
  cf := some (fileOf pool0 8 #[] #[{ accessFlags := 1, nameIndex := 5, descriptorIndex := 6, attributes := #[] }] 33 0 #[] #[])
  fields := #[]
  methods := #[k0m0]
  instanceTypes := #[]
  staticTypes := #[]
  resolved := Array.replicate 124 none
  statics := none }

def pool1 : Array CpInfo := pool [(2, .class_ 4), (1, u "java/lang/Object"), (0, u "<init>"), (0, u "()V"), (0, .integer 65535), (0, .integer 2097151), (0, .methodref 10 11), (0, .class_ 12), (0, .nameAndType 13 14), (0, u "com/example/triplewright/triplewright/Term$Iri"), (0, u "isIunreserved"), (0, u "(I)Z"), (0, .methodref 16 17), (0, .class_ 18), (0, .nameAndType 19 14), (0, u "com/example/triplewright/triplewright/IriIsIunreservedPinLaw"), (0, u "expected"), (0, .long 288054454291267584), (1, .long 5188146764422578174), (1, .integer 55296), (0, .integer 63744), (0, .integer 64976), (0, .integer 65007), (0, .integer 65519), (0, .integer 65533), (2, u "law"), (0, u "(II)Z")] 7

def k1m0 : Method := { name := "<init>", desc := "()V", sig := { parameters := [], returnType := none }, accessFlags := 1, code := none }
def k1c1 : Code := { maxStack := 2, maxLocals := 4, code := code, exceptionTable := #[], attributes := #[] }
def k1m1 : Method := { name := "law", desc := "(II)Z", sig := { parameters := [.int, .int], returnType := some .boolean }, accessFlags := 9, code := some k1c1 }
def k1c2 : Code := { maxStack := 4, maxLocals := 5, code := method_3_code, exceptionTable := #[], attributes := #[] }
def k1m2 : Method := { name := "expected", desc := "(I)Z", sig := { parameters := [.int], returnType := some .boolean }, accessFlags := 10, code := some k1c2 }
/-- com/example/triplewright/triplewright/IriIsIunreservedPinLaw -/
def k1 : Class := { plain "com/example/triplewright/triplewright/IriIsIunreservedPinLaw" (some 0) with
  accessFlags := 49
  interfaces := #[]
  cf := some (fileOf pool1 16 #[] #[{ accessFlags := 1, nameIndex := 5, descriptorIndex := 6, attributes := #[] }, { accessFlags := 9, nameIndex := 32, descriptorIndex := 33, attributes := #[] }, { accessFlags := 10, nameIndex := 19, descriptorIndex := 14, attributes := #[] }] 49 2 #[] #[])
  fields := #[]
  methods := #[k1m0, k1m1, k1m2]
  instanceTypes := #[]
  staticTypes := #[]
  resolved := Array.replicate 41 none
  statics := none }

def pool2 : Array CpInfo := pool [(2, .class_ 4), (1, u "java/lang/Object"), (0, u "<init>"), (0, u "()V"), (0, .class_ 8), (0, u "java/lang/Record")] 13

def k2m0 : Method := { name := "<init>", desc := "()V", sig := { parameters := [], returnType := none }, accessFlags := 4, code := none }
/-- java/lang/Record -/
def k2 : Class := { plain "java/lang/Record" (some 0) with
  accessFlags := 1057
  interfaces := #[]
  cf := some (fileOf pool2 7 #[] #[{ accessFlags := 4, nameIndex := 5, descriptorIndex := 6, attributes := #[] }] 1057 2 #[] #[])
  fields := #[]
  methods := #[k2m0]
  instanceTypes := #[]
  staticTypes := #[]
  resolved := Array.replicate 22 none
  statics := none }

def pool3 : Array CpInfo := pool [(1, .class_ 2), (0, u "com/example/triplewright/triplewright/Term"), (0, .class_ 4), (0, u "java/lang/Object"), (5, .class_ 11), (0, u "com/example/triplewright/triplewright/Term$Literal"), (0, .class_ 13), (0, u "com/example/triplewright/triplewright/Term$BlankNode"), (0, .class_ 15), (0, u "com/example/triplewright/triplewright/Term$Iri")] 5

/-- com/example/triplewright/triplewright/Term -/
def k3 : Class := { plain "com/example/triplewright/triplewright/Term" (some 0) with
  accessFlags := 1536
  interfaces := #[]
  cf := some (fileOf pool3 1 #[.nestMembers #[10, 12, 14]] #[] 1536 3 #[] #[])
  fields := #[]
  methods := #[]
  instanceTypes := #[]
  staticTypes := #[]
  resolved := Array.replicate 21 none
  statics := none }

def pool4 : Array CpInfo := pool [(2, .class_ 4), (1, u "java/lang/Record"), (3, .class_ 10), (1, u "com/example/triplewright/triplewright/Term$Iri"), (0, u "value"), (0, u "Ljava/lang/String;"), (34, u "isIunreserved"), (0, u "(I)Z"), (27, u "HEX"), (0, u "[C"), (53, .integer 55295), (0, .integer 63744), (0, .integer 64975), (0, .integer 65008), (0, .integer 65519), (0, .integer 65536), (0, .integer 917503), (0, .integer 65535), (0, .integer 65533), (0, .integer 921600), (0, .integer 983037), (17, u "RDF_TYPE"), (0, u "Lcom/example/triplewright/triplewright/Term$Iri;"), (6, .class_ 168), (0, u "com/example/triplewright/triplewright/Term")] 32

def k4c0 : Code := { maxStack := 2, maxLocals := 1, code := prog_36_method_7_code, exceptionTable := #[], attributes := #[] }
def k4m0 : Method := { name := "isIunreserved", desc := "(I)Z", sig := { parameters := [.int], returnType := some .boolean }, accessFlags := 8, code := some k4c0 }
/-- com/example/triplewright/triplewright/Term$Iri -/
def k4 : Class := { plain "com/example/triplewright/triplewright/Term$Iri" (some 2) with
  accessFlags := 49
  interfaces := #[3]
  cf := some (fileOf pool4 8 #[.nestHost 167] #[{ accessFlags := 8, nameIndex := 47, descriptorIndex := 48, attributes := #[] }] 49 2 #[167] #[{ accessFlags := 18, nameIndex := 11, descriptorIndex := 12, attributes := #[] }, { accessFlags := 24, nameIndex := 159, descriptorIndex := 160, attributes := #[] }, { accessFlags := 26, nameIndex := 76, descriptorIndex := 77, attributes := #[] }])
  fields := #[{ name := "value", type := (.object "java/lang/String"), accessFlags := 18, slot := 0, constantValue := 0 }, { name := "RDF_TYPE", type := (.object "com/example/triplewright/triplewright/Term$Iri"), accessFlags := 24, slot := 0, constantValue := 0 }, { name := "HEX", type := (.array .char), accessFlags := 26, slot := 1, constantValue := 0 }]
  methods := #[k4m0]
  instanceTypes := #[(.object "java/lang/String")]
  staticTypes := #[(.object "com/example/triplewright/triplewright/Term$Iri"), (.array .char)]
  resolved := Array.replicate 201 none
  statics := none }

def pool5 : Array CpInfo := pool [(1, u "java/lang/Cloneable"), (0, .class_ 1), (0, u "java/lang/Object"), (0, .class_ 3)] 3

/-- java/lang/Cloneable -/
def k5 : Class := { plain "java/lang/Cloneable" (some 0) with
  accessFlags := 1537
  interfaces := #[]
  cf := some (fileOf pool5 2 #[] #[] 1537 4 #[] #[])
  fields := #[]
  methods := #[]
  instanceTypes := #[]
  staticTypes := #[]
  resolved := Array.replicate 8 none
  statics := none }

def pool6 : Array CpInfo := pool [(1, u "java/io/Serializable"), (0, .class_ 1), (0, u "java/lang/Object"), (0, .class_ 3)] 3

/-- java/io/Serializable -/
def k6 : Class := { plain "java/io/Serializable" (some 0) with
  accessFlags := 1537
  interfaces := #[]
  cf := some (fileOf pool6 2 #[] #[] 1537 4 #[] #[])
  fields := #[]
  methods := #[]
  instanceTypes := #[]
  staticTypes := #[]
  resolved := Array.replicate 8 none
  statics := none }

/-- the primitive byte -/
def k7 : Class := { plain "byte" none with kind := .primitive 'B', accessFlags := 0x411 }
/-- [B -/
def k8 : Class := { plain "[B" (some 0) with kind := .array 7 .byte, interfaces := #[5, 6], accessFlags := 1041 }

def heap : Heap := #[]
def classes : Array Class := #[k0, k1, k2, k3, k4, k5, k6, k7, k8]
def interned : List (Array UInt16 × Addr) := []
def slotsUsed : Nat := 0
def theMethod : MethodId := ⟨1, 1⟩
def args0 : Array Value := #[.int 5, .int 3]
def aboutOver (below : List Frame) : State where
  vm := { classes := classes, interned := interned.toArray }
  heap := heap
  slotsUsed := slotsUsed
  threads := #[{ frames := .invoking theMethod args0 :: below }]
def below0 : List Frame := [.native { method := ⟨0, 0⟩, args := #[] }]
def about1 : State := aboutOver below0
def p0 : Program := .bare "" "" ""
def e0 : Env := launch0.env 0 0 0
theorem w_frames : about1.frames = Frame.invoking theMethod args0 :: below0 := rfl
set_option maxRecDepth 65536 in
theorem w_args : argsFit about1.vm theMethod args0 = true := by decide +kernel
set_option maxRecDepth 65536 in
theorem w_heap : heapFits about1 = true := by decide +kernel
set_option maxRecDepth 65536 in
theorem w_runnable : about1.curStatus? = some .runnable := by decide +kernel
set_option maxRecDepth 65536 in
theorem w_alone : about1.alone = true := by decide +kernel
set_option maxRecDepth 65536 in
theorem w_named : about1.methodNamed? x = some theMethod := by decide +kernel
set_option maxRecDepth 65536 in
theorem w_hears : about1.hears theMethod below0 = true := by decide +kernel
set_option maxRecDepth 65536 in
theorem w_ripe : about1.ripe theMethod args0 below0 = true := by decide +kernel
theorem w_running : about1.status = .running := rfl
set_option maxRecDepth 65536 in
theorem w_room : about1.hasRoom e0.platform room_1 = true :=
  launch0.hasRoom_least _ room_1 (by decide +kernel) (by decide +kernel) (by decide +kernel) (by decide +kernel) (by decide +kernel) (by decide +kernel)
theorem allAtoms_all (ts : List Jvm.Cond) (a : Array Jvm.Value) (st : Jvm.State) : (allAtoms ts).before a st = ts.all (fun c => c.before a st) := by
  induction ts with
  | nil => rfl
  | cons c t ih =>
    show (Jvm.Cond.and c (allAtoms t)).before a st = _
    rw [Jvm.Cond.before_and, ih, List.all_cons]
def words1 : List Jvm.Cond := Jvm.Cond.code x code maxLocals ret :: tables_1
/-- a 'code' word, met by the world's own term for the bytes: nothing is compared byte by byte -/
theorem code_word {y : MethodName} {bytes : ByteArray} {mx : Nat} {rt : Option FieldType} {a : Array Value} {s : State} {m : MethodId} {meth : Method} {c : Code} (h1 : s.methodNamed? y = some m) (h2 : s.vm.method? m = some meth) (h3 : meth.code = some c) (h4 : c.code = bytes)
    (h5 : (c.maxLocals == mx && c.exceptionTable.isEmpty && decide (c.maxStack ≤ mostOperands) && decide (meth.sig.returnType = rt) && !meth.locks && decide (parseMethodDescriptor y.desc = some meth.sig)) = true) : (Jvm.Cond.code y bytes mx rt).before a s = true := by
  simp only [Bool.and_eq_true, beq_iff_eq, Bool.not_eq_true', decide_eq_true_eq] at h5
  obtain ⟨⟨⟨⟨⟨g1, g2⟩, g3⟩, g4⟩, g5⟩, g6⟩ := h5
  simp [Cond.before, Cond.holds, Cond.value, h1, h2, h3, h4, g1, g2, g3, g4, g5, g6]
def isCode : Jvm.Cond → Bool
  | .code _ _ _ _ => true
  | _ => false
theorem all_split {L : List Jvm.Cond} {P : Jvm.Cond → Bool} (h1 : L.all (fun c => isCode c || P c) = true) (h2 : ∀ c ∈ L.filter isCode, P c = true) : L.all P = true := by
  refine List.all_eq_true.mpr fun c hc => ?_
  have h := List.all_eq_true.mp h1 c hc
  rcases Bool.eq_false_or_eq_true (isCode c) with hi | hi
  · exact h2 c (List.mem_filter.mpr ⟨hc, hi⟩)
  · simpa [hi] using h
set_option maxRecDepth 65536 in
theorem w_c0 : (Jvm.Cond.code x code maxLocals ret).before args0 about1 = true := code_word (m := ⟨1, 1⟩) (meth := k1m1) (c := k1c1) (by decide +kernel) rfl rfl rfl (by decide +kernel)
set_option maxRecDepth 65536 in
theorem w_c1 : (Jvm.Cond.code ({ cls := "com/example/triplewright/triplewright/Term$Iri", name := "isIunreserved", desc := "(I)Z" } : Jvm.MethodName) prog_36_method_7_code (1 : Nat) (Option.some Jvm.ClassFile.FieldType.boolean)).before args0 about1 = true := code_word (m := ⟨4, 0⟩) (meth := k4m0) (c := k4c0) (by decide +kernel) rfl rfl rfl (by decide +kernel)
set_option maxRecDepth 65536 in
theorem w_c2 : (Jvm.Cond.code ({ cls := "com/example/triplewright/triplewright/IriIsIunreservedPinLaw", name := "expected", desc := "(I)Z" } : Jvm.MethodName) method_3_code (5 : Nat) (Option.some Jvm.ClassFile.FieldType.boolean)).before args0 about1 = true := code_word (m := ⟨1, 2⟩) (meth := k1m2) (c := k1c2) (by decide +kernel) rfl rfl rfl (by decide +kernel)
def codes1 : List Jvm.Cond := [Jvm.Cond.code x code maxLocals ret, Jvm.Cond.code ({ cls := "com/example/triplewright/triplewright/Term$Iri", name := "isIunreserved", desc := "(I)Z" } : Jvm.MethodName) prog_36_method_7_code (1 : Nat) (Option.some Jvm.ClassFile.FieldType.boolean), Jvm.Cond.code ({ cls := "com/example/triplewright/triplewright/IriIsIunreservedPinLaw", name := "expected", desc := "(I)Z" } : Jvm.MethodName) method_3_code (5 : Nat) (Option.some Jvm.ClassFile.FieldType.boolean)]
set_option maxRecDepth 65536 in
theorem codes_eq : words1.filter isCode = codes1 := rfl
theorem w_codes : ∀ c ∈ words1.filter isCode, c.before args0 about1 = true := by
  rw [codes_eq]
  intro c hc
  simp only [codes1, List.mem_cons, List.not_mem_nil, or_false] at hc
  rcases hc with rfl | rfl | rfl
  · exact w_c0
  · exact w_c1
  · exact w_c2
set_option maxRecDepth 65536 in
theorem w_t1 : (words1.take 24).all (fun c => isCode c || c.before args0 about1) = true := by decide +kernel
set_option maxRecDepth 65536 in
theorem w_t2 : (words1.drop 24).all (fun c => isCode c || c.before args0 about1) = true := by decide +kernel
theorem w_tables : (allAtoms (Jvm.Cond.code x code maxLocals ret :: tables_1)).before args0 about1 = true := by
  rw [allAtoms_all]
  show words1.all (fun c => c.before args0 about1) = true
  refine all_split ?_ w_codes
  rw [← List.take_append_drop 24 words1, List.all_append, w_t1, w_t2]
  rfl
set_option maxRecDepth 65536 in
theorem w_case : (Jvm.Cond.and given_1 narrow_1).before args0 about1 = true := by decide +kernel
theorem w_applies : (headSpec (Jvm.Cond.code x code maxLocals ret :: tables_1) room_1).applies x e0.platform about1 = true :=
  (Spec.applies_iff w_frames).mpr ⟨w_running, w_runnable, w_alone, w_named, w_hears, w_ripe, w_room, w_tables⟩
theorem atStart : AtStart classFile x code maxLocals ret World_1 tables_1 room_1 Calls_1 rest_1 Pre_1 launch0 p0 e0 about1 theMethod args0 below0 :=
  ⟨lists_1, trivial, launch0.admits_env _ _ _, launch0.least_env, fairChoices_fair.cas, fairChoices_fair.clock, w_frames, w_args, w_heap, w_applies, trivial, trivial, w_case⟩
end start1
theorem witness_1 : WitnessClaimed_1 := ⟨start1.p0, start1.e0, start1.about1, start1.theMethod, start1.args0, start1.below0, start1.atStart⟩
end Jvm.Pilot.@@N@@
