import JvmDerived
import JvmDerived.Pilot.@@N@@Statement
import JvmDerived.Pilot.@@N@@Code
set_option linter.unusedVariables false
set_option linter.unusedSimpArgs false
namespace Jvm.Pilot.@@N@@
open Jvm Jvm.ClassFile Sem Op Lib Jvm.Free Jvm.Stand Jvm.LawKit Jvm.RoadKit Bundle Jvm.Pilot.@@N@@.Jvm.D
section OwnKit
variable {p : Program} {l : Launch} {e : Env} {R : Room} {s : State} {m : MethodId} {args : Array Value} {below : List Frame} {meth : Method} {c : Code} {T : State} {locs : List Loc} {cells slots : Nat} {Q : Option Value → Heap → List Loc → Prop} {C S : Nat}
/-- from x the run ends, returning, with what Q says -/
def own_End (p : Program) (e : Env) (below : List Frame) (s : State) (Q : Option Value → Heap → List Loc → Prop) (C S : Nat) (x : State) : Prop :=
  ∃ t o, Steps p.tables e below x t ∧ t.status = .running ∧ Ended t below o ∧ ∃ v L, o = .returned v ∧ Q v t.heap L ∧ FrameEnd s o t L C S
theorem own_go {x x' : State} (h : ∀ t, Steps p.tables e below x' t → Steps p.tables e below x t) (k : own_End p e below s Q C S x') : own_End p e below s Q C S x := by
  obtain ⟨t, o, h1, h2⟩ := k
  exact ⟨t, o, h t h1, h2⟩
theorem own_mono {Q' : Option Value → Heap → List Loc → Prop} {x : State} (h : ∀ v h L, Q v h L → Q' v h L) (k : own_End p e below s Q C S x) : own_End p e below s Q' C S x := by
  obtain ⟨t, o, h1, h2, h3, v, L, h4, h5, h6⟩ := k
  exact ⟨t, o, h1, h2, h3, v, L, h4, h _ _ _ h5, h6⟩
theorem own_out (X : Stand p l e R s m args below meth c T locs cells slots) (hlk : meth.locks = false) {v : Option Value} (hv : meth.sig.returnType = none → v = none) {x : State}
    (h : ∀ fs, (∀ (f : JFrame) (acts : List Action), f.method = m → f.locked = none → f.entered = [] → (doReturn e (T.setTop f) acts v).1 = T.setFrames fs) → Steps p.tables e below x (T.setFrames fs))
    (hq : Q v T.heap locs) (hc : cells ≤ C) (hs : slots ≤ S) : own_End p e below s Q C S x := by
  obtain ⟨fs, hr, hrun, hended, hW, hsame⟩ := X.leave hv hlk
  exact ⟨_, _, h fs hr, hrun, hended, _, _, rfl, hq, ⟨_, rfl⟩, hW, hsame.mono hc hs⟩
theorem own_retV (X : Stand p l e R s m args below meth c T locs cells slots) (hx : p.tables.exec = Jvm.exec) (hlk : meth.locks = false) {pc : Nat} {Ls : Array Slot} (hret : meth.sig.returnType = none) (hd : decode c.code pc = .ok (.return_, 1))
    (hq : Q none T.heap locs) (hc : cells ≤ C) (hs : slots ≤ S) : own_End p e below s Q C S (T.setTop (mkF m pc Ls [])) :=
  own_out X hlk (fun _ => rfl) (fun fs hr => X.returnOut hx hret hd hr) hq hc hs
theorem own_retN (X : Stand p l e R s m args below meth c T locs cells slots) (hx : p.tables.exec = Jvm.exec) (hlk : meth.locks = false) {pc : Nat} {Ls : Array Slot} {z w : Int32} {t : FieldType} {rest : List Value} (hret : meth.sig.returnType = some t) (ht : t = .boolean ∨ t = .byte ∨ t = .char ∨ t = .short) (hd : decode c.code pc = .ok (.ireturn, 1))
    (hz : nar t z = w) (hq : Q (some (.int w)) T.heap locs) (hc : cells ≤ C) (hs : slots ≤ S) : own_End p e below s Q C S (T.setTop (mkF m pc Ls (.int z :: rest))) := by
  subst hz
  exact own_out X hlk (fun h => by rw [hret] at h; cases h) (fun fs hr => retN X hx hret ht hd hr) hq hc hs
theorem own_retI (X : Stand p l e R s m args below meth c T locs cells slots) (hx : p.tables.exec = Jvm.exec) (hlk : meth.locks = false) {pc : Nat} {Ls : Array Slot} {z : Int32} {rest : List Value} (hret : meth.sig.returnType = some .int) (hd : decode c.code pc = .ok (.ireturn, 1))
    (hq : Q (some (.int z)) T.heap locs) (hc : cells ≤ C) (hs : slots ≤ S) : own_End p e below s Q C S (T.setTop (mkF m pc Ls (.int z :: rest))) :=
  own_out X hlk (fun h => by rw [hret] at h; cases h) (fun fs hr => retOut X hx hret rfl (Or.inl ⟨rfl, Or.inl rfl, _, rfl⟩) hd hr) hq hc hs
theorem own_retJ (X : Stand p l e R s m args below meth c T locs cells slots) (hx : p.tables.exec = Jvm.exec) (hlk : meth.locks = false) {pc : Nat} {Ls : Array Slot} {z : Int64} {rest : List Value} (hret : meth.sig.returnType = some .long) (hd : decode c.code pc = .ok (.lreturn, 1))
    (hq : Q (some (.long z)) T.heap locs) (hc : cells ≤ C) (hs : slots ≤ S) : own_End p e below s Q C S (T.setTop (mkF m pc Ls (.long z :: rest))) :=
  own_out X hlk (fun h => by rw [hret] at h; cases h) (fun fs hr => retOut X hx hret rfl (Or.inr (Or.inl ⟨rfl, rfl, _, rfl⟩)) hd hr) hq hc hs
theorem own_retR (X : Stand p l e R s m args below meth c T locs cells slots) (hx : p.tables.exec = Jvm.exec) (hlk : meth.locks = false) {pc : Nat} {Ls : Array Slot} {z : Value} {t : FieldType} {rest : List Value} (hret : meth.sig.returnType = some t) (ht : t.isReference = true) (hv : z.isRef = true) (hd : decode c.code pc = .ok (.areturn, 1))
    (hq : Q (some z) T.heap locs) (hc : cells ≤ C) (hs : slots ≤ S) : own_End p e below s Q C S (T.setTop (mkF m pc Ls (z :: rest))) :=
  own_out X hlk (fun h => by rw [hret] at h; cases h) (fun fs hr => retOut X hx hret (by cases t <;> first | rfl | cases ht) (Or.inr (Or.inr (Or.inr (Or.inr ⟨rfl, ht, hv⟩)))) hd hr) hq hc hs
theorem own_w {a0 : Array Value} {Z : State} (hw : ∀ d ∈ tables_1, d.before a0 Z = true) (i : Nat) {d : Jvm.Cond} (h : tables_1[i]? = some d) : d.before a0 Z = true := hw _ (List.mem_of_getElem? h)
end OwnKit
theorem own_le {a b u : Int32} (h : ¬ a < u) (hab : a ≤ b) : ¬ b < u := fun q => h (Int32.lt_of_le_of_lt hab q)
def own_L (s : Int32) (c : Nat) : Prop := ¬ s < 0 ∧ s.toNatClampNeg ≤ c
theorem own_l (p : Int32) : own_L (p &&& (16383 : Int32)) 16383 := by
  have h := c_mask p 16383 14 (by decide) (by decide)
  have z : (0 : Int32).toInt = 0 := by decide
  refine ⟨mt Int32.lt_iff_toInt_lt.mp (by omega), ?_⟩
  simp only [Int32.toNatClampNeg]
  omega
theorem own_l64 (p : Int32) : own_L ((p &&& (16383 : Int32)) + (64 : Int32)) 16447 := by
  have h := c_mask p 16383 14 (by decide) (by decide)
  have z : (0 : Int32).toInt = 0 := by decide
  have y : (64 : Int32).toInt = 64 := by decide
  have e := c_iadd (p &&& 16383) 64
  have r := rng32 ((p &&& 16383) + 64)
  refine ⟨mt Int32.lt_iff_toInt_lt.mp (by omega), ?_⟩
  simp only [Int32.toNatClampNeg]
  omega
theorem own_m5 (p : Int32) : (p &&& (7 : Int32)) % (5 : Int32) = 0 ∨ (p &&& (7 : Int32)) % (5 : Int32) = 1 ∨ (p &&& (7 : Int32)) % (5 : Int32) = 2 ∨ (p &&& (7 : Int32)) % (5 : Int32) = 3 ∨ (p &&& (7 : Int32)) % (5 : Int32) = 4 := by
  have h1 := c_and p 7 (by decide)
  have h2 := (c_irem (p &&& 7) 5 5 (by decide)).1 h1.1
  have h3 : ((p &&& 7) % 5).toInt = 0 ∨ ((p &&& 7) % 5).toInt = 1 ∨ ((p &&& 7) % 5).toInt = 2 ∨ ((p &&& 7) % 5).toInt = 3 ∨ ((p &&& 7) % 5).toInt = 4 := by omega
  rcases h3 with h | h | h | h | h
  · exact Or.inl (Int32.toInt_inj.mp h)
  · exact Or.inr (Or.inl (Int32.toInt_inj.mp h))
  · exact Or.inr (Or.inr (Or.inl (Int32.toInt_inj.mp h)))
  · exact Or.inr (Or.inr (Or.inr (Or.inl (Int32.toInt_inj.mp h))))
  · exact Or.inr (Or.inr (Or.inr (Or.inr (Int32.toInt_inj.mp h))))
theorem own_u4 (p : Int32) : ¬ (4 : Int32) < (p &&& (7 : Int32)) % (5 : Int32) := by
  rcases own_m5 p with h | h | h | h | h <;> rw [h] <;> decide
/-- a char[] and a char[][] are two arrays -/
theorem own_two {Z : State} {h : Heap} {a b : Addr} {k k' : ClassId} {n n' : Int32} {vs vs' : List Value} {d d' : Value} {t t' : FieldType} (V : Arv Z h a k t n vs d) (W : Arv Z h b k' t' n' vs' d') (ht : t ≠ t') : a ≠ b := fun e => by
  subst e
  obtain ⟨c, A, -⟩ := V
  obtain ⟨c', A', -⟩ := W
  cases A.1.symm.trans A'.1
  obtain ⟨-, k1, h1, c1, h2⟩ := A.2.1
  obtain ⟨-, k2, h3, c2, h4⟩ := A'.2.1
  cases h1.symm.trans h3
  rw [h2] at h4
  injection h4 with e1 e2
  exact ht e2
def own_Rp (Z : State) (h : Heap) (z0 : Nat) (w : Value) (b : Addr) (j u n s : Int32) : Prop := (w = .ref b ∧ (¬ j < u ∨ ¬ n < s)) ∨ (∃ (c : Addr) (k : ClassId), w = .ref c ∧ z0 ≤ c ∧ Arv Z h c k .byte s [] (.int (0 : Int32)) ∧ j < u ∧ n < s)
def own_Rn (Z : State) (h : Heap) (w : Value) (j u s : Int32) : Prop := (w = .null ∧ ¬ j < u) ∨ (∃ (c : Addr) (k : ClassId), w = .ref c ∧ Arv Z h c k .byte s [] (.int (0 : Int32)) ∧ j < u)
theorem own_Rp.ref {Z : State} {h : Heap} {z0 : Nat} {w : Value} {b : Addr} {j u n s : Int32} (R : own_Rp Z h z0 w b j u n s) : w.isRef = true ∧ w.category = 1 := by
  rcases R with ⟨rfl, -⟩ | ⟨c, k, rfl, -⟩ <;> exact ⟨rfl, rfl⟩
theorem own_Rn.ref {Z : State} {h : Heap} {w : Value} {j u s : Int32} (R : own_Rn Z h w j u s) : w.isRef = true ∧ w.category = 1 := by
  rcases R with ⟨rfl, -⟩ | ⟨c, k, rfl, -⟩ <;> exact ⟨rfl, rfl⟩

theorem d1_0 : decode prog_20_method_1_code 0 = .ok (.aload_n 0, 1) := by decide +kernel
theorem d1_1 : decode prog_20_method_1_code 1 = .ok (.invokespecial 3, 3) := by decide +kernel
theorem d1_4 : decode prog_20_method_1_code 4 = .ok (.aload_n 0, 1) := by decide +kernel
theorem d1_5 : decode prog_20_method_1_code 5 = .ok (.iconst 4, 1) := by decide +kernel
theorem d1_6 : decode prog_20_method_1_code 6 = .ok (.anewarray 9, 3) := by decide +kernel
theorem d1_9 : decode prog_20_method_1_code 9 = .ok (.putfield 11, 3) := by decide +kernel
theorem d1_12 : decode prog_20_method_1_code 12 = .ok (.aload_n 0, 1) := by decide +kernel
theorem d1_13 : decode prog_20_method_1_code 13 = .ok (.iconst 4, 1) := by decide +kernel
theorem d1_14 : decode prog_20_method_1_code 14 = .ok (.anewarray 17, 3) := by decide +kernel
theorem d1_17 : decode prog_20_method_1_code 17 = .ok (.putfield 19, 3) := by decide +kernel
theorem d1_20 : decode prog_20_method_1_code 20 = .ok (.aload_n 0, 1) := by decide +kernel
theorem d1_21 : decode prog_20_method_1_code 21 = .ok (.sipush 136, 3) := by decide +kernel
theorem d1_24 : decode prog_20_method_1_code 24 = .ok (.newarray .int, 2) := by decide +kernel
theorem d1_26 : decode prog_20_method_1_code 26 = .ok (.putfield 23, 3) := by decide +kernel
theorem d1_29 : decode prog_20_method_1_code 29 = .ok (.return_, 1) := by decide +kernel
def Q_rm1 (Z : State) (ao0 : Addr) (h0 : Heap) (n0 : Nat) (v : Option Value) (h : Heap) (L : List Loc) : Prop := ∃ (ar : Addr) (kc : ClassId), v = none ∧ Fr n0 L ∧ Keep h0 h [ao0] ∧ h0.size ≤ ar ∧ n0 ≤ ar ∧ Exa Z h ao0 "com/example/wee_match/weematch/Sieve$Windows" ∧ Fld Z h ao0 "com/example/wee_match/weematch/Sieve$Windows" "bytes" "[[B" (.ref ar) ∧ Arv Z h ar kc (.array .byte) (4 : Int32) [.null, .null, .null, .null] .null ∧ OvrA Z kc .byte "[B"
theorem pn_rm1 : plainName "com/example/wee_match/weematch/Sieve$Windows" = true := by first | (simp [plainName, overriddenIn]; done) | decide +kernel
theorem ef_rm1 (m : MethodId) (x0 : Addr) : entryFrame m #[(.ref x0)] 1 = mkF m 0 #[.val (.ref x0)] [] := by first | (simp [entryFrame, mkF, argsToLocals, Value.category]; done) | rfl
set_option maxRecDepth 65536 in
set_option maxHeartbeats 40000000 in
theorem rm1 (l : Launch) (Z : State) (a0 : Array Value) (hw : ∀ d ∈ tables_1, d.before a0 Z = true) (ws : List Jvm.Cond) (ao0 : Addr) (h0 : Heap) (n0 : Nat) (Z0 : n0 ≤ h0.size) (E_ao0 : Exa Z h0 ao0 "com/example/wee_match/weematch/Sieve$Windows") (F_ao0_bytes : Fld Z h0 ao0 "com/example/wee_match/weematch/Sieve$Windows" "bytes" "[[B" .null) (F_ao0_chars : Fld Z h0 ao0 "com/example/wee_match/weematch/Sieve$Windows" "chars" "[[C" .null) (F_ao0_starts : Fld Z h0 ao0 "com/example/wee_match/weematch/Sieve$Windows" "starts" "[I" .null) (g_ao0 : n0 ≤ ao0) :
    MetFree l (⟨"com/example/wee_match/weematch/Sieve$Windows", "<init>", "()V"⟩ : MethodName) (head1 (Jvm.Cond.code (⟨"com/example/wee_match/weematch/Sieve$Windows", "<init>", "()V"⟩ : MethodName) prog_20_method_1_code 1 none :: ws) ({ frames := 1, cells := 3, slots := 144, locals := 12 } : Room)) (fun a U => a = #[(.ref ao0)] ∧ Z.Warmed39 U.vm ∧ U.heap = h0) (fun _ _ _ _ _ => True) (fun _ U o U' => ∃ v L, o = .returned v ∧ (Q_rm1 Z ao0 h0 n0) v U'.heap L ∧ FrameEnd U o U' L ({ frames := 1, cells := 3, slots := 144, locals := 12 } : Room).cells ({ frames := 1, cells := 3, slots := 144, locals := 12 } : Room).slots) := by
  refine MetFree.of_bodySF (plainFor_of_name pn_rm1) hisR ?_
  intro p e s m args below meth c s₁ Bd hml0 hP hK
  obtain ⟨rfl, hZ, hh⟩ := hP
  have hx := Bd.exec
  have hby := Bd.bytes
  have hlk := BodyLoose.notSynchronized Bd
  have hret := Bd.returns
  have hml : c.maxLocals = 1 := hml0
  have hown : s.vm.findClass "com/example/wee_match/weematch/Sieve$Windows" = some m.cls := findClass_of_methodNamed Bd.named
  have hnm := (name_of_methodNamed Bd.named Bd.method).1
  have X0 : Stand p l e ({ frames := 1, cells := 3, slots := 144, locals := 12 } : Room) s m #[(.ref ao0)] below meth c s₁ [] 0 0 := Stand.of_body Bd
  have e0 : s₁.heap = h0 := by rw [← hh, Bd.state]; rfl
  have Nf := Fr.nil n0
  have Zs := Z0
  have Kp : Keep h0 h0 [ao0] := Keep.refl _ _
  show own_End p e below s (Q_rm1 Z ao0 h0 n0) ({ frames := 1, cells := 3, slots := 144, locals := 12 } : Room).cells ({ frames := 1, cells := 3, slots := 144, locals := 12 } : Room).slots (s₁.setTop (entryFrame m #[(.ref ao0)] 1))
  refine own_go (x' := s₁.setTop (mkF m 0 #[.val (.ref ao0)] [])) (fun t k => castTop (ef_rm1 m ao0) k) ?_
  refine own_go (x' := s₁.setTop (mkF m 1 #[.val (.ref ao0)] [(.ref ao0)])) (fun _ k => XS.aloadN X0.here hx rfl (hb hby d1_0) rfl rfl k) ?_
  obtain ⟨T1, X1, e1, st1⟩ := initO X0 hx hZ hown (own_w hw 6 rfl) (own_w hw 7 rfl) (own_w hw 8 rfl) e0 (g := (mkF m 1 #[.val (.ref ao0)] [(.ref ao0)])) rfl (by rw [hml]; rfl) rfl (hb hby d1_1) (by decide) (W := 0) (by show 2 * 0 + _ ≤ _; exact Nat.le_of_eq rfl) (by decide)
  refine own_go (x' := T1.setTop (mkF m 4 #[.val (.ref ao0)] [])) st1 ?_
  refine own_go (x' := T1.setTop (mkF m 6 #[.val (.ref ao0)] [(.int (4 : Int32)), (.ref ao0)])) (fun _ k => XS.aloadN X1.here hx rfl (hb hby d1_4) rfl rfl (XS.iconst X1.here hx rfl (hb hby d1_5) k)) ?_
  obtain ⟨T2, h2, k2, X2, e2, E2, A2, -, O2, st2⟩ := newRA X1 hx hZ hown (C := "[B") (ty := .byte) (by decide) (own_w hw 9 rfl) (own_w hw 10 rfl) e1 (g := (mkF m 6 #[.val (.ref ao0)] [(.int (4 : Int32)), (.ref ao0)])) rfl (hb hby d1_6) rfl (by decide) (cap := 4) (by decide) (by decide) (by decide) (by decide) rfl
  obtain ⟨b2, g2⟩ : ∃ z, z = h0.size := ⟨_, rfl⟩
  rw [← g2] at A2 st2
  have ne_ao0_b2 : ao0 ≠ b2 := Nat.ne_of_lt (Nat.lt_of_lt_of_le E_ao0.lt (Nat.le_of_eq g2.symm))
  have g_b2 : n0 ≤ b2 := Nat.le_trans Zs (Nat.le_of_eq g2.symm)
  have sz_b2 : h0.size ≤ b2 := Nat.le_trans Kp.1 (Nat.le_of_eq g2.symm)
  replace E_ao0 := Exa.ext E2 E_ao0
  replace F_ao0_bytes := Fld.ext E2 F_ao0_bytes
  replace F_ao0_chars := Fld.ext E2 F_ao0_chars
  replace F_ao0_starts := Fld.ext E2 F_ao0_starts
  replace Zs := Nat.le_trans Zs E2.1
  replace Kp := Kp.ext E2
  have V_b2 : Arv Z h2 b2 k2 (.array .byte) (4 : Int32) [.null, .null, .null, .null] .null := (Arv.new A2 (by decide)).pad (pad_rep [] .null 4)
  refine own_go (x' := T2.setTop (mkF m 9 #[.val (.ref ao0)] [(.ref b2), (.ref ao0)])) st2 ?_
  obtain ⟨T3, h3, X3, e3, W3, st3⟩ := putF X2 hx hZ hown (host := "") (Or.inl (own_w hw 11 rfl)) Via.refl e2 F_ao0_bytes E_ao0 (Or.inr ⟨(own_w hw 12 rfl), rfl, hnm⟩) (own_w hw 1 rfl) (ty := (.array (.array .byte))) (by decide) rfl rfl (g := (mkF m 9 #[.val (.ref ao0)] [(.ref b2), (.ref ao0)])) rfl rfl (hb hby d1_9)
  refine own_go (x' := T3.setTop (mkF m 12 #[.val (.ref ao0)] [])) st3 ?_
  replace E_ao0 := Exa.wr W3 E_ao0
  replace F_ao0_bytes := Fld.same W3 F_ao0_bytes
  replace F_ao0_chars := Fld.other W3 F_ao0_chars (Or.inr (slot_ne (Or.inr (own_w hw 16 rfl)) (Or.inr (own_w hw 12 rfl)) (by decide) (t := (.array (.array .char))) (t' := (.array (.array .byte))) (by decide) (by decide)))
  replace F_ao0_starts := Fld.other W3 F_ao0_starts (Or.inr (slot_ne (Or.inl (own_w hw 19 rfl)) (Or.inr (own_w hw 12 rfl)) (by decide) (t := (.array .int)) (t' := (.array (.array .byte))) (by decide) (by decide)))
  replace V_b2 := V_b2.other W3 (Ne.symm ne_ao0_b2)
  replace Zs := Nat.le_trans Zs (Keep.of_wr W3).1
  replace Nf := Fr.snoc X3 Nf g_ao0
  replace Kp := Kp.wr W3 (Or.inl (by simp))
  refine own_go (x' := T3.setTop (mkF m 14 #[.val (.ref ao0)] [(.int (4 : Int32)), (.ref ao0)])) (fun _ k => XS.aloadN X3.here hx rfl (hb hby d1_12) rfl rfl (XS.iconst X3.here hx rfl (hb hby d1_13) k)) ?_
  obtain ⟨T4, h4, k4, X4, e4, E4, A4, -, O4, st4⟩ := newRA X3 hx hZ hown (C := "[C") (ty := .char) (by decide) (own_w hw 13 rfl) (own_w hw 14 rfl) e3 (g := (mkF m 14 #[.val (.ref ao0)] [(.int (4 : Int32)), (.ref ao0)])) rfl (hb hby d1_14) rfl (by decide) (cap := 4) (by decide) (by decide) (by decide) (by decide) rfl
  obtain ⟨b4, g4⟩ : ∃ z, z = h3.size := ⟨_, rfl⟩
  rw [← g4] at A4 st4
  have ne_ao0_b4 : ao0 ≠ b4 := Nat.ne_of_lt (Nat.lt_of_lt_of_le E_ao0.lt (Nat.le_of_eq g4.symm))
  have ne_b2_b4 : b2 ≠ b4 := Nat.ne_of_lt (Nat.lt_of_lt_of_le V_b2.lt (Nat.le_of_eq g4.symm))
  have g_b4 : n0 ≤ b4 := Nat.le_trans Zs (Nat.le_of_eq g4.symm)
  have sz_b4 : h0.size ≤ b4 := Nat.le_trans Kp.1 (Nat.le_of_eq g4.symm)
  replace E_ao0 := Exa.ext E4 E_ao0
  replace F_ao0_bytes := Fld.ext E4 F_ao0_bytes
  replace F_ao0_chars := Fld.ext E4 F_ao0_chars
  replace F_ao0_starts := Fld.ext E4 F_ao0_starts
  replace V_b2 := V_b2.ext E4
  replace Zs := Nat.le_trans Zs E4.1
  replace Kp := Kp.ext E4
  have V_b4 : Arv Z h4 b4 k4 (.array .char) (4 : Int32) [.null, .null, .null, .null] .null := (Arv.new A4 (by decide)).pad (pad_rep [] .null 4)
  refine own_go (x' := T4.setTop (mkF m 17 #[.val (.ref ao0)] [(.ref b4), (.ref ao0)])) st4 ?_
  obtain ⟨T5, h5, X5, e5, W5, st5⟩ := putF X4 hx hZ hown (host := "") (Or.inl (own_w hw 15 rfl)) Via.refl e4 F_ao0_chars E_ao0 (Or.inr ⟨(own_w hw 16 rfl), rfl, hnm⟩) (own_w hw 1 rfl) (ty := (.array (.array .char))) (by decide) rfl rfl (g := (mkF m 17 #[.val (.ref ao0)] [(.ref b4), (.ref ao0)])) rfl rfl (hb hby d1_17)
  refine own_go (x' := T5.setTop (mkF m 20 #[.val (.ref ao0)] [])) st5 ?_
  replace E_ao0 := Exa.wr W5 E_ao0
  replace F_ao0_bytes := Fld.other W5 F_ao0_bytes (Or.inr (slot_ne (Or.inr (own_w hw 12 rfl)) (Or.inr (own_w hw 16 rfl)) (by decide) (t := (.array (.array .byte))) (t' := (.array (.array .char))) (by decide) (by decide)))
  replace F_ao0_chars := Fld.same W5 F_ao0_chars
  replace F_ao0_starts := Fld.other W5 F_ao0_starts (Or.inr (slot_ne (Or.inl (own_w hw 19 rfl)) (Or.inr (own_w hw 16 rfl)) (by decide) (t := (.array .int)) (t' := (.array (.array .char))) (by decide) (by decide)))
  replace V_b2 := V_b2.other W5 (Ne.symm ne_ao0_b2)
  replace V_b4 := V_b4.other W5 (Ne.symm ne_ao0_b4)
  replace Zs := Nat.le_trans Zs (Keep.of_wr W5).1
  replace Nf := Fr.snoc X5 Nf g_ao0
  replace Kp := Kp.wr W5 (Or.inl (by simp))
  refine own_go (x' := T5.setTop (mkF m 24 #[.val (.ref ao0)] [(.int (136 : Int32)), (.ref ao0)])) (fun _ k => XS.aloadN X5.here hx rfl (hb hby d1_20) rfl rfl (XS.sipush X5.here hx rfl (hb hby d1_21) k)) ?_
  obtain ⟨T6, h6, k6, X6, e6, E6, A6, st6⟩ := newP X5 hx hZ (own_w hw 17 rfl) e5 (g := (mkF m 24 #[.val (.ref ao0)] [(.int (136 : Int32)), (.ref ao0)])) rfl (hb hby d1_24) rfl (by decide) (cap := 136) (by decide) (by decide) (by decide) (by decide)
  obtain ⟨b6, g6⟩ : ∃ z, z = h5.size := ⟨_, rfl⟩
  rw [← g6] at A6 st6
  have ne_ao0_b6 : ao0 ≠ b6 := Nat.ne_of_lt (Nat.lt_of_lt_of_le E_ao0.lt (Nat.le_of_eq g6.symm))
  have ne_b2_b6 : b2 ≠ b6 := Nat.ne_of_lt (Nat.lt_of_lt_of_le V_b2.lt (Nat.le_of_eq g6.symm))
  have ne_b4_b6 : b4 ≠ b6 := Nat.ne_of_lt (Nat.lt_of_lt_of_le V_b4.lt (Nat.le_of_eq g6.symm))
  have g_b6 : n0 ≤ b6 := Nat.le_trans Zs (Nat.le_of_eq g6.symm)
  have sz_b6 : h0.size ≤ b6 := Nat.le_trans Kp.1 (Nat.le_of_eq g6.symm)
  replace E_ao0 := Exa.ext E6 E_ao0
  replace F_ao0_bytes := Fld.ext E6 F_ao0_bytes
  replace F_ao0_chars := Fld.ext E6 F_ao0_chars
  replace F_ao0_starts := Fld.ext E6 F_ao0_starts
  replace V_b2 := V_b2.ext E6
  replace V_b4 := V_b4.ext E6
  replace Zs := Nat.le_trans Zs E6.1
  replace Kp := Kp.ext E6
  have V_b6 : Arv Z h6 b6 k6 .int (136 : Int32) [] (.int (0 : Int32)) := Arv.new A6 (by decide)
  refine own_go (x' := T6.setTop (mkF m 26 #[.val (.ref ao0)] [(.ref b6), (.ref ao0)])) st6 ?_
  obtain ⟨T7, h7, X7, e7, W7, st7⟩ := putF X6 hx hZ hown (host := "") (Or.inl (own_w hw 18 rfl)) Via.refl e6 F_ao0_starts E_ao0 (Or.inl (own_w hw 19 rfl)) (own_w hw 1 rfl) (ty := (.array .int)) (by decide) rfl rfl (g := (mkF m 26 #[.val (.ref ao0)] [(.ref b6), (.ref ao0)])) rfl rfl (hb hby d1_26)
  refine own_go (x' := T7.setTop (mkF m 29 #[.val (.ref ao0)] [])) st7 ?_
  replace E_ao0 := Exa.wr W7 E_ao0
  replace F_ao0_bytes := Fld.other W7 F_ao0_bytes (Or.inr (slot_ne (Or.inr (own_w hw 12 rfl)) (Or.inl (own_w hw 19 rfl)) (by decide) (t := (.array (.array .byte))) (t' := (.array .int)) (by decide) (by decide)))
  replace F_ao0_chars := Fld.other W7 F_ao0_chars (Or.inr (slot_ne (Or.inr (own_w hw 16 rfl)) (Or.inl (own_w hw 19 rfl)) (by decide) (t := (.array (.array .char))) (t' := (.array .int)) (by decide) (by decide)))
  replace F_ao0_starts := Fld.same W7 F_ao0_starts
  replace V_b2 := V_b2.other W7 (Ne.symm ne_ao0_b2)
  replace V_b4 := V_b4.other W7 (Ne.symm ne_ao0_b4)
  replace V_b6 := V_b6.other W7 (Ne.symm ne_ao0_b6)
  replace Zs := Nat.le_trans Zs (Keep.of_wr W7).1
  replace Nf := Fr.snoc X7 Nf g_ao0
  replace Kp := Kp.wr W7 (Or.inl (by simp))
  refine own_retV X7 hx hlk hret (hb hby d1_29) ?_ (by decide) (by decide)
  rw [e7]
  exact ⟨b2, k2, rfl, Nf, Kp, sz_b2, g_b2, E_ao0, F_ao0_bytes, V_b2, O2⟩
theorem d3_0 : decode prog_20_method_2_code 0 = .ok (.iconst 0, 1) := by decide +kernel
theorem d3_1 : decode prog_20_method_2_code 1 = .ok (.istore_n 3, 1) := by decide +kernel
theorem d3_2 : decode prog_20_method_2_code 2 = .ok (.iload_n 3, 1) := by decide +kernel
theorem d3_3 : decode prog_20_method_2_code 3 = .ok (.iload_n 1, 1) := by decide +kernel
theorem d3_4 : decode prog_20_method_2_code 4 = .ok (.if_icmp .ge 54, 3) := by decide +kernel
theorem d3_58 : decode prog_20_method_2_code 58 = .ok (.aload_n 0, 1) := by decide +kernel
theorem d3_59 : decode prog_20_method_2_code 59 = .ok (.getfield 11, 3) := by decide +kernel
theorem d3_62 : decode prog_20_method_2_code 62 = .ok (.areturn, 1) := by decide +kernel
def Q_rmF_0 (Z : State) (ao0 : Addr) (p2 : Int32) (ar : Addr) (kc : ClassId) (h0 : Heap) (n0 : Nat) (v : Option Value) (h : Heap) (L : List Loc) : Prop := v = some (.ref ar) ∧ Fr n0 L ∧ Keep h0 h [ar] ∧ Fld Z h ao0 "com/example/wee_match/weematch/Sieve$Windows" "bytes" "[[B" (.ref ar) ∧ Arv Z h ar kc (.array .byte) (4 : Int32) [.null, .null, .null, .null] .null
theorem pn_rmF_0 : plainName "com/example/wee_match/weematch/Sieve$Windows" = true := by first | (simp [plainName, overriddenIn]; done) | decide +kernel
theorem ef_rmF_0 (m : MethodId) (x0 : Addr) (x1 : Int32) (x2 : Int32) : entryFrame m #[(.ref x0), (.int x1), (.int x2)] 5 = mkF m 0 #[.val (.ref x0), .val (.int x1), .val (.int x2), .unset, .unset] [] := by first | (simp [entryFrame, mkF, argsToLocals, Value.category]; done) | rfl
set_option maxRecDepth 65536 in
set_option maxHeartbeats 40000000 in
theorem rmF_0 (l : Launch) (Z : State) (a0 : Array Value) (hw : ∀ d ∈ tables_1, d.before a0 Z = true) (ws : List Jvm.Cond) (ao0 : Addr) (p2 : Int32) (ar : Addr) (kc : ClassId) (h0 : Heap) (n0 : Nat) (Z0 : n0 ≤ h0.size) (F_ao0_bytes : Fld Z h0 ao0 "com/example/wee_match/weematch/Sieve$Windows" "bytes" "[[B" (.ref ar)) (V_ar : Arv Z h0 ar kc (.array .byte) (4 : Int32) [.null, .null, .null, .null] .null) (O_ar : OvrA Z kc .byte "[B") (ne_ao0_ar : ao0 ≠ ar) (g_ar : n0 ≤ ar) (hs : own_L p2 16383) (ht : own_L (p2 + (64 : Int32)) 16447) :
    MetFree l (⟨"com/example/wee_match/weematch/Sieve$Windows", "bytes", "(II)[[B"⟩ : MethodName) (head1 (Jvm.Cond.code (⟨"com/example/wee_match/weematch/Sieve$Windows", "bytes", "(II)[[B"⟩ : MethodName) prog_20_method_2_code 5 (some (.array (.array .byte))) :: ws) ({ frames := 0, cells := 0, slots := 0, locals := 0 } : Room)) (fun a U => a = #[(.ref ao0), (.int (0 : Int32)), (.int p2)] ∧ Z.Warmed39 U.vm ∧ U.heap = h0) (fun _ _ _ _ _ => True) (fun _ U o U' => ∃ v L, o = .returned v ∧ (Q_rmF_0 Z ao0 p2 ar kc h0 n0) v U'.heap L ∧ FrameEnd U o U' L ({ frames := 0, cells := 0, slots := 0, locals := 0 } : Room).cells ({ frames := 0, cells := 0, slots := 0, locals := 0 } : Room).slots) := by
  refine MetFree.of_bodySF (plainFor_of_name pn_rmF_0) hisR ?_
  intro p e s m args below meth c s₁ Bd hml0 hP hK
  obtain ⟨rfl, hZ, hh⟩ := hP
  have hx := Bd.exec
  have hby := Bd.bytes
  have hlk := BodyLoose.notSynchronized Bd
  have hret := Bd.returns
  have hml : c.maxLocals = 5 := hml0
  have hown : s.vm.findClass "com/example/wee_match/weematch/Sieve$Windows" = some m.cls := findClass_of_methodNamed Bd.named
  have hnm := (name_of_methodNamed Bd.named Bd.method).1
  have X0 : Stand p l e ({ frames := 0, cells := 0, slots := 0, locals := 0 } : Room) s m #[(.ref ao0), (.int (0 : Int32)), (.int p2)] below meth c s₁ [] 0 0 := Stand.of_body Bd
  have e0 : s₁.heap = h0 := by rw [← hh, Bd.state]; rfl
  have Nf := Fr.nil n0
  have Zs := Z0
  have Kp : Keep h0 h0 [ar] := Keep.refl _ _
  show own_End p e below s (Q_rmF_0 Z ao0 p2 ar kc h0 n0) ({ frames := 0, cells := 0, slots := 0, locals := 0 } : Room).cells ({ frames := 0, cells := 0, slots := 0, locals := 0 } : Room).slots (s₁.setTop (entryFrame m #[(.ref ao0), (.int (0 : Int32)), (.int p2)] 5))
  refine own_go (x' := s₁.setTop (mkF m 0 #[.val (.ref ao0), .val (.int (0 : Int32)), .val (.int p2), .unset, .unset] [])) (fun t k => castTop (ef_rmF_0 m ao0 (0 : Int32) p2) k) ?_
  refine own_go (x' := s₁.setTop (mkF m 59 #[.val (.ref ao0), .val (.int (0 : Int32)), .val (.int p2), .val (.int (0 : Int32)), .unset] [(.ref ao0)])) (fun _ k => XS.iconst X0.here hx rfl (hb hby d3_0) (XS.istoreN X0.here hx rfl (hb hby d3_1) rfl (l' := #[.val (.ref ao0), .val (.int (0 : Int32)), .val (.int p2), .val (.int (0 : Int32)), .unset]) rfl (XS.iloadN X0.here hx rfl (hb hby d3_2) rfl (XS.iloadN X0.here hx rfl (hb hby d3_3) rfl (XS.icmpYes X0.here hx rfl (pc0 := 4) (pc' := 58) rfl (hb hby d3_4) rfl (flt (Int32.lt_irrefl)).2.1 (by decide) (by decide) (XS.aloadN X0.here hx rfl (hb hby d3_58) rfl rfl k)))))) ?_
  obtain ⟨T1, X1, e1, st1⟩ := getF X0 hx hZ hown (host := "") (Or.inl (own_w hw 11 rfl)) Via.refl e0 F_ao0_bytes (g := (mkF m 59 #[.val (.ref ao0), .val (.int (0 : Int32)), .val (.int p2), .val (.int (0 : Int32)), .unset] [(.ref ao0)])) rfl rfl (hb hby d3_59)
  refine own_go (x' := T1.setTop (mkF m 62 #[.val (.ref ao0), .val (.int (0 : Int32)), .val (.int p2), .val (.int (0 : Int32)), .unset] [(.ref ar)])) st1 ?_
  refine own_retR X1 hx hlk hret rfl rfl (hb hby d3_62) ?_ (by decide) (by decide)
  rw [e1]
  exact ⟨rfl, Nf, Kp, F_ao0_bytes, V_ar⟩
theorem d3_7 : decode prog_20_method_2_code 7 = .ok (.iload_n 3, 1) := by decide +kernel
theorem d3_8 : decode prog_20_method_2_code 8 = .ok (.ifCond .ne 10, 3) := by decide +kernel
theorem d3_11 : decode prog_20_method_2_code 11 = .ok (.iload_n 2, 1) := by decide +kernel
theorem d3_12 : decode prog_20_method_2_code 12 = .ok (.bipush 64, 2) := by decide +kernel
theorem d3_14 : decode prog_20_method_2_code 14 = .ok (.iadd, 1) := by decide +kernel
theorem d3_15 : decode prog_20_method_2_code 15 = .ok (.goto 4, 3) := by decide +kernel
theorem d3_19 : decode prog_20_method_2_code 19 = .ok (.istore 4, 2) := by decide +kernel
theorem d3_21 : decode prog_20_method_2_code 21 = .ok (.aload_n 0, 1) := by decide +kernel
theorem d3_22 : decode prog_20_method_2_code 22 = .ok (.getfield 11, 3) := by decide +kernel
theorem d3_25 : decode prog_20_method_2_code 25 = .ok (.iload_n 3, 1) := by decide +kernel
theorem d3_26 : decode prog_20_method_2_code 26 = .ok (.aaload, 1) := by decide +kernel
theorem d3_27 : decode prog_20_method_2_code 27 = .ok (.ifnull 15, 3) := by decide +kernel
theorem d3_42 : decode prog_20_method_2_code 42 = .ok (.aload_n 0, 1) := by decide +kernel
theorem d3_43 : decode prog_20_method_2_code 43 = .ok (.getfield 11, 3) := by decide +kernel
theorem d3_46 : decode prog_20_method_2_code 46 = .ok (.iload_n 3, 1) := by decide +kernel
theorem d3_47 : decode prog_20_method_2_code 47 = .ok (.iload 4, 2) := by decide +kernel
theorem d3_49 : decode prog_20_method_2_code 49 = .ok (.newarray .byte, 2) := by decide +kernel
theorem d3_51 : decode prog_20_method_2_code 51 = .ok (.aastore, 1) := by decide +kernel
theorem d3_52 : decode prog_20_method_2_code 52 = .ok (.iinc 3 1, 3) := by decide +kernel
theorem d3_55 : decode prog_20_method_2_code 55 = .ok (.goto (-53), 3) := by decide +kernel
def Q_rmF_1 (Z : State) (ao0 : Addr) (p2 : Int32) (ar : Addr) (kc : ClassId) (h0 : Heap) (n0 : Nat) (v : Option Value) (h : Heap) (L : List Loc) : Prop := ∃ (b0 : Addr) (k0 : ClassId), v = some (.ref ar) ∧ Fr n0 L ∧ Keep h0 h [ar] ∧ Fld Z h ao0 "com/example/wee_match/weematch/Sieve$Windows" "bytes" "[[B" (.ref ar) ∧ Arv Z h ar kc (.array .byte) (4 : Int32) [.ref b0, .null, .null, .null] .null ∧ h0.size ≤ b0 ∧ n0 ≤ b0 ∧ Arv Z h b0 k0 .byte (p2 + (64 : Int32)) [] (.int (0 : Int32))
theorem pn_rmF_1 : plainName "com/example/wee_match/weematch/Sieve$Windows" = true := by first | (simp [plainName, overriddenIn]; done) | decide +kernel
theorem ef_rmF_1 (m : MethodId) (x0 : Addr) (x1 : Int32) (x2 : Int32) : entryFrame m #[(.ref x0), (.int x1), (.int x2)] 5 = mkF m 0 #[.val (.ref x0), .val (.int x1), .val (.int x2), .unset, .unset] [] := by first | (simp [entryFrame, mkF, argsToLocals, Value.category]; done) | rfl
set_option maxRecDepth 65536 in
set_option maxHeartbeats 40000000 in
theorem rmF_1 (l : Launch) (Z : State) (a0 : Array Value) (hw : ∀ d ∈ tables_1, d.before a0 Z = true) (ws : List Jvm.Cond) (ao0 : Addr) (p2 : Int32) (ar : Addr) (kc : ClassId) (h0 : Heap) (n0 : Nat) (Z0 : n0 ≤ h0.size) (F_ao0_bytes : Fld Z h0 ao0 "com/example/wee_match/weematch/Sieve$Windows" "bytes" "[[B" (.ref ar)) (V_ar : Arv Z h0 ar kc (.array .byte) (4 : Int32) [.null, .null, .null, .null] .null) (O_ar : OvrA Z kc .byte "[B") (ne_ao0_ar : ao0 ≠ ar) (g_ar : n0 ≤ ar) (hs : own_L p2 16383) (ht : own_L (p2 + (64 : Int32)) 16447) :
    MetFree l (⟨"com/example/wee_match/weematch/Sieve$Windows", "bytes", "(II)[[B"⟩ : MethodName) (head1 (Jvm.Cond.code (⟨"com/example/wee_match/weematch/Sieve$Windows", "bytes", "(II)[[B"⟩ : MethodName) prog_20_method_2_code 5 (some (.array (.array .byte))) :: ws) ({ frames := 0, cells := 1, slots := 16447, locals := 0 } : Room)) (fun a U => a = #[(.ref ao0), (.int (1 : Int32)), (.int p2)] ∧ Z.Warmed39 U.vm ∧ U.heap = h0) (fun _ _ _ _ _ => True) (fun _ U o U' => ∃ v L, o = .returned v ∧ (Q_rmF_1 Z ao0 p2 ar kc h0 n0) v U'.heap L ∧ FrameEnd U o U' L ({ frames := 0, cells := 1, slots := 16447, locals := 0 } : Room).cells ({ frames := 0, cells := 1, slots := 16447, locals := 0 } : Room).slots) := by
  refine MetFree.of_bodySF (plainFor_of_name pn_rmF_1) hisR ?_
  intro p e s m args below meth c s₁ Bd hml0 hP hK
  obtain ⟨rfl, hZ, hh⟩ := hP
  have hx := Bd.exec
  have hby := Bd.bytes
  have hlk := BodyLoose.notSynchronized Bd
  have hret := Bd.returns
  have hml : c.maxLocals = 5 := hml0
  have hown : s.vm.findClass "com/example/wee_match/weematch/Sieve$Windows" = some m.cls := findClass_of_methodNamed Bd.named
  have hnm := (name_of_methodNamed Bd.named Bd.method).1
  have X0 : Stand p l e ({ frames := 0, cells := 1, slots := 16447, locals := 0 } : Room) s m #[(.ref ao0), (.int (1 : Int32)), (.int p2)] below meth c s₁ [] 0 0 := Stand.of_body Bd
  have e0 : s₁.heap = h0 := by rw [← hh, Bd.state]; rfl
  have Nf := Fr.nil n0
  have Zs := Z0
  have Kp : Keep h0 h0 [ar] := Keep.refl _ _
  show own_End p e below s (Q_rmF_1 Z ao0 p2 ar kc h0 n0) ({ frames := 0, cells := 1, slots := 16447, locals := 0 } : Room).cells ({ frames := 0, cells := 1, slots := 16447, locals := 0 } : Room).slots (s₁.setTop (entryFrame m #[(.ref ao0), (.int (1 : Int32)), (.int p2)] 5))
  refine own_go (x' := s₁.setTop (mkF m 0 #[.val (.ref ao0), .val (.int (1 : Int32)), .val (.int p2), .unset, .unset] [])) (fun t k => castTop (ef_rmF_1 m ao0 (1 : Int32) p2) k) ?_
  refine own_go (x' := s₁.setTop (mkF m 8 #[.val (.ref ao0), .val (.int (1 : Int32)), .val (.int p2), .val (.int (0 : Int32)), .unset] [(.int (0 : Int32))])) (fun _ k => XS.iconst X0.here hx rfl (hb hby d3_0) (XS.istoreN X0.here hx rfl (hb hby d3_1) rfl (l' := #[.val (.ref ao0), .val (.int (1 : Int32)), .val (.int p2), .val (.int (0 : Int32)), .unset]) rfl (XS.iloadN X0.here hx rfl (hb hby d3_2) rfl (XS.iloadN X0.here hx rfl (hb hby d3_3) rfl (XS.icmpNo X0.here hx rfl (hb hby d3_4) rfl (tlt (by decide +kernel : ((0 : Int32) < (1 : Int32)))).2.1 (XS.iloadN X0.here hx rfl (hb hby d3_7) rfl k)))))) ?_
  refine own_go (x' := s₁.setTop (mkF m 21 #[.val (.ref ao0), .val (.int (1 : Int32)), .val (.int p2), .val (.int (0 : Int32)), .val (.int (p2 + (64 : Int32)))] [])) (fun _ k => XS.ifNo X0.here hx rfl (hb hby d3_8) rfl ((if0 _ _).trans (teq rfl).2) (XS.iloadN X0.here hx rfl (hb hby d3_11) rfl (XS.bipush X0.here hx rfl (hb hby d3_12) (XS.iadd X0.here hx rfl (hb hby d3_14) rfl (XS.goto X0.here hx rfl (pc0 := 15) (pc' := 19) rfl (hb hby d3_15) (by decide) (by decide) (XS.istore X0.here hx rfl (hb hby d3_19) rfl (l' := #[.val (.ref ao0), .val (.int (1 : Int32)), .val (.int p2), .val (.int (0 : Int32)), .val (.int (p2 + (64 : Int32)))]) rfl k)))))) ?_
  refine own_go (x' := s₁.setTop (mkF m 22 #[.val (.ref ao0), .val (.int (1 : Int32)), .val (.int p2), .val (.int (0 : Int32)), .val (.int (p2 + (64 : Int32)))] [(.ref ao0)])) (fun _ k => XS.aloadN X0.here hx rfl (hb hby d3_21) rfl rfl k) ?_
  obtain ⟨T1, X1, e1, st1⟩ := getF X0 hx hZ hown (host := "") (Or.inl (own_w hw 11 rfl)) Via.refl e0 F_ao0_bytes (g := (mkF m 22 #[.val (.ref ao0), .val (.int (1 : Int32)), .val (.int p2), .val (.int (0 : Int32)), .val (.int (p2 + (64 : Int32)))] [(.ref ao0)])) rfl rfl (hb hby d3_22)
  refine own_go (x' := T1.setTop (mkF m 25 #[.val (.ref ao0), .val (.int (1 : Int32)), .val (.int p2), .val (.int (0 : Int32)), .val (.int (p2 + (64 : Int32)))] [(.ref ar)])) st1 ?_
  refine own_go (x' := T1.setTop (mkF m 26 #[.val (.ref ao0), .val (.int (1 : Int32)), .val (.int p2), .val (.int (0 : Int32)), .val (.int (p2 + (64 : Int32)))] [(.int (0 : Int32)), (.ref ar)])) (fun _ k => XS.iloadN X1.here hx rfl (hb hby d3_25) rfl k) ?_
  obtain ⟨cl2, Ar2, q2, Sz2, Nn2, Hh2, Gg2⟩ := id V_ar
  have hin2 : ¬ ((0 : Int32) < 0 ∨ cl2.slots.size ≤ ((0 : Int32)).toNatClampNeg) := inb_of Sz2 ⟨by decide, by decide⟩
  refine own_go (x' := T1.setTop (mkF m 27 #[.val (.ref ao0), .val (.int (1 : Int32)), .val (.int p2), .val (.int (0 : Int32)), .val (.int (p2 + (64 : Int32)))] [.null])) (X1.aaload hx (j := (0 : Int32)) (v := .null) (Eq.trans (congrArg (fun h_ => h_[_]?) e1) Ar2.1) (State.isArrayOf_alike hZ.alike Ar2.2.1) rfl Ar2.2.2 hin2 (Hh2.at hin2 rfl) (g := (mkF m 26 #[.val (.ref ao0), .val (.int (1 : Int32)), .val (.int p2), .val (.int (0 : Int32)), .val (.int (p2 + (64 : Int32)))] [(.int (0 : Int32)), (.ref ar)])) rfl rfl (hb hby d3_26)) ?_
  refine own_go (x' := T1.setTop (mkF m 43 #[.val (.ref ao0), .val (.int (1 : Int32)), .val (.int p2), .val (.int (0 : Int32)), .val (.int (p2 + (64 : Int32)))] [(.ref ao0)])) (fun _ k => XS.ifnullYes X1.here hx rfl (pc0 := 27) (pc' := 42) rfl (hb hby d3_27) rfl (by decide) (by decide) (XS.aloadN X1.here hx rfl (hb hby d3_42) rfl rfl k)) ?_
  obtain ⟨T3, X3, e3, st3⟩ := getF X1 hx hZ hown (host := "") (Or.inl (own_w hw 11 rfl)) Via.refl e1 F_ao0_bytes (g := (mkF m 43 #[.val (.ref ao0), .val (.int (1 : Int32)), .val (.int p2), .val (.int (0 : Int32)), .val (.int (p2 + (64 : Int32)))] [(.ref ao0)])) rfl rfl (hb hby d3_43)
  refine own_go (x' := T3.setTop (mkF m 46 #[.val (.ref ao0), .val (.int (1 : Int32)), .val (.int p2), .val (.int (0 : Int32)), .val (.int (p2 + (64 : Int32)))] [(.ref ar)])) st3 ?_
  refine own_go (x' := T3.setTop (mkF m 49 #[.val (.ref ao0), .val (.int (1 : Int32)), .val (.int p2), .val (.int (0 : Int32)), .val (.int (p2 + (64 : Int32)))] [(.int (p2 + (64 : Int32))), (.int (0 : Int32)), (.ref ar)])) (fun _ k => XS.iloadN X3.here hx rfl (hb hby d3_46) rfl (XS.iload X3.here hx rfl (hb hby d3_47) rfl k)) ?_
  obtain ⟨T4, h4, k4, X4, e4, E4, A4, Q4, st4⟩ := newPE X3 hx hZ (own_w hw 29 rfl) e3 (g := (mkF m 49 #[.val (.ref ao0), .val (.int (1 : Int32)), .val (.int p2), .val (.int (0 : Int32)), .val (.int (p2 + (64 : Int32)))] [(.int (p2 + (64 : Int32))), (.int (0 : Int32)), (.ref ar)])) rfl (hb hby d3_49) rfl ht.1 (cap := 16447) ht.2 (by decide) (by decide) (by decide) (ad := "[B") (by decide)
  obtain ⟨b4, g4⟩ : ∃ z, z = h0.size := ⟨_, rfl⟩
  rw [← g4] at A4 st4
  rw [← g4] at Q4
  have ne_ao0_b4 : ao0 ≠ b4 := Nat.ne_of_lt (Nat.lt_of_lt_of_le F_ao0_bytes.lt (Nat.le_of_eq g4.symm))
  have ne_ar_b4 : ar ≠ b4 := Nat.ne_of_lt (Nat.lt_of_lt_of_le V_ar.lt (Nat.le_of_eq g4.symm))
  have g_b4 : n0 ≤ b4 := Nat.le_trans Zs (Nat.le_of_eq g4.symm)
  have sz_b4 : h0.size ≤ b4 := Nat.le_trans Kp.1 (Nat.le_of_eq g4.symm)
  replace F_ao0_bytes := Fld.ext E4 F_ao0_bytes
  replace V_ar := V_ar.ext E4
  replace Zs := Nat.le_trans Zs E4.1
  replace Kp := Kp.ext E4
  have E_b4 := Q4
  have V_b4 : Arv Z h4 b4 k4 .byte (p2 + (64 : Int32)) [] (.int (0 : Int32)) := Arv.new A4 ht.1
  refine own_go (x' := T4.setTop (mkF m 51 #[.val (.ref ao0), .val (.int (1 : Int32)), .val (.int p2), .val (.int (0 : Int32)), .val (.int (p2 + (64 : Int32)))] [(.ref b4), (.int (0 : Int32)), (.ref ar)])) st4 ?_
  obtain ⟨cl5, Ar5, q5, Sz5, Nn5, Hh5, Gg5⟩ := V_ar
  have hin5 : ¬ ((0 : Int32) < 0 ∨ cl5.slots.size ≤ ((0 : Int32)).toNatClampNeg) := inb_of Sz5 ⟨by decide, by decide⟩
  obtain ⟨T5, h5, X5, e5, W5, st5⟩ := stR X4 hx hZ e4 Ar5 (j := (0 : Int32)) hin5 rfl (Sto.ofVA Ar5 q5 O_ar (Ins.self E_b4)) (g := (mkF m 51 #[.val (.ref ao0), .val (.int (1 : Int32)), .val (.int p2), .val (.int (0 : Int32)), .val (.int (p2 + (64 : Int32)))] [(.ref b4), (.int (0 : Int32)), (.ref ar)])) rfl rfl (hb hby d3_51)
  refine own_go (x' := T5.setTop (mkF m 52 #[.val (.ref ao0), .val (.int (1 : Int32)), .val (.int p2), .val (.int (0 : Int32)), .val (.int (p2 + (64 : Int32)))] [])) st5 ?_
  replace F_ao0_bytes := Fld.other W5 F_ao0_bytes (Or.inl ne_ao0_ar)
  replace E_b4 := Exa.wr W5 E_b4
  replace V_b4 := V_b4.other W5 (Ne.symm ne_ar_b4)
  replace Zs := Nat.le_trans Zs (Keep.of_wr W5).1
  replace Nf := Fr.snoc X5 Nf g_ar
  replace Kp := Kp.wr W5 (Or.inl (by simp))
  have V_ar : Arv Z h5 ar kc (.array .byte) (4 : Int32) [(.ref b4), .null, .null, .null] .null := Arv.set Ar5 q5 Sz5 Nn5 Hh5 Gg5 rfl W5 0 rfl (Nat.le_of_ble_eq_true rfl)
  refine own_go (x' := T5.setTop (mkF m 2 #[.val (.ref ao0), .val (.int (1 : Int32)), .val (.int p2), .val (.int ((0 : Int32) + (1 : Int32))), .val (.int (p2 + (64 : Int32)))] [])) (fun _ k => XS.iinc X5.here hx rfl (hb hby d3_52) rfl (l' := #[.val (.ref ao0), .val (.int (1 : Int32)), .val (.int p2), .val (.int ((0 : Int32) + (1 : Int32))), .val (.int (p2 + (64 : Int32)))]) rfl (XS.goto X5.here hx rfl (pc0 := 55) (pc' := 2) rfl (hb hby d3_55) (by decide) (by decide) k)) ?_
  rw [show ((0 : Int32) + (1 : Int32)) = (1 : Int32) from by decide +kernel]
  refine own_go (x' := T5.setTop (mkF m 59 #[.val (.ref ao0), .val (.int (1 : Int32)), .val (.int p2), .val (.int (1 : Int32)), .val (.int (p2 + (64 : Int32)))] [(.ref ao0)])) (fun _ k => XS.iloadN X5.here hx rfl (hb hby d3_2) rfl (XS.iloadN X5.here hx rfl (hb hby d3_3) rfl (XS.icmpYes X5.here hx rfl (pc0 := 4) (pc' := 58) rfl (hb hby d3_4) rfl (flt (Int32.lt_irrefl)).2.1 (by decide) (by decide) (XS.aloadN X5.here hx rfl (hb hby d3_58) rfl rfl k)))) ?_
  obtain ⟨T6, X6, e6, st6⟩ := getF X5 hx hZ hown (host := "") (Or.inl (own_w hw 11 rfl)) Via.refl e5 F_ao0_bytes (g := (mkF m 59 #[.val (.ref ao0), .val (.int (1 : Int32)), .val (.int p2), .val (.int (1 : Int32)), .val (.int (p2 + (64 : Int32)))] [(.ref ao0)])) rfl rfl (hb hby d3_59)
  refine own_go (x' := T6.setTop (mkF m 62 #[.val (.ref ao0), .val (.int (1 : Int32)), .val (.int p2), .val (.int (1 : Int32)), .val (.int (p2 + (64 : Int32)))] [(.ref ar)])) st6 ?_
  refine own_retR X6 hx hlk hret rfl rfl (hb hby d3_62) ?_ (by decide) (by decide)
  rw [e6]
  exact ⟨b4, k4, rfl, Nf, Kp, F_ao0_bytes, V_ar, sz_b4, g_b4, V_b4⟩
theorem d3_18 : decode prog_20_method_2_code 18 = .ok (.iload_n 2, 1) := by decide +kernel
def Q_rmF_2 (Z : State) (ao0 : Addr) (p2 : Int32) (ar : Addr) (kc : ClassId) (h0 : Heap) (n0 : Nat) (v : Option Value) (h : Heap) (L : List Loc) : Prop := ∃ (b0 : Addr) (k0 : ClassId) (b1 : Addr) (k1 : ClassId), v = some (.ref ar) ∧ Fr n0 L ∧ Keep h0 h [ar] ∧ Fld Z h ao0 "com/example/wee_match/weematch/Sieve$Windows" "bytes" "[[B" (.ref ar) ∧ Arv Z h ar kc (.array .byte) (4 : Int32) [.ref b0, .ref b1, .null, .null] .null ∧ h0.size ≤ b0 ∧ n0 ≤ b0 ∧ Arv Z h b0 k0 .byte (p2 + (64 : Int32)) [] (.int (0 : Int32)) ∧ h0.size ≤ b1 ∧ n0 ≤ b1 ∧ Arv Z h b1 k1 .byte p2 [] (.int (0 : Int32)) ∧ b0 ≠ b1
theorem pn_rmF_2 : plainName "com/example/wee_match/weematch/Sieve$Windows" = true := by first | (simp [plainName, overriddenIn]; done) | decide +kernel
theorem ef_rmF_2 (m : MethodId) (x0 : Addr) (x1 : Int32) (x2 : Int32) : entryFrame m #[(.ref x0), (.int x1), (.int x2)] 5 = mkF m 0 #[.val (.ref x0), .val (.int x1), .val (.int x2), .unset, .unset] [] := by first | (simp [entryFrame, mkF, argsToLocals, Value.category]; done) | rfl
set_option maxRecDepth 65536 in
set_option maxHeartbeats 40000000 in
theorem rmF_2 (l : Launch) (Z : State) (a0 : Array Value) (hw : ∀ d ∈ tables_1, d.before a0 Z = true) (ws : List Jvm.Cond) (ao0 : Addr) (p2 : Int32) (ar : Addr) (kc : ClassId) (h0 : Heap) (n0 : Nat) (Z0 : n0 ≤ h0.size) (F_ao0_bytes : Fld Z h0 ao0 "com/example/wee_match/weematch/Sieve$Windows" "bytes" "[[B" (.ref ar)) (V_ar : Arv Z h0 ar kc (.array .byte) (4 : Int32) [.null, .null, .null, .null] .null) (O_ar : OvrA Z kc .byte "[B") (ne_ao0_ar : ao0 ≠ ar) (g_ar : n0 ≤ ar) (hs : own_L p2 16383) (ht : own_L (p2 + (64 : Int32)) 16447) :
    MetFree l (⟨"com/example/wee_match/weematch/Sieve$Windows", "bytes", "(II)[[B"⟩ : MethodName) (head1 (Jvm.Cond.code (⟨"com/example/wee_match/weematch/Sieve$Windows", "bytes", "(II)[[B"⟩ : MethodName) prog_20_method_2_code 5 (some (.array (.array .byte))) :: ws) ({ frames := 0, cells := 2, slots := 32830, locals := 0 } : Room)) (fun a U => a = #[(.ref ao0), (.int (2 : Int32)), (.int p2)] ∧ Z.Warmed39 U.vm ∧ U.heap = h0) (fun _ _ _ _ _ => True) (fun _ U o U' => ∃ v L, o = .returned v ∧ (Q_rmF_2 Z ao0 p2 ar kc h0 n0) v U'.heap L ∧ FrameEnd U o U' L ({ frames := 0, cells := 2, slots := 32830, locals := 0 } : Room).cells ({ frames := 0, cells := 2, slots := 32830, locals := 0 } : Room).slots) := by
  refine MetFree.of_bodySF (plainFor_of_name pn_rmF_2) hisR ?_
  intro p e s m args below meth c s₁ Bd hml0 hP hK
  obtain ⟨rfl, hZ, hh⟩ := hP
  have hx := Bd.exec
  have hby := Bd.bytes
  have hlk := BodyLoose.notSynchronized Bd
  have hret := Bd.returns
  have hml : c.maxLocals = 5 := hml0
  have hown : s.vm.findClass "com/example/wee_match/weematch/Sieve$Windows" = some m.cls := findClass_of_methodNamed Bd.named
  have hnm := (name_of_methodNamed Bd.named Bd.method).1
  have X0 : Stand p l e ({ frames := 0, cells := 2, slots := 32830, locals := 0 } : Room) s m #[(.ref ao0), (.int (2 : Int32)), (.int p2)] below meth c s₁ [] 0 0 := Stand.of_body Bd
  have e0 : s₁.heap = h0 := by rw [← hh, Bd.state]; rfl
  have Nf := Fr.nil n0
  have Zs := Z0
  have Kp : Keep h0 h0 [ar] := Keep.refl _ _
  show own_End p e below s (Q_rmF_2 Z ao0 p2 ar kc h0 n0) ({ frames := 0, cells := 2, slots := 32830, locals := 0 } : Room).cells ({ frames := 0, cells := 2, slots := 32830, locals := 0 } : Room).slots (s₁.setTop (entryFrame m #[(.ref ao0), (.int (2 : Int32)), (.int p2)] 5))
  refine own_go (x' := s₁.setTop (mkF m 0 #[.val (.ref ao0), .val (.int (2 : Int32)), .val (.int p2), .unset, .unset] [])) (fun t k => castTop (ef_rmF_2 m ao0 (2 : Int32) p2) k) ?_
  refine own_go (x' := s₁.setTop (mkF m 8 #[.val (.ref ao0), .val (.int (2 : Int32)), .val (.int p2), .val (.int (0 : Int32)), .unset] [(.int (0 : Int32))])) (fun _ k => XS.iconst X0.here hx rfl (hb hby d3_0) (XS.istoreN X0.here hx rfl (hb hby d3_1) rfl (l' := #[.val (.ref ao0), .val (.int (2 : Int32)), .val (.int p2), .val (.int (0 : Int32)), .unset]) rfl (XS.iloadN X0.here hx rfl (hb hby d3_2) rfl (XS.iloadN X0.here hx rfl (hb hby d3_3) rfl (XS.icmpNo X0.here hx rfl (hb hby d3_4) rfl (tlt (by decide +kernel : ((0 : Int32) < (2 : Int32)))).2.1 (XS.iloadN X0.here hx rfl (hb hby d3_7) rfl k)))))) ?_
  refine own_go (x' := s₁.setTop (mkF m 21 #[.val (.ref ao0), .val (.int (2 : Int32)), .val (.int p2), .val (.int (0 : Int32)), .val (.int (p2 + (64 : Int32)))] [])) (fun _ k => XS.ifNo X0.here hx rfl (hb hby d3_8) rfl ((if0 _ _).trans (teq rfl).2) (XS.iloadN X0.here hx rfl (hb hby d3_11) rfl (XS.bipush X0.here hx rfl (hb hby d3_12) (XS.iadd X0.here hx rfl (hb hby d3_14) rfl (XS.goto X0.here hx rfl (pc0 := 15) (pc' := 19) rfl (hb hby d3_15) (by decide) (by decide) (XS.istore X0.here hx rfl (hb hby d3_19) rfl (l' := #[.val (.ref ao0), .val (.int (2 : Int32)), .val (.int p2), .val (.int (0 : Int32)), .val (.int (p2 + (64 : Int32)))]) rfl k)))))) ?_
  refine own_go (x' := s₁.setTop (mkF m 22 #[.val (.ref ao0), .val (.int (2 : Int32)), .val (.int p2), .val (.int (0 : Int32)), .val (.int (p2 + (64 : Int32)))] [(.ref ao0)])) (fun _ k => XS.aloadN X0.here hx rfl (hb hby d3_21) rfl rfl k) ?_
  obtain ⟨T1, X1, e1, st1⟩ := getF X0 hx hZ hown (host := "") (Or.inl (own_w hw 11 rfl)) Via.refl e0 F_ao0_bytes (g := (mkF m 22 #[.val (.ref ao0), .val (.int (2 : Int32)), .val (.int p2), .val (.int (0 : Int32)), .val (.int (p2 + (64 : Int32)))] [(.ref ao0)])) rfl rfl (hb hby d3_22)
  refine own_go (x' := T1.setTop (mkF m 25 #[.val (.ref ao0), .val (.int (2 : Int32)), .val (.int p2), .val (.int (0 : Int32)), .val (.int (p2 + (64 : Int32)))] [(.ref ar)])) st1 ?_
  refine own_go (x' := T1.setTop (mkF m 26 #[.val (.ref ao0), .val (.int (2 : Int32)), .val (.int p2), .val (.int (0 : Int32)), .val (.int (p2 + (64 : Int32)))] [(.int (0 : Int32)), (.ref ar)])) (fun _ k => XS.iloadN X1.here hx rfl (hb hby d3_25) rfl k) ?_
  obtain ⟨cl2, Ar2, q2, Sz2, Nn2, Hh2, Gg2⟩ := id V_ar
  have hin2 : ¬ ((0 : Int32) < 0 ∨ cl2.slots.size ≤ ((0 : Int32)).toNatClampNeg) := inb_of Sz2 ⟨by decide, by decide⟩
  refine own_go (x' := T1.setTop (mkF m 27 #[.val (.ref ao0), .val (.int (2 : Int32)), .val (.int p2), .val (.int (0 : Int32)), .val (.int (p2 + (64 : Int32)))] [.null])) (X1.aaload hx (j := (0 : Int32)) (v := .null) (Eq.trans (congrArg (fun h_ => h_[_]?) e1) Ar2.1) (State.isArrayOf_alike hZ.alike Ar2.2.1) rfl Ar2.2.2 hin2 (Hh2.at hin2 rfl) (g := (mkF m 26 #[.val (.ref ao0), .val (.int (2 : Int32)), .val (.int p2), .val (.int (0 : Int32)), .val (.int (p2 + (64 : Int32)))] [(.int (0 : Int32)), (.ref ar)])) rfl rfl (hb hby d3_26)) ?_
  refine own_go (x' := T1.setTop (mkF m 43 #[.val (.ref ao0), .val (.int (2 : Int32)), .val (.int p2), .val (.int (0 : Int32)), .val (.int (p2 + (64 : Int32)))] [(.ref ao0)])) (fun _ k => XS.ifnullYes X1.here hx rfl (pc0 := 27) (pc' := 42) rfl (hb hby d3_27) rfl (by decide) (by decide) (XS.aloadN X1.here hx rfl (hb hby d3_42) rfl rfl k)) ?_
  obtain ⟨T3, X3, e3, st3⟩ := getF X1 hx hZ hown (host := "") (Or.inl (own_w hw 11 rfl)) Via.refl e1 F_ao0_bytes (g := (mkF m 43 #[.val (.ref ao0), .val (.int (2 : Int32)), .val (.int p2), .val (.int (0 : Int32)), .val (.int (p2 + (64 : Int32)))] [(.ref ao0)])) rfl rfl (hb hby d3_43)
  refine own_go (x' := T3.setTop (mkF m 46 #[.val (.ref ao0), .val (.int (2 : Int32)), .val (.int p2), .val (.int (0 : Int32)), .val (.int (p2 + (64 : Int32)))] [(.ref ar)])) st3 ?_
  refine own_go (x' := T3.setTop (mkF m 49 #[.val (.ref ao0), .val (.int (2 : Int32)), .val (.int p2), .val (.int (0 : Int32)), .val (.int (p2 + (64 : Int32)))] [(.int (p2 + (64 : Int32))), (.int (0 : Int32)), (.ref ar)])) (fun _ k => XS.iloadN X3.here hx rfl (hb hby d3_46) rfl (XS.iload X3.here hx rfl (hb hby d3_47) rfl k)) ?_
  obtain ⟨T4, h4, k4, X4, e4, E4, A4, Q4, st4⟩ := newPE X3 hx hZ (own_w hw 29 rfl) e3 (g := (mkF m 49 #[.val (.ref ao0), .val (.int (2 : Int32)), .val (.int p2), .val (.int (0 : Int32)), .val (.int (p2 + (64 : Int32)))] [(.int (p2 + (64 : Int32))), (.int (0 : Int32)), (.ref ar)])) rfl (hb hby d3_49) rfl ht.1 (cap := 16447) ht.2 (by decide) (by decide) (by decide) (ad := "[B") (by decide)
  obtain ⟨b4, g4⟩ : ∃ z, z = h0.size := ⟨_, rfl⟩
  rw [← g4] at A4 st4
  rw [← g4] at Q4
  have ne_ao0_b4 : ao0 ≠ b4 := Nat.ne_of_lt (Nat.lt_of_lt_of_le F_ao0_bytes.lt (Nat.le_of_eq g4.symm))
  have ne_ar_b4 : ar ≠ b4 := Nat.ne_of_lt (Nat.lt_of_lt_of_le V_ar.lt (Nat.le_of_eq g4.symm))
  have g_b4 : n0 ≤ b4 := Nat.le_trans Zs (Nat.le_of_eq g4.symm)
  have sz_b4 : h0.size ≤ b4 := Nat.le_trans Kp.1 (Nat.le_of_eq g4.symm)
  replace F_ao0_bytes := Fld.ext E4 F_ao0_bytes
  replace V_ar := V_ar.ext E4
  replace Zs := Nat.le_trans Zs E4.1
  replace Kp := Kp.ext E4
  have E_b4 := Q4
  have V_b4 : Arv Z h4 b4 k4 .byte (p2 + (64 : Int32)) [] (.int (0 : Int32)) := Arv.new A4 ht.1
  refine own_go (x' := T4.setTop (mkF m 51 #[.val (.ref ao0), .val (.int (2 : Int32)), .val (.int p2), .val (.int (0 : Int32)), .val (.int (p2 + (64 : Int32)))] [(.ref b4), (.int (0 : Int32)), (.ref ar)])) st4 ?_
  obtain ⟨cl5, Ar5, q5, Sz5, Nn5, Hh5, Gg5⟩ := V_ar
  have hin5 : ¬ ((0 : Int32) < 0 ∨ cl5.slots.size ≤ ((0 : Int32)).toNatClampNeg) := inb_of Sz5 ⟨by decide, by decide⟩
  obtain ⟨T5, h5, X5, e5, W5, st5⟩ := stR X4 hx hZ e4 Ar5 (j := (0 : Int32)) hin5 rfl (Sto.ofVA Ar5 q5 O_ar (Ins.self E_b4)) (g := (mkF m 51 #[.val (.ref ao0), .val (.int (2 : Int32)), .val (.int p2), .val (.int (0 : Int32)), .val (.int (p2 + (64 : Int32)))] [(.ref b4), (.int (0 : Int32)), (.ref ar)])) rfl rfl (hb hby d3_51)
  refine own_go (x' := T5.setTop (mkF m 52 #[.val (.ref ao0), .val (.int (2 : Int32)), .val (.int p2), .val (.int (0 : Int32)), .val (.int (p2 + (64 : Int32)))] [])) st5 ?_
  replace F_ao0_bytes := Fld.other W5 F_ao0_bytes (Or.inl ne_ao0_ar)
  replace E_b4 := Exa.wr W5 E_b4
  replace V_b4 := V_b4.other W5 (Ne.symm ne_ar_b4)
  replace Zs := Nat.le_trans Zs (Keep.of_wr W5).1
  replace Nf := Fr.snoc X5 Nf g_ar
  replace Kp := Kp.wr W5 (Or.inl (by simp))
  have V_ar : Arv Z h5 ar kc (.array .byte) (4 : Int32) [(.ref b4), .null, .null, .null] .null := Arv.set Ar5 q5 Sz5 Nn5 Hh5 Gg5 rfl W5 0 rfl (Nat.le_of_ble_eq_true rfl)
  refine own_go (x' := T5.setTop (mkF m 2 #[.val (.ref ao0), .val (.int (2 : Int32)), .val (.int p2), .val (.int ((0 : Int32) + (1 : Int32))), .val (.int (p2 + (64 : Int32)))] [])) (fun _ k => XS.iinc X5.here hx rfl (hb hby d3_52) rfl (l' := #[.val (.ref ao0), .val (.int (2 : Int32)), .val (.int p2), .val (.int ((0 : Int32) + (1 : Int32))), .val (.int (p2 + (64 : Int32)))]) rfl (XS.goto X5.here hx rfl (pc0 := 55) (pc' := 2) rfl (hb hby d3_55) (by decide) (by decide) k)) ?_
  rw [show ((0 : Int32) + (1 : Int32)) = (1 : Int32) from by decide +kernel]
  refine own_go (x' := T5.setTop (mkF m 19 #[.val (.ref ao0), .val (.int (2 : Int32)), .val (.int p2), .val (.int (1 : Int32)), .val (.int (p2 + (64 : Int32)))] [(.int p2)])) (fun _ k => XS.iloadN X5.here hx rfl (hb hby d3_2) rfl (XS.iloadN X5.here hx rfl (hb hby d3_3) rfl (XS.icmpNo X5.here hx rfl (hb hby d3_4) rfl (tlt (by decide +kernel : ((1 : Int32) < (2 : Int32)))).2.1 (XS.iloadN X5.here hx rfl (hb hby d3_7) rfl (XS.ifYes X5.here hx rfl (pc0 := 8) (pc' := 18) rfl (hb hby d3_8) rfl ((if0 _ _).trans (feq (by decide +kernel : ¬ ((1 : Int32) = (0 : Int32)))).2) (by decide) (by decide) (XS.iloadN X5.here hx rfl (hb hby d3_18) rfl k)))))) ?_
  refine own_go (x' := T5.setTop (mkF m 22 #[.val (.ref ao0), .val (.int (2 : Int32)), .val (.int p2), .val (.int (1 : Int32)), .val (.int p2)] [(.ref ao0)])) (fun _ k => XS.istore X5.here hx rfl (hb hby d3_19) rfl (l' := #[.val (.ref ao0), .val (.int (2 : Int32)), .val (.int p2), .val (.int (1 : Int32)), .val (.int p2)]) rfl (XS.aloadN X5.here hx rfl (hb hby d3_21) rfl rfl k)) ?_
  obtain ⟨T6, X6, e6, st6⟩ := getF X5 hx hZ hown (host := "") (Or.inl (own_w hw 11 rfl)) Via.refl e5 F_ao0_bytes (g := (mkF m 22 #[.val (.ref ao0), .val (.int (2 : Int32)), .val (.int p2), .val (.int (1 : Int32)), .val (.int p2)] [(.ref ao0)])) rfl rfl (hb hby d3_22)
  refine own_go (x' := T6.setTop (mkF m 25 #[.val (.ref ao0), .val (.int (2 : Int32)), .val (.int p2), .val (.int (1 : Int32)), .val (.int p2)] [(.ref ar)])) st6 ?_
  refine own_go (x' := T6.setTop (mkF m 26 #[.val (.ref ao0), .val (.int (2 : Int32)), .val (.int p2), .val (.int (1 : Int32)), .val (.int p2)] [(.int (1 : Int32)), (.ref ar)])) (fun _ k => XS.iloadN X6.here hx rfl (hb hby d3_25) rfl k) ?_
  obtain ⟨cl7, Ar7, q7, Sz7, Nn7, Hh7, Gg7⟩ := id V_ar
  have hin7 : ¬ ((1 : Int32) < 0 ∨ cl7.slots.size ≤ ((1 : Int32)).toNatClampNeg) := inb_of Sz7 ⟨by decide, by decide⟩
  refine own_go (x' := T6.setTop (mkF m 27 #[.val (.ref ao0), .val (.int (2 : Int32)), .val (.int p2), .val (.int (1 : Int32)), .val (.int p2)] [.null])) (X6.aaload hx (j := (1 : Int32)) (v := .null) (Eq.trans (congrArg (fun h_ => h_[_]?) e6) Ar7.1) (State.isArrayOf_alike hZ.alike Ar7.2.1) rfl Ar7.2.2 hin7 (Hh7.at hin7 rfl) (g := (mkF m 26 #[.val (.ref ao0), .val (.int (2 : Int32)), .val (.int p2), .val (.int (1 : Int32)), .val (.int p2)] [(.int (1 : Int32)), (.ref ar)])) rfl rfl (hb hby d3_26)) ?_
  refine own_go (x' := T6.setTop (mkF m 43 #[.val (.ref ao0), .val (.int (2 : Int32)), .val (.int p2), .val (.int (1 : Int32)), .val (.int p2)] [(.ref ao0)])) (fun _ k => XS.ifnullYes X6.here hx rfl (pc0 := 27) (pc' := 42) rfl (hb hby d3_27) rfl (by decide) (by decide) (XS.aloadN X6.here hx rfl (hb hby d3_42) rfl rfl k)) ?_
  obtain ⟨T8, X8, e8, st8⟩ := getF X6 hx hZ hown (host := "") (Or.inl (own_w hw 11 rfl)) Via.refl e6 F_ao0_bytes (g := (mkF m 43 #[.val (.ref ao0), .val (.int (2 : Int32)), .val (.int p2), .val (.int (1 : Int32)), .val (.int p2)] [(.ref ao0)])) rfl rfl (hb hby d3_43)
  refine own_go (x' := T8.setTop (mkF m 46 #[.val (.ref ao0), .val (.int (2 : Int32)), .val (.int p2), .val (.int (1 : Int32)), .val (.int p2)] [(.ref ar)])) st8 ?_
  refine own_go (x' := T8.setTop (mkF m 49 #[.val (.ref ao0), .val (.int (2 : Int32)), .val (.int p2), .val (.int (1 : Int32)), .val (.int p2)] [(.int p2), (.int (1 : Int32)), (.ref ar)])) (fun _ k => XS.iloadN X8.here hx rfl (hb hby d3_46) rfl (XS.iload X8.here hx rfl (hb hby d3_47) rfl k)) ?_
  obtain ⟨T9, h9, k9, X9, e9, E9, A9, Q9, st9⟩ := newPE X8 hx hZ (own_w hw 29 rfl) e8 (g := (mkF m 49 #[.val (.ref ao0), .val (.int (2 : Int32)), .val (.int p2), .val (.int (1 : Int32)), .val (.int p2)] [(.int p2), (.int (1 : Int32)), (.ref ar)])) rfl (hb hby d3_49) rfl hs.1 (cap := 16383) hs.2 (by decide) (by decide) (by decide) (ad := "[B") (by decide)
  obtain ⟨b9, g9⟩ : ∃ z, z = h5.size := ⟨_, rfl⟩
  rw [← g9] at A9 st9
  rw [← g9] at Q9
  have ne_ao0_b9 : ao0 ≠ b9 := Nat.ne_of_lt (Nat.lt_of_lt_of_le F_ao0_bytes.lt (Nat.le_of_eq g9.symm))
  have ne_b4_b9 : b4 ≠ b9 := Nat.ne_of_lt (Nat.lt_of_lt_of_le E_b4.lt (Nat.le_of_eq g9.symm))
  have ne_ar_b9 : ar ≠ b9 := Nat.ne_of_lt (Nat.lt_of_lt_of_le V_ar.lt (Nat.le_of_eq g9.symm))
  have g_b9 : n0 ≤ b9 := Nat.le_trans Zs (Nat.le_of_eq g9.symm)
  have sz_b9 : h0.size ≤ b9 := Nat.le_trans Kp.1 (Nat.le_of_eq g9.symm)
  replace F_ao0_bytes := Fld.ext E9 F_ao0_bytes
  replace E_b4 := Exa.ext E9 E_b4
  replace V_b4 := V_b4.ext E9
  replace V_ar := V_ar.ext E9
  replace Zs := Nat.le_trans Zs E9.1
  replace Kp := Kp.ext E9
  have E_b9 := Q9
  have V_b9 : Arv Z h9 b9 k9 .byte p2 [] (.int (0 : Int32)) := Arv.new A9 hs.1
  refine own_go (x' := T9.setTop (mkF m 51 #[.val (.ref ao0), .val (.int (2 : Int32)), .val (.int p2), .val (.int (1 : Int32)), .val (.int p2)] [(.ref b9), (.int (1 : Int32)), (.ref ar)])) st9 ?_
  obtain ⟨cl10, Ar10, q10, Sz10, Nn10, Hh10, Gg10⟩ := V_ar
  have hin10 : ¬ ((1 : Int32) < 0 ∨ cl10.slots.size ≤ ((1 : Int32)).toNatClampNeg) := inb_of Sz10 ⟨by decide, by decide⟩
  obtain ⟨T10, h10, X10, e10, W10, st10⟩ := stR X9 hx hZ e9 Ar10 (j := (1 : Int32)) hin10 rfl (Sto.ofVA Ar10 q10 O_ar (Ins.self E_b9)) (g := (mkF m 51 #[.val (.ref ao0), .val (.int (2 : Int32)), .val (.int p2), .val (.int (1 : Int32)), .val (.int p2)] [(.ref b9), (.int (1 : Int32)), (.ref ar)])) rfl rfl (hb hby d3_51)
  refine own_go (x' := T10.setTop (mkF m 52 #[.val (.ref ao0), .val (.int (2 : Int32)), .val (.int p2), .val (.int (1 : Int32)), .val (.int p2)] [])) st10 ?_
  replace F_ao0_bytes := Fld.other W10 F_ao0_bytes (Or.inl ne_ao0_ar)
  replace E_b4 := Exa.wr W10 E_b4
  replace V_b4 := V_b4.other W10 (Ne.symm ne_ar_b4)
  replace E_b9 := Exa.wr W10 E_b9
  replace V_b9 := V_b9.other W10 (Ne.symm ne_ar_b9)
  replace Zs := Nat.le_trans Zs (Keep.of_wr W10).1
  replace Nf := Fr.snoc X10 Nf g_ar
  replace Kp := Kp.wr W10 (Or.inl (by simp))
  have V_ar : Arv Z h10 ar kc (.array .byte) (4 : Int32) [(.ref b4), (.ref b9), .null, .null] .null := Arv.set Ar10 q10 Sz10 Nn10 Hh10 Gg10 rfl W10 1 rfl (Nat.le_of_ble_eq_true rfl)
  refine own_go (x' := T10.setTop (mkF m 2 #[.val (.ref ao0), .val (.int (2 : Int32)), .val (.int p2), .val (.int ((1 : Int32) + (1 : Int32))), .val (.int p2)] [])) (fun _ k => XS.iinc X10.here hx rfl (hb hby d3_52) rfl (l' := #[.val (.ref ao0), .val (.int (2 : Int32)), .val (.int p2), .val (.int ((1 : Int32) + (1 : Int32))), .val (.int p2)]) rfl (XS.goto X10.here hx rfl (pc0 := 55) (pc' := 2) rfl (hb hby d3_55) (by decide) (by decide) k)) ?_
  rw [show ((1 : Int32) + (1 : Int32)) = (2 : Int32) from by decide +kernel]
  refine own_go (x' := T10.setTop (mkF m 59 #[.val (.ref ao0), .val (.int (2 : Int32)), .val (.int p2), .val (.int (2 : Int32)), .val (.int p2)] [(.ref ao0)])) (fun _ k => XS.iloadN X10.here hx rfl (hb hby d3_2) rfl (XS.iloadN X10.here hx rfl (hb hby d3_3) rfl (XS.icmpYes X10.here hx rfl (pc0 := 4) (pc' := 58) rfl (hb hby d3_4) rfl (flt (Int32.lt_irrefl)).2.1 (by decide) (by decide) (XS.aloadN X10.here hx rfl (hb hby d3_58) rfl rfl k)))) ?_
  obtain ⟨T11, X11, e11, st11⟩ := getF X10 hx hZ hown (host := "") (Or.inl (own_w hw 11 rfl)) Via.refl e10 F_ao0_bytes (g := (mkF m 59 #[.val (.ref ao0), .val (.int (2 : Int32)), .val (.int p2), .val (.int (2 : Int32)), .val (.int p2)] [(.ref ao0)])) rfl rfl (hb hby d3_59)
  refine own_go (x' := T11.setTop (mkF m 62 #[.val (.ref ao0), .val (.int (2 : Int32)), .val (.int p2), .val (.int (2 : Int32)), .val (.int p2)] [(.ref ar)])) st11 ?_
  refine own_retR X11 hx hlk hret rfl rfl (hb hby d3_62) ?_ (by decide) (by decide)
  rw [e11]
  exact ⟨b4, k4, b9, k9, rfl, Nf, Kp, F_ao0_bytes, V_ar, sz_b4, g_b4, V_b4, sz_b9, g_b9, V_b9, ne_b4_b9⟩
def Q_rmF_3 (Z : State) (ao0 : Addr) (p2 : Int32) (ar : Addr) (kc : ClassId) (h0 : Heap) (n0 : Nat) (v : Option Value) (h : Heap) (L : List Loc) : Prop := ∃ (b0 : Addr) (k0 : ClassId) (b1 : Addr) (k1 : ClassId) (b2 : Addr) (k2 : ClassId), v = some (.ref ar) ∧ Fr n0 L ∧ Keep h0 h [ar] ∧ Fld Z h ao0 "com/example/wee_match/weematch/Sieve$Windows" "bytes" "[[B" (.ref ar) ∧ Arv Z h ar kc (.array .byte) (4 : Int32) [.ref b0, .ref b1, .ref b2, .null] .null ∧ h0.size ≤ b0 ∧ n0 ≤ b0 ∧ Arv Z h b0 k0 .byte (p2 + (64 : Int32)) [] (.int (0 : Int32)) ∧ h0.size ≤ b1 ∧ n0 ≤ b1 ∧ Arv Z h b1 k1 .byte p2 [] (.int (0 : Int32)) ∧ h0.size ≤ b2 ∧ n0 ≤ b2 ∧ Arv Z h b2 k2 .byte p2 [] (.int (0 : Int32)) ∧ b0 ≠ b1 ∧ b0 ≠ b2 ∧ b1 ≠ b2
theorem pn_rmF_3 : plainName "com/example/wee_match/weematch/Sieve$Windows" = true := by first | (simp [plainName, overriddenIn]; done) | decide +kernel
theorem ef_rmF_3 (m : MethodId) (x0 : Addr) (x1 : Int32) (x2 : Int32) : entryFrame m #[(.ref x0), (.int x1), (.int x2)] 5 = mkF m 0 #[.val (.ref x0), .val (.int x1), .val (.int x2), .unset, .unset] [] := by first | (simp [entryFrame, mkF, argsToLocals, Value.category]; done) | rfl
set_option maxRecDepth 65536 in
set_option maxHeartbeats 40000000 in
theorem rmF_3 (l : Launch) (Z : State) (a0 : Array Value) (hw : ∀ d ∈ tables_1, d.before a0 Z = true) (ws : List Jvm.Cond) (ao0 : Addr) (p2 : Int32) (ar : Addr) (kc : ClassId) (h0 : Heap) (n0 : Nat) (Z0 : n0 ≤ h0.size) (F_ao0_bytes : Fld Z h0 ao0 "com/example/wee_match/weematch/Sieve$Windows" "bytes" "[[B" (.ref ar)) (V_ar : Arv Z h0 ar kc (.array .byte) (4 : Int32) [.null, .null, .null, .null] .null) (O_ar : OvrA Z kc .byte "[B") (ne_ao0_ar : ao0 ≠ ar) (g_ar : n0 ≤ ar) (hs : own_L p2 16383) (ht : own_L (p2 + (64 : Int32)) 16447) :
    MetFree l (⟨"com/example/wee_match/weematch/Sieve$Windows", "bytes", "(II)[[B"⟩ : MethodName) (head1 (Jvm.Cond.code (⟨"com/example/wee_match/weematch/Sieve$Windows", "bytes", "(II)[[B"⟩ : MethodName) prog_20_method_2_code 5 (some (.array (.array .byte))) :: ws) ({ frames := 0, cells := 3, slots := 49213, locals := 0 } : Room)) (fun a U => a = #[(.ref ao0), (.int (3 : Int32)), (.int p2)] ∧ Z.Warmed39 U.vm ∧ U.heap = h0) (fun _ _ _ _ _ => True) (fun _ U o U' => ∃ v L, o = .returned v ∧ (Q_rmF_3 Z ao0 p2 ar kc h0 n0) v U'.heap L ∧ FrameEnd U o U' L ({ frames := 0, cells := 3, slots := 49213, locals := 0 } : Room).cells ({ frames := 0, cells := 3, slots := 49213, locals := 0 } : Room).slots) := by
  refine MetFree.of_bodySF (plainFor_of_name pn_rmF_3) hisR ?_
  intro p e s m args below meth c s₁ Bd hml0 hP hK
  obtain ⟨rfl, hZ, hh⟩ := hP
  have hx := Bd.exec
  have hby := Bd.bytes
  have hlk := BodyLoose.notSynchronized Bd
  have hret := Bd.returns
  have hml : c.maxLocals = 5 := hml0
  have hown : s.vm.findClass "com/example/wee_match/weematch/Sieve$Windows" = some m.cls := findClass_of_methodNamed Bd.named
  have hnm := (name_of_methodNamed Bd.named Bd.method).1
  have X0 : Stand p l e ({ frames := 0, cells := 3, slots := 49213, locals := 0 } : Room) s m #[(.ref ao0), (.int (3 : Int32)), (.int p2)] below meth c s₁ [] 0 0 := Stand.of_body Bd
  have e0 : s₁.heap = h0 := by rw [← hh, Bd.state]; rfl
  have Nf := Fr.nil n0
  have Zs := Z0
  have Kp : Keep h0 h0 [ar] := Keep.refl _ _
  show own_End p e below s (Q_rmF_3 Z ao0 p2 ar kc h0 n0) ({ frames := 0, cells := 3, slots := 49213, locals := 0 } : Room).cells ({ frames := 0, cells := 3, slots := 49213, locals := 0 } : Room).slots (s₁.setTop (entryFrame m #[(.ref ao0), (.int (3 : Int32)), (.int p2)] 5))
  refine own_go (x' := s₁.setTop (mkF m 0 #[.val (.ref ao0), .val (.int (3 : Int32)), .val (.int p2), .unset, .unset] [])) (fun t k => castTop (ef_rmF_3 m ao0 (3 : Int32) p2) k) ?_
  refine own_go (x' := s₁.setTop (mkF m 8 #[.val (.ref ao0), .val (.int (3 : Int32)), .val (.int p2), .val (.int (0 : Int32)), .unset] [(.int (0 : Int32))])) (fun _ k => XS.iconst X0.here hx rfl (hb hby d3_0) (XS.istoreN X0.here hx rfl (hb hby d3_1) rfl (l' := #[.val (.ref ao0), .val (.int (3 : Int32)), .val (.int p2), .val (.int (0 : Int32)), .unset]) rfl (XS.iloadN X0.here hx rfl (hb hby d3_2) rfl (XS.iloadN X0.here hx rfl (hb hby d3_3) rfl (XS.icmpNo X0.here hx rfl (hb hby d3_4) rfl (tlt (by decide +kernel : ((0 : Int32) < (3 : Int32)))).2.1 (XS.iloadN X0.here hx rfl (hb hby d3_7) rfl k)))))) ?_
  refine own_go (x' := s₁.setTop (mkF m 21 #[.val (.ref ao0), .val (.int (3 : Int32)), .val (.int p2), .val (.int (0 : Int32)), .val (.int (p2 + (64 : Int32)))] [])) (fun _ k => XS.ifNo X0.here hx rfl (hb hby d3_8) rfl ((if0 _ _).trans (teq rfl).2) (XS.iloadN X0.here hx rfl (hb hby d3_11) rfl (XS.bipush X0.here hx rfl (hb hby d3_12) (XS.iadd X0.here hx rfl (hb hby d3_14) rfl (XS.goto X0.here hx rfl (pc0 := 15) (pc' := 19) rfl (hb hby d3_15) (by decide) (by decide) (XS.istore X0.here hx rfl (hb hby d3_19) rfl (l' := #[.val (.ref ao0), .val (.int (3 : Int32)), .val (.int p2), .val (.int (0 : Int32)), .val (.int (p2 + (64 : Int32)))]) rfl k)))))) ?_
  refine own_go (x' := s₁.setTop (mkF m 22 #[.val (.ref ao0), .val (.int (3 : Int32)), .val (.int p2), .val (.int (0 : Int32)), .val (.int (p2 + (64 : Int32)))] [(.ref ao0)])) (fun _ k => XS.aloadN X0.here hx rfl (hb hby d3_21) rfl rfl k) ?_
  obtain ⟨T1, X1, e1, st1⟩ := getF X0 hx hZ hown (host := "") (Or.inl (own_w hw 11 rfl)) Via.refl e0 F_ao0_bytes (g := (mkF m 22 #[.val (.ref ao0), .val (.int (3 : Int32)), .val (.int p2), .val (.int (0 : Int32)), .val (.int (p2 + (64 : Int32)))] [(.ref ao0)])) rfl rfl (hb hby d3_22)
  refine own_go (x' := T1.setTop (mkF m 25 #[.val (.ref ao0), .val (.int (3 : Int32)), .val (.int p2), .val (.int (0 : Int32)), .val (.int (p2 + (64 : Int32)))] [(.ref ar)])) st1 ?_
  refine own_go (x' := T1.setTop (mkF m 26 #[.val (.ref ao0), .val (.int (3 : Int32)), .val (.int p2), .val (.int (0 : Int32)), .val (.int (p2 + (64 : Int32)))] [(.int (0 : Int32)), (.ref ar)])) (fun _ k => XS.iloadN X1.here hx rfl (hb hby d3_25) rfl k) ?_
  obtain ⟨cl2, Ar2, q2, Sz2, Nn2, Hh2, Gg2⟩ := id V_ar
  have hin2 : ¬ ((0 : Int32) < 0 ∨ cl2.slots.size ≤ ((0 : Int32)).toNatClampNeg) := inb_of Sz2 ⟨by decide, by decide⟩
  refine own_go (x' := T1.setTop (mkF m 27 #[.val (.ref ao0), .val (.int (3 : Int32)), .val (.int p2), .val (.int (0 : Int32)), .val (.int (p2 + (64 : Int32)))] [.null])) (X1.aaload hx (j := (0 : Int32)) (v := .null) (Eq.trans (congrArg (fun h_ => h_[_]?) e1) Ar2.1) (State.isArrayOf_alike hZ.alike Ar2.2.1) rfl Ar2.2.2 hin2 (Hh2.at hin2 rfl) (g := (mkF m 26 #[.val (.ref ao0), .val (.int (3 : Int32)), .val (.int p2), .val (.int (0 : Int32)), .val (.int (p2 + (64 : Int32)))] [(.int (0 : Int32)), (.ref ar)])) rfl rfl (hb hby d3_26)) ?_
  refine own_go (x' := T1.setTop (mkF m 43 #[.val (.ref ao0), .val (.int (3 : Int32)), .val (.int p2), .val (.int (0 : Int32)), .val (.int (p2 + (64 : Int32)))] [(.ref ao0)])) (fun _ k => XS.ifnullYes X1.here hx rfl (pc0 := 27) (pc' := 42) rfl (hb hby d3_27) rfl (by decide) (by decide) (XS.aloadN X1.here hx rfl (hb hby d3_42) rfl rfl k)) ?_
  obtain ⟨T3, X3, e3, st3⟩ := getF X1 hx hZ hown (host := "") (Or.inl (own_w hw 11 rfl)) Via.refl e1 F_ao0_bytes (g := (mkF m 43 #[.val (.ref ao0), .val (.int (3 : Int32)), .val (.int p2), .val (.int (0 : Int32)), .val (.int (p2 + (64 : Int32)))] [(.ref ao0)])) rfl rfl (hb hby d3_43)
  refine own_go (x' := T3.setTop (mkF m 46 #[.val (.ref ao0), .val (.int (3 : Int32)), .val (.int p2), .val (.int (0 : Int32)), .val (.int (p2 + (64 : Int32)))] [(.ref ar)])) st3 ?_
  refine own_go (x' := T3.setTop (mkF m 49 #[.val (.ref ao0), .val (.int (3 : Int32)), .val (.int p2), .val (.int (0 : Int32)), .val (.int (p2 + (64 : Int32)))] [(.int (p2 + (64 : Int32))), (.int (0 : Int32)), (.ref ar)])) (fun _ k => XS.iloadN X3.here hx rfl (hb hby d3_46) rfl (XS.iload X3.here hx rfl (hb hby d3_47) rfl k)) ?_
  obtain ⟨T4, h4, k4, X4, e4, E4, A4, Q4, st4⟩ := newPE X3 hx hZ (own_w hw 29 rfl) e3 (g := (mkF m 49 #[.val (.ref ao0), .val (.int (3 : Int32)), .val (.int p2), .val (.int (0 : Int32)), .val (.int (p2 + (64 : Int32)))] [(.int (p2 + (64 : Int32))), (.int (0 : Int32)), (.ref ar)])) rfl (hb hby d3_49) rfl ht.1 (cap := 16447) ht.2 (by decide) (by decide) (by decide) (ad := "[B") (by decide)
  obtain ⟨b4, g4⟩ : ∃ z, z = h0.size := ⟨_, rfl⟩
  rw [← g4] at A4 st4
  rw [← g4] at Q4
  have ne_ao0_b4 : ao0 ≠ b4 := Nat.ne_of_lt (Nat.lt_of_lt_of_le F_ao0_bytes.lt (Nat.le_of_eq g4.symm))
  have ne_ar_b4 : ar ≠ b4 := Nat.ne_of_lt (Nat.lt_of_lt_of_le V_ar.lt (Nat.le_of_eq g4.symm))
  have g_b4 : n0 ≤ b4 := Nat.le_trans Zs (Nat.le_of_eq g4.symm)
  have sz_b4 : h0.size ≤ b4 := Nat.le_trans Kp.1 (Nat.le_of_eq g4.symm)
  replace F_ao0_bytes := Fld.ext E4 F_ao0_bytes
  replace V_ar := V_ar.ext E4
  replace Zs := Nat.le_trans Zs E4.1
  replace Kp := Kp.ext E4
  have E_b4 := Q4
  have V_b4 : Arv Z h4 b4 k4 .byte (p2 + (64 : Int32)) [] (.int (0 : Int32)) := Arv.new A4 ht.1
  refine own_go (x' := T4.setTop (mkF m 51 #[.val (.ref ao0), .val (.int (3 : Int32)), .val (.int p2), .val (.int (0 : Int32)), .val (.int (p2 + (64 : Int32)))] [(.ref b4), (.int (0 : Int32)), (.ref ar)])) st4 ?_
  obtain ⟨cl5, Ar5, q5, Sz5, Nn5, Hh5, Gg5⟩ := V_ar
  have hin5 : ¬ ((0 : Int32) < 0 ∨ cl5.slots.size ≤ ((0 : Int32)).toNatClampNeg) := inb_of Sz5 ⟨by decide, by decide⟩
  obtain ⟨T5, h5, X5, e5, W5, st5⟩ := stR X4 hx hZ e4 Ar5 (j := (0 : Int32)) hin5 rfl (Sto.ofVA Ar5 q5 O_ar (Ins.self E_b4)) (g := (mkF m 51 #[.val (.ref ao0), .val (.int (3 : Int32)), .val (.int p2), .val (.int (0 : Int32)), .val (.int (p2 + (64 : Int32)))] [(.ref b4), (.int (0 : Int32)), (.ref ar)])) rfl rfl (hb hby d3_51)
  refine own_go (x' := T5.setTop (mkF m 52 #[.val (.ref ao0), .val (.int (3 : Int32)), .val (.int p2), .val (.int (0 : Int32)), .val (.int (p2 + (64 : Int32)))] [])) st5 ?_
  replace F_ao0_bytes := Fld.other W5 F_ao0_bytes (Or.inl ne_ao0_ar)
  replace E_b4 := Exa.wr W5 E_b4
  replace V_b4 := V_b4.other W5 (Ne.symm ne_ar_b4)
  replace Zs := Nat.le_trans Zs (Keep.of_wr W5).1
  replace Nf := Fr.snoc X5 Nf g_ar
  replace Kp := Kp.wr W5 (Or.inl (by simp))
  have V_ar : Arv Z h5 ar kc (.array .byte) (4 : Int32) [(.ref b4), .null, .null, .null] .null := Arv.set Ar5 q5 Sz5 Nn5 Hh5 Gg5 rfl W5 0 rfl (Nat.le_of_ble_eq_true rfl)
  refine own_go (x' := T5.setTop (mkF m 2 #[.val (.ref ao0), .val (.int (3 : Int32)), .val (.int p2), .val (.int ((0 : Int32) + (1 : Int32))), .val (.int (p2 + (64 : Int32)))] [])) (fun _ k => XS.iinc X5.here hx rfl (hb hby d3_52) rfl (l' := #[.val (.ref ao0), .val (.int (3 : Int32)), .val (.int p2), .val (.int ((0 : Int32) + (1 : Int32))), .val (.int (p2 + (64 : Int32)))]) rfl (XS.goto X5.here hx rfl (pc0 := 55) (pc' := 2) rfl (hb hby d3_55) (by decide) (by decide) k)) ?_
  rw [show ((0 : Int32) + (1 : Int32)) = (1 : Int32) from by decide +kernel]
  refine own_go (x' := T5.setTop (mkF m 19 #[.val (.ref ao0), .val (.int (3 : Int32)), .val (.int p2), .val (.int (1 : Int32)), .val (.int (p2 + (64 : Int32)))] [(.int p2)])) (fun _ k => XS.iloadN X5.here hx rfl (hb hby d3_2) rfl (XS.iloadN X5.here hx rfl (hb hby d3_3) rfl (XS.icmpNo X5.here hx rfl (hb hby d3_4) rfl (tlt (by decide +kernel : ((1 : Int32) < (3 : Int32)))).2.1 (XS.iloadN X5.here hx rfl (hb hby d3_7) rfl (XS.ifYes X5.here hx rfl (pc0 := 8) (pc' := 18) rfl (hb hby d3_8) rfl ((if0 _ _).trans (feq (by decide +kernel : ¬ ((1 : Int32) = (0 : Int32)))).2) (by decide) (by decide) (XS.iloadN X5.here hx rfl (hb hby d3_18) rfl k)))))) ?_
  refine own_go (x' := T5.setTop (mkF m 22 #[.val (.ref ao0), .val (.int (3 : Int32)), .val (.int p2), .val (.int (1 : Int32)), .val (.int p2)] [(.ref ao0)])) (fun _ k => XS.istore X5.here hx rfl (hb hby d3_19) rfl (l' := #[.val (.ref ao0), .val (.int (3 : Int32)), .val (.int p2), .val (.int (1 : Int32)), .val (.int p2)]) rfl (XS.aloadN X5.here hx rfl (hb hby d3_21) rfl rfl k)) ?_
  obtain ⟨T6, X6, e6, st6⟩ := getF X5 hx hZ hown (host := "") (Or.inl (own_w hw 11 rfl)) Via.refl e5 F_ao0_bytes (g := (mkF m 22 #[.val (.ref ao0), .val (.int (3 : Int32)), .val (.int p2), .val (.int (1 : Int32)), .val (.int p2)] [(.ref ao0)])) rfl rfl (hb hby d3_22)
  refine own_go (x' := T6.setTop (mkF m 25 #[.val (.ref ao0), .val (.int (3 : Int32)), .val (.int p2), .val (.int (1 : Int32)), .val (.int p2)] [(.ref ar)])) st6 ?_
  refine own_go (x' := T6.setTop (mkF m 26 #[.val (.ref ao0), .val (.int (3 : Int32)), .val (.int p2), .val (.int (1 : Int32)), .val (.int p2)] [(.int (1 : Int32)), (.ref ar)])) (fun _ k => XS.iloadN X6.here hx rfl (hb hby d3_25) rfl k) ?_
  obtain ⟨cl7, Ar7, q7, Sz7, Nn7, Hh7, Gg7⟩ := id V_ar
  have hin7 : ¬ ((1 : Int32) < 0 ∨ cl7.slots.size ≤ ((1 : Int32)).toNatClampNeg) := inb_of Sz7 ⟨by decide, by decide⟩
  refine own_go (x' := T6.setTop (mkF m 27 #[.val (.ref ao0), .val (.int (3 : Int32)), .val (.int p2), .val (.int (1 : Int32)), .val (.int p2)] [.null])) (X6.aaload hx (j := (1 : Int32)) (v := .null) (Eq.trans (congrArg (fun h_ => h_[_]?) e6) Ar7.1) (State.isArrayOf_alike hZ.alike Ar7.2.1) rfl Ar7.2.2 hin7 (Hh7.at hin7 rfl) (g := (mkF m 26 #[.val (.ref ao0), .val (.int (3 : Int32)), .val (.int p2), .val (.int (1 : Int32)), .val (.int p2)] [(.int (1 : Int32)), (.ref ar)])) rfl rfl (hb hby d3_26)) ?_
  refine own_go (x' := T6.setTop (mkF m 43 #[.val (.ref ao0), .val (.int (3 : Int32)), .val (.int p2), .val (.int (1 : Int32)), .val (.int p2)] [(.ref ao0)])) (fun _ k => XS.ifnullYes X6.here hx rfl (pc0 := 27) (pc' := 42) rfl (hb hby d3_27) rfl (by decide) (by decide) (XS.aloadN X6.here hx rfl (hb hby d3_42) rfl rfl k)) ?_
  obtain ⟨T8, X8, e8, st8⟩ := getF X6 hx hZ hown (host := "") (Or.inl (own_w hw 11 rfl)) Via.refl e6 F_ao0_bytes (g := (mkF m 43 #[.val (.ref ao0), .val (.int (3 : Int32)), .val (.int p2), .val (.int (1 : Int32)), .val (.int p2)] [(.ref ao0)])) rfl rfl (hb hby d3_43)
  refine own_go (x' := T8.setTop (mkF m 46 #[.val (.ref ao0), .val (.int (3 : Int32)), .val (.int p2), .val (.int (1 : Int32)), .val (.int p2)] [(.ref ar)])) st8 ?_
  refine own_go (x' := T8.setTop (mkF m 49 #[.val (.ref ao0), .val (.int (3 : Int32)), .val (.int p2), .val (.int (1 : Int32)), .val (.int p2)] [(.int p2), (.int (1 : Int32)), (.ref ar)])) (fun _ k => XS.iloadN X8.here hx rfl (hb hby d3_46) rfl (XS.iload X8.here hx rfl (hb hby d3_47) rfl k)) ?_
  obtain ⟨T9, h9, k9, X9, e9, E9, A9, Q9, st9⟩ := newPE X8 hx hZ (own_w hw 29 rfl) e8 (g := (mkF m 49 #[.val (.ref ao0), .val (.int (3 : Int32)), .val (.int p2), .val (.int (1 : Int32)), .val (.int p2)] [(.int p2), (.int (1 : Int32)), (.ref ar)])) rfl (hb hby d3_49) rfl hs.1 (cap := 16383) hs.2 (by decide) (by decide) (by decide) (ad := "[B") (by decide)
  obtain ⟨b9, g9⟩ : ∃ z, z = h5.size := ⟨_, rfl⟩
  rw [← g9] at A9 st9
  rw [← g9] at Q9
  have ne_ao0_b9 : ao0 ≠ b9 := Nat.ne_of_lt (Nat.lt_of_lt_of_le F_ao0_bytes.lt (Nat.le_of_eq g9.symm))
  have ne_b4_b9 : b4 ≠ b9 := Nat.ne_of_lt (Nat.lt_of_lt_of_le E_b4.lt (Nat.le_of_eq g9.symm))
  have ne_ar_b9 : ar ≠ b9 := Nat.ne_of_lt (Nat.lt_of_lt_of_le V_ar.lt (Nat.le_of_eq g9.symm))
  have g_b9 : n0 ≤ b9 := Nat.le_trans Zs (Nat.le_of_eq g9.symm)
  have sz_b9 : h0.size ≤ b9 := Nat.le_trans Kp.1 (Nat.le_of_eq g9.symm)
  replace F_ao0_bytes := Fld.ext E9 F_ao0_bytes
  replace E_b4 := Exa.ext E9 E_b4
  replace V_b4 := V_b4.ext E9
  replace V_ar := V_ar.ext E9
  replace Zs := Nat.le_trans Zs E9.1
  replace Kp := Kp.ext E9
  have E_b9 := Q9
  have V_b9 : Arv Z h9 b9 k9 .byte p2 [] (.int (0 : Int32)) := Arv.new A9 hs.1
  refine own_go (x' := T9.setTop (mkF m 51 #[.val (.ref ao0), .val (.int (3 : Int32)), .val (.int p2), .val (.int (1 : Int32)), .val (.int p2)] [(.ref b9), (.int (1 : Int32)), (.ref ar)])) st9 ?_
  obtain ⟨cl10, Ar10, q10, Sz10, Nn10, Hh10, Gg10⟩ := V_ar
  have hin10 : ¬ ((1 : Int32) < 0 ∨ cl10.slots.size ≤ ((1 : Int32)).toNatClampNeg) := inb_of Sz10 ⟨by decide, by decide⟩
  obtain ⟨T10, h10, X10, e10, W10, st10⟩ := stR X9 hx hZ e9 Ar10 (j := (1 : Int32)) hin10 rfl (Sto.ofVA Ar10 q10 O_ar (Ins.self E_b9)) (g := (mkF m 51 #[.val (.ref ao0), .val (.int (3 : Int32)), .val (.int p2), .val (.int (1 : Int32)), .val (.int p2)] [(.ref b9), (.int (1 : Int32)), (.ref ar)])) rfl rfl (hb hby d3_51)
  refine own_go (x' := T10.setTop (mkF m 52 #[.val (.ref ao0), .val (.int (3 : Int32)), .val (.int p2), .val (.int (1 : Int32)), .val (.int p2)] [])) st10 ?_
  replace F_ao0_bytes := Fld.other W10 F_ao0_bytes (Or.inl ne_ao0_ar)
  replace E_b4 := Exa.wr W10 E_b4
  replace V_b4 := V_b4.other W10 (Ne.symm ne_ar_b4)
  replace E_b9 := Exa.wr W10 E_b9
  replace V_b9 := V_b9.other W10 (Ne.symm ne_ar_b9)
  replace Zs := Nat.le_trans Zs (Keep.of_wr W10).1
  replace Nf := Fr.snoc X10 Nf g_ar
  replace Kp := Kp.wr W10 (Or.inl (by simp))
  have V_ar : Arv Z h10 ar kc (.array .byte) (4 : Int32) [(.ref b4), (.ref b9), .null, .null] .null := Arv.set Ar10 q10 Sz10 Nn10 Hh10 Gg10 rfl W10 1 rfl (Nat.le_of_ble_eq_true rfl)
  refine own_go (x' := T10.setTop (mkF m 2 #[.val (.ref ao0), .val (.int (3 : Int32)), .val (.int p2), .val (.int ((1 : Int32) + (1 : Int32))), .val (.int p2)] [])) (fun _ k => XS.iinc X10.here hx rfl (hb hby d3_52) rfl (l' := #[.val (.ref ao0), .val (.int (3 : Int32)), .val (.int p2), .val (.int ((1 : Int32) + (1 : Int32))), .val (.int p2)]) rfl (XS.goto X10.here hx rfl (pc0 := 55) (pc' := 2) rfl (hb hby d3_55) (by decide) (by decide) k)) ?_
  rw [show ((1 : Int32) + (1 : Int32)) = (2 : Int32) from by decide +kernel]
  refine own_go (x' := T10.setTop (mkF m 19 #[.val (.ref ao0), .val (.int (3 : Int32)), .val (.int p2), .val (.int (2 : Int32)), .val (.int p2)] [(.int p2)])) (fun _ k => XS.iloadN X10.here hx rfl (hb hby d3_2) rfl (XS.iloadN X10.here hx rfl (hb hby d3_3) rfl (XS.icmpNo X10.here hx rfl (hb hby d3_4) rfl (tlt (by decide +kernel : ((2 : Int32) < (3 : Int32)))).2.1 (XS.iloadN X10.here hx rfl (hb hby d3_7) rfl (XS.ifYes X10.here hx rfl (pc0 := 8) (pc' := 18) rfl (hb hby d3_8) rfl ((if0 _ _).trans (feq (by decide +kernel : ¬ ((2 : Int32) = (0 : Int32)))).2) (by decide) (by decide) (XS.iloadN X10.here hx rfl (hb hby d3_18) rfl k)))))) ?_
  refine own_go (x' := T10.setTop (mkF m 22 #[.val (.ref ao0), .val (.int (3 : Int32)), .val (.int p2), .val (.int (2 : Int32)), .val (.int p2)] [(.ref ao0)])) (fun _ k => XS.istore X10.here hx rfl (hb hby d3_19) rfl (l' := #[.val (.ref ao0), .val (.int (3 : Int32)), .val (.int p2), .val (.int (2 : Int32)), .val (.int p2)]) rfl (XS.aloadN X10.here hx rfl (hb hby d3_21) rfl rfl k)) ?_
  obtain ⟨T11, X11, e11, st11⟩ := getF X10 hx hZ hown (host := "") (Or.inl (own_w hw 11 rfl)) Via.refl e10 F_ao0_bytes (g := (mkF m 22 #[.val (.ref ao0), .val (.int (3 : Int32)), .val (.int p2), .val (.int (2 : Int32)), .val (.int p2)] [(.ref ao0)])) rfl rfl (hb hby d3_22)
  refine own_go (x' := T11.setTop (mkF m 25 #[.val (.ref ao0), .val (.int (3 : Int32)), .val (.int p2), .val (.int (2 : Int32)), .val (.int p2)] [(.ref ar)])) st11 ?_
  refine own_go (x' := T11.setTop (mkF m 26 #[.val (.ref ao0), .val (.int (3 : Int32)), .val (.int p2), .val (.int (2 : Int32)), .val (.int p2)] [(.int (2 : Int32)), (.ref ar)])) (fun _ k => XS.iloadN X11.here hx rfl (hb hby d3_25) rfl k) ?_
  obtain ⟨cl12, Ar12, q12, Sz12, Nn12, Hh12, Gg12⟩ := id V_ar
  have hin12 : ¬ ((2 : Int32) < 0 ∨ cl12.slots.size ≤ ((2 : Int32)).toNatClampNeg) := inb_of Sz12 ⟨by decide, by decide⟩
  refine own_go (x' := T11.setTop (mkF m 27 #[.val (.ref ao0), .val (.int (3 : Int32)), .val (.int p2), .val (.int (2 : Int32)), .val (.int p2)] [.null])) (X11.aaload hx (j := (2 : Int32)) (v := .null) (Eq.trans (congrArg (fun h_ => h_[_]?) e11) Ar12.1) (State.isArrayOf_alike hZ.alike Ar12.2.1) rfl Ar12.2.2 hin12 (Hh12.at hin12 rfl) (g := (mkF m 26 #[.val (.ref ao0), .val (.int (3 : Int32)), .val (.int p2), .val (.int (2 : Int32)), .val (.int p2)] [(.int (2 : Int32)), (.ref ar)])) rfl rfl (hb hby d3_26)) ?_
  refine own_go (x' := T11.setTop (mkF m 43 #[.val (.ref ao0), .val (.int (3 : Int32)), .val (.int p2), .val (.int (2 : Int32)), .val (.int p2)] [(.ref ao0)])) (fun _ k => XS.ifnullYes X11.here hx rfl (pc0 := 27) (pc' := 42) rfl (hb hby d3_27) rfl (by decide) (by decide) (XS.aloadN X11.here hx rfl (hb hby d3_42) rfl rfl k)) ?_
  obtain ⟨T13, X13, e13, st13⟩ := getF X11 hx hZ hown (host := "") (Or.inl (own_w hw 11 rfl)) Via.refl e11 F_ao0_bytes (g := (mkF m 43 #[.val (.ref ao0), .val (.int (3 : Int32)), .val (.int p2), .val (.int (2 : Int32)), .val (.int p2)] [(.ref ao0)])) rfl rfl (hb hby d3_43)
  refine own_go (x' := T13.setTop (mkF m 46 #[.val (.ref ao0), .val (.int (3 : Int32)), .val (.int p2), .val (.int (2 : Int32)), .val (.int p2)] [(.ref ar)])) st13 ?_
  refine own_go (x' := T13.setTop (mkF m 49 #[.val (.ref ao0), .val (.int (3 : Int32)), .val (.int p2), .val (.int (2 : Int32)), .val (.int p2)] [(.int p2), (.int (2 : Int32)), (.ref ar)])) (fun _ k => XS.iloadN X13.here hx rfl (hb hby d3_46) rfl (XS.iload X13.here hx rfl (hb hby d3_47) rfl k)) ?_
  obtain ⟨T14, h14, k14, X14, e14, E14, A14, Q14, st14⟩ := newPE X13 hx hZ (own_w hw 29 rfl) e13 (g := (mkF m 49 #[.val (.ref ao0), .val (.int (3 : Int32)), .val (.int p2), .val (.int (2 : Int32)), .val (.int p2)] [(.int p2), (.int (2 : Int32)), (.ref ar)])) rfl (hb hby d3_49) rfl hs.1 (cap := 16383) hs.2 (by decide) (by decide) (by decide) (ad := "[B") (by decide)
  obtain ⟨b14, g14⟩ : ∃ z, z = h10.size := ⟨_, rfl⟩
  rw [← g14] at A14 st14
  rw [← g14] at Q14
  have ne_ao0_b14 : ao0 ≠ b14 := Nat.ne_of_lt (Nat.lt_of_lt_of_le F_ao0_bytes.lt (Nat.le_of_eq g14.symm))
  have ne_b4_b14 : b4 ≠ b14 := Nat.ne_of_lt (Nat.lt_of_lt_of_le E_b4.lt (Nat.le_of_eq g14.symm))
  have ne_b9_b14 : b9 ≠ b14 := Nat.ne_of_lt (Nat.lt_of_lt_of_le E_b9.lt (Nat.le_of_eq g14.symm))
  have ne_ar_b14 : ar ≠ b14 := Nat.ne_of_lt (Nat.lt_of_lt_of_le V_ar.lt (Nat.le_of_eq g14.symm))
  have g_b14 : n0 ≤ b14 := Nat.le_trans Zs (Nat.le_of_eq g14.symm)
  have sz_b14 : h0.size ≤ b14 := Nat.le_trans Kp.1 (Nat.le_of_eq g14.symm)
  replace F_ao0_bytes := Fld.ext E14 F_ao0_bytes
  replace E_b4 := Exa.ext E14 E_b4
  replace V_b4 := V_b4.ext E14
  replace E_b9 := Exa.ext E14 E_b9
  replace V_b9 := V_b9.ext E14
  replace V_ar := V_ar.ext E14
  replace Zs := Nat.le_trans Zs E14.1
  replace Kp := Kp.ext E14
  have E_b14 := Q14
  have V_b14 : Arv Z h14 b14 k14 .byte p2 [] (.int (0 : Int32)) := Arv.new A14 hs.1
  refine own_go (x' := T14.setTop (mkF m 51 #[.val (.ref ao0), .val (.int (3 : Int32)), .val (.int p2), .val (.int (2 : Int32)), .val (.int p2)] [(.ref b14), (.int (2 : Int32)), (.ref ar)])) st14 ?_
  obtain ⟨cl15, Ar15, q15, Sz15, Nn15, Hh15, Gg15⟩ := V_ar
  have hin15 : ¬ ((2 : Int32) < 0 ∨ cl15.slots.size ≤ ((2 : Int32)).toNatClampNeg) := inb_of Sz15 ⟨by decide, by decide⟩
  obtain ⟨T15, h15, X15, e15, W15, st15⟩ := stR X14 hx hZ e14 Ar15 (j := (2 : Int32)) hin15 rfl (Sto.ofVA Ar15 q15 O_ar (Ins.self E_b14)) (g := (mkF m 51 #[.val (.ref ao0), .val (.int (3 : Int32)), .val (.int p2), .val (.int (2 : Int32)), .val (.int p2)] [(.ref b14), (.int (2 : Int32)), (.ref ar)])) rfl rfl (hb hby d3_51)
  refine own_go (x' := T15.setTop (mkF m 52 #[.val (.ref ao0), .val (.int (3 : Int32)), .val (.int p2), .val (.int (2 : Int32)), .val (.int p2)] [])) st15 ?_
  replace F_ao0_bytes := Fld.other W15 F_ao0_bytes (Or.inl ne_ao0_ar)
  replace E_b4 := Exa.wr W15 E_b4
  replace V_b4 := V_b4.other W15 (Ne.symm ne_ar_b4)
  replace E_b9 := Exa.wr W15 E_b9
  replace V_b9 := V_b9.other W15 (Ne.symm ne_ar_b9)
  replace E_b14 := Exa.wr W15 E_b14
  replace V_b14 := V_b14.other W15 (Ne.symm ne_ar_b14)
  replace Zs := Nat.le_trans Zs (Keep.of_wr W15).1
  replace Nf := Fr.snoc X15 Nf g_ar
  replace Kp := Kp.wr W15 (Or.inl (by simp))
  have V_ar : Arv Z h15 ar kc (.array .byte) (4 : Int32) [(.ref b4), (.ref b9), (.ref b14), .null] .null := Arv.set Ar15 q15 Sz15 Nn15 Hh15 Gg15 rfl W15 2 rfl (Nat.le_of_ble_eq_true rfl)
  refine own_go (x' := T15.setTop (mkF m 2 #[.val (.ref ao0), .val (.int (3 : Int32)), .val (.int p2), .val (.int ((2 : Int32) + (1 : Int32))), .val (.int p2)] [])) (fun _ k => XS.iinc X15.here hx rfl (hb hby d3_52) rfl (l' := #[.val (.ref ao0), .val (.int (3 : Int32)), .val (.int p2), .val (.int ((2 : Int32) + (1 : Int32))), .val (.int p2)]) rfl (XS.goto X15.here hx rfl (pc0 := 55) (pc' := 2) rfl (hb hby d3_55) (by decide) (by decide) k)) ?_
  rw [show ((2 : Int32) + (1 : Int32)) = (3 : Int32) from by decide +kernel]
  refine own_go (x' := T15.setTop (mkF m 59 #[.val (.ref ao0), .val (.int (3 : Int32)), .val (.int p2), .val (.int (3 : Int32)), .val (.int p2)] [(.ref ao0)])) (fun _ k => XS.iloadN X15.here hx rfl (hb hby d3_2) rfl (XS.iloadN X15.here hx rfl (hb hby d3_3) rfl (XS.icmpYes X15.here hx rfl (pc0 := 4) (pc' := 58) rfl (hb hby d3_4) rfl (flt (Int32.lt_irrefl)).2.1 (by decide) (by decide) (XS.aloadN X15.here hx rfl (hb hby d3_58) rfl rfl k)))) ?_
  obtain ⟨T16, X16, e16, st16⟩ := getF X15 hx hZ hown (host := "") (Or.inl (own_w hw 11 rfl)) Via.refl e15 F_ao0_bytes (g := (mkF m 59 #[.val (.ref ao0), .val (.int (3 : Int32)), .val (.int p2), .val (.int (3 : Int32)), .val (.int p2)] [(.ref ao0)])) rfl rfl (hb hby d3_59)
  refine own_go (x' := T16.setTop (mkF m 62 #[.val (.ref ao0), .val (.int (3 : Int32)), .val (.int p2), .val (.int (3 : Int32)), .val (.int p2)] [(.ref ar)])) st16 ?_
  refine own_retR X16 hx hlk hret rfl rfl (hb hby d3_62) ?_ (by decide) (by decide)
  rw [e16]
  exact ⟨b4, k4, b9, k9, b14, k14, rfl, Nf, Kp, F_ao0_bytes, V_ar, sz_b4, g_b4, V_b4, sz_b9, g_b9, V_b9, sz_b14, g_b14, V_b14, ne_b4_b9, ne_b4_b14, ne_b9_b14⟩
def Q_rmF_4 (Z : State) (ao0 : Addr) (p2 : Int32) (ar : Addr) (kc : ClassId) (h0 : Heap) (n0 : Nat) (v : Option Value) (h : Heap) (L : List Loc) : Prop := ∃ (b0 : Addr) (k0 : ClassId) (b1 : Addr) (k1 : ClassId) (b2 : Addr) (k2 : ClassId) (b3 : Addr) (k3 : ClassId), v = some (.ref ar) ∧ Fr n0 L ∧ Keep h0 h [ar] ∧ Fld Z h ao0 "com/example/wee_match/weematch/Sieve$Windows" "bytes" "[[B" (.ref ar) ∧ Arv Z h ar kc (.array .byte) (4 : Int32) [.ref b0, .ref b1, .ref b2, .ref b3] .null ∧ h0.size ≤ b0 ∧ n0 ≤ b0 ∧ Arv Z h b0 k0 .byte (p2 + (64 : Int32)) [] (.int (0 : Int32)) ∧ h0.size ≤ b1 ∧ n0 ≤ b1 ∧ Arv Z h b1 k1 .byte p2 [] (.int (0 : Int32)) ∧ h0.size ≤ b2 ∧ n0 ≤ b2 ∧ Arv Z h b2 k2 .byte p2 [] (.int (0 : Int32)) ∧ h0.size ≤ b3 ∧ n0 ≤ b3 ∧ Arv Z h b3 k3 .byte p2 [] (.int (0 : Int32)) ∧ b0 ≠ b1 ∧ b0 ≠ b2 ∧ b0 ≠ b3 ∧ b1 ≠ b2 ∧ b1 ≠ b3 ∧ b2 ≠ b3
theorem pn_rmF_4 : plainName "com/example/wee_match/weematch/Sieve$Windows" = true := by first | (simp [plainName, overriddenIn]; done) | decide +kernel
theorem ef_rmF_4 (m : MethodId) (x0 : Addr) (x1 : Int32) (x2 : Int32) : entryFrame m #[(.ref x0), (.int x1), (.int x2)] 5 = mkF m 0 #[.val (.ref x0), .val (.int x1), .val (.int x2), .unset, .unset] [] := by first | (simp [entryFrame, mkF, argsToLocals, Value.category]; done) | rfl
set_option maxRecDepth 65536 in
set_option maxHeartbeats 40000000 in
theorem rmF_4 (l : Launch) (Z : State) (a0 : Array Value) (hw : ∀ d ∈ tables_1, d.before a0 Z = true) (ws : List Jvm.Cond) (ao0 : Addr) (p2 : Int32) (ar : Addr) (kc : ClassId) (h0 : Heap) (n0 : Nat) (Z0 : n0 ≤ h0.size) (F_ao0_bytes : Fld Z h0 ao0 "com/example/wee_match/weematch/Sieve$Windows" "bytes" "[[B" (.ref ar)) (V_ar : Arv Z h0 ar kc (.array .byte) (4 : Int32) [.null, .null, .null, .null] .null) (O_ar : OvrA Z kc .byte "[B") (ne_ao0_ar : ao0 ≠ ar) (g_ar : n0 ≤ ar) (hs : own_L p2 16383) (ht : own_L (p2 + (64 : Int32)) 16447) :
    MetFree l (⟨"com/example/wee_match/weematch/Sieve$Windows", "bytes", "(II)[[B"⟩ : MethodName) (head1 (Jvm.Cond.code (⟨"com/example/wee_match/weematch/Sieve$Windows", "bytes", "(II)[[B"⟩ : MethodName) prog_20_method_2_code 5 (some (.array (.array .byte))) :: ws) ({ frames := 0, cells := 4, slots := 65596, locals := 0 } : Room)) (fun a U => a = #[(.ref ao0), (.int (4 : Int32)), (.int p2)] ∧ Z.Warmed39 U.vm ∧ U.heap = h0) (fun _ _ _ _ _ => True) (fun _ U o U' => ∃ v L, o = .returned v ∧ (Q_rmF_4 Z ao0 p2 ar kc h0 n0) v U'.heap L ∧ FrameEnd U o U' L ({ frames := 0, cells := 4, slots := 65596, locals := 0 } : Room).cells ({ frames := 0, cells := 4, slots := 65596, locals := 0 } : Room).slots) := by
  refine MetFree.of_bodySF (plainFor_of_name pn_rmF_4) hisR ?_
  intro p e s m args below meth c s₁ Bd hml0 hP hK
  obtain ⟨rfl, hZ, hh⟩ := hP
  have hx := Bd.exec
  have hby := Bd.bytes
  have hlk := BodyLoose.notSynchronized Bd
  have hret := Bd.returns
  have hml : c.maxLocals = 5 := hml0
  have hown : s.vm.findClass "com/example/wee_match/weematch/Sieve$Windows" = some m.cls := findClass_of_methodNamed Bd.named
  have hnm := (name_of_methodNamed Bd.named Bd.method).1
  have X0 : Stand p l e ({ frames := 0, cells := 4, slots := 65596, locals := 0 } : Room) s m #[(.ref ao0), (.int (4 : Int32)), (.int p2)] below meth c s₁ [] 0 0 := Stand.of_body Bd
  have e0 : s₁.heap = h0 := by rw [← hh, Bd.state]; rfl
  have Nf := Fr.nil n0
  have Zs := Z0
  have Kp : Keep h0 h0 [ar] := Keep.refl _ _
  show own_End p e below s (Q_rmF_4 Z ao0 p2 ar kc h0 n0) ({ frames := 0, cells := 4, slots := 65596, locals := 0 } : Room).cells ({ frames := 0, cells := 4, slots := 65596, locals := 0 } : Room).slots (s₁.setTop (entryFrame m #[(.ref ao0), (.int (4 : Int32)), (.int p2)] 5))
  refine own_go (x' := s₁.setTop (mkF m 0 #[.val (.ref ao0), .val (.int (4 : Int32)), .val (.int p2), .unset, .unset] [])) (fun t k => castTop (ef_rmF_4 m ao0 (4 : Int32) p2) k) ?_
  refine own_go (x' := s₁.setTop (mkF m 8 #[.val (.ref ao0), .val (.int (4 : Int32)), .val (.int p2), .val (.int (0 : Int32)), .unset] [(.int (0 : Int32))])) (fun _ k => XS.iconst X0.here hx rfl (hb hby d3_0) (XS.istoreN X0.here hx rfl (hb hby d3_1) rfl (l' := #[.val (.ref ao0), .val (.int (4 : Int32)), .val (.int p2), .val (.int (0 : Int32)), .unset]) rfl (XS.iloadN X0.here hx rfl (hb hby d3_2) rfl (XS.iloadN X0.here hx rfl (hb hby d3_3) rfl (XS.icmpNo X0.here hx rfl (hb hby d3_4) rfl (tlt (by decide +kernel : ((0 : Int32) < (4 : Int32)))).2.1 (XS.iloadN X0.here hx rfl (hb hby d3_7) rfl k)))))) ?_
  refine own_go (x' := s₁.setTop (mkF m 21 #[.val (.ref ao0), .val (.int (4 : Int32)), .val (.int p2), .val (.int (0 : Int32)), .val (.int (p2 + (64 : Int32)))] [])) (fun _ k => XS.ifNo X0.here hx rfl (hb hby d3_8) rfl ((if0 _ _).trans (teq rfl).2) (XS.iloadN X0.here hx rfl (hb hby d3_11) rfl (XS.bipush X0.here hx rfl (hb hby d3_12) (XS.iadd X0.here hx rfl (hb hby d3_14) rfl (XS.goto X0.here hx rfl (pc0 := 15) (pc' := 19) rfl (hb hby d3_15) (by decide) (by decide) (XS.istore X0.here hx rfl (hb hby d3_19) rfl (l' := #[.val (.ref ao0), .val (.int (4 : Int32)), .val (.int p2), .val (.int (0 : Int32)), .val (.int (p2 + (64 : Int32)))]) rfl k)))))) ?_
  refine own_go (x' := s₁.setTop (mkF m 22 #[.val (.ref ao0), .val (.int (4 : Int32)), .val (.int p2), .val (.int (0 : Int32)), .val (.int (p2 + (64 : Int32)))] [(.ref ao0)])) (fun _ k => XS.aloadN X0.here hx rfl (hb hby d3_21) rfl rfl k) ?_
  obtain ⟨T1, X1, e1, st1⟩ := getF X0 hx hZ hown (host := "") (Or.inl (own_w hw 11 rfl)) Via.refl e0 F_ao0_bytes (g := (mkF m 22 #[.val (.ref ao0), .val (.int (4 : Int32)), .val (.int p2), .val (.int (0 : Int32)), .val (.int (p2 + (64 : Int32)))] [(.ref ao0)])) rfl rfl (hb hby d3_22)
  refine own_go (x' := T1.setTop (mkF m 25 #[.val (.ref ao0), .val (.int (4 : Int32)), .val (.int p2), .val (.int (0 : Int32)), .val (.int (p2 + (64 : Int32)))] [(.ref ar)])) st1 ?_
  refine own_go (x' := T1.setTop (mkF m 26 #[.val (.ref ao0), .val (.int (4 : Int32)), .val (.int p2), .val (.int (0 : Int32)), .val (.int (p2 + (64 : Int32)))] [(.int (0 : Int32)), (.ref ar)])) (fun _ k => XS.iloadN X1.here hx rfl (hb hby d3_25) rfl k) ?_
  obtain ⟨cl2, Ar2, q2, Sz2, Nn2, Hh2, Gg2⟩ := id V_ar
  have hin2 : ¬ ((0 : Int32) < 0 ∨ cl2.slots.size ≤ ((0 : Int32)).toNatClampNeg) := inb_of Sz2 ⟨by decide, by decide⟩
  refine own_go (x' := T1.setTop (mkF m 27 #[.val (.ref ao0), .val (.int (4 : Int32)), .val (.int p2), .val (.int (0 : Int32)), .val (.int (p2 + (64 : Int32)))] [.null])) (X1.aaload hx (j := (0 : Int32)) (v := .null) (Eq.trans (congrArg (fun h_ => h_[_]?) e1) Ar2.1) (State.isArrayOf_alike hZ.alike Ar2.2.1) rfl Ar2.2.2 hin2 (Hh2.at hin2 rfl) (g := (mkF m 26 #[.val (.ref ao0), .val (.int (4 : Int32)), .val (.int p2), .val (.int (0 : Int32)), .val (.int (p2 + (64 : Int32)))] [(.int (0 : Int32)), (.ref ar)])) rfl rfl (hb hby d3_26)) ?_
  refine own_go (x' := T1.setTop (mkF m 43 #[.val (.ref ao0), .val (.int (4 : Int32)), .val (.int p2), .val (.int (0 : Int32)), .val (.int (p2 + (64 : Int32)))] [(.ref ao0)])) (fun _ k => XS.ifnullYes X1.here hx rfl (pc0 := 27) (pc' := 42) rfl (hb hby d3_27) rfl (by decide) (by decide) (XS.aloadN X1.here hx rfl (hb hby d3_42) rfl rfl k)) ?_
  obtain ⟨T3, X3, e3, st3⟩ := getF X1 hx hZ hown (host := "") (Or.inl (own_w hw 11 rfl)) Via.refl e1 F_ao0_bytes (g := (mkF m 43 #[.val (.ref ao0), .val (.int (4 : Int32)), .val (.int p2), .val (.int (0 : Int32)), .val (.int (p2 + (64 : Int32)))] [(.ref ao0)])) rfl rfl (hb hby d3_43)
  refine own_go (x' := T3.setTop (mkF m 46 #[.val (.ref ao0), .val (.int (4 : Int32)), .val (.int p2), .val (.int (0 : Int32)), .val (.int (p2 + (64 : Int32)))] [(.ref ar)])) st3 ?_
  refine own_go (x' := T3.setTop (mkF m 49 #[.val (.ref ao0), .val (.int (4 : Int32)), .val (.int p2), .val (.int (0 : Int32)), .val (.int (p2 + (64 : Int32)))] [(.int (p2 + (64 : Int32))), (.int (0 : Int32)), (.ref ar)])) (fun _ k => XS.iloadN X3.here hx rfl (hb hby d3_46) rfl (XS.iload X3.here hx rfl (hb hby d3_47) rfl k)) ?_
  obtain ⟨T4, h4, k4, X4, e4, E4, A4, Q4, st4⟩ := newPE X3 hx hZ (own_w hw 29 rfl) e3 (g := (mkF m 49 #[.val (.ref ao0), .val (.int (4 : Int32)), .val (.int p2), .val (.int (0 : Int32)), .val (.int (p2 + (64 : Int32)))] [(.int (p2 + (64 : Int32))), (.int (0 : Int32)), (.ref ar)])) rfl (hb hby d3_49) rfl ht.1 (cap := 16447) ht.2 (by decide) (by decide) (by decide) (ad := "[B") (by decide)
  obtain ⟨b4, g4⟩ : ∃ z, z = h0.size := ⟨_, rfl⟩
  rw [← g4] at A4 st4
  rw [← g4] at Q4
  have ne_ao0_b4 : ao0 ≠ b4 := Nat.ne_of_lt (Nat.lt_of_lt_of_le F_ao0_bytes.lt (Nat.le_of_eq g4.symm))
  have ne_ar_b4 : ar ≠ b4 := Nat.ne_of_lt (Nat.lt_of_lt_of_le V_ar.lt (Nat.le_of_eq g4.symm))
  have g_b4 : n0 ≤ b4 := Nat.le_trans Zs (Nat.le_of_eq g4.symm)
  have sz_b4 : h0.size ≤ b4 := Nat.le_trans Kp.1 (Nat.le_of_eq g4.symm)
  replace F_ao0_bytes := Fld.ext E4 F_ao0_bytes
  replace V_ar := V_ar.ext E4
  replace Zs := Nat.le_trans Zs E4.1
  replace Kp := Kp.ext E4
  have E_b4 := Q4
  have V_b4 : Arv Z h4 b4 k4 .byte (p2 + (64 : Int32)) [] (.int (0 : Int32)) := Arv.new A4 ht.1
  refine own_go (x' := T4.setTop (mkF m 51 #[.val (.ref ao0), .val (.int (4 : Int32)), .val (.int p2), .val (.int (0 : Int32)), .val (.int (p2 + (64 : Int32)))] [(.ref b4), (.int (0 : Int32)), (.ref ar)])) st4 ?_
  obtain ⟨cl5, Ar5, q5, Sz5, Nn5, Hh5, Gg5⟩ := V_ar
  have hin5 : ¬ ((0 : Int32) < 0 ∨ cl5.slots.size ≤ ((0 : Int32)).toNatClampNeg) := inb_of Sz5 ⟨by decide, by decide⟩
  obtain ⟨T5, h5, X5, e5, W5, st5⟩ := stR X4 hx hZ e4 Ar5 (j := (0 : Int32)) hin5 rfl (Sto.ofVA Ar5 q5 O_ar (Ins.self E_b4)) (g := (mkF m 51 #[.val (.ref ao0), .val (.int (4 : Int32)), .val (.int p2), .val (.int (0 : Int32)), .val (.int (p2 + (64 : Int32)))] [(.ref b4), (.int (0 : Int32)), (.ref ar)])) rfl rfl (hb hby d3_51)
  refine own_go (x' := T5.setTop (mkF m 52 #[.val (.ref ao0), .val (.int (4 : Int32)), .val (.int p2), .val (.int (0 : Int32)), .val (.int (p2 + (64 : Int32)))] [])) st5 ?_
  replace F_ao0_bytes := Fld.other W5 F_ao0_bytes (Or.inl ne_ao0_ar)
  replace E_b4 := Exa.wr W5 E_b4
  replace V_b4 := V_b4.other W5 (Ne.symm ne_ar_b4)
  replace Zs := Nat.le_trans Zs (Keep.of_wr W5).1
  replace Nf := Fr.snoc X5 Nf g_ar
  replace Kp := Kp.wr W5 (Or.inl (by simp))
  have V_ar : Arv Z h5 ar kc (.array .byte) (4 : Int32) [(.ref b4), .null, .null, .null] .null := Arv.set Ar5 q5 Sz5 Nn5 Hh5 Gg5 rfl W5 0 rfl (Nat.le_of_ble_eq_true rfl)
  refine own_go (x' := T5.setTop (mkF m 2 #[.val (.ref ao0), .val (.int (4 : Int32)), .val (.int p2), .val (.int ((0 : Int32) + (1 : Int32))), .val (.int (p2 + (64 : Int32)))] [])) (fun _ k => XS.iinc X5.here hx rfl (hb hby d3_52) rfl (l' := #[.val (.ref ao0), .val (.int (4 : Int32)), .val (.int p2), .val (.int ((0 : Int32) + (1 : Int32))), .val (.int (p2 + (64 : Int32)))]) rfl (XS.goto X5.here hx rfl (pc0 := 55) (pc' := 2) rfl (hb hby d3_55) (by decide) (by decide) k)) ?_
  rw [show ((0 : Int32) + (1 : Int32)) = (1 : Int32) from by decide +kernel]
  refine own_go (x' := T5.setTop (mkF m 19 #[.val (.ref ao0), .val (.int (4 : Int32)), .val (.int p2), .val (.int (1 : Int32)), .val (.int (p2 + (64 : Int32)))] [(.int p2)])) (fun _ k => XS.iloadN X5.here hx rfl (hb hby d3_2) rfl (XS.iloadN X5.here hx rfl (hb hby d3_3) rfl (XS.icmpNo X5.here hx rfl (hb hby d3_4) rfl (tlt (by decide +kernel : ((1 : Int32) < (4 : Int32)))).2.1 (XS.iloadN X5.here hx rfl (hb hby d3_7) rfl (XS.ifYes X5.here hx rfl (pc0 := 8) (pc' := 18) rfl (hb hby d3_8) rfl ((if0 _ _).trans (feq (by decide +kernel : ¬ ((1 : Int32) = (0 : Int32)))).2) (by decide) (by decide) (XS.iloadN X5.here hx rfl (hb hby d3_18) rfl k)))))) ?_
  refine own_go (x' := T5.setTop (mkF m 22 #[.val (.ref ao0), .val (.int (4 : Int32)), .val (.int p2), .val (.int (1 : Int32)), .val (.int p2)] [(.ref ao0)])) (fun _ k => XS.istore X5.here hx rfl (hb hby d3_19) rfl (l' := #[.val (.ref ao0), .val (.int (4 : Int32)), .val (.int p2), .val (.int (1 : Int32)), .val (.int p2)]) rfl (XS.aloadN X5.here hx rfl (hb hby d3_21) rfl rfl k)) ?_
  obtain ⟨T6, X6, e6, st6⟩ := getF X5 hx hZ hown (host := "") (Or.inl (own_w hw 11 rfl)) Via.refl e5 F_ao0_bytes (g := (mkF m 22 #[.val (.ref ao0), .val (.int (4 : Int32)), .val (.int p2), .val (.int (1 : Int32)), .val (.int p2)] [(.ref ao0)])) rfl rfl (hb hby d3_22)
  refine own_go (x' := T6.setTop (mkF m 25 #[.val (.ref ao0), .val (.int (4 : Int32)), .val (.int p2), .val (.int (1 : Int32)), .val (.int p2)] [(.ref ar)])) st6 ?_
  refine own_go (x' := T6.setTop (mkF m 26 #[.val (.ref ao0), .val (.int (4 : Int32)), .val (.int p2), .val (.int (1 : Int32)), .val (.int p2)] [(.int (1 : Int32)), (.ref ar)])) (fun _ k => XS.iloadN X6.here hx rfl (hb hby d3_25) rfl k) ?_
  obtain ⟨cl7, Ar7, q7, Sz7, Nn7, Hh7, Gg7⟩ := id V_ar
  have hin7 : ¬ ((1 : Int32) < 0 ∨ cl7.slots.size ≤ ((1 : Int32)).toNatClampNeg) := inb_of Sz7 ⟨by decide, by decide⟩
  refine own_go (x' := T6.setTop (mkF m 27 #[.val (.ref ao0), .val (.int (4 : Int32)), .val (.int p2), .val (.int (1 : Int32)), .val (.int p2)] [.null])) (X6.aaload hx (j := (1 : Int32)) (v := .null) (Eq.trans (congrArg (fun h_ => h_[_]?) e6) Ar7.1) (State.isArrayOf_alike hZ.alike Ar7.2.1) rfl Ar7.2.2 hin7 (Hh7.at hin7 rfl) (g := (mkF m 26 #[.val (.ref ao0), .val (.int (4 : Int32)), .val (.int p2), .val (.int (1 : Int32)), .val (.int p2)] [(.int (1 : Int32)), (.ref ar)])) rfl rfl (hb hby d3_26)) ?_
  refine own_go (x' := T6.setTop (mkF m 43 #[.val (.ref ao0), .val (.int (4 : Int32)), .val (.int p2), .val (.int (1 : Int32)), .val (.int p2)] [(.ref ao0)])) (fun _ k => XS.ifnullYes X6.here hx rfl (pc0 := 27) (pc' := 42) rfl (hb hby d3_27) rfl (by decide) (by decide) (XS.aloadN X6.here hx rfl (hb hby d3_42) rfl rfl k)) ?_
  obtain ⟨T8, X8, e8, st8⟩ := getF X6 hx hZ hown (host := "") (Or.inl (own_w hw 11 rfl)) Via.refl e6 F_ao0_bytes (g := (mkF m 43 #[.val (.ref ao0), .val (.int (4 : Int32)), .val (.int p2), .val (.int (1 : Int32)), .val (.int p2)] [(.ref ao0)])) rfl rfl (hb hby d3_43)
  refine own_go (x' := T8.setTop (mkF m 46 #[.val (.ref ao0), .val (.int (4 : Int32)), .val (.int p2), .val (.int (1 : Int32)), .val (.int p2)] [(.ref ar)])) st8 ?_
  refine own_go (x' := T8.setTop (mkF m 49 #[.val (.ref ao0), .val (.int (4 : Int32)), .val (.int p2), .val (.int (1 : Int32)), .val (.int p2)] [(.int p2), (.int (1 : Int32)), (.ref ar)])) (fun _ k => XS.iloadN X8.here hx rfl (hb hby d3_46) rfl (XS.iload X8.here hx rfl (hb hby d3_47) rfl k)) ?_
  obtain ⟨T9, h9, k9, X9, e9, E9, A9, Q9, st9⟩ := newPE X8 hx hZ (own_w hw 29 rfl) e8 (g := (mkF m 49 #[.val (.ref ao0), .val (.int (4 : Int32)), .val (.int p2), .val (.int (1 : Int32)), .val (.int p2)] [(.int p2), (.int (1 : Int32)), (.ref ar)])) rfl (hb hby d3_49) rfl hs.1 (cap := 16383) hs.2 (by decide) (by decide) (by decide) (ad := "[B") (by decide)
  obtain ⟨b9, g9⟩ : ∃ z, z = h5.size := ⟨_, rfl⟩
  rw [← g9] at A9 st9
  rw [← g9] at Q9
  have ne_ao0_b9 : ao0 ≠ b9 := Nat.ne_of_lt (Nat.lt_of_lt_of_le F_ao0_bytes.lt (Nat.le_of_eq g9.symm))
  have ne_b4_b9 : b4 ≠ b9 := Nat.ne_of_lt (Nat.lt_of_lt_of_le E_b4.lt (Nat.le_of_eq g9.symm))
  have ne_ar_b9 : ar ≠ b9 := Nat.ne_of_lt (Nat.lt_of_lt_of_le V_ar.lt (Nat.le_of_eq g9.symm))
  have g_b9 : n0 ≤ b9 := Nat.le_trans Zs (Nat.le_of_eq g9.symm)
  have sz_b9 : h0.size ≤ b9 := Nat.le_trans Kp.1 (Nat.le_of_eq g9.symm)
  replace F_ao0_bytes := Fld.ext E9 F_ao0_bytes
  replace E_b4 := Exa.ext E9 E_b4
  replace V_b4 := V_b4.ext E9
  replace V_ar := V_ar.ext E9
  replace Zs := Nat.le_trans Zs E9.1
  replace Kp := Kp.ext E9
  have E_b9 := Q9
  have V_b9 : Arv Z h9 b9 k9 .byte p2 [] (.int (0 : Int32)) := Arv.new A9 hs.1
  refine own_go (x' := T9.setTop (mkF m 51 #[.val (.ref ao0), .val (.int (4 : Int32)), .val (.int p2), .val (.int (1 : Int32)), .val (.int p2)] [(.ref b9), (.int (1 : Int32)), (.ref ar)])) st9 ?_
  obtain ⟨cl10, Ar10, q10, Sz10, Nn10, Hh10, Gg10⟩ := V_ar
  have hin10 : ¬ ((1 : Int32) < 0 ∨ cl10.slots.size ≤ ((1 : Int32)).toNatClampNeg) := inb_of Sz10 ⟨by decide, by decide⟩
  obtain ⟨T10, h10, X10, e10, W10, st10⟩ := stR X9 hx hZ e9 Ar10 (j := (1 : Int32)) hin10 rfl (Sto.ofVA Ar10 q10 O_ar (Ins.self E_b9)) (g := (mkF m 51 #[.val (.ref ao0), .val (.int (4 : Int32)), .val (.int p2), .val (.int (1 : Int32)), .val (.int p2)] [(.ref b9), (.int (1 : Int32)), (.ref ar)])) rfl rfl (hb hby d3_51)
  refine own_go (x' := T10.setTop (mkF m 52 #[.val (.ref ao0), .val (.int (4 : Int32)), .val (.int p2), .val (.int (1 : Int32)), .val (.int p2)] [])) st10 ?_
  replace F_ao0_bytes := Fld.other W10 F_ao0_bytes (Or.inl ne_ao0_ar)
  replace E_b4 := Exa.wr W10 E_b4
  replace V_b4 := V_b4.other W10 (Ne.symm ne_ar_b4)
  replace E_b9 := Exa.wr W10 E_b9
  replace V_b9 := V_b9.other W10 (Ne.symm ne_ar_b9)
  replace Zs := Nat.le_trans Zs (Keep.of_wr W10).1
  replace Nf := Fr.snoc X10 Nf g_ar
  replace Kp := Kp.wr W10 (Or.inl (by simp))
  have V_ar : Arv Z h10 ar kc (.array .byte) (4 : Int32) [(.ref b4), (.ref b9), .null, .null] .null := Arv.set Ar10 q10 Sz10 Nn10 Hh10 Gg10 rfl W10 1 rfl (Nat.le_of_ble_eq_true rfl)
  refine own_go (x' := T10.setTop (mkF m 2 #[.val (.ref ao0), .val (.int (4 : Int32)), .val (.int p2), .val (.int ((1 : Int32) + (1 : Int32))), .val (.int p2)] [])) (fun _ k => XS.iinc X10.here hx rfl (hb hby d3_52) rfl (l' := #[.val (.ref ao0), .val (.int (4 : Int32)), .val (.int p2), .val (.int ((1 : Int32) + (1 : Int32))), .val (.int p2)]) rfl (XS.goto X10.here hx rfl (pc0 := 55) (pc' := 2) rfl (hb hby d3_55) (by decide) (by decide) k)) ?_
  rw [show ((1 : Int32) + (1 : Int32)) = (2 : Int32) from by decide +kernel]
  refine own_go (x' := T10.setTop (mkF m 19 #[.val (.ref ao0), .val (.int (4 : Int32)), .val (.int p2), .val (.int (2 : Int32)), .val (.int p2)] [(.int p2)])) (fun _ k => XS.iloadN X10.here hx rfl (hb hby d3_2) rfl (XS.iloadN X10.here hx rfl (hb hby d3_3) rfl (XS.icmpNo X10.here hx rfl (hb hby d3_4) rfl (tlt (by decide +kernel : ((2 : Int32) < (4 : Int32)))).2.1 (XS.iloadN X10.here hx rfl (hb hby d3_7) rfl (XS.ifYes X10.here hx rfl (pc0 := 8) (pc' := 18) rfl (hb hby d3_8) rfl ((if0 _ _).trans (feq (by decide +kernel : ¬ ((2 : Int32) = (0 : Int32)))).2) (by decide) (by decide) (XS.iloadN X10.here hx rfl (hb hby d3_18) rfl k)))))) ?_
  refine own_go (x' := T10.setTop (mkF m 22 #[.val (.ref ao0), .val (.int (4 : Int32)), .val (.int p2), .val (.int (2 : Int32)), .val (.int p2)] [(.ref ao0)])) (fun _ k => XS.istore X10.here hx rfl (hb hby d3_19) rfl (l' := #[.val (.ref ao0), .val (.int (4 : Int32)), .val (.int p2), .val (.int (2 : Int32)), .val (.int p2)]) rfl (XS.aloadN X10.here hx rfl (hb hby d3_21) rfl rfl k)) ?_
  obtain ⟨T11, X11, e11, st11⟩ := getF X10 hx hZ hown (host := "") (Or.inl (own_w hw 11 rfl)) Via.refl e10 F_ao0_bytes (g := (mkF m 22 #[.val (.ref ao0), .val (.int (4 : Int32)), .val (.int p2), .val (.int (2 : Int32)), .val (.int p2)] [(.ref ao0)])) rfl rfl (hb hby d3_22)
  refine own_go (x' := T11.setTop (mkF m 25 #[.val (.ref ao0), .val (.int (4 : Int32)), .val (.int p2), .val (.int (2 : Int32)), .val (.int p2)] [(.ref ar)])) st11 ?_
  refine own_go (x' := T11.setTop (mkF m 26 #[.val (.ref ao0), .val (.int (4 : Int32)), .val (.int p2), .val (.int (2 : Int32)), .val (.int p2)] [(.int (2 : Int32)), (.ref ar)])) (fun _ k => XS.iloadN X11.here hx rfl (hb hby d3_25) rfl k) ?_
  obtain ⟨cl12, Ar12, q12, Sz12, Nn12, Hh12, Gg12⟩ := id V_ar
  have hin12 : ¬ ((2 : Int32) < 0 ∨ cl12.slots.size ≤ ((2 : Int32)).toNatClampNeg) := inb_of Sz12 ⟨by decide, by decide⟩
  refine own_go (x' := T11.setTop (mkF m 27 #[.val (.ref ao0), .val (.int (4 : Int32)), .val (.int p2), .val (.int (2 : Int32)), .val (.int p2)] [.null])) (X11.aaload hx (j := (2 : Int32)) (v := .null) (Eq.trans (congrArg (fun h_ => h_[_]?) e11) Ar12.1) (State.isArrayOf_alike hZ.alike Ar12.2.1) rfl Ar12.2.2 hin12 (Hh12.at hin12 rfl) (g := (mkF m 26 #[.val (.ref ao0), .val (.int (4 : Int32)), .val (.int p2), .val (.int (2 : Int32)), .val (.int p2)] [(.int (2 : Int32)), (.ref ar)])) rfl rfl (hb hby d3_26)) ?_
  refine own_go (x' := T11.setTop (mkF m 43 #[.val (.ref ao0), .val (.int (4 : Int32)), .val (.int p2), .val (.int (2 : Int32)), .val (.int p2)] [(.ref ao0)])) (fun _ k => XS.ifnullYes X11.here hx rfl (pc0 := 27) (pc' := 42) rfl (hb hby d3_27) rfl (by decide) (by decide) (XS.aloadN X11.here hx rfl (hb hby d3_42) rfl rfl k)) ?_
  obtain ⟨T13, X13, e13, st13⟩ := getF X11 hx hZ hown (host := "") (Or.inl (own_w hw 11 rfl)) Via.refl e11 F_ao0_bytes (g := (mkF m 43 #[.val (.ref ao0), .val (.int (4 : Int32)), .val (.int p2), .val (.int (2 : Int32)), .val (.int p2)] [(.ref ao0)])) rfl rfl (hb hby d3_43)
  refine own_go (x' := T13.setTop (mkF m 46 #[.val (.ref ao0), .val (.int (4 : Int32)), .val (.int p2), .val (.int (2 : Int32)), .val (.int p2)] [(.ref ar)])) st13 ?_
  refine own_go (x' := T13.setTop (mkF m 49 #[.val (.ref ao0), .val (.int (4 : Int32)), .val (.int p2), .val (.int (2 : Int32)), .val (.int p2)] [(.int p2), (.int (2 : Int32)), (.ref ar)])) (fun _ k => XS.iloadN X13.here hx rfl (hb hby d3_46) rfl (XS.iload X13.here hx rfl (hb hby d3_47) rfl k)) ?_
  obtain ⟨T14, h14, k14, X14, e14, E14, A14, Q14, st14⟩ := newPE X13 hx hZ (own_w hw 29 rfl) e13 (g := (mkF m 49 #[.val (.ref ao0), .val (.int (4 : Int32)), .val (.int p2), .val (.int (2 : Int32)), .val (.int p2)] [(.int p2), (.int (2 : Int32)), (.ref ar)])) rfl (hb hby d3_49) rfl hs.1 (cap := 16383) hs.2 (by decide) (by decide) (by decide) (ad := "[B") (by decide)
  obtain ⟨b14, g14⟩ : ∃ z, z = h10.size := ⟨_, rfl⟩
  rw [← g14] at A14 st14
  rw [← g14] at Q14
  have ne_ao0_b14 : ao0 ≠ b14 := Nat.ne_of_lt (Nat.lt_of_lt_of_le F_ao0_bytes.lt (Nat.le_of_eq g14.symm))
  have ne_b4_b14 : b4 ≠ b14 := Nat.ne_of_lt (Nat.lt_of_lt_of_le E_b4.lt (Nat.le_of_eq g14.symm))
  have ne_b9_b14 : b9 ≠ b14 := Nat.ne_of_lt (Nat.lt_of_lt_of_le E_b9.lt (Nat.le_of_eq g14.symm))
  have ne_ar_b14 : ar ≠ b14 := Nat.ne_of_lt (Nat.lt_of_lt_of_le V_ar.lt (Nat.le_of_eq g14.symm))
  have g_b14 : n0 ≤ b14 := Nat.le_trans Zs (Nat.le_of_eq g14.symm)
  have sz_b14 : h0.size ≤ b14 := Nat.le_trans Kp.1 (Nat.le_of_eq g14.symm)
  replace F_ao0_bytes := Fld.ext E14 F_ao0_bytes
  replace E_b4 := Exa.ext E14 E_b4
  replace V_b4 := V_b4.ext E14
  replace E_b9 := Exa.ext E14 E_b9
  replace V_b9 := V_b9.ext E14
  replace V_ar := V_ar.ext E14
  replace Zs := Nat.le_trans Zs E14.1
  replace Kp := Kp.ext E14
  have E_b14 := Q14
  have V_b14 : Arv Z h14 b14 k14 .byte p2 [] (.int (0 : Int32)) := Arv.new A14 hs.1
  refine own_go (x' := T14.setTop (mkF m 51 #[.val (.ref ao0), .val (.int (4 : Int32)), .val (.int p2), .val (.int (2 : Int32)), .val (.int p2)] [(.ref b14), (.int (2 : Int32)), (.ref ar)])) st14 ?_
  obtain ⟨cl15, Ar15, q15, Sz15, Nn15, Hh15, Gg15⟩ := V_ar
  have hin15 : ¬ ((2 : Int32) < 0 ∨ cl15.slots.size ≤ ((2 : Int32)).toNatClampNeg) := inb_of Sz15 ⟨by decide, by decide⟩
  obtain ⟨T15, h15, X15, e15, W15, st15⟩ := stR X14 hx hZ e14 Ar15 (j := (2 : Int32)) hin15 rfl (Sto.ofVA Ar15 q15 O_ar (Ins.self E_b14)) (g := (mkF m 51 #[.val (.ref ao0), .val (.int (4 : Int32)), .val (.int p2), .val (.int (2 : Int32)), .val (.int p2)] [(.ref b14), (.int (2 : Int32)), (.ref ar)])) rfl rfl (hb hby d3_51)
  refine own_go (x' := T15.setTop (mkF m 52 #[.val (.ref ao0), .val (.int (4 : Int32)), .val (.int p2), .val (.int (2 : Int32)), .val (.int p2)] [])) st15 ?_
  replace F_ao0_bytes := Fld.other W15 F_ao0_bytes (Or.inl ne_ao0_ar)
  replace E_b4 := Exa.wr W15 E_b4
  replace V_b4 := V_b4.other W15 (Ne.symm ne_ar_b4)
  replace E_b9 := Exa.wr W15 E_b9
  replace V_b9 := V_b9.other W15 (Ne.symm ne_ar_b9)
  replace E_b14 := Exa.wr W15 E_b14
  replace V_b14 := V_b14.other W15 (Ne.symm ne_ar_b14)
  replace Zs := Nat.le_trans Zs (Keep.of_wr W15).1
  replace Nf := Fr.snoc X15 Nf g_ar
  replace Kp := Kp.wr W15 (Or.inl (by simp))
  have V_ar : Arv Z h15 ar kc (.array .byte) (4 : Int32) [(.ref b4), (.ref b9), (.ref b14), .null] .null := Arv.set Ar15 q15 Sz15 Nn15 Hh15 Gg15 rfl W15 2 rfl (Nat.le_of_ble_eq_true rfl)
  refine own_go (x' := T15.setTop (mkF m 2 #[.val (.ref ao0), .val (.int (4 : Int32)), .val (.int p2), .val (.int ((2 : Int32) + (1 : Int32))), .val (.int p2)] [])) (fun _ k => XS.iinc X15.here hx rfl (hb hby d3_52) rfl (l' := #[.val (.ref ao0), .val (.int (4 : Int32)), .val (.int p2), .val (.int ((2 : Int32) + (1 : Int32))), .val (.int p2)]) rfl (XS.goto X15.here hx rfl (pc0 := 55) (pc' := 2) rfl (hb hby d3_55) (by decide) (by decide) k)) ?_
  rw [show ((2 : Int32) + (1 : Int32)) = (3 : Int32) from by decide +kernel]
  refine own_go (x' := T15.setTop (mkF m 19 #[.val (.ref ao0), .val (.int (4 : Int32)), .val (.int p2), .val (.int (3 : Int32)), .val (.int p2)] [(.int p2)])) (fun _ k => XS.iloadN X15.here hx rfl (hb hby d3_2) rfl (XS.iloadN X15.here hx rfl (hb hby d3_3) rfl (XS.icmpNo X15.here hx rfl (hb hby d3_4) rfl (tlt (by decide +kernel : ((3 : Int32) < (4 : Int32)))).2.1 (XS.iloadN X15.here hx rfl (hb hby d3_7) rfl (XS.ifYes X15.here hx rfl (pc0 := 8) (pc' := 18) rfl (hb hby d3_8) rfl ((if0 _ _).trans (feq (by decide +kernel : ¬ ((3 : Int32) = (0 : Int32)))).2) (by decide) (by decide) (XS.iloadN X15.here hx rfl (hb hby d3_18) rfl k)))))) ?_
  refine own_go (x' := T15.setTop (mkF m 22 #[.val (.ref ao0), .val (.int (4 : Int32)), .val (.int p2), .val (.int (3 : Int32)), .val (.int p2)] [(.ref ao0)])) (fun _ k => XS.istore X15.here hx rfl (hb hby d3_19) rfl (l' := #[.val (.ref ao0), .val (.int (4 : Int32)), .val (.int p2), .val (.int (3 : Int32)), .val (.int p2)]) rfl (XS.aloadN X15.here hx rfl (hb hby d3_21) rfl rfl k)) ?_
  obtain ⟨T16, X16, e16, st16⟩ := getF X15 hx hZ hown (host := "") (Or.inl (own_w hw 11 rfl)) Via.refl e15 F_ao0_bytes (g := (mkF m 22 #[.val (.ref ao0), .val (.int (4 : Int32)), .val (.int p2), .val (.int (3 : Int32)), .val (.int p2)] [(.ref ao0)])) rfl rfl (hb hby d3_22)
  refine own_go (x' := T16.setTop (mkF m 25 #[.val (.ref ao0), .val (.int (4 : Int32)), .val (.int p2), .val (.int (3 : Int32)), .val (.int p2)] [(.ref ar)])) st16 ?_
  refine own_go (x' := T16.setTop (mkF m 26 #[.val (.ref ao0), .val (.int (4 : Int32)), .val (.int p2), .val (.int (3 : Int32)), .val (.int p2)] [(.int (3 : Int32)), (.ref ar)])) (fun _ k => XS.iloadN X16.here hx rfl (hb hby d3_25) rfl k) ?_
  obtain ⟨cl17, Ar17, q17, Sz17, Nn17, Hh17, Gg17⟩ := id V_ar
  have hin17 : ¬ ((3 : Int32) < 0 ∨ cl17.slots.size ≤ ((3 : Int32)).toNatClampNeg) := inb_of Sz17 ⟨by decide, by decide⟩
  refine own_go (x' := T16.setTop (mkF m 27 #[.val (.ref ao0), .val (.int (4 : Int32)), .val (.int p2), .val (.int (3 : Int32)), .val (.int p2)] [.null])) (X16.aaload hx (j := (3 : Int32)) (v := .null) (Eq.trans (congrArg (fun h_ => h_[_]?) e16) Ar17.1) (State.isArrayOf_alike hZ.alike Ar17.2.1) rfl Ar17.2.2 hin17 (Hh17.at hin17 rfl) (g := (mkF m 26 #[.val (.ref ao0), .val (.int (4 : Int32)), .val (.int p2), .val (.int (3 : Int32)), .val (.int p2)] [(.int (3 : Int32)), (.ref ar)])) rfl rfl (hb hby d3_26)) ?_
  refine own_go (x' := T16.setTop (mkF m 43 #[.val (.ref ao0), .val (.int (4 : Int32)), .val (.int p2), .val (.int (3 : Int32)), .val (.int p2)] [(.ref ao0)])) (fun _ k => XS.ifnullYes X16.here hx rfl (pc0 := 27) (pc' := 42) rfl (hb hby d3_27) rfl (by decide) (by decide) (XS.aloadN X16.here hx rfl (hb hby d3_42) rfl rfl k)) ?_
  obtain ⟨T18, X18, e18, st18⟩ := getF X16 hx hZ hown (host := "") (Or.inl (own_w hw 11 rfl)) Via.refl e16 F_ao0_bytes (g := (mkF m 43 #[.val (.ref ao0), .val (.int (4 : Int32)), .val (.int p2), .val (.int (3 : Int32)), .val (.int p2)] [(.ref ao0)])) rfl rfl (hb hby d3_43)
  refine own_go (x' := T18.setTop (mkF m 46 #[.val (.ref ao0), .val (.int (4 : Int32)), .val (.int p2), .val (.int (3 : Int32)), .val (.int p2)] [(.ref ar)])) st18 ?_
  refine own_go (x' := T18.setTop (mkF m 49 #[.val (.ref ao0), .val (.int (4 : Int32)), .val (.int p2), .val (.int (3 : Int32)), .val (.int p2)] [(.int p2), (.int (3 : Int32)), (.ref ar)])) (fun _ k => XS.iloadN X18.here hx rfl (hb hby d3_46) rfl (XS.iload X18.here hx rfl (hb hby d3_47) rfl k)) ?_
  obtain ⟨T19, h19, k19, X19, e19, E19, A19, Q19, st19⟩ := newPE X18 hx hZ (own_w hw 29 rfl) e18 (g := (mkF m 49 #[.val (.ref ao0), .val (.int (4 : Int32)), .val (.int p2), .val (.int (3 : Int32)), .val (.int p2)] [(.int p2), (.int (3 : Int32)), (.ref ar)])) rfl (hb hby d3_49) rfl hs.1 (cap := 16383) hs.2 (by decide) (by decide) (by decide) (ad := "[B") (by decide)
  obtain ⟨b19, g19⟩ : ∃ z, z = h15.size := ⟨_, rfl⟩
  rw [← g19] at A19 st19
  rw [← g19] at Q19
  have ne_ao0_b19 : ao0 ≠ b19 := Nat.ne_of_lt (Nat.lt_of_lt_of_le F_ao0_bytes.lt (Nat.le_of_eq g19.symm))
  have ne_b4_b19 : b4 ≠ b19 := Nat.ne_of_lt (Nat.lt_of_lt_of_le E_b4.lt (Nat.le_of_eq g19.symm))
  have ne_b9_b19 : b9 ≠ b19 := Nat.ne_of_lt (Nat.lt_of_lt_of_le E_b9.lt (Nat.le_of_eq g19.symm))
  have ne_b14_b19 : b14 ≠ b19 := Nat.ne_of_lt (Nat.lt_of_lt_of_le E_b14.lt (Nat.le_of_eq g19.symm))
  have ne_ar_b19 : ar ≠ b19 := Nat.ne_of_lt (Nat.lt_of_lt_of_le V_ar.lt (Nat.le_of_eq g19.symm))
  have g_b19 : n0 ≤ b19 := Nat.le_trans Zs (Nat.le_of_eq g19.symm)
  have sz_b19 : h0.size ≤ b19 := Nat.le_trans Kp.1 (Nat.le_of_eq g19.symm)
  replace F_ao0_bytes := Fld.ext E19 F_ao0_bytes
  replace E_b4 := Exa.ext E19 E_b4
  replace V_b4 := V_b4.ext E19
  replace E_b9 := Exa.ext E19 E_b9
  replace V_b9 := V_b9.ext E19
  replace E_b14 := Exa.ext E19 E_b14
  replace V_b14 := V_b14.ext E19
  replace V_ar := V_ar.ext E19
  replace Zs := Nat.le_trans Zs E19.1
  replace Kp := Kp.ext E19
  have E_b19 := Q19
  have V_b19 : Arv Z h19 b19 k19 .byte p2 [] (.int (0 : Int32)) := Arv.new A19 hs.1
  refine own_go (x' := T19.setTop (mkF m 51 #[.val (.ref ao0), .val (.int (4 : Int32)), .val (.int p2), .val (.int (3 : Int32)), .val (.int p2)] [(.ref b19), (.int (3 : Int32)), (.ref ar)])) st19 ?_
  obtain ⟨cl20, Ar20, q20, Sz20, Nn20, Hh20, Gg20⟩ := V_ar
  have hin20 : ¬ ((3 : Int32) < 0 ∨ cl20.slots.size ≤ ((3 : Int32)).toNatClampNeg) := inb_of Sz20 ⟨by decide, by decide⟩
  obtain ⟨T20, h20, X20, e20, W20, st20⟩ := stR X19 hx hZ e19 Ar20 (j := (3 : Int32)) hin20 rfl (Sto.ofVA Ar20 q20 O_ar (Ins.self E_b19)) (g := (mkF m 51 #[.val (.ref ao0), .val (.int (4 : Int32)), .val (.int p2), .val (.int (3 : Int32)), .val (.int p2)] [(.ref b19), (.int (3 : Int32)), (.ref ar)])) rfl rfl (hb hby d3_51)
  refine own_go (x' := T20.setTop (mkF m 52 #[.val (.ref ao0), .val (.int (4 : Int32)), .val (.int p2), .val (.int (3 : Int32)), .val (.int p2)] [])) st20 ?_
  replace F_ao0_bytes := Fld.other W20 F_ao0_bytes (Or.inl ne_ao0_ar)
  replace E_b4 := Exa.wr W20 E_b4
  replace V_b4 := V_b4.other W20 (Ne.symm ne_ar_b4)
  replace E_b9 := Exa.wr W20 E_b9
  replace V_b9 := V_b9.other W20 (Ne.symm ne_ar_b9)
  replace E_b14 := Exa.wr W20 E_b14
  replace V_b14 := V_b14.other W20 (Ne.symm ne_ar_b14)
  replace E_b19 := Exa.wr W20 E_b19
  replace V_b19 := V_b19.other W20 (Ne.symm ne_ar_b19)
  replace Zs := Nat.le_trans Zs (Keep.of_wr W20).1
  replace Nf := Fr.snoc X20 Nf g_ar
  replace Kp := Kp.wr W20 (Or.inl (by simp))
  have V_ar : Arv Z h20 ar kc (.array .byte) (4 : Int32) [(.ref b4), (.ref b9), (.ref b14), (.ref b19)] .null := Arv.set Ar20 q20 Sz20 Nn20 Hh20 Gg20 rfl W20 3 rfl (Nat.le_of_ble_eq_true rfl)
  refine own_go (x' := T20.setTop (mkF m 2 #[.val (.ref ao0), .val (.int (4 : Int32)), .val (.int p2), .val (.int ((3 : Int32) + (1 : Int32))), .val (.int p2)] [])) (fun _ k => XS.iinc X20.here hx rfl (hb hby d3_52) rfl (l' := #[.val (.ref ao0), .val (.int (4 : Int32)), .val (.int p2), .val (.int ((3 : Int32) + (1 : Int32))), .val (.int p2)]) rfl (XS.goto X20.here hx rfl (pc0 := 55) (pc' := 2) rfl (hb hby d3_55) (by decide) (by decide) k)) ?_
  rw [show ((3 : Int32) + (1 : Int32)) = (4 : Int32) from by decide +kernel]
  refine own_go (x' := T20.setTop (mkF m 59 #[.val (.ref ao0), .val (.int (4 : Int32)), .val (.int p2), .val (.int (4 : Int32)), .val (.int p2)] [(.ref ao0)])) (fun _ k => XS.iloadN X20.here hx rfl (hb hby d3_2) rfl (XS.iloadN X20.here hx rfl (hb hby d3_3) rfl (XS.icmpYes X20.here hx rfl (pc0 := 4) (pc' := 58) rfl (hb hby d3_4) rfl (flt (Int32.lt_irrefl)).2.1 (by decide) (by decide) (XS.aloadN X20.here hx rfl (hb hby d3_58) rfl rfl k)))) ?_
  obtain ⟨T21, X21, e21, st21⟩ := getF X20 hx hZ hown (host := "") (Or.inl (own_w hw 11 rfl)) Via.refl e20 F_ao0_bytes (g := (mkF m 59 #[.val (.ref ao0), .val (.int (4 : Int32)), .val (.int p2), .val (.int (4 : Int32)), .val (.int p2)] [(.ref ao0)])) rfl rfl (hb hby d3_59)
  refine own_go (x' := T21.setTop (mkF m 62 #[.val (.ref ao0), .val (.int (4 : Int32)), .val (.int p2), .val (.int (4 : Int32)), .val (.int p2)] [(.ref ar)])) st21 ?_
  refine own_retR X21 hx hlk hret rfl rfl (hb hby d3_62) ?_ (by decide) (by decide)
  rw [e21]
  exact ⟨b4, k4, b9, k9, b14, k14, b19, k19, rfl, Nf, Kp, F_ao0_bytes, V_ar, sz_b4, g_b4, V_b4, sz_b9, g_b9, V_b9, sz_b14, g_b14, V_b14, sz_b19, g_b19, V_b19, ne_b4_b9, ne_b4_b14, ne_b4_b19, ne_b9_b14, ne_b9_b19, ne_b14_b19⟩
def Q_rmS_0 (Z : State) (ao0 : Addr) (p1 : Int32) (p2 : Int32) (ar : Addr) (kc : ClassId) (nA n1 : Int32) (h0 : Heap) (n0 : Nat) (v : Option Value) (h : Heap) (L : List Loc) : Prop := ∃ w0 w1 w2 w3 : Value, v = some (.ref ar) ∧ Fr n0 L ∧ Keep h0 h [ar] ∧ Arv Z h ar kc (.array .byte) (4 : Int32) [w0, w1, w2, w3] .null ∧ own_Rn Z h w0 (0 : Int32) p1 (p2 + (64 : Int32)) ∧ own_Rn Z h w1 (1 : Int32) p1 p2 ∧ own_Rn Z h w2 (2 : Int32) p1 p2 ∧ own_Rn Z h w3 (3 : Int32) p1 p2
theorem pn_rmS_0 : plainName "com/example/wee_match/weematch/Sieve$Windows" = true := by first | (simp [plainName, overriddenIn]; done) | decide +kernel
theorem ef_rmS_0 (m : MethodId) (x0 : Addr) (x1 : Int32) (x2 : Int32) : entryFrame m #[(.ref x0), (.int x1), (.int x2)] 5 = mkF m 0 #[.val (.ref x0), .val (.int x1), .val (.int x2), .unset, .unset] [] := by first | (simp [entryFrame, mkF, argsToLocals, Value.category]; done) | rfl
set_option maxRecDepth 65536 in
set_option maxHeartbeats 40000000 in
theorem rmS_0 (l : Launch) (Z : State) (a0 : Array Value) (hw : ∀ d ∈ tables_1, d.before a0 Z = true) (ws : List Jvm.Cond) (ao0 : Addr) (p1 : Int32) (p2 : Int32) (ar : Addr) (kc : ClassId) (nA n1 : Int32) (h0 : Heap) (n0 : Nat) (Z0 : n0 ≤ h0.size) (F_ao0_bytes : Fld Z h0 ao0 "com/example/wee_match/weematch/Sieve$Windows" "bytes" "[[B" (.ref ar)) (V_ar : Arv Z h0 ar kc (.array .byte) (4 : Int32) [.null, .null, .null, .null] .null) (O_ar : OvrA Z kc .byte "[B") (ne_ao0_ar : ao0 ≠ ar) (g_ar : n0 ≤ ar) (hs : own_L p2 16383) (ht : own_L (p2 + (64 : Int32)) 16447) (hu : ¬ (4 : Int32) < p1) :
    MetFree l (⟨"com/example/wee_match/weematch/Sieve$Windows", "bytes", "(II)[[B"⟩ : MethodName) (head1 (Jvm.Cond.code (⟨"com/example/wee_match/weematch/Sieve$Windows", "bytes", "(II)[[B"⟩ : MethodName) prog_20_method_2_code 5 (some (.array (.array .byte))) :: ws) ({ frames := 0, cells := 4, slots := 65596, locals := 0 } : Room)) (fun a U => a = #[(.ref ao0), (.int p1), (.int p2)] ∧ Z.Warmed39 U.vm ∧ U.heap = h0) (fun _ _ _ _ _ => True) (fun _ U o U' => ∃ v L, o = .returned v ∧ (Q_rmS_0 Z ao0 p1 p2 ar kc nA n1 h0 n0) v U'.heap L ∧ FrameEnd U o U' L ({ frames := 0, cells := 4, slots := 65596, locals := 0 } : Room).cells ({ frames := 0, cells := 4, slots := 65596, locals := 0 } : Room).slots) := by
  refine MetFree.of_bodySF (plainFor_of_name pn_rmS_0) hisR ?_
  intro p e s m args below meth c s₁ Bd hml0 hP hK
  obtain ⟨rfl, hZ, hh⟩ := hP
  have hx := Bd.exec
  have hby := Bd.bytes
  have hlk := BodyLoose.notSynchronized Bd
  have hret := Bd.returns
  have hml : c.maxLocals = 5 := hml0
  have hown : s.vm.findClass "com/example/wee_match/weematch/Sieve$Windows" = some m.cls := findClass_of_methodNamed Bd.named
  have hnm := (name_of_methodNamed Bd.named Bd.method).1
  have X0 : Stand p l e ({ frames := 0, cells := 4, slots := 65596, locals := 0 } : Room) s m #[(.ref ao0), (.int p1), (.int p2)] below meth c s₁ [] 0 0 := Stand.of_body Bd
  have e0 : s₁.heap = h0 := by rw [← hh, Bd.state]; rfl
  have Nf := Fr.nil n0
  have Zs := Z0
  have Kp : Keep h0 h0 [ar] := Keep.refl _ _
  show own_End p e below s (Q_rmS_0 Z ao0 p1 p2 ar kc nA n1 h0 n0) ({ frames := 0, cells := 4, slots := 65596, locals := 0 } : Room).cells ({ frames := 0, cells := 4, slots := 65596, locals := 0 } : Room).slots (s₁.setTop (entryFrame m #[(.ref ao0), (.int p1), (.int p2)] 5))
  refine own_go (x' := s₁.setTop (mkF m 0 #[.val (.ref ao0), .val (.int p1), .val (.int p2), .unset, .unset] [])) (fun t k => castTop (ef_rmS_0 m ao0 p1 p2) k) ?_
  refine own_go (x' := s₁.setTop (mkF m 4 #[.val (.ref ao0), .val (.int p1), .val (.int p2), .val (.int (0 : Int32)), .unset] [(.int p1), (.int (0 : Int32))])) (fun _ k => XS.iconst X0.here hx rfl (hb hby d3_0) (XS.istoreN X0.here hx rfl (hb hby d3_1) rfl (l' := #[.val (.ref ao0), .val (.int p1), .val (.int p2), .val (.int (0 : Int32)), .unset]) rfl (XS.iloadN X0.here hx rfl (hb hby d3_2) rfl (XS.iloadN X0.here hx rfl (hb hby d3_3) rfl k)))) ?_
  by_cases hc4 : (0 : Int32) < p1
  · refine own_go (x' := s₁.setTop (mkF m 15 #[.val (.ref ao0), .val (.int p1), .val (.int p2), .val (.int (0 : Int32)), .unset] [(.int (p2 + (64 : Int32)))])) (fun _ k => XS.icmpNo X0.here hx rfl (hb hby d3_4) rfl (tlt hc4).2.1 (XS.iloadN X0.here hx rfl (hb hby d3_7) rfl (XS.ifNo X0.here hx rfl (hb hby d3_8) rfl ((if0 _ _).trans (teq rfl).2) (XS.iloadN X0.here hx rfl (hb hby d3_11) rfl (XS.bipush X0.here hx rfl (hb hby d3_12) (XS.iadd X0.here hx rfl (hb hby d3_14) rfl k)))))) ?_
    refine own_go (x' := s₁.setTop (mkF m 22 #[.val (.ref ao0), .val (.int p1), .val (.int p2), .val (.int (0 : Int32)), .val (.int (p2 + (64 : Int32)))] [(.ref ao0)])) (fun _ k => XS.goto X0.here hx rfl (pc0 := 15) (pc' := 19) rfl (hb hby d3_15) (by decide) (by decide) (XS.istore X0.here hx rfl (hb hby d3_19) rfl (l' := #[.val (.ref ao0), .val (.int p1), .val (.int p2), .val (.int (0 : Int32)), .val (.int (p2 + (64 : Int32)))]) rfl (XS.aloadN X0.here hx rfl (hb hby d3_21) rfl rfl k))) ?_
    obtain ⟨T1, X1, e1, st1⟩ := getF X0 hx hZ hown (host := "") (Or.inl (own_w hw 11 rfl)) Via.refl e0 F_ao0_bytes (g := (mkF m 22 #[.val (.ref ao0), .val (.int p1), .val (.int p2), .val (.int (0 : Int32)), .val (.int (p2 + (64 : Int32)))] [(.ref ao0)])) rfl rfl (hb hby d3_22)
    refine own_go (x' := T1.setTop (mkF m 25 #[.val (.ref ao0), .val (.int p1), .val (.int p2), .val (.int (0 : Int32)), .val (.int (p2 + (64 : Int32)))] [(.ref ar)])) st1 ?_
    refine own_go (x' := T1.setTop (mkF m 26 #[.val (.ref ao0), .val (.int p1), .val (.int p2), .val (.int (0 : Int32)), .val (.int (p2 + (64 : Int32)))] [(.int (0 : Int32)), (.ref ar)])) (fun _ k => XS.iloadN X1.here hx rfl (hb hby d3_25) rfl k) ?_
    obtain ⟨cl2, Ar2, q2, Sz2, Nn2, Hh2, Gg2⟩ := id V_ar
    have hin2 : ¬ ((0 : Int32) < 0 ∨ cl2.slots.size ≤ ((0 : Int32)).toNatClampNeg) := inb_of Sz2 ⟨by decide, by decide⟩
    refine own_go (x' := T1.setTop (mkF m 27 #[.val (.ref ao0), .val (.int p1), .val (.int p2), .val (.int (0 : Int32)), .val (.int (p2 + (64 : Int32)))] [.null])) (X1.aaload hx (j := (0 : Int32)) (v := .null) (Eq.trans (congrArg (fun h_ => h_[_]?) e1) Ar2.1) (State.isArrayOf_alike hZ.alike Ar2.2.1) rfl Ar2.2.2 hin2 (Hh2.at hin2 rfl) (g := (mkF m 26 #[.val (.ref ao0), .val (.int p1), .val (.int p2), .val (.int (0 : Int32)), .val (.int (p2 + (64 : Int32)))] [(.int (0 : Int32)), (.ref ar)])) rfl rfl (hb hby d3_26)) ?_
    refine own_go (x' := T1.setTop (mkF m 43 #[.val (.ref ao0), .val (.int p1), .val (.int p2), .val (.int (0 : Int32)), .val (.int (p2 + (64 : Int32)))] [(.ref ao0)])) (fun _ k => XS.ifnullYes X1.here hx rfl (pc0 := 27) (pc' := 42) rfl (hb hby d3_27) rfl (by decide) (by decide) (XS.aloadN X1.here hx rfl (hb hby d3_42) rfl rfl k)) ?_
    obtain ⟨T3, X3, e3, st3⟩ := getF X1 hx hZ hown (host := "") (Or.inl (own_w hw 11 rfl)) Via.refl e1 F_ao0_bytes (g := (mkF m 43 #[.val (.ref ao0), .val (.int p1), .val (.int p2), .val (.int (0 : Int32)), .val (.int (p2 + (64 : Int32)))] [(.ref ao0)])) rfl rfl (hb hby d3_43)
    refine own_go (x' := T3.setTop (mkF m 46 #[.val (.ref ao0), .val (.int p1), .val (.int p2), .val (.int (0 : Int32)), .val (.int (p2 + (64 : Int32)))] [(.ref ar)])) st3 ?_
    refine own_go (x' := T3.setTop (mkF m 49 #[.val (.ref ao0), .val (.int p1), .val (.int p2), .val (.int (0 : Int32)), .val (.int (p2 + (64 : Int32)))] [(.int (p2 + (64 : Int32))), (.int (0 : Int32)), (.ref ar)])) (fun _ k => XS.iloadN X3.here hx rfl (hb hby d3_46) rfl (XS.iload X3.here hx rfl (hb hby d3_47) rfl k)) ?_
    obtain ⟨T4, h4, k4, X4, e4, E4, A4, Q4, st4⟩ := newPE X3 hx hZ (own_w hw 29 rfl) e3 (g := (mkF m 49 #[.val (.ref ao0), .val (.int p1), .val (.int p2), .val (.int (0 : Int32)), .val (.int (p2 + (64 : Int32)))] [(.int (p2 + (64 : Int32))), (.int (0 : Int32)), (.ref ar)])) rfl (hb hby d3_49) rfl ht.1 (cap := 16447) ht.2 (by decide) (by decide) (by decide) (ad := "[B") (by decide)
    obtain ⟨b4, g4⟩ : ∃ z, z = h0.size := ⟨_, rfl⟩
    rw [← g4] at A4 st4
    rw [← g4] at Q4
    have ne_ao0_b4 : ao0 ≠ b4 := Nat.ne_of_lt (Nat.lt_of_lt_of_le F_ao0_bytes.lt (Nat.le_of_eq g4.symm))
    have ne_ar_b4 : ar ≠ b4 := Nat.ne_of_lt (Nat.lt_of_lt_of_le V_ar.lt (Nat.le_of_eq g4.symm))
    have g_b4 : n0 ≤ b4 := Nat.le_trans Zs (Nat.le_of_eq g4.symm)
    have sz_b4 : h0.size ≤ b4 := Nat.le_trans Kp.1 (Nat.le_of_eq g4.symm)
    replace F_ao0_bytes := Fld.ext E4 F_ao0_bytes
    replace V_ar := V_ar.ext E4
    replace Zs := Nat.le_trans Zs E4.1
    replace Kp := Kp.ext E4
    have E_b4 := Q4
    have V_b4 : Arv Z h4 b4 k4 .byte (p2 + (64 : Int32)) [] (.int (0 : Int32)) := Arv.new A4 ht.1
    refine own_go (x' := T4.setTop (mkF m 51 #[.val (.ref ao0), .val (.int p1), .val (.int p2), .val (.int (0 : Int32)), .val (.int (p2 + (64 : Int32)))] [(.ref b4), (.int (0 : Int32)), (.ref ar)])) st4 ?_
    obtain ⟨cl5, Ar5, q5, Sz5, Nn5, Hh5, Gg5⟩ := V_ar
    have hin5 : ¬ ((0 : Int32) < 0 ∨ cl5.slots.size ≤ ((0 : Int32)).toNatClampNeg) := inb_of Sz5 ⟨by decide, by decide⟩
    obtain ⟨T5, h5, X5, e5, W5, st5⟩ := stR X4 hx hZ e4 Ar5 (j := (0 : Int32)) hin5 rfl (Sto.ofVA Ar5 q5 O_ar (Ins.self E_b4)) (g := (mkF m 51 #[.val (.ref ao0), .val (.int p1), .val (.int p2), .val (.int (0 : Int32)), .val (.int (p2 + (64 : Int32)))] [(.ref b4), (.int (0 : Int32)), (.ref ar)])) rfl rfl (hb hby d3_51)
    refine own_go (x' := T5.setTop (mkF m 52 #[.val (.ref ao0), .val (.int p1), .val (.int p2), .val (.int (0 : Int32)), .val (.int (p2 + (64 : Int32)))] [])) st5 ?_
    replace F_ao0_bytes := Fld.other W5 F_ao0_bytes (Or.inl ne_ao0_ar)
    replace E_b4 := Exa.wr W5 E_b4
    replace V_b4 := V_b4.other W5 (Ne.symm ne_ar_b4)
    replace Zs := Nat.le_trans Zs (Keep.of_wr W5).1
    replace Nf := Fr.snoc X5 Nf g_ar
    replace Kp := Kp.wr W5 (Or.inl (by simp))
    have V_ar : Arv Z h5 ar kc (.array .byte) (4 : Int32) [(.ref b4), .null, .null, .null] .null := Arv.set Ar5 q5 Sz5 Nn5 Hh5 Gg5 rfl W5 0 rfl (Nat.le_of_ble_eq_true rfl)
    refine own_go (x' := T5.setTop (mkF m 2 #[.val (.ref ao0), .val (.int p1), .val (.int p2), .val (.int ((0 : Int32) + (1 : Int32))), .val (.int (p2 + (64 : Int32)))] [])) (fun _ k => XS.iinc X5.here hx rfl (hb hby d3_52) rfl (l' := #[.val (.ref ao0), .val (.int p1), .val (.int p2), .val (.int ((0 : Int32) + (1 : Int32))), .val (.int (p2 + (64 : Int32)))]) rfl (XS.goto X5.here hx rfl (pc0 := 55) (pc' := 2) rfl (hb hby d3_55) (by decide) (by decide) k)) ?_
    rw [show ((0 : Int32) + (1 : Int32)) = (1 : Int32) from by decide +kernel]
    refine own_go (x' := T5.setTop (mkF m 4 #[.val (.ref ao0), .val (.int p1), .val (.int p2), .val (.int (1 : Int32)), .val (.int (p2 + (64 : Int32)))] [(.int p1), (.int (1 : Int32))])) (fun _ k => XS.iloadN X5.here hx rfl (hb hby d3_2) rfl (XS.iloadN X5.here hx rfl (hb hby d3_3) rfl k)) ?_
    by_cases hc4_6 : (1 : Int32) < p1
    · refine own_go (x' := T5.setTop (mkF m 22 #[.val (.ref ao0), .val (.int p1), .val (.int p2), .val (.int (1 : Int32)), .val (.int p2)] [(.ref ao0)])) (fun _ k => XS.icmpNo X5.here hx rfl (hb hby d3_4) rfl (tlt hc4_6).2.1 (XS.iloadN X5.here hx rfl (hb hby d3_7) rfl (XS.ifYes X5.here hx rfl (pc0 := 8) (pc' := 18) rfl (hb hby d3_8) rfl ((if0 _ _).trans (feq (by decide +kernel : ¬ ((1 : Int32) = (0 : Int32)))).2) (by decide) (by decide) (XS.iloadN X5.here hx rfl (hb hby d3_18) rfl (XS.istore X5.here hx rfl (hb hby d3_19) rfl (l' := #[.val (.ref ao0), .val (.int p1), .val (.int p2), .val (.int (1 : Int32)), .val (.int p2)]) rfl (XS.aloadN X5.here hx rfl (hb hby d3_21) rfl rfl k)))))) ?_
      obtain ⟨T7, X7, e7, st7⟩ := getF X5 hx hZ hown (host := "") (Or.inl (own_w hw 11 rfl)) Via.refl e5 F_ao0_bytes (g := (mkF m 22 #[.val (.ref ao0), .val (.int p1), .val (.int p2), .val (.int (1 : Int32)), .val (.int p2)] [(.ref ao0)])) rfl rfl (hb hby d3_22)
      refine own_go (x' := T7.setTop (mkF m 25 #[.val (.ref ao0), .val (.int p1), .val (.int p2), .val (.int (1 : Int32)), .val (.int p2)] [(.ref ar)])) st7 ?_
      refine own_go (x' := T7.setTop (mkF m 26 #[.val (.ref ao0), .val (.int p1), .val (.int p2), .val (.int (1 : Int32)), .val (.int p2)] [(.int (1 : Int32)), (.ref ar)])) (fun _ k => XS.iloadN X7.here hx rfl (hb hby d3_25) rfl k) ?_
      obtain ⟨cl8, Ar8, q8, Sz8, Nn8, Hh8, Gg8⟩ := id V_ar
      have hin8 : ¬ ((1 : Int32) < 0 ∨ cl8.slots.size ≤ ((1 : Int32)).toNatClampNeg) := inb_of Sz8 ⟨by decide, by decide⟩
      refine own_go (x' := T7.setTop (mkF m 27 #[.val (.ref ao0), .val (.int p1), .val (.int p2), .val (.int (1 : Int32)), .val (.int p2)] [.null])) (X7.aaload hx (j := (1 : Int32)) (v := .null) (Eq.trans (congrArg (fun h_ => h_[_]?) e7) Ar8.1) (State.isArrayOf_alike hZ.alike Ar8.2.1) rfl Ar8.2.2 hin8 (Hh8.at hin8 rfl) (g := (mkF m 26 #[.val (.ref ao0), .val (.int p1), .val (.int p2), .val (.int (1 : Int32)), .val (.int p2)] [(.int (1 : Int32)), (.ref ar)])) rfl rfl (hb hby d3_26)) ?_
      refine own_go (x' := T7.setTop (mkF m 43 #[.val (.ref ao0), .val (.int p1), .val (.int p2), .val (.int (1 : Int32)), .val (.int p2)] [(.ref ao0)])) (fun _ k => XS.ifnullYes X7.here hx rfl (pc0 := 27) (pc' := 42) rfl (hb hby d3_27) rfl (by decide) (by decide) (XS.aloadN X7.here hx rfl (hb hby d3_42) rfl rfl k)) ?_
      obtain ⟨T9, X9, e9, st9⟩ := getF X7 hx hZ hown (host := "") (Or.inl (own_w hw 11 rfl)) Via.refl e7 F_ao0_bytes (g := (mkF m 43 #[.val (.ref ao0), .val (.int p1), .val (.int p2), .val (.int (1 : Int32)), .val (.int p2)] [(.ref ao0)])) rfl rfl (hb hby d3_43)
      refine own_go (x' := T9.setTop (mkF m 46 #[.val (.ref ao0), .val (.int p1), .val (.int p2), .val (.int (1 : Int32)), .val (.int p2)] [(.ref ar)])) st9 ?_
      refine own_go (x' := T9.setTop (mkF m 49 #[.val (.ref ao0), .val (.int p1), .val (.int p2), .val (.int (1 : Int32)), .val (.int p2)] [(.int p2), (.int (1 : Int32)), (.ref ar)])) (fun _ k => XS.iloadN X9.here hx rfl (hb hby d3_46) rfl (XS.iload X9.here hx rfl (hb hby d3_47) rfl k)) ?_
      obtain ⟨T10, h10, k10, X10, e10, E10, A10, Q10, st10⟩ := newPE X9 hx hZ (own_w hw 29 rfl) e9 (g := (mkF m 49 #[.val (.ref ao0), .val (.int p1), .val (.int p2), .val (.int (1 : Int32)), .val (.int p2)] [(.int p2), (.int (1 : Int32)), (.ref ar)])) rfl (hb hby d3_49) rfl hs.1 (cap := 16383) hs.2 (by decide) (by decide) (by decide) (ad := "[B") (by decide)
      obtain ⟨b10, g10⟩ : ∃ z, z = h5.size := ⟨_, rfl⟩
      rw [← g10] at A10 st10
      rw [← g10] at Q10
      have ne_ao0_b10 : ao0 ≠ b10 := Nat.ne_of_lt (Nat.lt_of_lt_of_le F_ao0_bytes.lt (Nat.le_of_eq g10.symm))
      have ne_b4_b10 : b4 ≠ b10 := Nat.ne_of_lt (Nat.lt_of_lt_of_le E_b4.lt (Nat.le_of_eq g10.symm))
      have ne_ar_b10 : ar ≠ b10 := Nat.ne_of_lt (Nat.lt_of_lt_of_le V_ar.lt (Nat.le_of_eq g10.symm))
      have g_b10 : n0 ≤ b10 := Nat.le_trans Zs (Nat.le_of_eq g10.symm)
      have sz_b10 : h0.size ≤ b10 := Nat.le_trans Kp.1 (Nat.le_of_eq g10.symm)
      replace F_ao0_bytes := Fld.ext E10 F_ao0_bytes
      replace E_b4 := Exa.ext E10 E_b4
      replace V_b4 := V_b4.ext E10
      replace V_ar := V_ar.ext E10
      replace Zs := Nat.le_trans Zs E10.1
      replace Kp := Kp.ext E10
      have E_b10 := Q10
      have V_b10 : Arv Z h10 b10 k10 .byte p2 [] (.int (0 : Int32)) := Arv.new A10 hs.1
      refine own_go (x' := T10.setTop (mkF m 51 #[.val (.ref ao0), .val (.int p1), .val (.int p2), .val (.int (1 : Int32)), .val (.int p2)] [(.ref b10), (.int (1 : Int32)), (.ref ar)])) st10 ?_
      obtain ⟨cl11, Ar11, q11, Sz11, Nn11, Hh11, Gg11⟩ := V_ar
      have hin11 : ¬ ((1 : Int32) < 0 ∨ cl11.slots.size ≤ ((1 : Int32)).toNatClampNeg) := inb_of Sz11 ⟨by decide, by decide⟩
      obtain ⟨T11, h11, X11, e11, W11, st11⟩ := stR X10 hx hZ e10 Ar11 (j := (1 : Int32)) hin11 rfl (Sto.ofVA Ar11 q11 O_ar (Ins.self E_b10)) (g := (mkF m 51 #[.val (.ref ao0), .val (.int p1), .val (.int p2), .val (.int (1 : Int32)), .val (.int p2)] [(.ref b10), (.int (1 : Int32)), (.ref ar)])) rfl rfl (hb hby d3_51)
      refine own_go (x' := T11.setTop (mkF m 52 #[.val (.ref ao0), .val (.int p1), .val (.int p2), .val (.int (1 : Int32)), .val (.int p2)] [])) st11 ?_
      replace F_ao0_bytes := Fld.other W11 F_ao0_bytes (Or.inl ne_ao0_ar)
      replace E_b4 := Exa.wr W11 E_b4
      replace V_b4 := V_b4.other W11 (Ne.symm ne_ar_b4)
      replace E_b10 := Exa.wr W11 E_b10
      replace V_b10 := V_b10.other W11 (Ne.symm ne_ar_b10)
      replace Zs := Nat.le_trans Zs (Keep.of_wr W11).1
      replace Nf := Fr.snoc X11 Nf g_ar
      replace Kp := Kp.wr W11 (Or.inl (by simp))
      have V_ar : Arv Z h11 ar kc (.array .byte) (4 : Int32) [(.ref b4), (.ref b10), .null, .null] .null := Arv.set Ar11 q11 Sz11 Nn11 Hh11 Gg11 rfl W11 1 rfl (Nat.le_of_ble_eq_true rfl)
      refine own_go (x' := T11.setTop (mkF m 2 #[.val (.ref ao0), .val (.int p1), .val (.int p2), .val (.int ((1 : Int32) + (1 : Int32))), .val (.int p2)] [])) (fun _ k => XS.iinc X11.here hx rfl (hb hby d3_52) rfl (l' := #[.val (.ref ao0), .val (.int p1), .val (.int p2), .val (.int ((1 : Int32) + (1 : Int32))), .val (.int p2)]) rfl (XS.goto X11.here hx rfl (pc0 := 55) (pc' := 2) rfl (hb hby d3_55) (by decide) (by decide) k)) ?_
      rw [show ((1 : Int32) + (1 : Int32)) = (2 : Int32) from by decide +kernel]
      refine own_go (x' := T11.setTop (mkF m 4 #[.val (.ref ao0), .val (.int p1), .val (.int p2), .val (.int (2 : Int32)), .val (.int p2)] [(.int p1), (.int (2 : Int32))])) (fun _ k => XS.iloadN X11.here hx rfl (hb hby d3_2) rfl (XS.iloadN X11.here hx rfl (hb hby d3_3) rfl k)) ?_
      by_cases hc4_12 : (2 : Int32) < p1
      · refine own_go (x' := T11.setTop (mkF m 22 #[.val (.ref ao0), .val (.int p1), .val (.int p2), .val (.int (2 : Int32)), .val (.int p2)] [(.ref ao0)])) (fun _ k => XS.icmpNo X11.here hx rfl (hb hby d3_4) rfl (tlt hc4_12).2.1 (XS.iloadN X11.here hx rfl (hb hby d3_7) rfl (XS.ifYes X11.here hx rfl (pc0 := 8) (pc' := 18) rfl (hb hby d3_8) rfl ((if0 _ _).trans (feq (by decide +kernel : ¬ ((2 : Int32) = (0 : Int32)))).2) (by decide) (by decide) (XS.iloadN X11.here hx rfl (hb hby d3_18) rfl (XS.istore X11.here hx rfl (hb hby d3_19) rfl (l' := #[.val (.ref ao0), .val (.int p1), .val (.int p2), .val (.int (2 : Int32)), .val (.int p2)]) rfl (XS.aloadN X11.here hx rfl (hb hby d3_21) rfl rfl k)))))) ?_
        obtain ⟨T13, X13, e13, st13⟩ := getF X11 hx hZ hown (host := "") (Or.inl (own_w hw 11 rfl)) Via.refl e11 F_ao0_bytes (g := (mkF m 22 #[.val (.ref ao0), .val (.int p1), .val (.int p2), .val (.int (2 : Int32)), .val (.int p2)] [(.ref ao0)])) rfl rfl (hb hby d3_22)
        refine own_go (x' := T13.setTop (mkF m 25 #[.val (.ref ao0), .val (.int p1), .val (.int p2), .val (.int (2 : Int32)), .val (.int p2)] [(.ref ar)])) st13 ?_
        refine own_go (x' := T13.setTop (mkF m 26 #[.val (.ref ao0), .val (.int p1), .val (.int p2), .val (.int (2 : Int32)), .val (.int p2)] [(.int (2 : Int32)), (.ref ar)])) (fun _ k => XS.iloadN X13.here hx rfl (hb hby d3_25) rfl k) ?_
        obtain ⟨cl14, Ar14, q14, Sz14, Nn14, Hh14, Gg14⟩ := id V_ar
        have hin14 : ¬ ((2 : Int32) < 0 ∨ cl14.slots.size ≤ ((2 : Int32)).toNatClampNeg) := inb_of Sz14 ⟨by decide, by decide⟩
        refine own_go (x' := T13.setTop (mkF m 27 #[.val (.ref ao0), .val (.int p1), .val (.int p2), .val (.int (2 : Int32)), .val (.int p2)] [.null])) (X13.aaload hx (j := (2 : Int32)) (v := .null) (Eq.trans (congrArg (fun h_ => h_[_]?) e13) Ar14.1) (State.isArrayOf_alike hZ.alike Ar14.2.1) rfl Ar14.2.2 hin14 (Hh14.at hin14 rfl) (g := (mkF m 26 #[.val (.ref ao0), .val (.int p1), .val (.int p2), .val (.int (2 : Int32)), .val (.int p2)] [(.int (2 : Int32)), (.ref ar)])) rfl rfl (hb hby d3_26)) ?_
        refine own_go (x' := T13.setTop (mkF m 43 #[.val (.ref ao0), .val (.int p1), .val (.int p2), .val (.int (2 : Int32)), .val (.int p2)] [(.ref ao0)])) (fun _ k => XS.ifnullYes X13.here hx rfl (pc0 := 27) (pc' := 42) rfl (hb hby d3_27) rfl (by decide) (by decide) (XS.aloadN X13.here hx rfl (hb hby d3_42) rfl rfl k)) ?_
        obtain ⟨T15, X15, e15, st15⟩ := getF X13 hx hZ hown (host := "") (Or.inl (own_w hw 11 rfl)) Via.refl e13 F_ao0_bytes (g := (mkF m 43 #[.val (.ref ao0), .val (.int p1), .val (.int p2), .val (.int (2 : Int32)), .val (.int p2)] [(.ref ao0)])) rfl rfl (hb hby d3_43)
        refine own_go (x' := T15.setTop (mkF m 46 #[.val (.ref ao0), .val (.int p1), .val (.int p2), .val (.int (2 : Int32)), .val (.int p2)] [(.ref ar)])) st15 ?_
        refine own_go (x' := T15.setTop (mkF m 49 #[.val (.ref ao0), .val (.int p1), .val (.int p2), .val (.int (2 : Int32)), .val (.int p2)] [(.int p2), (.int (2 : Int32)), (.ref ar)])) (fun _ k => XS.iloadN X15.here hx rfl (hb hby d3_46) rfl (XS.iload X15.here hx rfl (hb hby d3_47) rfl k)) ?_
        obtain ⟨T16, h16, k16, X16, e16, E16, A16, Q16, st16⟩ := newPE X15 hx hZ (own_w hw 29 rfl) e15 (g := (mkF m 49 #[.val (.ref ao0), .val (.int p1), .val (.int p2), .val (.int (2 : Int32)), .val (.int p2)] [(.int p2), (.int (2 : Int32)), (.ref ar)])) rfl (hb hby d3_49) rfl hs.1 (cap := 16383) hs.2 (by decide) (by decide) (by decide) (ad := "[B") (by decide)
        obtain ⟨b16, g16⟩ : ∃ z, z = h11.size := ⟨_, rfl⟩
        rw [← g16] at A16 st16
        rw [← g16] at Q16
        have ne_ao0_b16 : ao0 ≠ b16 := Nat.ne_of_lt (Nat.lt_of_lt_of_le F_ao0_bytes.lt (Nat.le_of_eq g16.symm))
        have ne_b4_b16 : b4 ≠ b16 := Nat.ne_of_lt (Nat.lt_of_lt_of_le E_b4.lt (Nat.le_of_eq g16.symm))
        have ne_b10_b16 : b10 ≠ b16 := Nat.ne_of_lt (Nat.lt_of_lt_of_le E_b10.lt (Nat.le_of_eq g16.symm))
        have ne_ar_b16 : ar ≠ b16 := Nat.ne_of_lt (Nat.lt_of_lt_of_le V_ar.lt (Nat.le_of_eq g16.symm))
        have g_b16 : n0 ≤ b16 := Nat.le_trans Zs (Nat.le_of_eq g16.symm)
        have sz_b16 : h0.size ≤ b16 := Nat.le_trans Kp.1 (Nat.le_of_eq g16.symm)
        replace F_ao0_bytes := Fld.ext E16 F_ao0_bytes
        replace E_b4 := Exa.ext E16 E_b4
        replace V_b4 := V_b4.ext E16
        replace E_b10 := Exa.ext E16 E_b10
        replace V_b10 := V_b10.ext E16
        replace V_ar := V_ar.ext E16
        replace Zs := Nat.le_trans Zs E16.1
        replace Kp := Kp.ext E16
        have E_b16 := Q16
        have V_b16 : Arv Z h16 b16 k16 .byte p2 [] (.int (0 : Int32)) := Arv.new A16 hs.1
        refine own_go (x' := T16.setTop (mkF m 51 #[.val (.ref ao0), .val (.int p1), .val (.int p2), .val (.int (2 : Int32)), .val (.int p2)] [(.ref b16), (.int (2 : Int32)), (.ref ar)])) st16 ?_
        obtain ⟨cl17, Ar17, q17, Sz17, Nn17, Hh17, Gg17⟩ := V_ar
        have hin17 : ¬ ((2 : Int32) < 0 ∨ cl17.slots.size ≤ ((2 : Int32)).toNatClampNeg) := inb_of Sz17 ⟨by decide, by decide⟩
        obtain ⟨T17, h17, X17, e17, W17, st17⟩ := stR X16 hx hZ e16 Ar17 (j := (2 : Int32)) hin17 rfl (Sto.ofVA Ar17 q17 O_ar (Ins.self E_b16)) (g := (mkF m 51 #[.val (.ref ao0), .val (.int p1), .val (.int p2), .val (.int (2 : Int32)), .val (.int p2)] [(.ref b16), (.int (2 : Int32)), (.ref ar)])) rfl rfl (hb hby d3_51)
        refine own_go (x' := T17.setTop (mkF m 52 #[.val (.ref ao0), .val (.int p1), .val (.int p2), .val (.int (2 : Int32)), .val (.int p2)] [])) st17 ?_
        replace F_ao0_bytes := Fld.other W17 F_ao0_bytes (Or.inl ne_ao0_ar)
        replace E_b4 := Exa.wr W17 E_b4
        replace V_b4 := V_b4.other W17 (Ne.symm ne_ar_b4)
        replace E_b10 := Exa.wr W17 E_b10
        replace V_b10 := V_b10.other W17 (Ne.symm ne_ar_b10)
        replace E_b16 := Exa.wr W17 E_b16
        replace V_b16 := V_b16.other W17 (Ne.symm ne_ar_b16)
        replace Zs := Nat.le_trans Zs (Keep.of_wr W17).1
        replace Nf := Fr.snoc X17 Nf g_ar
        replace Kp := Kp.wr W17 (Or.inl (by simp))
        have V_ar : Arv Z h17 ar kc (.array .byte) (4 : Int32) [(.ref b4), (.ref b10), (.ref b16), .null] .null := Arv.set Ar17 q17 Sz17 Nn17 Hh17 Gg17 rfl W17 2 rfl (Nat.le_of_ble_eq_true rfl)
        refine own_go (x' := T17.setTop (mkF m 2 #[.val (.ref ao0), .val (.int p1), .val (.int p2), .val (.int ((2 : Int32) + (1 : Int32))), .val (.int p2)] [])) (fun _ k => XS.iinc X17.here hx rfl (hb hby d3_52) rfl (l' := #[.val (.ref ao0), .val (.int p1), .val (.int p2), .val (.int ((2 : Int32) + (1 : Int32))), .val (.int p2)]) rfl (XS.goto X17.here hx rfl (pc0 := 55) (pc' := 2) rfl (hb hby d3_55) (by decide) (by decide) k)) ?_
        rw [show ((2 : Int32) + (1 : Int32)) = (3 : Int32) from by decide +kernel]
        refine own_go (x' := T17.setTop (mkF m 4 #[.val (.ref ao0), .val (.int p1), .val (.int p2), .val (.int (3 : Int32)), .val (.int p2)] [(.int p1), (.int (3 : Int32))])) (fun _ k => XS.iloadN X17.here hx rfl (hb hby d3_2) rfl (XS.iloadN X17.here hx rfl (hb hby d3_3) rfl k)) ?_
        by_cases hc4_18 : (3 : Int32) < p1
        · refine own_go (x' := T17.setTop (mkF m 22 #[.val (.ref ao0), .val (.int p1), .val (.int p2), .val (.int (3 : Int32)), .val (.int p2)] [(.ref ao0)])) (fun _ k => XS.icmpNo X17.here hx rfl (hb hby d3_4) rfl (tlt hc4_18).2.1 (XS.iloadN X17.here hx rfl (hb hby d3_7) rfl (XS.ifYes X17.here hx rfl (pc0 := 8) (pc' := 18) rfl (hb hby d3_8) rfl ((if0 _ _).trans (feq (by decide +kernel : ¬ ((3 : Int32) = (0 : Int32)))).2) (by decide) (by decide) (XS.iloadN X17.here hx rfl (hb hby d3_18) rfl (XS.istore X17.here hx rfl (hb hby d3_19) rfl (l' := #[.val (.ref ao0), .val (.int p1), .val (.int p2), .val (.int (3 : Int32)), .val (.int p2)]) rfl (XS.aloadN X17.here hx rfl (hb hby d3_21) rfl rfl k)))))) ?_
          obtain ⟨T19, X19, e19, st19⟩ := getF X17 hx hZ hown (host := "") (Or.inl (own_w hw 11 rfl)) Via.refl e17 F_ao0_bytes (g := (mkF m 22 #[.val (.ref ao0), .val (.int p1), .val (.int p2), .val (.int (3 : Int32)), .val (.int p2)] [(.ref ao0)])) rfl rfl (hb hby d3_22)
          refine own_go (x' := T19.setTop (mkF m 25 #[.val (.ref ao0), .val (.int p1), .val (.int p2), .val (.int (3 : Int32)), .val (.int p2)] [(.ref ar)])) st19 ?_
          refine own_go (x' := T19.setTop (mkF m 26 #[.val (.ref ao0), .val (.int p1), .val (.int p2), .val (.int (3 : Int32)), .val (.int p2)] [(.int (3 : Int32)), (.ref ar)])) (fun _ k => XS.iloadN X19.here hx rfl (hb hby d3_25) rfl k) ?_
          obtain ⟨cl20, Ar20, q20, Sz20, Nn20, Hh20, Gg20⟩ := id V_ar
          have hin20 : ¬ ((3 : Int32) < 0 ∨ cl20.slots.size ≤ ((3 : Int32)).toNatClampNeg) := inb_of Sz20 ⟨by decide, by decide⟩
          refine own_go (x' := T19.setTop (mkF m 27 #[.val (.ref ao0), .val (.int p1), .val (.int p2), .val (.int (3 : Int32)), .val (.int p2)] [.null])) (X19.aaload hx (j := (3 : Int32)) (v := .null) (Eq.trans (congrArg (fun h_ => h_[_]?) e19) Ar20.1) (State.isArrayOf_alike hZ.alike Ar20.2.1) rfl Ar20.2.2 hin20 (Hh20.at hin20 rfl) (g := (mkF m 26 #[.val (.ref ao0), .val (.int p1), .val (.int p2), .val (.int (3 : Int32)), .val (.int p2)] [(.int (3 : Int32)), (.ref ar)])) rfl rfl (hb hby d3_26)) ?_
          refine own_go (x' := T19.setTop (mkF m 43 #[.val (.ref ao0), .val (.int p1), .val (.int p2), .val (.int (3 : Int32)), .val (.int p2)] [(.ref ao0)])) (fun _ k => XS.ifnullYes X19.here hx rfl (pc0 := 27) (pc' := 42) rfl (hb hby d3_27) rfl (by decide) (by decide) (XS.aloadN X19.here hx rfl (hb hby d3_42) rfl rfl k)) ?_
          obtain ⟨T21, X21, e21, st21⟩ := getF X19 hx hZ hown (host := "") (Or.inl (own_w hw 11 rfl)) Via.refl e19 F_ao0_bytes (g := (mkF m 43 #[.val (.ref ao0), .val (.int p1), .val (.int p2), .val (.int (3 : Int32)), .val (.int p2)] [(.ref ao0)])) rfl rfl (hb hby d3_43)
          refine own_go (x' := T21.setTop (mkF m 46 #[.val (.ref ao0), .val (.int p1), .val (.int p2), .val (.int (3 : Int32)), .val (.int p2)] [(.ref ar)])) st21 ?_
          refine own_go (x' := T21.setTop (mkF m 49 #[.val (.ref ao0), .val (.int p1), .val (.int p2), .val (.int (3 : Int32)), .val (.int p2)] [(.int p2), (.int (3 : Int32)), (.ref ar)])) (fun _ k => XS.iloadN X21.here hx rfl (hb hby d3_46) rfl (XS.iload X21.here hx rfl (hb hby d3_47) rfl k)) ?_
          obtain ⟨T22, h22, k22, X22, e22, E22, A22, Q22, st22⟩ := newPE X21 hx hZ (own_w hw 29 rfl) e21 (g := (mkF m 49 #[.val (.ref ao0), .val (.int p1), .val (.int p2), .val (.int (3 : Int32)), .val (.int p2)] [(.int p2), (.int (3 : Int32)), (.ref ar)])) rfl (hb hby d3_49) rfl hs.1 (cap := 16383) hs.2 (by decide) (by decide) (by decide) (ad := "[B") (by decide)
          obtain ⟨b22, g22⟩ : ∃ z, z = h17.size := ⟨_, rfl⟩
          rw [← g22] at A22 st22
          rw [← g22] at Q22
          have ne_ao0_b22 : ao0 ≠ b22 := Nat.ne_of_lt (Nat.lt_of_lt_of_le F_ao0_bytes.lt (Nat.le_of_eq g22.symm))
          have ne_b4_b22 : b4 ≠ b22 := Nat.ne_of_lt (Nat.lt_of_lt_of_le E_b4.lt (Nat.le_of_eq g22.symm))
          have ne_b10_b22 : b10 ≠ b22 := Nat.ne_of_lt (Nat.lt_of_lt_of_le E_b10.lt (Nat.le_of_eq g22.symm))
          have ne_b16_b22 : b16 ≠ b22 := Nat.ne_of_lt (Nat.lt_of_lt_of_le E_b16.lt (Nat.le_of_eq g22.symm))
          have ne_ar_b22 : ar ≠ b22 := Nat.ne_of_lt (Nat.lt_of_lt_of_le V_ar.lt (Nat.le_of_eq g22.symm))
          have g_b22 : n0 ≤ b22 := Nat.le_trans Zs (Nat.le_of_eq g22.symm)
          have sz_b22 : h0.size ≤ b22 := Nat.le_trans Kp.1 (Nat.le_of_eq g22.symm)
          replace F_ao0_bytes := Fld.ext E22 F_ao0_bytes
          replace E_b4 := Exa.ext E22 E_b4
          replace V_b4 := V_b4.ext E22
          replace E_b10 := Exa.ext E22 E_b10
          replace V_b10 := V_b10.ext E22
          replace E_b16 := Exa.ext E22 E_b16
          replace V_b16 := V_b16.ext E22
          replace V_ar := V_ar.ext E22
          replace Zs := Nat.le_trans Zs E22.1
          replace Kp := Kp.ext E22
          have E_b22 := Q22
          have V_b22 : Arv Z h22 b22 k22 .byte p2 [] (.int (0 : Int32)) := Arv.new A22 hs.1
          refine own_go (x' := T22.setTop (mkF m 51 #[.val (.ref ao0), .val (.int p1), .val (.int p2), .val (.int (3 : Int32)), .val (.int p2)] [(.ref b22), (.int (3 : Int32)), (.ref ar)])) st22 ?_
          obtain ⟨cl23, Ar23, q23, Sz23, Nn23, Hh23, Gg23⟩ := V_ar
          have hin23 : ¬ ((3 : Int32) < 0 ∨ cl23.slots.size ≤ ((3 : Int32)).toNatClampNeg) := inb_of Sz23 ⟨by decide, by decide⟩
          obtain ⟨T23, h23, X23, e23, W23, st23⟩ := stR X22 hx hZ e22 Ar23 (j := (3 : Int32)) hin23 rfl (Sto.ofVA Ar23 q23 O_ar (Ins.self E_b22)) (g := (mkF m 51 #[.val (.ref ao0), .val (.int p1), .val (.int p2), .val (.int (3 : Int32)), .val (.int p2)] [(.ref b22), (.int (3 : Int32)), (.ref ar)])) rfl rfl (hb hby d3_51)
          refine own_go (x' := T23.setTop (mkF m 52 #[.val (.ref ao0), .val (.int p1), .val (.int p2), .val (.int (3 : Int32)), .val (.int p2)] [])) st23 ?_
          replace F_ao0_bytes := Fld.other W23 F_ao0_bytes (Or.inl ne_ao0_ar)
          replace E_b4 := Exa.wr W23 E_b4
          replace V_b4 := V_b4.other W23 (Ne.symm ne_ar_b4)
          replace E_b10 := Exa.wr W23 E_b10
          replace V_b10 := V_b10.other W23 (Ne.symm ne_ar_b10)
          replace E_b16 := Exa.wr W23 E_b16
          replace V_b16 := V_b16.other W23 (Ne.symm ne_ar_b16)
          replace E_b22 := Exa.wr W23 E_b22
          replace V_b22 := V_b22.other W23 (Ne.symm ne_ar_b22)
          replace Zs := Nat.le_trans Zs (Keep.of_wr W23).1
          replace Nf := Fr.snoc X23 Nf g_ar
          replace Kp := Kp.wr W23 (Or.inl (by simp))
          have V_ar : Arv Z h23 ar kc (.array .byte) (4 : Int32) [(.ref b4), (.ref b10), (.ref b16), (.ref b22)] .null := Arv.set Ar23 q23 Sz23 Nn23 Hh23 Gg23 rfl W23 3 rfl (Nat.le_of_ble_eq_true rfl)
          refine own_go (x' := T23.setTop (mkF m 2 #[.val (.ref ao0), .val (.int p1), .val (.int p2), .val (.int ((3 : Int32) + (1 : Int32))), .val (.int p2)] [])) (fun _ k => XS.iinc X23.here hx rfl (hb hby d3_52) rfl (l' := #[.val (.ref ao0), .val (.int p1), .val (.int p2), .val (.int ((3 : Int32) + (1 : Int32))), .val (.int p2)]) rfl (XS.goto X23.here hx rfl (pc0 := 55) (pc' := 2) rfl (hb hby d3_55) (by decide) (by decide) k)) ?_
          rw [show ((3 : Int32) + (1 : Int32)) = (4 : Int32) from by decide +kernel]
          refine own_go (x' := T23.setTop (mkF m 59 #[.val (.ref ao0), .val (.int p1), .val (.int p2), .val (.int (4 : Int32)), .val (.int p2)] [(.ref ao0)])) (fun _ k => XS.iloadN X23.here hx rfl (hb hby d3_2) rfl (XS.iloadN X23.here hx rfl (hb hby d3_3) rfl (XS.icmpYes X23.here hx rfl (pc0 := 4) (pc' := 58) rfl (hb hby d3_4) rfl (flt hu).2.1 (by decide) (by decide) (XS.aloadN X23.here hx rfl (hb hby d3_58) rfl rfl k)))) ?_
          obtain ⟨T24, X24, e24, st24⟩ := getF X23 hx hZ hown (host := "") (Or.inl (own_w hw 11 rfl)) Via.refl e23 F_ao0_bytes (g := (mkF m 59 #[.val (.ref ao0), .val (.int p1), .val (.int p2), .val (.int (4 : Int32)), .val (.int p2)] [(.ref ao0)])) rfl rfl (hb hby d3_59)
          refine own_go (x' := T24.setTop (mkF m 62 #[.val (.ref ao0), .val (.int p1), .val (.int p2), .val (.int (4 : Int32)), .val (.int p2)] [(.ref ar)])) st24 ?_
          refine own_retR X24 hx hlk hret rfl rfl (hb hby d3_62) ?_ (by decide) (by decide)
          rw [e24]
          exact ⟨(.ref b4), (.ref b10), (.ref b16), (.ref b22), rfl, Nf, Kp, V_ar, Or.inr ⟨b4, k4, rfl, V_b4, hc4⟩, Or.inr ⟨b10, k10, rfl, V_b10, hc4_6⟩, Or.inr ⟨b16, k16, rfl, V_b16, hc4_12⟩, Or.inr ⟨b22, k22, rfl, V_b22, hc4_18⟩⟩
        · refine own_go (x' := T17.setTop (mkF m 59 #[.val (.ref ao0), .val (.int p1), .val (.int p2), .val (.int (3 : Int32)), .val (.int p2)] [(.ref ao0)])) (fun _ k => XS.icmpYes X17.here hx rfl (pc0 := 4) (pc' := 58) rfl (hb hby d3_4) rfl (flt hc4_18).2.1 (by decide) (by decide) (XS.aloadN X17.here hx rfl (hb hby d3_58) rfl rfl k)) ?_
          obtain ⟨T25, X25, e25, st25⟩ := getF X17 hx hZ hown (host := "") (Or.inl (own_w hw 11 rfl)) Via.refl e17 F_ao0_bytes (g := (mkF m 59 #[.val (.ref ao0), .val (.int p1), .val (.int p2), .val (.int (3 : Int32)), .val (.int p2)] [(.ref ao0)])) rfl rfl (hb hby d3_59)
          refine own_go (x' := T25.setTop (mkF m 62 #[.val (.ref ao0), .val (.int p1), .val (.int p2), .val (.int (3 : Int32)), .val (.int p2)] [(.ref ar)])) st25 ?_
          refine own_retR X25 hx hlk hret rfl rfl (hb hby d3_62) ?_ (by decide) (by decide)
          rw [e25]
          exact ⟨(.ref b4), (.ref b10), (.ref b16), .null, rfl, Nf, Kp, V_ar, Or.inr ⟨b4, k4, rfl, V_b4, hc4⟩, Or.inr ⟨b10, k10, rfl, V_b10, hc4_6⟩, Or.inr ⟨b16, k16, rfl, V_b16, hc4_12⟩, Or.inl ⟨rfl, hc4_18⟩⟩
      · refine own_go (x' := T11.setTop (mkF m 59 #[.val (.ref ao0), .val (.int p1), .val (.int p2), .val (.int (2 : Int32)), .val (.int p2)] [(.ref ao0)])) (fun _ k => XS.icmpYes X11.here hx rfl (pc0 := 4) (pc' := 58) rfl (hb hby d3_4) rfl (flt hc4_12).2.1 (by decide) (by decide) (XS.aloadN X11.here hx rfl (hb hby d3_58) rfl rfl k)) ?_
        obtain ⟨T26, X26, e26, st26⟩ := getF X11 hx hZ hown (host := "") (Or.inl (own_w hw 11 rfl)) Via.refl e11 F_ao0_bytes (g := (mkF m 59 #[.val (.ref ao0), .val (.int p1), .val (.int p2), .val (.int (2 : Int32)), .val (.int p2)] [(.ref ao0)])) rfl rfl (hb hby d3_59)
        refine own_go (x' := T26.setTop (mkF m 62 #[.val (.ref ao0), .val (.int p1), .val (.int p2), .val (.int (2 : Int32)), .val (.int p2)] [(.ref ar)])) st26 ?_
        refine own_retR X26 hx hlk hret rfl rfl (hb hby d3_62) ?_ (by decide) (by decide)
        rw [e26]
        exact ⟨(.ref b4), (.ref b10), .null, .null, rfl, Nf, Kp, V_ar, Or.inr ⟨b4, k4, rfl, V_b4, hc4⟩, Or.inr ⟨b10, k10, rfl, V_b10, hc4_6⟩, Or.inl ⟨rfl, hc4_12⟩, Or.inl ⟨rfl, (own_le hc4_12 (by decide))⟩⟩
    · refine own_go (x' := T5.setTop (mkF m 59 #[.val (.ref ao0), .val (.int p1), .val (.int p2), .val (.int (1 : Int32)), .val (.int (p2 + (64 : Int32)))] [(.ref ao0)])) (fun _ k => XS.icmpYes X5.here hx rfl (pc0 := 4) (pc' := 58) rfl (hb hby d3_4) rfl (flt hc4_6).2.1 (by decide) (by decide) (XS.aloadN X5.here hx rfl (hb hby d3_58) rfl rfl k)) ?_
      obtain ⟨T27, X27, e27, st27⟩ := getF X5 hx hZ hown (host := "") (Or.inl (own_w hw 11 rfl)) Via.refl e5 F_ao0_bytes (g := (mkF m 59 #[.val (.ref ao0), .val (.int p1), .val (.int p2), .val (.int (1 : Int32)), .val (.int (p2 + (64 : Int32)))] [(.ref ao0)])) rfl rfl (hb hby d3_59)
      refine own_go (x' := T27.setTop (mkF m 62 #[.val (.ref ao0), .val (.int p1), .val (.int p2), .val (.int (1 : Int32)), .val (.int (p2 + (64 : Int32)))] [(.ref ar)])) st27 ?_
      refine own_retR X27 hx hlk hret rfl rfl (hb hby d3_62) ?_ (by decide) (by decide)
      rw [e27]
      exact ⟨(.ref b4), .null, .null, .null, rfl, Nf, Kp, V_ar, Or.inr ⟨b4, k4, rfl, V_b4, hc4⟩, Or.inl ⟨rfl, hc4_6⟩, Or.inl ⟨rfl, (own_le hc4_6 (by decide))⟩, Or.inl ⟨rfl, (own_le hc4_6 (by decide))⟩⟩
  · refine own_go (x' := s₁.setTop (mkF m 59 #[.val (.ref ao0), .val (.int p1), .val (.int p2), .val (.int (0 : Int32)), .unset] [(.ref ao0)])) (fun _ k => XS.icmpYes X0.here hx rfl (pc0 := 4) (pc' := 58) rfl (hb hby d3_4) rfl (flt hc4).2.1 (by decide) (by decide) (XS.aloadN X0.here hx rfl (hb hby d3_58) rfl rfl k)) ?_
    obtain ⟨T28, X28, e28, st28⟩ := getF X0 hx hZ hown (host := "") (Or.inl (own_w hw 11 rfl)) Via.refl e0 F_ao0_bytes (g := (mkF m 59 #[.val (.ref ao0), .val (.int p1), .val (.int p2), .val (.int (0 : Int32)), .unset] [(.ref ao0)])) rfl rfl (hb hby d3_59)
    refine own_go (x' := T28.setTop (mkF m 62 #[.val (.ref ao0), .val (.int p1), .val (.int p2), .val (.int (0 : Int32)), .unset] [(.ref ar)])) st28 ?_
    refine own_retR X28 hx hlk hret rfl rfl (hb hby d3_62) ?_ (by decide) (by decide)
    rw [e28]
    exact ⟨.null, .null, .null, .null, rfl, Nf, Kp, V_ar, Or.inl ⟨rfl, hc4⟩, Or.inl ⟨rfl, (own_le hc4 (by decide))⟩, Or.inl ⟨rfl, (own_le hc4 (by decide))⟩, Or.inl ⟨rfl, (own_le hc4 (by decide))⟩⟩
theorem d3_30 : decode prog_20_method_2_code 30 = .ok (.aload_n 0, 1) := by decide +kernel
theorem d3_31 : decode prog_20_method_2_code 31 = .ok (.getfield 11, 3) := by decide +kernel
theorem d3_34 : decode prog_20_method_2_code 34 = .ok (.iload_n 3, 1) := by decide +kernel
theorem d3_35 : decode prog_20_method_2_code 35 = .ok (.aaload, 1) := by decide +kernel
theorem d3_36 : decode prog_20_method_2_code 36 = .ok (.arraylength, 1) := by decide +kernel
theorem d3_37 : decode prog_20_method_2_code 37 = .ok (.iload 4, 2) := by decide +kernel
theorem d3_39 : decode prog_20_method_2_code 39 = .ok (.if_icmp .ge 13, 3) := by decide +kernel
def Q_rmS_1 (Z : State) (ao0 : Addr) (p1 : Int32) (p2 : Int32) (ar : Addr) (kc : ClassId) (nA n1 : Int32) (b0 : Addr) (k0 : ClassId) (h0 : Heap) (n0 : Nat) (v : Option Value) (h : Heap) (L : List Loc) : Prop := ∃ w0 w1 w2 w3 : Value, v = some (.ref ar) ∧ Fr n0 L ∧ Keep h0 h [ar] ∧ Arv Z h ar kc (.array .byte) (4 : Int32) [w0, w1, w2, w3] .null ∧ own_Rp Z h h0.size w0 b0 (0 : Int32) p1 nA (p2 + (64 : Int32)) ∧ own_Rn Z h w1 (1 : Int32) p1 p2 ∧ own_Rn Z h w2 (2 : Int32) p1 p2 ∧ own_Rn Z h w3 (3 : Int32) p1 p2
theorem pn_rmS_1 : plainName "com/example/wee_match/weematch/Sieve$Windows" = true := by first | (simp [plainName, overriddenIn]; done) | decide +kernel
theorem ef_rmS_1 (m : MethodId) (x0 : Addr) (x1 : Int32) (x2 : Int32) : entryFrame m #[(.ref x0), (.int x1), (.int x2)] 5 = mkF m 0 #[.val (.ref x0), .val (.int x1), .val (.int x2), .unset, .unset] [] := by first | (simp [entryFrame, mkF, argsToLocals, Value.category]; done) | rfl
set_option maxRecDepth 65536 in
set_option maxHeartbeats 40000000 in
theorem rmS_1 (l : Launch) (Z : State) (a0 : Array Value) (hw : ∀ d ∈ tables_1, d.before a0 Z = true) (ws : List Jvm.Cond) (ao0 : Addr) (p1 : Int32) (p2 : Int32) (ar : Addr) (kc : ClassId) (nA n1 : Int32) (b0 : Addr) (k0 : ClassId) (h0 : Heap) (n0 : Nat) (Z0 : n0 ≤ h0.size) (F_ao0_bytes : Fld Z h0 ao0 "com/example/wee_match/weematch/Sieve$Windows" "bytes" "[[B" (.ref ar)) (V_ar : Arv Z h0 ar kc (.array .byte) (4 : Int32) [.ref b0, .null, .null, .null] .null) (O_ar : OvrA Z kc .byte "[B") (ne_ao0_ar : ao0 ≠ ar) (g_ar : n0 ≤ ar) (hs : own_L p2 16383) (ht : own_L (p2 + (64 : Int32)) 16447) (hu : ¬ (4 : Int32) < p1) (V_b0 : Arv Z h0 b0 k0 .byte nA [] (.int (0 : Int32))) (ne_b0_ar : b0 ≠ ar) :
    MetFree l (⟨"com/example/wee_match/weematch/Sieve$Windows", "bytes", "(II)[[B"⟩ : MethodName) (head1 (Jvm.Cond.code (⟨"com/example/wee_match/weematch/Sieve$Windows", "bytes", "(II)[[B"⟩ : MethodName) prog_20_method_2_code 5 (some (.array (.array .byte))) :: ws) ({ frames := 0, cells := 4, slots := 65596, locals := 0 } : Room)) (fun a U => a = #[(.ref ao0), (.int p1), (.int p2)] ∧ Z.Warmed39 U.vm ∧ U.heap = h0) (fun _ _ _ _ _ => True) (fun _ U o U' => ∃ v L, o = .returned v ∧ (Q_rmS_1 Z ao0 p1 p2 ar kc nA n1 b0 k0 h0 n0) v U'.heap L ∧ FrameEnd U o U' L ({ frames := 0, cells := 4, slots := 65596, locals := 0 } : Room).cells ({ frames := 0, cells := 4, slots := 65596, locals := 0 } : Room).slots) := by
  refine MetFree.of_bodySF (plainFor_of_name pn_rmS_1) hisR ?_
  intro p e s m args below meth c s₁ Bd hml0 hP hK
  obtain ⟨rfl, hZ, hh⟩ := hP
  have hx := Bd.exec
  have hby := Bd.bytes
  have hlk := BodyLoose.notSynchronized Bd
  have hret := Bd.returns
  have hml : c.maxLocals = 5 := hml0
  have hown : s.vm.findClass "com/example/wee_match/weematch/Sieve$Windows" = some m.cls := findClass_of_methodNamed Bd.named
  have hnm := (name_of_methodNamed Bd.named Bd.method).1
  have X0 : Stand p l e ({ frames := 0, cells := 4, slots := 65596, locals := 0 } : Room) s m #[(.ref ao0), (.int p1), (.int p2)] below meth c s₁ [] 0 0 := Stand.of_body Bd
  have e0 : s₁.heap = h0 := by rw [← hh, Bd.state]; rfl
  have Nf := Fr.nil n0
  have Zs := Z0
  have Kp : Keep h0 h0 [ar] := Keep.refl _ _
  show own_End p e below s (Q_rmS_1 Z ao0 p1 p2 ar kc nA n1 b0 k0 h0 n0) ({ frames := 0, cells := 4, slots := 65596, locals := 0 } : Room).cells ({ frames := 0, cells := 4, slots := 65596, locals := 0 } : Room).slots (s₁.setTop (entryFrame m #[(.ref ao0), (.int p1), (.int p2)] 5))
  refine own_go (x' := s₁.setTop (mkF m 0 #[.val (.ref ao0), .val (.int p1), .val (.int p2), .unset, .unset] [])) (fun t k => castTop (ef_rmS_1 m ao0 p1 p2) k) ?_
  refine own_go (x' := s₁.setTop (mkF m 4 #[.val (.ref ao0), .val (.int p1), .val (.int p2), .val (.int (0 : Int32)), .unset] [(.int p1), (.int (0 : Int32))])) (fun _ k => XS.iconst X0.here hx rfl (hb hby d3_0) (XS.istoreN X0.here hx rfl (hb hby d3_1) rfl (l' := #[.val (.ref ao0), .val (.int p1), .val (.int p2), .val (.int (0 : Int32)), .unset]) rfl (XS.iloadN X0.here hx rfl (hb hby d3_2) rfl (XS.iloadN X0.here hx rfl (hb hby d3_3) rfl k)))) ?_
  by_cases hc4 : (0 : Int32) < p1
  · refine own_go (x' := s₁.setTop (mkF m 15 #[.val (.ref ao0), .val (.int p1), .val (.int p2), .val (.int (0 : Int32)), .unset] [(.int (p2 + (64 : Int32)))])) (fun _ k => XS.icmpNo X0.here hx rfl (hb hby d3_4) rfl (tlt hc4).2.1 (XS.iloadN X0.here hx rfl (hb hby d3_7) rfl (XS.ifNo X0.here hx rfl (hb hby d3_8) rfl ((if0 _ _).trans (teq rfl).2) (XS.iloadN X0.here hx rfl (hb hby d3_11) rfl (XS.bipush X0.here hx rfl (hb hby d3_12) (XS.iadd X0.here hx rfl (hb hby d3_14) rfl k)))))) ?_
    refine own_go (x' := s₁.setTop (mkF m 22 #[.val (.ref ao0), .val (.int p1), .val (.int p2), .val (.int (0 : Int32)), .val (.int (p2 + (64 : Int32)))] [(.ref ao0)])) (fun _ k => XS.goto X0.here hx rfl (pc0 := 15) (pc' := 19) rfl (hb hby d3_15) (by decide) (by decide) (XS.istore X0.here hx rfl (hb hby d3_19) rfl (l' := #[.val (.ref ao0), .val (.int p1), .val (.int p2), .val (.int (0 : Int32)), .val (.int (p2 + (64 : Int32)))]) rfl (XS.aloadN X0.here hx rfl (hb hby d3_21) rfl rfl k))) ?_
    obtain ⟨T1, X1, e1, st1⟩ := getF X0 hx hZ hown (host := "") (Or.inl (own_w hw 11 rfl)) Via.refl e0 F_ao0_bytes (g := (mkF m 22 #[.val (.ref ao0), .val (.int p1), .val (.int p2), .val (.int (0 : Int32)), .val (.int (p2 + (64 : Int32)))] [(.ref ao0)])) rfl rfl (hb hby d3_22)
    refine own_go (x' := T1.setTop (mkF m 25 #[.val (.ref ao0), .val (.int p1), .val (.int p2), .val (.int (0 : Int32)), .val (.int (p2 + (64 : Int32)))] [(.ref ar)])) st1 ?_
    refine own_go (x' := T1.setTop (mkF m 26 #[.val (.ref ao0), .val (.int p1), .val (.int p2), .val (.int (0 : Int32)), .val (.int (p2 + (64 : Int32)))] [(.int (0 : Int32)), (.ref ar)])) (fun _ k => XS.iloadN X1.here hx rfl (hb hby d3_25) rfl k) ?_
    obtain ⟨cl2, Ar2, q2, Sz2, Nn2, Hh2, Gg2⟩ := id V_ar
    have hin2 : ¬ ((0 : Int32) < 0 ∨ cl2.slots.size ≤ ((0 : Int32)).toNatClampNeg) := inb_of Sz2 ⟨by decide, by decide⟩
    refine own_go (x' := T1.setTop (mkF m 27 #[.val (.ref ao0), .val (.int p1), .val (.int p2), .val (.int (0 : Int32)), .val (.int (p2 + (64 : Int32)))] [(.ref b0)])) (X1.aaload hx (j := (0 : Int32)) (v := (.ref b0)) (Eq.trans (congrArg (fun h_ => h_[_]?) e1) Ar2.1) (State.isArrayOf_alike hZ.alike Ar2.2.1) rfl Ar2.2.2 hin2 (Hh2.at hin2 rfl) (g := (mkF m 26 #[.val (.ref ao0), .val (.int p1), .val (.int p2), .val (.int (0 : Int32)), .val (.int (p2 + (64 : Int32)))] [(.int (0 : Int32)), (.ref ar)])) rfl rfl (hb hby d3_26)) ?_
    refine own_go (x' := T1.setTop (mkF m 31 #[.val (.ref ao0), .val (.int p1), .val (.int p2), .val (.int (0 : Int32)), .val (.int (p2 + (64 : Int32)))] [(.ref ao0)])) (fun _ k => XS.ifnullNo X1.here hx rfl (hb hby d3_27) rfl (XS.aloadN X1.here hx rfl (hb hby d3_30) rfl rfl k)) ?_
    obtain ⟨T3, X3, e3, st3⟩ := getF X1 hx hZ hown (host := "") (Or.inl (own_w hw 11 rfl)) Via.refl e1 F_ao0_bytes (g := (mkF m 31 #[.val (.ref ao0), .val (.int p1), .val (.int p2), .val (.int (0 : Int32)), .val (.int (p2 + (64 : Int32)))] [(.ref ao0)])) rfl rfl (hb hby d3_31)
    refine own_go (x' := T3.setTop (mkF m 34 #[.val (.ref ao0), .val (.int p1), .val (.int p2), .val (.int (0 : Int32)), .val (.int (p2 + (64 : Int32)))] [(.ref ar)])) st3 ?_
    refine own_go (x' := T3.setTop (mkF m 35 #[.val (.ref ao0), .val (.int p1), .val (.int p2), .val (.int (0 : Int32)), .val (.int (p2 + (64 : Int32)))] [(.int (0 : Int32)), (.ref ar)])) (fun _ k => XS.iloadN X3.here hx rfl (hb hby d3_34) rfl k) ?_
    obtain ⟨cl4, Ar4, q4, Sz4, Nn4, Hh4, Gg4⟩ := id V_ar
    have hin4 : ¬ ((0 : Int32) < 0 ∨ cl4.slots.size ≤ ((0 : Int32)).toNatClampNeg) := inb_of Sz4 ⟨by decide, by decide⟩
    refine own_go (x' := T3.setTop (mkF m 36 #[.val (.ref ao0), .val (.int p1), .val (.int p2), .val (.int (0 : Int32)), .val (.int (p2 + (64 : Int32)))] [(.ref b0)])) (X3.aaload hx (j := (0 : Int32)) (v := (.ref b0)) (Eq.trans (congrArg (fun h_ => h_[_]?) e3) Ar4.1) (State.isArrayOf_alike hZ.alike Ar4.2.1) rfl Ar4.2.2 hin4 (Hh4.at hin4 rfl) (g := (mkF m 35 #[.val (.ref ao0), .val (.int p1), .val (.int p2), .val (.int (0 : Int32)), .val (.int (p2 + (64 : Int32)))] [(.int (0 : Int32)), (.ref ar)])) rfl rfl (hb hby d3_35)) ?_
    obtain ⟨cl5, Ar5, -, Sz5, Nn5, -, -⟩ := id V_b0
    refine own_go (x' := T3.setTop (mkF m 37 #[.val (.ref ao0), .val (.int p1), .val (.int p2), .val (.int (0 : Int32)), .val (.int (p2 + (64 : Int32)))] [(.int nA)])) (fun t k => X3.arraylength hx (Eq.trans (congrArg (fun h_ => h_[_]?) e3) Ar5.1) (State.isArrayOf_alike hZ.alike Ar5.2.1) (g := (mkF m 36 #[.val (.ref ao0), .val (.int p1), .val (.int p2), .val (.int (0 : Int32)), .val (.int (p2 + (64 : Int32)))] [(.ref b0)])) rfl rfl (hb hby d3_36) t (by rw [len_of Sz5 Nn5]; exact k)) ?_
    refine own_go (x' := T3.setTop (mkF m 39 #[.val (.ref ao0), .val (.int p1), .val (.int p2), .val (.int (0 : Int32)), .val (.int (p2 + (64 : Int32)))] [(.int (p2 + (64 : Int32))), (.int nA)])) (fun _ k => XS.iload X3.here hx rfl (hb hby d3_37) rfl k) ?_
    by_cases hc39 : nA < (p2 + (64 : Int32))
    · refine own_go (x' := T3.setTop (mkF m 43 #[.val (.ref ao0), .val (.int p1), .val (.int p2), .val (.int (0 : Int32)), .val (.int (p2 + (64 : Int32)))] [(.ref ao0)])) (fun _ k => XS.icmpNo X3.here hx rfl (hb hby d3_39) rfl (tlt hc39).2.1 (XS.aloadN X3.here hx rfl (hb hby d3_42) rfl rfl k)) ?_
      obtain ⟨T6, X6, e6, st6⟩ := getF X3 hx hZ hown (host := "") (Or.inl (own_w hw 11 rfl)) Via.refl e3 F_ao0_bytes (g := (mkF m 43 #[.val (.ref ao0), .val (.int p1), .val (.int p2), .val (.int (0 : Int32)), .val (.int (p2 + (64 : Int32)))] [(.ref ao0)])) rfl rfl (hb hby d3_43)
      refine own_go (x' := T6.setTop (mkF m 46 #[.val (.ref ao0), .val (.int p1), .val (.int p2), .val (.int (0 : Int32)), .val (.int (p2 + (64 : Int32)))] [(.ref ar)])) st6 ?_
      refine own_go (x' := T6.setTop (mkF m 49 #[.val (.ref ao0), .val (.int p1), .val (.int p2), .val (.int (0 : Int32)), .val (.int (p2 + (64 : Int32)))] [(.int (p2 + (64 : Int32))), (.int (0 : Int32)), (.ref ar)])) (fun _ k => XS.iloadN X6.here hx rfl (hb hby d3_46) rfl (XS.iload X6.here hx rfl (hb hby d3_47) rfl k)) ?_
      obtain ⟨T7, h7, k7, X7, e7, E7, A7, Q7, st7⟩ := newPE X6 hx hZ (own_w hw 29 rfl) e6 (g := (mkF m 49 #[.val (.ref ao0), .val (.int p1), .val (.int p2), .val (.int (0 : Int32)), .val (.int (p2 + (64 : Int32)))] [(.int (p2 + (64 : Int32))), (.int (0 : Int32)), (.ref ar)])) rfl (hb hby d3_49) rfl ht.1 (cap := 16447) ht.2 (by decide) (by decide) (by decide) (ad := "[B") (by decide)
      obtain ⟨b7, g7⟩ : ∃ z, z = h0.size := ⟨_, rfl⟩
      rw [← g7] at A7 st7
      rw [← g7] at Q7
      have ne_ao0_b7 : ao0 ≠ b7 := Nat.ne_of_lt (Nat.lt_of_lt_of_le F_ao0_bytes.lt (Nat.le_of_eq g7.symm))
      have ne_ar_b7 : ar ≠ b7 := Nat.ne_of_lt (Nat.lt_of_lt_of_le V_ar.lt (Nat.le_of_eq g7.symm))
      have ne_b0_b7 : b0 ≠ b7 := Nat.ne_of_lt (Nat.lt_of_lt_of_le V_b0.lt (Nat.le_of_eq g7.symm))
      have g_b7 : n0 ≤ b7 := Nat.le_trans Zs (Nat.le_of_eq g7.symm)
      have sz_b7 : h0.size ≤ b7 := Nat.le_trans Kp.1 (Nat.le_of_eq g7.symm)
      replace F_ao0_bytes := Fld.ext E7 F_ao0_bytes
      replace V_ar := V_ar.ext E7
      replace V_b0 := V_b0.ext E7
      replace Zs := Nat.le_trans Zs E7.1
      replace Kp := Kp.ext E7
      have E_b7 := Q7
      have V_b7 : Arv Z h7 b7 k7 .byte (p2 + (64 : Int32)) [] (.int (0 : Int32)) := Arv.new A7 ht.1
      refine own_go (x' := T7.setTop (mkF m 51 #[.val (.ref ao0), .val (.int p1), .val (.int p2), .val (.int (0 : Int32)), .val (.int (p2 + (64 : Int32)))] [(.ref b7), (.int (0 : Int32)), (.ref ar)])) st7 ?_
      obtain ⟨cl8, Ar8, q8, Sz8, Nn8, Hh8, Gg8⟩ := V_ar
      have hin8 : ¬ ((0 : Int32) < 0 ∨ cl8.slots.size ≤ ((0 : Int32)).toNatClampNeg) := inb_of Sz8 ⟨by decide, by decide⟩
      obtain ⟨T8, h8, X8, e8, W8, st8⟩ := stR X7 hx hZ e7 Ar8 (j := (0 : Int32)) hin8 rfl (Sto.ofVA Ar8 q8 O_ar (Ins.self E_b7)) (g := (mkF m 51 #[.val (.ref ao0), .val (.int p1), .val (.int p2), .val (.int (0 : Int32)), .val (.int (p2 + (64 : Int32)))] [(.ref b7), (.int (0 : Int32)), (.ref ar)])) rfl rfl (hb hby d3_51)
      refine own_go (x' := T8.setTop (mkF m 52 #[.val (.ref ao0), .val (.int p1), .val (.int p2), .val (.int (0 : Int32)), .val (.int (p2 + (64 : Int32)))] [])) st8 ?_
      replace F_ao0_bytes := Fld.other W8 F_ao0_bytes (Or.inl ne_ao0_ar)
      replace V_b0 := V_b0.other W8 ne_b0_ar
      replace E_b7 := Exa.wr W8 E_b7
      replace V_b7 := V_b7.other W8 (Ne.symm ne_ar_b7)
      replace Zs := Nat.le_trans Zs (Keep.of_wr W8).1
      replace Nf := Fr.snoc X8 Nf g_ar
      replace Kp := Kp.wr W8 (Or.inl (by simp))
      have V_ar : Arv Z h8 ar kc (.array .byte) (4 : Int32) [(.ref b7), .null, .null, .null] .null := Arv.set Ar8 q8 Sz8 Nn8 Hh8 Gg8 rfl W8 0 rfl (Nat.le_of_ble_eq_true rfl)
      refine own_go (x' := T8.setTop (mkF m 2 #[.val (.ref ao0), .val (.int p1), .val (.int p2), .val (.int ((0 : Int32) + (1 : Int32))), .val (.int (p2 + (64 : Int32)))] [])) (fun _ k => XS.iinc X8.here hx rfl (hb hby d3_52) rfl (l' := #[.val (.ref ao0), .val (.int p1), .val (.int p2), .val (.int ((0 : Int32) + (1 : Int32))), .val (.int (p2 + (64 : Int32)))]) rfl (XS.goto X8.here hx rfl (pc0 := 55) (pc' := 2) rfl (hb hby d3_55) (by decide) (by decide) k)) ?_
      rw [show ((0 : Int32) + (1 : Int32)) = (1 : Int32) from by decide +kernel]
      refine own_go (x' := T8.setTop (mkF m 4 #[.val (.ref ao0), .val (.int p1), .val (.int p2), .val (.int (1 : Int32)), .val (.int (p2 + (64 : Int32)))] [(.int p1), (.int (1 : Int32))])) (fun _ k => XS.iloadN X8.here hx rfl (hb hby d3_2) rfl (XS.iloadN X8.here hx rfl (hb hby d3_3) rfl k)) ?_
      by_cases hc4_9 : (1 : Int32) < p1
      · refine own_go (x' := T8.setTop (mkF m 22 #[.val (.ref ao0), .val (.int p1), .val (.int p2), .val (.int (1 : Int32)), .val (.int p2)] [(.ref ao0)])) (fun _ k => XS.icmpNo X8.here hx rfl (hb hby d3_4) rfl (tlt hc4_9).2.1 (XS.iloadN X8.here hx rfl (hb hby d3_7) rfl (XS.ifYes X8.here hx rfl (pc0 := 8) (pc' := 18) rfl (hb hby d3_8) rfl ((if0 _ _).trans (feq (by decide +kernel : ¬ ((1 : Int32) = (0 : Int32)))).2) (by decide) (by decide) (XS.iloadN X8.here hx rfl (hb hby d3_18) rfl (XS.istore X8.here hx rfl (hb hby d3_19) rfl (l' := #[.val (.ref ao0), .val (.int p1), .val (.int p2), .val (.int (1 : Int32)), .val (.int p2)]) rfl (XS.aloadN X8.here hx rfl (hb hby d3_21) rfl rfl k)))))) ?_
        obtain ⟨T10, X10, e10, st10⟩ := getF X8 hx hZ hown (host := "") (Or.inl (own_w hw 11 rfl)) Via.refl e8 F_ao0_bytes (g := (mkF m 22 #[.val (.ref ao0), .val (.int p1), .val (.int p2), .val (.int (1 : Int32)), .val (.int p2)] [(.ref ao0)])) rfl rfl (hb hby d3_22)
        refine own_go (x' := T10.setTop (mkF m 25 #[.val (.ref ao0), .val (.int p1), .val (.int p2), .val (.int (1 : Int32)), .val (.int p2)] [(.ref ar)])) st10 ?_
        refine own_go (x' := T10.setTop (mkF m 26 #[.val (.ref ao0), .val (.int p1), .val (.int p2), .val (.int (1 : Int32)), .val (.int p2)] [(.int (1 : Int32)), (.ref ar)])) (fun _ k => XS.iloadN X10.here hx rfl (hb hby d3_25) rfl k) ?_
        obtain ⟨cl11, Ar11, q11, Sz11, Nn11, Hh11, Gg11⟩ := id V_ar
        have hin11 : ¬ ((1 : Int32) < 0 ∨ cl11.slots.size ≤ ((1 : Int32)).toNatClampNeg) := inb_of Sz11 ⟨by decide, by decide⟩
        refine own_go (x' := T10.setTop (mkF m 27 #[.val (.ref ao0), .val (.int p1), .val (.int p2), .val (.int (1 : Int32)), .val (.int p2)] [.null])) (X10.aaload hx (j := (1 : Int32)) (v := .null) (Eq.trans (congrArg (fun h_ => h_[_]?) e10) Ar11.1) (State.isArrayOf_alike hZ.alike Ar11.2.1) rfl Ar11.2.2 hin11 (Hh11.at hin11 rfl) (g := (mkF m 26 #[.val (.ref ao0), .val (.int p1), .val (.int p2), .val (.int (1 : Int32)), .val (.int p2)] [(.int (1 : Int32)), (.ref ar)])) rfl rfl (hb hby d3_26)) ?_
        refine own_go (x' := T10.setTop (mkF m 43 #[.val (.ref ao0), .val (.int p1), .val (.int p2), .val (.int (1 : Int32)), .val (.int p2)] [(.ref ao0)])) (fun _ k => XS.ifnullYes X10.here hx rfl (pc0 := 27) (pc' := 42) rfl (hb hby d3_27) rfl (by decide) (by decide) (XS.aloadN X10.here hx rfl (hb hby d3_42) rfl rfl k)) ?_
        obtain ⟨T12, X12, e12, st12⟩ := getF X10 hx hZ hown (host := "") (Or.inl (own_w hw 11 rfl)) Via.refl e10 F_ao0_bytes (g := (mkF m 43 #[.val (.ref ao0), .val (.int p1), .val (.int p2), .val (.int (1 : Int32)), .val (.int p2)] [(.ref ao0)])) rfl rfl (hb hby d3_43)
        refine own_go (x' := T12.setTop (mkF m 46 #[.val (.ref ao0), .val (.int p1), .val (.int p2), .val (.int (1 : Int32)), .val (.int p2)] [(.ref ar)])) st12 ?_
        refine own_go (x' := T12.setTop (mkF m 49 #[.val (.ref ao0), .val (.int p1), .val (.int p2), .val (.int (1 : Int32)), .val (.int p2)] [(.int p2), (.int (1 : Int32)), (.ref ar)])) (fun _ k => XS.iloadN X12.here hx rfl (hb hby d3_46) rfl (XS.iload X12.here hx rfl (hb hby d3_47) rfl k)) ?_
        obtain ⟨T13, h13, k13, X13, e13, E13, A13, Q13, st13⟩ := newPE X12 hx hZ (own_w hw 29 rfl) e12 (g := (mkF m 49 #[.val (.ref ao0), .val (.int p1), .val (.int p2), .val (.int (1 : Int32)), .val (.int p2)] [(.int p2), (.int (1 : Int32)), (.ref ar)])) rfl (hb hby d3_49) rfl hs.1 (cap := 16383) hs.2 (by decide) (by decide) (by decide) (ad := "[B") (by decide)
        obtain ⟨b13, g13⟩ : ∃ z, z = h8.size := ⟨_, rfl⟩
        rw [← g13] at A13 st13
        rw [← g13] at Q13
        have ne_ao0_b13 : ao0 ≠ b13 := Nat.ne_of_lt (Nat.lt_of_lt_of_le F_ao0_bytes.lt (Nat.le_of_eq g13.symm))
        have ne_b0_b13 : b0 ≠ b13 := Nat.ne_of_lt (Nat.lt_of_lt_of_le V_b0.lt (Nat.le_of_eq g13.symm))
        have ne_b7_b13 : b7 ≠ b13 := Nat.ne_of_lt (Nat.lt_of_lt_of_le E_b7.lt (Nat.le_of_eq g13.symm))
        have ne_ar_b13 : ar ≠ b13 := Nat.ne_of_lt (Nat.lt_of_lt_of_le V_ar.lt (Nat.le_of_eq g13.symm))
        have g_b13 : n0 ≤ b13 := Nat.le_trans Zs (Nat.le_of_eq g13.symm)
        have sz_b13 : h0.size ≤ b13 := Nat.le_trans Kp.1 (Nat.le_of_eq g13.symm)
        replace F_ao0_bytes := Fld.ext E13 F_ao0_bytes
        replace V_b0 := V_b0.ext E13
        replace E_b7 := Exa.ext E13 E_b7
        replace V_b7 := V_b7.ext E13
        replace V_ar := V_ar.ext E13
        replace Zs := Nat.le_trans Zs E13.1
        replace Kp := Kp.ext E13
        have E_b13 := Q13
        have V_b13 : Arv Z h13 b13 k13 .byte p2 [] (.int (0 : Int32)) := Arv.new A13 hs.1
        refine own_go (x' := T13.setTop (mkF m 51 #[.val (.ref ao0), .val (.int p1), .val (.int p2), .val (.int (1 : Int32)), .val (.int p2)] [(.ref b13), (.int (1 : Int32)), (.ref ar)])) st13 ?_
        obtain ⟨cl14, Ar14, q14, Sz14, Nn14, Hh14, Gg14⟩ := V_ar
        have hin14 : ¬ ((1 : Int32) < 0 ∨ cl14.slots.size ≤ ((1 : Int32)).toNatClampNeg) := inb_of Sz14 ⟨by decide, by decide⟩
        obtain ⟨T14, h14, X14, e14, W14, st14⟩ := stR X13 hx hZ e13 Ar14 (j := (1 : Int32)) hin14 rfl (Sto.ofVA Ar14 q14 O_ar (Ins.self E_b13)) (g := (mkF m 51 #[.val (.ref ao0), .val (.int p1), .val (.int p2), .val (.int (1 : Int32)), .val (.int p2)] [(.ref b13), (.int (1 : Int32)), (.ref ar)])) rfl rfl (hb hby d3_51)
        refine own_go (x' := T14.setTop (mkF m 52 #[.val (.ref ao0), .val (.int p1), .val (.int p2), .val (.int (1 : Int32)), .val (.int p2)] [])) st14 ?_
        replace F_ao0_bytes := Fld.other W14 F_ao0_bytes (Or.inl ne_ao0_ar)
        replace V_b0 := V_b0.other W14 ne_b0_ar
        replace E_b7 := Exa.wr W14 E_b7
        replace V_b7 := V_b7.other W14 (Ne.symm ne_ar_b7)
        replace E_b13 := Exa.wr W14 E_b13
        replace V_b13 := V_b13.other W14 (Ne.symm ne_ar_b13)
        replace Zs := Nat.le_trans Zs (Keep.of_wr W14).1
        replace Nf := Fr.snoc X14 Nf g_ar
        replace Kp := Kp.wr W14 (Or.inl (by simp))
        have V_ar : Arv Z h14 ar kc (.array .byte) (4 : Int32) [(.ref b7), (.ref b13), .null, .null] .null := Arv.set Ar14 q14 Sz14 Nn14 Hh14 Gg14 rfl W14 1 rfl (Nat.le_of_ble_eq_true rfl)
        refine own_go (x' := T14.setTop (mkF m 2 #[.val (.ref ao0), .val (.int p1), .val (.int p2), .val (.int ((1 : Int32) + (1 : Int32))), .val (.int p2)] [])) (fun _ k => XS.iinc X14.here hx rfl (hb hby d3_52) rfl (l' := #[.val (.ref ao0), .val (.int p1), .val (.int p2), .val (.int ((1 : Int32) + (1 : Int32))), .val (.int p2)]) rfl (XS.goto X14.here hx rfl (pc0 := 55) (pc' := 2) rfl (hb hby d3_55) (by decide) (by decide) k)) ?_
        rw [show ((1 : Int32) + (1 : Int32)) = (2 : Int32) from by decide +kernel]
        refine own_go (x' := T14.setTop (mkF m 4 #[.val (.ref ao0), .val (.int p1), .val (.int p2), .val (.int (2 : Int32)), .val (.int p2)] [(.int p1), (.int (2 : Int32))])) (fun _ k => XS.iloadN X14.here hx rfl (hb hby d3_2) rfl (XS.iloadN X14.here hx rfl (hb hby d3_3) rfl k)) ?_
        by_cases hc4_15 : (2 : Int32) < p1
        · refine own_go (x' := T14.setTop (mkF m 22 #[.val (.ref ao0), .val (.int p1), .val (.int p2), .val (.int (2 : Int32)), .val (.int p2)] [(.ref ao0)])) (fun _ k => XS.icmpNo X14.here hx rfl (hb hby d3_4) rfl (tlt hc4_15).2.1 (XS.iloadN X14.here hx rfl (hb hby d3_7) rfl (XS.ifYes X14.here hx rfl (pc0 := 8) (pc' := 18) rfl (hb hby d3_8) rfl ((if0 _ _).trans (feq (by decide +kernel : ¬ ((2 : Int32) = (0 : Int32)))).2) (by decide) (by decide) (XS.iloadN X14.here hx rfl (hb hby d3_18) rfl (XS.istore X14.here hx rfl (hb hby d3_19) rfl (l' := #[.val (.ref ao0), .val (.int p1), .val (.int p2), .val (.int (2 : Int32)), .val (.int p2)]) rfl (XS.aloadN X14.here hx rfl (hb hby d3_21) rfl rfl k)))))) ?_
          obtain ⟨T16, X16, e16, st16⟩ := getF X14 hx hZ hown (host := "") (Or.inl (own_w hw 11 rfl)) Via.refl e14 F_ao0_bytes (g := (mkF m 22 #[.val (.ref ao0), .val (.int p1), .val (.int p2), .val (.int (2 : Int32)), .val (.int p2)] [(.ref ao0)])) rfl rfl (hb hby d3_22)
          refine own_go (x' := T16.setTop (mkF m 25 #[.val (.ref ao0), .val (.int p1), .val (.int p2), .val (.int (2 : Int32)), .val (.int p2)] [(.ref ar)])) st16 ?_
          refine own_go (x' := T16.setTop (mkF m 26 #[.val (.ref ao0), .val (.int p1), .val (.int p2), .val (.int (2 : Int32)), .val (.int p2)] [(.int (2 : Int32)), (.ref ar)])) (fun _ k => XS.iloadN X16.here hx rfl (hb hby d3_25) rfl k) ?_
          obtain ⟨cl17, Ar17, q17, Sz17, Nn17, Hh17, Gg17⟩ := id V_ar
          have hin17 : ¬ ((2 : Int32) < 0 ∨ cl17.slots.size ≤ ((2 : Int32)).toNatClampNeg) := inb_of Sz17 ⟨by decide, by decide⟩
          refine own_go (x' := T16.setTop (mkF m 27 #[.val (.ref ao0), .val (.int p1), .val (.int p2), .val (.int (2 : Int32)), .val (.int p2)] [.null])) (X16.aaload hx (j := (2 : Int32)) (v := .null) (Eq.trans (congrArg (fun h_ => h_[_]?) e16) Ar17.1) (State.isArrayOf_alike hZ.alike Ar17.2.1) rfl Ar17.2.2 hin17 (Hh17.at hin17 rfl) (g := (mkF m 26 #[.val (.ref ao0), .val (.int p1), .val (.int p2), .val (.int (2 : Int32)), .val (.int p2)] [(.int (2 : Int32)), (.ref ar)])) rfl rfl (hb hby d3_26)) ?_
          refine own_go (x' := T16.setTop (mkF m 43 #[.val (.ref ao0), .val (.int p1), .val (.int p2), .val (.int (2 : Int32)), .val (.int p2)] [(.ref ao0)])) (fun _ k => XS.ifnullYes X16.here hx rfl (pc0 := 27) (pc' := 42) rfl (hb hby d3_27) rfl (by decide) (by decide) (XS.aloadN X16.here hx rfl (hb hby d3_42) rfl rfl k)) ?_
          obtain ⟨T18, X18, e18, st18⟩ := getF X16 hx hZ hown (host := "") (Or.inl (own_w hw 11 rfl)) Via.refl e16 F_ao0_bytes (g := (mkF m 43 #[.val (.ref ao0), .val (.int p1), .val (.int p2), .val (.int (2 : Int32)), .val (.int p2)] [(.ref ao0)])) rfl rfl (hb hby d3_43)
          refine own_go (x' := T18.setTop (mkF m 46 #[.val (.ref ao0), .val (.int p1), .val (.int p2), .val (.int (2 : Int32)), .val (.int p2)] [(.ref ar)])) st18 ?_
          refine own_go (x' := T18.setTop (mkF m 49 #[.val (.ref ao0), .val (.int p1), .val (.int p2), .val (.int (2 : Int32)), .val (.int p2)] [(.int p2), (.int (2 : Int32)), (.ref ar)])) (fun _ k => XS.iloadN X18.here hx rfl (hb hby d3_46) rfl (XS.iload X18.here hx rfl (hb hby d3_47) rfl k)) ?_
          obtain ⟨T19, h19, k19, X19, e19, E19, A19, Q19, st19⟩ := newPE X18 hx hZ (own_w hw 29 rfl) e18 (g := (mkF m 49 #[.val (.ref ao0), .val (.int p1), .val (.int p2), .val (.int (2 : Int32)), .val (.int p2)] [(.int p2), (.int (2 : Int32)), (.ref ar)])) rfl (hb hby d3_49) rfl hs.1 (cap := 16383) hs.2 (by decide) (by decide) (by decide) (ad := "[B") (by decide)
          obtain ⟨b19, g19⟩ : ∃ z, z = h14.size := ⟨_, rfl⟩
          rw [← g19] at A19 st19
          rw [← g19] at Q19
          have ne_ao0_b19 : ao0 ≠ b19 := Nat.ne_of_lt (Nat.lt_of_lt_of_le F_ao0_bytes.lt (Nat.le_of_eq g19.symm))
          have ne_b0_b19 : b0 ≠ b19 := Nat.ne_of_lt (Nat.lt_of_lt_of_le V_b0.lt (Nat.le_of_eq g19.symm))
          have ne_b7_b19 : b7 ≠ b19 := Nat.ne_of_lt (Nat.lt_of_lt_of_le E_b7.lt (Nat.le_of_eq g19.symm))
          have ne_b13_b19 : b13 ≠ b19 := Nat.ne_of_lt (Nat.lt_of_lt_of_le E_b13.lt (Nat.le_of_eq g19.symm))
          have ne_ar_b19 : ar ≠ b19 := Nat.ne_of_lt (Nat.lt_of_lt_of_le V_ar.lt (Nat.le_of_eq g19.symm))
          have g_b19 : n0 ≤ b19 := Nat.le_trans Zs (Nat.le_of_eq g19.symm)
          have sz_b19 : h0.size ≤ b19 := Nat.le_trans Kp.1 (Nat.le_of_eq g19.symm)
          replace F_ao0_bytes := Fld.ext E19 F_ao0_bytes
          replace V_b0 := V_b0.ext E19
          replace E_b7 := Exa.ext E19 E_b7
          replace V_b7 := V_b7.ext E19
          replace E_b13 := Exa.ext E19 E_b13
          replace V_b13 := V_b13.ext E19
          replace V_ar := V_ar.ext E19
          replace Zs := Nat.le_trans Zs E19.1
          replace Kp := Kp.ext E19
          have E_b19 := Q19
          have V_b19 : Arv Z h19 b19 k19 .byte p2 [] (.int (0 : Int32)) := Arv.new A19 hs.1
          refine own_go (x' := T19.setTop (mkF m 51 #[.val (.ref ao0), .val (.int p1), .val (.int p2), .val (.int (2 : Int32)), .val (.int p2)] [(.ref b19), (.int (2 : Int32)), (.ref ar)])) st19 ?_
          obtain ⟨cl20, Ar20, q20, Sz20, Nn20, Hh20, Gg20⟩ := V_ar
          have hin20 : ¬ ((2 : Int32) < 0 ∨ cl20.slots.size ≤ ((2 : Int32)).toNatClampNeg) := inb_of Sz20 ⟨by decide, by decide⟩
          obtain ⟨T20, h20, X20, e20, W20, st20⟩ := stR X19 hx hZ e19 Ar20 (j := (2 : Int32)) hin20 rfl (Sto.ofVA Ar20 q20 O_ar (Ins.self E_b19)) (g := (mkF m 51 #[.val (.ref ao0), .val (.int p1), .val (.int p2), .val (.int (2 : Int32)), .val (.int p2)] [(.ref b19), (.int (2 : Int32)), (.ref ar)])) rfl rfl (hb hby d3_51)
          refine own_go (x' := T20.setTop (mkF m 52 #[.val (.ref ao0), .val (.int p1), .val (.int p2), .val (.int (2 : Int32)), .val (.int p2)] [])) st20 ?_
          replace F_ao0_bytes := Fld.other W20 F_ao0_bytes (Or.inl ne_ao0_ar)
          replace V_b0 := V_b0.other W20 ne_b0_ar
          replace E_b7 := Exa.wr W20 E_b7
          replace V_b7 := V_b7.other W20 (Ne.symm ne_ar_b7)
          replace E_b13 := Exa.wr W20 E_b13
          replace V_b13 := V_b13.other W20 (Ne.symm ne_ar_b13)
          replace E_b19 := Exa.wr W20 E_b19
          replace V_b19 := V_b19.other W20 (Ne.symm ne_ar_b19)
          replace Zs := Nat.le_trans Zs (Keep.of_wr W20).1
          replace Nf := Fr.snoc X20 Nf g_ar
          replace Kp := Kp.wr W20 (Or.inl (by simp))
          have V_ar : Arv Z h20 ar kc (.array .byte) (4 : Int32) [(.ref b7), (.ref b13), (.ref b19), .null] .null := Arv.set Ar20 q20 Sz20 Nn20 Hh20 Gg20 rfl W20 2 rfl (Nat.le_of_ble_eq_true rfl)
          refine own_go (x' := T20.setTop (mkF m 2 #[.val (.ref ao0), .val (.int p1), .val (.int p2), .val (.int ((2 : Int32) + (1 : Int32))), .val (.int p2)] [])) (fun _ k => XS.iinc X20.here hx rfl (hb hby d3_52) rfl (l' := #[.val (.ref ao0), .val (.int p1), .val (.int p2), .val (.int ((2 : Int32) + (1 : Int32))), .val (.int p2)]) rfl (XS.goto X20.here hx rfl (pc0 := 55) (pc' := 2) rfl (hb hby d3_55) (by decide) (by decide) k)) ?_
          rw [show ((2 : Int32) + (1 : Int32)) = (3 : Int32) from by decide +kernel]
          refine own_go (x' := T20.setTop (mkF m 4 #[.val (.ref ao0), .val (.int p1), .val (.int p2), .val (.int (3 : Int32)), .val (.int p2)] [(.int p1), (.int (3 : Int32))])) (fun _ k => XS.iloadN X20.here hx rfl (hb hby d3_2) rfl (XS.iloadN X20.here hx rfl (hb hby d3_3) rfl k)) ?_
          by_cases hc4_21 : (3 : Int32) < p1
          · refine own_go (x' := T20.setTop (mkF m 22 #[.val (.ref ao0), .val (.int p1), .val (.int p2), .val (.int (3 : Int32)), .val (.int p2)] [(.ref ao0)])) (fun _ k => XS.icmpNo X20.here hx rfl (hb hby d3_4) rfl (tlt hc4_21).2.1 (XS.iloadN X20.here hx rfl (hb hby d3_7) rfl (XS.ifYes X20.here hx rfl (pc0 := 8) (pc' := 18) rfl (hb hby d3_8) rfl ((if0 _ _).trans (feq (by decide +kernel : ¬ ((3 : Int32) = (0 : Int32)))).2) (by decide) (by decide) (XS.iloadN X20.here hx rfl (hb hby d3_18) rfl (XS.istore X20.here hx rfl (hb hby d3_19) rfl (l' := #[.val (.ref ao0), .val (.int p1), .val (.int p2), .val (.int (3 : Int32)), .val (.int p2)]) rfl (XS.aloadN X20.here hx rfl (hb hby d3_21) rfl rfl k)))))) ?_
            obtain ⟨T22, X22, e22, st22⟩ := getF X20 hx hZ hown (host := "") (Or.inl (own_w hw 11 rfl)) Via.refl e20 F_ao0_bytes (g := (mkF m 22 #[.val (.ref ao0), .val (.int p1), .val (.int p2), .val (.int (3 : Int32)), .val (.int p2)] [(.ref ao0)])) rfl rfl (hb hby d3_22)
            refine own_go (x' := T22.setTop (mkF m 25 #[.val (.ref ao0), .val (.int p1), .val (.int p2), .val (.int (3 : Int32)), .val (.int p2)] [(.ref ar)])) st22 ?_
            refine own_go (x' := T22.setTop (mkF m 26 #[.val (.ref ao0), .val (.int p1), .val (.int p2), .val (.int (3 : Int32)), .val (.int p2)] [(.int (3 : Int32)), (.ref ar)])) (fun _ k => XS.iloadN X22.here hx rfl (hb hby d3_25) rfl k) ?_
            obtain ⟨cl23, Ar23, q23, Sz23, Nn23, Hh23, Gg23⟩ := id V_ar
            have hin23 : ¬ ((3 : Int32) < 0 ∨ cl23.slots.size ≤ ((3 : Int32)).toNatClampNeg) := inb_of Sz23 ⟨by decide, by decide⟩
            refine own_go (x' := T22.setTop (mkF m 27 #[.val (.ref ao0), .val (.int p1), .val (.int p2), .val (.int (3 : Int32)), .val (.int p2)] [.null])) (X22.aaload hx (j := (3 : Int32)) (v := .null) (Eq.trans (congrArg (fun h_ => h_[_]?) e22) Ar23.1) (State.isArrayOf_alike hZ.alike Ar23.2.1) rfl Ar23.2.2 hin23 (Hh23.at hin23 rfl) (g := (mkF m 26 #[.val (.ref ao0), .val (.int p1), .val (.int p2), .val (.int (3 : Int32)), .val (.int p2)] [(.int (3 : Int32)), (.ref ar)])) rfl rfl (hb hby d3_26)) ?_
            refine own_go (x' := T22.setTop (mkF m 43 #[.val (.ref ao0), .val (.int p1), .val (.int p2), .val (.int (3 : Int32)), .val (.int p2)] [(.ref ao0)])) (fun _ k => XS.ifnullYes X22.here hx rfl (pc0 := 27) (pc' := 42) rfl (hb hby d3_27) rfl (by decide) (by decide) (XS.aloadN X22.here hx rfl (hb hby d3_42) rfl rfl k)) ?_
            obtain ⟨T24, X24, e24, st24⟩ := getF X22 hx hZ hown (host := "") (Or.inl (own_w hw 11 rfl)) Via.refl e22 F_ao0_bytes (g := (mkF m 43 #[.val (.ref ao0), .val (.int p1), .val (.int p2), .val (.int (3 : Int32)), .val (.int p2)] [(.ref ao0)])) rfl rfl (hb hby d3_43)
            refine own_go (x' := T24.setTop (mkF m 46 #[.val (.ref ao0), .val (.int p1), .val (.int p2), .val (.int (3 : Int32)), .val (.int p2)] [(.ref ar)])) st24 ?_
            refine own_go (x' := T24.setTop (mkF m 49 #[.val (.ref ao0), .val (.int p1), .val (.int p2), .val (.int (3 : Int32)), .val (.int p2)] [(.int p2), (.int (3 : Int32)), (.ref ar)])) (fun _ k => XS.iloadN X24.here hx rfl (hb hby d3_46) rfl (XS.iload X24.here hx rfl (hb hby d3_47) rfl k)) ?_
            obtain ⟨T25, h25, k25, X25, e25, E25, A25, Q25, st25⟩ := newPE X24 hx hZ (own_w hw 29 rfl) e24 (g := (mkF m 49 #[.val (.ref ao0), .val (.int p1), .val (.int p2), .val (.int (3 : Int32)), .val (.int p2)] [(.int p2), (.int (3 : Int32)), (.ref ar)])) rfl (hb hby d3_49) rfl hs.1 (cap := 16383) hs.2 (by decide) (by decide) (by decide) (ad := "[B") (by decide)
            obtain ⟨b25, g25⟩ : ∃ z, z = h20.size := ⟨_, rfl⟩
            rw [← g25] at A25 st25
            rw [← g25] at Q25
            have ne_ao0_b25 : ao0 ≠ b25 := Nat.ne_of_lt (Nat.lt_of_lt_of_le F_ao0_bytes.lt (Nat.le_of_eq g25.symm))
            have ne_b0_b25 : b0 ≠ b25 := Nat.ne_of_lt (Nat.lt_of_lt_of_le V_b0.lt (Nat.le_of_eq g25.symm))
            have ne_b7_b25 : b7 ≠ b25 := Nat.ne_of_lt (Nat.lt_of_lt_of_le E_b7.lt (Nat.le_of_eq g25.symm))
            have ne_b13_b25 : b13 ≠ b25 := Nat.ne_of_lt (Nat.lt_of_lt_of_le E_b13.lt (Nat.le_of_eq g25.symm))
            have ne_b19_b25 : b19 ≠ b25 := Nat.ne_of_lt (Nat.lt_of_lt_of_le E_b19.lt (Nat.le_of_eq g25.symm))
            have ne_ar_b25 : ar ≠ b25 := Nat.ne_of_lt (Nat.lt_of_lt_of_le V_ar.lt (Nat.le_of_eq g25.symm))
            have g_b25 : n0 ≤ b25 := Nat.le_trans Zs (Nat.le_of_eq g25.symm)
            have sz_b25 : h0.size ≤ b25 := Nat.le_trans Kp.1 (Nat.le_of_eq g25.symm)
            replace F_ao0_bytes := Fld.ext E25 F_ao0_bytes
            replace V_b0 := V_b0.ext E25
            replace E_b7 := Exa.ext E25 E_b7
            replace V_b7 := V_b7.ext E25
            replace E_b13 := Exa.ext E25 E_b13
            replace V_b13 := V_b13.ext E25
            replace E_b19 := Exa.ext E25 E_b19
            replace V_b19 := V_b19.ext E25
            replace V_ar := V_ar.ext E25
            replace Zs := Nat.le_trans Zs E25.1
            replace Kp := Kp.ext E25
            have E_b25 := Q25
            have V_b25 : Arv Z h25 b25 k25 .byte p2 [] (.int (0 : Int32)) := Arv.new A25 hs.1
            refine own_go (x' := T25.setTop (mkF m 51 #[.val (.ref ao0), .val (.int p1), .val (.int p2), .val (.int (3 : Int32)), .val (.int p2)] [(.ref b25), (.int (3 : Int32)), (.ref ar)])) st25 ?_
            obtain ⟨cl26, Ar26, q26, Sz26, Nn26, Hh26, Gg26⟩ := V_ar
            have hin26 : ¬ ((3 : Int32) < 0 ∨ cl26.slots.size ≤ ((3 : Int32)).toNatClampNeg) := inb_of Sz26 ⟨by decide, by decide⟩
            obtain ⟨T26, h26, X26, e26, W26, st26⟩ := stR X25 hx hZ e25 Ar26 (j := (3 : Int32)) hin26 rfl (Sto.ofVA Ar26 q26 O_ar (Ins.self E_b25)) (g := (mkF m 51 #[.val (.ref ao0), .val (.int p1), .val (.int p2), .val (.int (3 : Int32)), .val (.int p2)] [(.ref b25), (.int (3 : Int32)), (.ref ar)])) rfl rfl (hb hby d3_51)
            refine own_go (x' := T26.setTop (mkF m 52 #[.val (.ref ao0), .val (.int p1), .val (.int p2), .val (.int (3 : Int32)), .val (.int p2)] [])) st26 ?_
            replace F_ao0_bytes := Fld.other W26 F_ao0_bytes (Or.inl ne_ao0_ar)
            replace V_b0 := V_b0.other W26 ne_b0_ar
            replace E_b7 := Exa.wr W26 E_b7
            replace V_b7 := V_b7.other W26 (Ne.symm ne_ar_b7)
            replace E_b13 := Exa.wr W26 E_b13
            replace V_b13 := V_b13.other W26 (Ne.symm ne_ar_b13)
            replace E_b19 := Exa.wr W26 E_b19
            replace V_b19 := V_b19.other W26 (Ne.symm ne_ar_b19)
            replace E_b25 := Exa.wr W26 E_b25
            replace V_b25 := V_b25.other W26 (Ne.symm ne_ar_b25)
            replace Zs := Nat.le_trans Zs (Keep.of_wr W26).1
            replace Nf := Fr.snoc X26 Nf g_ar
            replace Kp := Kp.wr W26 (Or.inl (by simp))
            have V_ar : Arv Z h26 ar kc (.array .byte) (4 : Int32) [(.ref b7), (.ref b13), (.ref b19), (.ref b25)] .null := Arv.set Ar26 q26 Sz26 Nn26 Hh26 Gg26 rfl W26 3 rfl (Nat.le_of_ble_eq_true rfl)
            refine own_go (x' := T26.setTop (mkF m 2 #[.val (.ref ao0), .val (.int p1), .val (.int p2), .val (.int ((3 : Int32) + (1 : Int32))), .val (.int p2)] [])) (fun _ k => XS.iinc X26.here hx rfl (hb hby d3_52) rfl (l' := #[.val (.ref ao0), .val (.int p1), .val (.int p2), .val (.int ((3 : Int32) + (1 : Int32))), .val (.int p2)]) rfl (XS.goto X26.here hx rfl (pc0 := 55) (pc' := 2) rfl (hb hby d3_55) (by decide) (by decide) k)) ?_
            rw [show ((3 : Int32) + (1 : Int32)) = (4 : Int32) from by decide +kernel]
            refine own_go (x' := T26.setTop (mkF m 59 #[.val (.ref ao0), .val (.int p1), .val (.int p2), .val (.int (4 : Int32)), .val (.int p2)] [(.ref ao0)])) (fun _ k => XS.iloadN X26.here hx rfl (hb hby d3_2) rfl (XS.iloadN X26.here hx rfl (hb hby d3_3) rfl (XS.icmpYes X26.here hx rfl (pc0 := 4) (pc' := 58) rfl (hb hby d3_4) rfl (flt hu).2.1 (by decide) (by decide) (XS.aloadN X26.here hx rfl (hb hby d3_58) rfl rfl k)))) ?_
            obtain ⟨T27, X27, e27, st27⟩ := getF X26 hx hZ hown (host := "") (Or.inl (own_w hw 11 rfl)) Via.refl e26 F_ao0_bytes (g := (mkF m 59 #[.val (.ref ao0), .val (.int p1), .val (.int p2), .val (.int (4 : Int32)), .val (.int p2)] [(.ref ao0)])) rfl rfl (hb hby d3_59)
            refine own_go (x' := T27.setTop (mkF m 62 #[.val (.ref ao0), .val (.int p1), .val (.int p2), .val (.int (4 : Int32)), .val (.int p2)] [(.ref ar)])) st27 ?_
            refine own_retR X27 hx hlk hret rfl rfl (hb hby d3_62) ?_ (by decide) (by decide)
            rw [e27]
            exact ⟨(.ref b7), (.ref b13), (.ref b19), (.ref b25), rfl, Nf, Kp, V_ar, Or.inr ⟨b7, k7, rfl, sz_b7, V_b7, hc4, hc39⟩, Or.inr ⟨b13, k13, rfl, V_b13, hc4_9⟩, Or.inr ⟨b19, k19, rfl, V_b19, hc4_15⟩, Or.inr ⟨b25, k25, rfl, V_b25, hc4_21⟩⟩
          · refine own_go (x' := T20.setTop (mkF m 59 #[.val (.ref ao0), .val (.int p1), .val (.int p2), .val (.int (3 : Int32)), .val (.int p2)] [(.ref ao0)])) (fun _ k => XS.icmpYes X20.here hx rfl (pc0 := 4) (pc' := 58) rfl (hb hby d3_4) rfl (flt hc4_21).2.1 (by decide) (by decide) (XS.aloadN X20.here hx rfl (hb hby d3_58) rfl rfl k)) ?_
            obtain ⟨T28, X28, e28, st28⟩ := getF X20 hx hZ hown (host := "") (Or.inl (own_w hw 11 rfl)) Via.refl e20 F_ao0_bytes (g := (mkF m 59 #[.val (.ref ao0), .val (.int p1), .val (.int p2), .val (.int (3 : Int32)), .val (.int p2)] [(.ref ao0)])) rfl rfl (hb hby d3_59)
            refine own_go (x' := T28.setTop (mkF m 62 #[.val (.ref ao0), .val (.int p1), .val (.int p2), .val (.int (3 : Int32)), .val (.int p2)] [(.ref ar)])) st28 ?_
            refine own_retR X28 hx hlk hret rfl rfl (hb hby d3_62) ?_ (by decide) (by decide)
            rw [e28]
            exact ⟨(.ref b7), (.ref b13), (.ref b19), .null, rfl, Nf, Kp, V_ar, Or.inr ⟨b7, k7, rfl, sz_b7, V_b7, hc4, hc39⟩, Or.inr ⟨b13, k13, rfl, V_b13, hc4_9⟩, Or.inr ⟨b19, k19, rfl, V_b19, hc4_15⟩, Or.inl ⟨rfl, hc4_21⟩⟩
        · refine own_go (x' := T14.setTop (mkF m 59 #[.val (.ref ao0), .val (.int p1), .val (.int p2), .val (.int (2 : Int32)), .val (.int p2)] [(.ref ao0)])) (fun _ k => XS.icmpYes X14.here hx rfl (pc0 := 4) (pc' := 58) rfl (hb hby d3_4) rfl (flt hc4_15).2.1 (by decide) (by decide) (XS.aloadN X14.here hx rfl (hb hby d3_58) rfl rfl k)) ?_
          obtain ⟨T29, X29, e29, st29⟩ := getF X14 hx hZ hown (host := "") (Or.inl (own_w hw 11 rfl)) Via.refl e14 F_ao0_bytes (g := (mkF m 59 #[.val (.ref ao0), .val (.int p1), .val (.int p2), .val (.int (2 : Int32)), .val (.int p2)] [(.ref ao0)])) rfl rfl (hb hby d3_59)
          refine own_go (x' := T29.setTop (mkF m 62 #[.val (.ref ao0), .val (.int p1), .val (.int p2), .val (.int (2 : Int32)), .val (.int p2)] [(.ref ar)])) st29 ?_
          refine own_retR X29 hx hlk hret rfl rfl (hb hby d3_62) ?_ (by decide) (by decide)
          rw [e29]
          exact ⟨(.ref b7), (.ref b13), .null, .null, rfl, Nf, Kp, V_ar, Or.inr ⟨b7, k7, rfl, sz_b7, V_b7, hc4, hc39⟩, Or.inr ⟨b13, k13, rfl, V_b13, hc4_9⟩, Or.inl ⟨rfl, hc4_15⟩, Or.inl ⟨rfl, (own_le hc4_15 (by decide))⟩⟩
      · refine own_go (x' := T8.setTop (mkF m 59 #[.val (.ref ao0), .val (.int p1), .val (.int p2), .val (.int (1 : Int32)), .val (.int (p2 + (64 : Int32)))] [(.ref ao0)])) (fun _ k => XS.icmpYes X8.here hx rfl (pc0 := 4) (pc' := 58) rfl (hb hby d3_4) rfl (flt hc4_9).2.1 (by decide) (by decide) (XS.aloadN X8.here hx rfl (hb hby d3_58) rfl rfl k)) ?_
        obtain ⟨T30, X30, e30, st30⟩ := getF X8 hx hZ hown (host := "") (Or.inl (own_w hw 11 rfl)) Via.refl e8 F_ao0_bytes (g := (mkF m 59 #[.val (.ref ao0), .val (.int p1), .val (.int p2), .val (.int (1 : Int32)), .val (.int (p2 + (64 : Int32)))] [(.ref ao0)])) rfl rfl (hb hby d3_59)
        refine own_go (x' := T30.setTop (mkF m 62 #[.val (.ref ao0), .val (.int p1), .val (.int p2), .val (.int (1 : Int32)), .val (.int (p2 + (64 : Int32)))] [(.ref ar)])) st30 ?_
        refine own_retR X30 hx hlk hret rfl rfl (hb hby d3_62) ?_ (by decide) (by decide)
        rw [e30]
        exact ⟨(.ref b7), .null, .null, .null, rfl, Nf, Kp, V_ar, Or.inr ⟨b7, k7, rfl, sz_b7, V_b7, hc4, hc39⟩, Or.inl ⟨rfl, hc4_9⟩, Or.inl ⟨rfl, (own_le hc4_9 (by decide))⟩, Or.inl ⟨rfl, (own_le hc4_9 (by decide))⟩⟩
    · refine own_go (x' := T3.setTop (mkF m 2 #[.val (.ref ao0), .val (.int p1), .val (.int p2), .val (.int ((0 : Int32) + (1 : Int32))), .val (.int (p2 + (64 : Int32)))] [])) (fun _ k => XS.icmpYes X3.here hx rfl (pc0 := 39) (pc' := 52) rfl (hb hby d3_39) rfl (flt hc39).2.1 (by decide) (by decide) (XS.iinc X3.here hx rfl (hb hby d3_52) rfl (l' := #[.val (.ref ao0), .val (.int p1), .val (.int p2), .val (.int ((0 : Int32) + (1 : Int32))), .val (.int (p2 + (64 : Int32)))]) rfl (XS.goto X3.here hx rfl (pc0 := 55) (pc' := 2) rfl (hb hby d3_55) (by decide) (by decide) k))) ?_
      rw [show ((0 : Int32) + (1 : Int32)) = (1 : Int32) from by decide +kernel]
      refine own_go (x' := T3.setTop (mkF m 4 #[.val (.ref ao0), .val (.int p1), .val (.int p2), .val (.int (1 : Int32)), .val (.int (p2 + (64 : Int32)))] [(.int p1), (.int (1 : Int32))])) (fun _ k => XS.iloadN X3.here hx rfl (hb hby d3_2) rfl (XS.iloadN X3.here hx rfl (hb hby d3_3) rfl k)) ?_
      by_cases hc4_31 : (1 : Int32) < p1
      · refine own_go (x' := T3.setTop (mkF m 22 #[.val (.ref ao0), .val (.int p1), .val (.int p2), .val (.int (1 : Int32)), .val (.int p2)] [(.ref ao0)])) (fun _ k => XS.icmpNo X3.here hx rfl (hb hby d3_4) rfl (tlt hc4_31).2.1 (XS.iloadN X3.here hx rfl (hb hby d3_7) rfl (XS.ifYes X3.here hx rfl (pc0 := 8) (pc' := 18) rfl (hb hby d3_8) rfl ((if0 _ _).trans (feq (by decide +kernel : ¬ ((1 : Int32) = (0 : Int32)))).2) (by decide) (by decide) (XS.iloadN X3.here hx rfl (hb hby d3_18) rfl (XS.istore X3.here hx rfl (hb hby d3_19) rfl (l' := #[.val (.ref ao0), .val (.int p1), .val (.int p2), .val (.int (1 : Int32)), .val (.int p2)]) rfl (XS.aloadN X3.here hx rfl (hb hby d3_21) rfl rfl k)))))) ?_
        obtain ⟨T32, X32, e32, st32⟩ := getF X3 hx hZ hown (host := "") (Or.inl (own_w hw 11 rfl)) Via.refl e3 F_ao0_bytes (g := (mkF m 22 #[.val (.ref ao0), .val (.int p1), .val (.int p2), .val (.int (1 : Int32)), .val (.int p2)] [(.ref ao0)])) rfl rfl (hb hby d3_22)
        refine own_go (x' := T32.setTop (mkF m 25 #[.val (.ref ao0), .val (.int p1), .val (.int p2), .val (.int (1 : Int32)), .val (.int p2)] [(.ref ar)])) st32 ?_
        refine own_go (x' := T32.setTop (mkF m 26 #[.val (.ref ao0), .val (.int p1), .val (.int p2), .val (.int (1 : Int32)), .val (.int p2)] [(.int (1 : Int32)), (.ref ar)])) (fun _ k => XS.iloadN X32.here hx rfl (hb hby d3_25) rfl k) ?_
        obtain ⟨cl33, Ar33, q33, Sz33, Nn33, Hh33, Gg33⟩ := id V_ar
        have hin33 : ¬ ((1 : Int32) < 0 ∨ cl33.slots.size ≤ ((1 : Int32)).toNatClampNeg) := inb_of Sz33 ⟨by decide, by decide⟩
        refine own_go (x' := T32.setTop (mkF m 27 #[.val (.ref ao0), .val (.int p1), .val (.int p2), .val (.int (1 : Int32)), .val (.int p2)] [.null])) (X32.aaload hx (j := (1 : Int32)) (v := .null) (Eq.trans (congrArg (fun h_ => h_[_]?) e32) Ar33.1) (State.isArrayOf_alike hZ.alike Ar33.2.1) rfl Ar33.2.2 hin33 (Hh33.at hin33 rfl) (g := (mkF m 26 #[.val (.ref ao0), .val (.int p1), .val (.int p2), .val (.int (1 : Int32)), .val (.int p2)] [(.int (1 : Int32)), (.ref ar)])) rfl rfl (hb hby d3_26)) ?_
        refine own_go (x' := T32.setTop (mkF m 43 #[.val (.ref ao0), .val (.int p1), .val (.int p2), .val (.int (1 : Int32)), .val (.int p2)] [(.ref ao0)])) (fun _ k => XS.ifnullYes X32.here hx rfl (pc0 := 27) (pc' := 42) rfl (hb hby d3_27) rfl (by decide) (by decide) (XS.aloadN X32.here hx rfl (hb hby d3_42) rfl rfl k)) ?_
        obtain ⟨T34, X34, e34, st34⟩ := getF X32 hx hZ hown (host := "") (Or.inl (own_w hw 11 rfl)) Via.refl e32 F_ao0_bytes (g := (mkF m 43 #[.val (.ref ao0), .val (.int p1), .val (.int p2), .val (.int (1 : Int32)), .val (.int p2)] [(.ref ao0)])) rfl rfl (hb hby d3_43)
        refine own_go (x' := T34.setTop (mkF m 46 #[.val (.ref ao0), .val (.int p1), .val (.int p2), .val (.int (1 : Int32)), .val (.int p2)] [(.ref ar)])) st34 ?_
        refine own_go (x' := T34.setTop (mkF m 49 #[.val (.ref ao0), .val (.int p1), .val (.int p2), .val (.int (1 : Int32)), .val (.int p2)] [(.int p2), (.int (1 : Int32)), (.ref ar)])) (fun _ k => XS.iloadN X34.here hx rfl (hb hby d3_46) rfl (XS.iload X34.here hx rfl (hb hby d3_47) rfl k)) ?_
        obtain ⟨T35, h35, k35, X35, e35, E35, A35, Q35, st35⟩ := newPE X34 hx hZ (own_w hw 29 rfl) e34 (g := (mkF m 49 #[.val (.ref ao0), .val (.int p1), .val (.int p2), .val (.int (1 : Int32)), .val (.int p2)] [(.int p2), (.int (1 : Int32)), (.ref ar)])) rfl (hb hby d3_49) rfl hs.1 (cap := 16383) hs.2 (by decide) (by decide) (by decide) (ad := "[B") (by decide)
        obtain ⟨b35, g35⟩ : ∃ z, z = h0.size := ⟨_, rfl⟩
        rw [← g35] at A35 st35
        rw [← g35] at Q35
        have ne_ao0_b35 : ao0 ≠ b35 := Nat.ne_of_lt (Nat.lt_of_lt_of_le F_ao0_bytes.lt (Nat.le_of_eq g35.symm))
        have ne_ar_b35 : ar ≠ b35 := Nat.ne_of_lt (Nat.lt_of_lt_of_le V_ar.lt (Nat.le_of_eq g35.symm))
        have ne_b0_b35 : b0 ≠ b35 := Nat.ne_of_lt (Nat.lt_of_lt_of_le V_b0.lt (Nat.le_of_eq g35.symm))
        have g_b35 : n0 ≤ b35 := Nat.le_trans Zs (Nat.le_of_eq g35.symm)
        have sz_b35 : h0.size ≤ b35 := Nat.le_trans Kp.1 (Nat.le_of_eq g35.symm)
        replace F_ao0_bytes := Fld.ext E35 F_ao0_bytes
        replace V_ar := V_ar.ext E35
        replace V_b0 := V_b0.ext E35
        replace Zs := Nat.le_trans Zs E35.1
        replace Kp := Kp.ext E35
        have E_b35 := Q35
        have V_b35 : Arv Z h35 b35 k35 .byte p2 [] (.int (0 : Int32)) := Arv.new A35 hs.1
        refine own_go (x' := T35.setTop (mkF m 51 #[.val (.ref ao0), .val (.int p1), .val (.int p2), .val (.int (1 : Int32)), .val (.int p2)] [(.ref b35), (.int (1 : Int32)), (.ref ar)])) st35 ?_
        obtain ⟨cl36, Ar36, q36, Sz36, Nn36, Hh36, Gg36⟩ := V_ar
        have hin36 : ¬ ((1 : Int32) < 0 ∨ cl36.slots.size ≤ ((1 : Int32)).toNatClampNeg) := inb_of Sz36 ⟨by decide, by decide⟩
        obtain ⟨T36, h36, X36, e36, W36, st36⟩ := stR X35 hx hZ e35 Ar36 (j := (1 : Int32)) hin36 rfl (Sto.ofVA Ar36 q36 O_ar (Ins.self E_b35)) (g := (mkF m 51 #[.val (.ref ao0), .val (.int p1), .val (.int p2), .val (.int (1 : Int32)), .val (.int p2)] [(.ref b35), (.int (1 : Int32)), (.ref ar)])) rfl rfl (hb hby d3_51)
        refine own_go (x' := T36.setTop (mkF m 52 #[.val (.ref ao0), .val (.int p1), .val (.int p2), .val (.int (1 : Int32)), .val (.int p2)] [])) st36 ?_
        replace F_ao0_bytes := Fld.other W36 F_ao0_bytes (Or.inl ne_ao0_ar)
        replace V_b0 := V_b0.other W36 ne_b0_ar
        replace E_b35 := Exa.wr W36 E_b35
        replace V_b35 := V_b35.other W36 (Ne.symm ne_ar_b35)
        replace Zs := Nat.le_trans Zs (Keep.of_wr W36).1
        replace Nf := Fr.snoc X36 Nf g_ar
        replace Kp := Kp.wr W36 (Or.inl (by simp))
        have V_ar : Arv Z h36 ar kc (.array .byte) (4 : Int32) [(.ref b0), (.ref b35), .null, .null] .null := Arv.set Ar36 q36 Sz36 Nn36 Hh36 Gg36 rfl W36 1 rfl (Nat.le_of_ble_eq_true rfl)
        refine own_go (x' := T36.setTop (mkF m 2 #[.val (.ref ao0), .val (.int p1), .val (.int p2), .val (.int ((1 : Int32) + (1 : Int32))), .val (.int p2)] [])) (fun _ k => XS.iinc X36.here hx rfl (hb hby d3_52) rfl (l' := #[.val (.ref ao0), .val (.int p1), .val (.int p2), .val (.int ((1 : Int32) + (1 : Int32))), .val (.int p2)]) rfl (XS.goto X36.here hx rfl (pc0 := 55) (pc' := 2) rfl (hb hby d3_55) (by decide) (by decide) k)) ?_
        rw [show ((1 : Int32) + (1 : Int32)) = (2 : Int32) from by decide +kernel]
        refine own_go (x' := T36.setTop (mkF m 4 #[.val (.ref ao0), .val (.int p1), .val (.int p2), .val (.int (2 : Int32)), .val (.int p2)] [(.int p1), (.int (2 : Int32))])) (fun _ k => XS.iloadN X36.here hx rfl (hb hby d3_2) rfl (XS.iloadN X36.here hx rfl (hb hby d3_3) rfl k)) ?_
        by_cases hc4_37 : (2 : Int32) < p1
        · refine own_go (x' := T36.setTop (mkF m 22 #[.val (.ref ao0), .val (.int p1), .val (.int p2), .val (.int (2 : Int32)), .val (.int p2)] [(.ref ao0)])) (fun _ k => XS.icmpNo X36.here hx rfl (hb hby d3_4) rfl (tlt hc4_37).2.1 (XS.iloadN X36.here hx rfl (hb hby d3_7) rfl (XS.ifYes X36.here hx rfl (pc0 := 8) (pc' := 18) rfl (hb hby d3_8) rfl ((if0 _ _).trans (feq (by decide +kernel : ¬ ((2 : Int32) = (0 : Int32)))).2) (by decide) (by decide) (XS.iloadN X36.here hx rfl (hb hby d3_18) rfl (XS.istore X36.here hx rfl (hb hby d3_19) rfl (l' := #[.val (.ref ao0), .val (.int p1), .val (.int p2), .val (.int (2 : Int32)), .val (.int p2)]) rfl (XS.aloadN X36.here hx rfl (hb hby d3_21) rfl rfl k)))))) ?_
          obtain ⟨T38, X38, e38, st38⟩ := getF X36 hx hZ hown (host := "") (Or.inl (own_w hw 11 rfl)) Via.refl e36 F_ao0_bytes (g := (mkF m 22 #[.val (.ref ao0), .val (.int p1), .val (.int p2), .val (.int (2 : Int32)), .val (.int p2)] [(.ref ao0)])) rfl rfl (hb hby d3_22)
          refine own_go (x' := T38.setTop (mkF m 25 #[.val (.ref ao0), .val (.int p1), .val (.int p2), .val (.int (2 : Int32)), .val (.int p2)] [(.ref ar)])) st38 ?_
          refine own_go (x' := T38.setTop (mkF m 26 #[.val (.ref ao0), .val (.int p1), .val (.int p2), .val (.int (2 : Int32)), .val (.int p2)] [(.int (2 : Int32)), (.ref ar)])) (fun _ k => XS.iloadN X38.here hx rfl (hb hby d3_25) rfl k) ?_
          obtain ⟨cl39, Ar39, q39, Sz39, Nn39, Hh39, Gg39⟩ := id V_ar
          have hin39 : ¬ ((2 : Int32) < 0 ∨ cl39.slots.size ≤ ((2 : Int32)).toNatClampNeg) := inb_of Sz39 ⟨by decide, by decide⟩
          refine own_go (x' := T38.setTop (mkF m 27 #[.val (.ref ao0), .val (.int p1), .val (.int p2), .val (.int (2 : Int32)), .val (.int p2)] [.null])) (X38.aaload hx (j := (2 : Int32)) (v := .null) (Eq.trans (congrArg (fun h_ => h_[_]?) e38) Ar39.1) (State.isArrayOf_alike hZ.alike Ar39.2.1) rfl Ar39.2.2 hin39 (Hh39.at hin39 rfl) (g := (mkF m 26 #[.val (.ref ao0), .val (.int p1), .val (.int p2), .val (.int (2 : Int32)), .val (.int p2)] [(.int (2 : Int32)), (.ref ar)])) rfl rfl (hb hby d3_26)) ?_
          refine own_go (x' := T38.setTop (mkF m 43 #[.val (.ref ao0), .val (.int p1), .val (.int p2), .val (.int (2 : Int32)), .val (.int p2)] [(.ref ao0)])) (fun _ k => XS.ifnullYes X38.here hx rfl (pc0 := 27) (pc' := 42) rfl (hb hby d3_27) rfl (by decide) (by decide) (XS.aloadN X38.here hx rfl (hb hby d3_42) rfl rfl k)) ?_
          obtain ⟨T40, X40, e40, st40⟩ := getF X38 hx hZ hown (host := "") (Or.inl (own_w hw 11 rfl)) Via.refl e38 F_ao0_bytes (g := (mkF m 43 #[.val (.ref ao0), .val (.int p1), .val (.int p2), .val (.int (2 : Int32)), .val (.int p2)] [(.ref ao0)])) rfl rfl (hb hby d3_43)
          refine own_go (x' := T40.setTop (mkF m 46 #[.val (.ref ao0), .val (.int p1), .val (.int p2), .val (.int (2 : Int32)), .val (.int p2)] [(.ref ar)])) st40 ?_
          refine own_go (x' := T40.setTop (mkF m 49 #[.val (.ref ao0), .val (.int p1), .val (.int p2), .val (.int (2 : Int32)), .val (.int p2)] [(.int p2), (.int (2 : Int32)), (.ref ar)])) (fun _ k => XS.iloadN X40.here hx rfl (hb hby d3_46) rfl (XS.iload X40.here hx rfl (hb hby d3_47) rfl k)) ?_
          obtain ⟨T41, h41, k41, X41, e41, E41, A41, Q41, st41⟩ := newPE X40 hx hZ (own_w hw 29 rfl) e40 (g := (mkF m 49 #[.val (.ref ao0), .val (.int p1), .val (.int p2), .val (.int (2 : Int32)), .val (.int p2)] [(.int p2), (.int (2 : Int32)), (.ref ar)])) rfl (hb hby d3_49) rfl hs.1 (cap := 16383) hs.2 (by decide) (by decide) (by decide) (ad := "[B") (by decide)
          obtain ⟨b41, g41⟩ : ∃ z, z = h36.size := ⟨_, rfl⟩
          rw [← g41] at A41 st41
          rw [← g41] at Q41
          have ne_ao0_b41 : ao0 ≠ b41 := Nat.ne_of_lt (Nat.lt_of_lt_of_le F_ao0_bytes.lt (Nat.le_of_eq g41.symm))
          have ne_b0_b41 : b0 ≠ b41 := Nat.ne_of_lt (Nat.lt_of_lt_of_le V_b0.lt (Nat.le_of_eq g41.symm))
          have ne_b35_b41 : b35 ≠ b41 := Nat.ne_of_lt (Nat.lt_of_lt_of_le E_b35.lt (Nat.le_of_eq g41.symm))
          have ne_ar_b41 : ar ≠ b41 := Nat.ne_of_lt (Nat.lt_of_lt_of_le V_ar.lt (Nat.le_of_eq g41.symm))
          have g_b41 : n0 ≤ b41 := Nat.le_trans Zs (Nat.le_of_eq g41.symm)
          have sz_b41 : h0.size ≤ b41 := Nat.le_trans Kp.1 (Nat.le_of_eq g41.symm)
          replace F_ao0_bytes := Fld.ext E41 F_ao0_bytes
          replace V_b0 := V_b0.ext E41
          replace E_b35 := Exa.ext E41 E_b35
          replace V_b35 := V_b35.ext E41
          replace V_ar := V_ar.ext E41
          replace Zs := Nat.le_trans Zs E41.1
          replace Kp := Kp.ext E41
          have E_b41 := Q41
          have V_b41 : Arv Z h41 b41 k41 .byte p2 [] (.int (0 : Int32)) := Arv.new A41 hs.1
          refine own_go (x' := T41.setTop (mkF m 51 #[.val (.ref ao0), .val (.int p1), .val (.int p2), .val (.int (2 : Int32)), .val (.int p2)] [(.ref b41), (.int (2 : Int32)), (.ref ar)])) st41 ?_
          obtain ⟨cl42, Ar42, q42, Sz42, Nn42, Hh42, Gg42⟩ := V_ar
          have hin42 : ¬ ((2 : Int32) < 0 ∨ cl42.slots.size ≤ ((2 : Int32)).toNatClampNeg) := inb_of Sz42 ⟨by decide, by decide⟩
          obtain ⟨T42, h42, X42, e42, W42, st42⟩ := stR X41 hx hZ e41 Ar42 (j := (2 : Int32)) hin42 rfl (Sto.ofVA Ar42 q42 O_ar (Ins.self E_b41)) (g := (mkF m 51 #[.val (.ref ao0), .val (.int p1), .val (.int p2), .val (.int (2 : Int32)), .val (.int p2)] [(.ref b41), (.int (2 : Int32)), (.ref ar)])) rfl rfl (hb hby d3_51)
          refine own_go (x' := T42.setTop (mkF m 52 #[.val (.ref ao0), .val (.int p1), .val (.int p2), .val (.int (2 : Int32)), .val (.int p2)] [])) st42 ?_
          replace F_ao0_bytes := Fld.other W42 F_ao0_bytes (Or.inl ne_ao0_ar)
          replace V_b0 := V_b0.other W42 ne_b0_ar
          replace E_b35 := Exa.wr W42 E_b35
          replace V_b35 := V_b35.other W42 (Ne.symm ne_ar_b35)
          replace E_b41 := Exa.wr W42 E_b41
          replace V_b41 := V_b41.other W42 (Ne.symm ne_ar_b41)
          replace Zs := Nat.le_trans Zs (Keep.of_wr W42).1
          replace Nf := Fr.snoc X42 Nf g_ar
          replace Kp := Kp.wr W42 (Or.inl (by simp))
          have V_ar : Arv Z h42 ar kc (.array .byte) (4 : Int32) [(.ref b0), (.ref b35), (.ref b41), .null] .null := Arv.set Ar42 q42 Sz42 Nn42 Hh42 Gg42 rfl W42 2 rfl (Nat.le_of_ble_eq_true rfl)
          refine own_go (x' := T42.setTop (mkF m 2 #[.val (.ref ao0), .val (.int p1), .val (.int p2), .val (.int ((2 : Int32) + (1 : Int32))), .val (.int p2)] [])) (fun _ k => XS.iinc X42.here hx rfl (hb hby d3_52) rfl (l' := #[.val (.ref ao0), .val (.int p1), .val (.int p2), .val (.int ((2 : Int32) + (1 : Int32))), .val (.int p2)]) rfl (XS.goto X42.here hx rfl (pc0 := 55) (pc' := 2) rfl (hb hby d3_55) (by decide) (by decide) k)) ?_
          rw [show ((2 : Int32) + (1 : Int32)) = (3 : Int32) from by decide +kernel]
          refine own_go (x' := T42.setTop (mkF m 4 #[.val (.ref ao0), .val (.int p1), .val (.int p2), .val (.int (3 : Int32)), .val (.int p2)] [(.int p1), (.int (3 : Int32))])) (fun _ k => XS.iloadN X42.here hx rfl (hb hby d3_2) rfl (XS.iloadN X42.here hx rfl (hb hby d3_3) rfl k)) ?_
          by_cases hc4_43 : (3 : Int32) < p1
          · refine own_go (x' := T42.setTop (mkF m 22 #[.val (.ref ao0), .val (.int p1), .val (.int p2), .val (.int (3 : Int32)), .val (.int p2)] [(.ref ao0)])) (fun _ k => XS.icmpNo X42.here hx rfl (hb hby d3_4) rfl (tlt hc4_43).2.1 (XS.iloadN X42.here hx rfl (hb hby d3_7) rfl (XS.ifYes X42.here hx rfl (pc0 := 8) (pc' := 18) rfl (hb hby d3_8) rfl ((if0 _ _).trans (feq (by decide +kernel : ¬ ((3 : Int32) = (0 : Int32)))).2) (by decide) (by decide) (XS.iloadN X42.here hx rfl (hb hby d3_18) rfl (XS.istore X42.here hx rfl (hb hby d3_19) rfl (l' := #[.val (.ref ao0), .val (.int p1), .val (.int p2), .val (.int (3 : Int32)), .val (.int p2)]) rfl (XS.aloadN X42.here hx rfl (hb hby d3_21) rfl rfl k)))))) ?_
            obtain ⟨T44, X44, e44, st44⟩ := getF X42 hx hZ hown (host := "") (Or.inl (own_w hw 11 rfl)) Via.refl e42 F_ao0_bytes (g := (mkF m 22 #[.val (.ref ao0), .val (.int p1), .val (.int p2), .val (.int (3 : Int32)), .val (.int p2)] [(.ref ao0)])) rfl rfl (hb hby d3_22)
            refine own_go (x' := T44.setTop (mkF m 25 #[.val (.ref ao0), .val (.int p1), .val (.int p2), .val (.int (3 : Int32)), .val (.int p2)] [(.ref ar)])) st44 ?_
            refine own_go (x' := T44.setTop (mkF m 26 #[.val (.ref ao0), .val (.int p1), .val (.int p2), .val (.int (3 : Int32)), .val (.int p2)] [(.int (3 : Int32)), (.ref ar)])) (fun _ k => XS.iloadN X44.here hx rfl (hb hby d3_25) rfl k) ?_
            obtain ⟨cl45, Ar45, q45, Sz45, Nn45, Hh45, Gg45⟩ := id V_ar
            have hin45 : ¬ ((3 : Int32) < 0 ∨ cl45.slots.size ≤ ((3 : Int32)).toNatClampNeg) := inb_of Sz45 ⟨by decide, by decide⟩
            refine own_go (x' := T44.setTop (mkF m 27 #[.val (.ref ao0), .val (.int p1), .val (.int p2), .val (.int (3 : Int32)), .val (.int p2)] [.null])) (X44.aaload hx (j := (3 : Int32)) (v := .null) (Eq.trans (congrArg (fun h_ => h_[_]?) e44) Ar45.1) (State.isArrayOf_alike hZ.alike Ar45.2.1) rfl Ar45.2.2 hin45 (Hh45.at hin45 rfl) (g := (mkF m 26 #[.val (.ref ao0), .val (.int p1), .val (.int p2), .val (.int (3 : Int32)), .val (.int p2)] [(.int (3 : Int32)), (.ref ar)])) rfl rfl (hb hby d3_26)) ?_
            refine own_go (x' := T44.setTop (mkF m 43 #[.val (.ref ao0), .val (.int p1), .val (.int p2), .val (.int (3 : Int32)), .val (.int p2)] [(.ref ao0)])) (fun _ k => XS.ifnullYes X44.here hx rfl (pc0 := 27) (pc' := 42) rfl (hb hby d3_27) rfl (by decide) (by decide) (XS.aloadN X44.here hx rfl (hb hby d3_42) rfl rfl k)) ?_
            obtain ⟨T46, X46, e46, st46⟩ := getF X44 hx hZ hown (host := "") (Or.inl (own_w hw 11 rfl)) Via.refl e44 F_ao0_bytes (g := (mkF m 43 #[.val (.ref ao0), .val (.int p1), .val (.int p2), .val (.int (3 : Int32)), .val (.int p2)] [(.ref ao0)])) rfl rfl (hb hby d3_43)
            refine own_go (x' := T46.setTop (mkF m 46 #[.val (.ref ao0), .val (.int p1), .val (.int p2), .val (.int (3 : Int32)), .val (.int p2)] [(.ref ar)])) st46 ?_
            refine own_go (x' := T46.setTop (mkF m 49 #[.val (.ref ao0), .val (.int p1), .val (.int p2), .val (.int (3 : Int32)), .val (.int p2)] [(.int p2), (.int (3 : Int32)), (.ref ar)])) (fun _ k => XS.iloadN X46.here hx rfl (hb hby d3_46) rfl (XS.iload X46.here hx rfl (hb hby d3_47) rfl k)) ?_
            obtain ⟨T47, h47, k47, X47, e47, E47, A47, Q47, st47⟩ := newPE X46 hx hZ (own_w hw 29 rfl) e46 (g := (mkF m 49 #[.val (.ref ao0), .val (.int p1), .val (.int p2), .val (.int (3 : Int32)), .val (.int p2)] [(.int p2), (.int (3 : Int32)), (.ref ar)])) rfl (hb hby d3_49) rfl hs.1 (cap := 16383) hs.2 (by decide) (by decide) (by decide) (ad := "[B") (by decide)
            obtain ⟨b47, g47⟩ : ∃ z, z = h42.size := ⟨_, rfl⟩
            rw [← g47] at A47 st47
            rw [← g47] at Q47
            have ne_ao0_b47 : ao0 ≠ b47 := Nat.ne_of_lt (Nat.lt_of_lt_of_le F_ao0_bytes.lt (Nat.le_of_eq g47.symm))
            have ne_b0_b47 : b0 ≠ b47 := Nat.ne_of_lt (Nat.lt_of_lt_of_le V_b0.lt (Nat.le_of_eq g47.symm))
            have ne_b35_b47 : b35 ≠ b47 := Nat.ne_of_lt (Nat.lt_of_lt_of_le E_b35.lt (Nat.le_of_eq g47.symm))
            have ne_b41_b47 : b41 ≠ b47 := Nat.ne_of_lt (Nat.lt_of_lt_of_le E_b41.lt (Nat.le_of_eq g47.symm))
            have ne_ar_b47 : ar ≠ b47 := Nat.ne_of_lt (Nat.lt_of_lt_of_le V_ar.lt (Nat.le_of_eq g47.symm))
            have g_b47 : n0 ≤ b47 := Nat.le_trans Zs (Nat.le_of_eq g47.symm)
            have sz_b47 : h0.size ≤ b47 := Nat.le_trans Kp.1 (Nat.le_of_eq g47.symm)
            replace F_ao0_bytes := Fld.ext E47 F_ao0_bytes
            replace V_b0 := V_b0.ext E47
            replace E_b35 := Exa.ext E47 E_b35
            replace V_b35 := V_b35.ext E47
            replace E_b41 := Exa.ext E47 E_b41
            replace V_b41 := V_b41.ext E47
            replace V_ar := V_ar.ext E47
            replace Zs := Nat.le_trans Zs E47.1
            replace Kp := Kp.ext E47
            have E_b47 := Q47
            have V_b47 : Arv Z h47 b47 k47 .byte p2 [] (.int (0 : Int32)) := Arv.new A47 hs.1
            refine own_go (x' := T47.setTop (mkF m 51 #[.val (.ref ao0), .val (.int p1), .val (.int p2), .val (.int (3 : Int32)), .val (.int p2)] [(.ref b47), (.int (3 : Int32)), (.ref ar)])) st47 ?_
            obtain ⟨cl48, Ar48, q48, Sz48, Nn48, Hh48, Gg48⟩ := V_ar
            have hin48 : ¬ ((3 : Int32) < 0 ∨ cl48.slots.size ≤ ((3 : Int32)).toNatClampNeg) := inb_of Sz48 ⟨by decide, by decide⟩
            obtain ⟨T48, h48, X48, e48, W48, st48⟩ := stR X47 hx hZ e47 Ar48 (j := (3 : Int32)) hin48 rfl (Sto.ofVA Ar48 q48 O_ar (Ins.self E_b47)) (g := (mkF m 51 #[.val (.ref ao0), .val (.int p1), .val (.int p2), .val (.int (3 : Int32)), .val (.int p2)] [(.ref b47), (.int (3 : Int32)), (.ref ar)])) rfl rfl (hb hby d3_51)
            refine own_go (x' := T48.setTop (mkF m 52 #[.val (.ref ao0), .val (.int p1), .val (.int p2), .val (.int (3 : Int32)), .val (.int p2)] [])) st48 ?_
            replace F_ao0_bytes := Fld.other W48 F_ao0_bytes (Or.inl ne_ao0_ar)
            replace V_b0 := V_b0.other W48 ne_b0_ar
            replace E_b35 := Exa.wr W48 E_b35
            replace V_b35 := V_b35.other W48 (Ne.symm ne_ar_b35)
            replace E_b41 := Exa.wr W48 E_b41
            replace V_b41 := V_b41.other W48 (Ne.symm ne_ar_b41)
            replace E_b47 := Exa.wr W48 E_b47
            replace V_b47 := V_b47.other W48 (Ne.symm ne_ar_b47)
            replace Zs := Nat.le_trans Zs (Keep.of_wr W48).1
            replace Nf := Fr.snoc X48 Nf g_ar
            replace Kp := Kp.wr W48 (Or.inl (by simp))
            have V_ar : Arv Z h48 ar kc (.array .byte) (4 : Int32) [(.ref b0), (.ref b35), (.ref b41), (.ref b47)] .null := Arv.set Ar48 q48 Sz48 Nn48 Hh48 Gg48 rfl W48 3 rfl (Nat.le_of_ble_eq_true rfl)
            refine own_go (x' := T48.setTop (mkF m 2 #[.val (.ref ao0), .val (.int p1), .val (.int p2), .val (.int ((3 : Int32) + (1 : Int32))), .val (.int p2)] [])) (fun _ k => XS.iinc X48.here hx rfl (hb hby d3_52) rfl (l' := #[.val (.ref ao0), .val (.int p1), .val (.int p2), .val (.int ((3 : Int32) + (1 : Int32))), .val (.int p2)]) rfl (XS.goto X48.here hx rfl (pc0 := 55) (pc' := 2) rfl (hb hby d3_55) (by decide) (by decide) k)) ?_
            rw [show ((3 : Int32) + (1 : Int32)) = (4 : Int32) from by decide +kernel]
            refine own_go (x' := T48.setTop (mkF m 59 #[.val (.ref ao0), .val (.int p1), .val (.int p2), .val (.int (4 : Int32)), .val (.int p2)] [(.ref ao0)])) (fun _ k => XS.iloadN X48.here hx rfl (hb hby d3_2) rfl (XS.iloadN X48.here hx rfl (hb hby d3_3) rfl (XS.icmpYes X48.here hx rfl (pc0 := 4) (pc' := 58) rfl (hb hby d3_4) rfl (flt hu).2.1 (by decide) (by decide) (XS.aloadN X48.here hx rfl (hb hby d3_58) rfl rfl k)))) ?_
            obtain ⟨T49, X49, e49, st49⟩ := getF X48 hx hZ hown (host := "") (Or.inl (own_w hw 11 rfl)) Via.refl e48 F_ao0_bytes (g := (mkF m 59 #[.val (.ref ao0), .val (.int p1), .val (.int p2), .val (.int (4 : Int32)), .val (.int p2)] [(.ref ao0)])) rfl rfl (hb hby d3_59)
            refine own_go (x' := T49.setTop (mkF m 62 #[.val (.ref ao0), .val (.int p1), .val (.int p2), .val (.int (4 : Int32)), .val (.int p2)] [(.ref ar)])) st49 ?_
            refine own_retR X49 hx hlk hret rfl rfl (hb hby d3_62) ?_ (by decide) (by decide)
            rw [e49]
            exact ⟨(.ref b0), (.ref b35), (.ref b41), (.ref b47), rfl, Nf, Kp, V_ar, Or.inl ⟨rfl, Or.inr hc39⟩, Or.inr ⟨b35, k35, rfl, V_b35, hc4_31⟩, Or.inr ⟨b41, k41, rfl, V_b41, hc4_37⟩, Or.inr ⟨b47, k47, rfl, V_b47, hc4_43⟩⟩
          · refine own_go (x' := T42.setTop (mkF m 59 #[.val (.ref ao0), .val (.int p1), .val (.int p2), .val (.int (3 : Int32)), .val (.int p2)] [(.ref ao0)])) (fun _ k => XS.icmpYes X42.here hx rfl (pc0 := 4) (pc' := 58) rfl (hb hby d3_4) rfl (flt hc4_43).2.1 (by decide) (by decide) (XS.aloadN X42.here hx rfl (hb hby d3_58) rfl rfl k)) ?_
            obtain ⟨T50, X50, e50, st50⟩ := getF X42 hx hZ hown (host := "") (Or.inl (own_w hw 11 rfl)) Via.refl e42 F_ao0_bytes (g := (mkF m 59 #[.val (.ref ao0), .val (.int p1), .val (.int p2), .val (.int (3 : Int32)), .val (.int p2)] [(.ref ao0)])) rfl rfl (hb hby d3_59)
            refine own_go (x' := T50.setTop (mkF m 62 #[.val (.ref ao0), .val (.int p1), .val (.int p2), .val (.int (3 : Int32)), .val (.int p2)] [(.ref ar)])) st50 ?_
            refine own_retR X50 hx hlk hret rfl rfl (hb hby d3_62) ?_ (by decide) (by decide)
            rw [e50]
            exact ⟨(.ref b0), (.ref b35), (.ref b41), .null, rfl, Nf, Kp, V_ar, Or.inl ⟨rfl, Or.inr hc39⟩, Or.inr ⟨b35, k35, rfl, V_b35, hc4_31⟩, Or.inr ⟨b41, k41, rfl, V_b41, hc4_37⟩, Or.inl ⟨rfl, hc4_43⟩⟩
        · refine own_go (x' := T36.setTop (mkF m 59 #[.val (.ref ao0), .val (.int p1), .val (.int p2), .val (.int (2 : Int32)), .val (.int p2)] [(.ref ao0)])) (fun _ k => XS.icmpYes X36.here hx rfl (pc0 := 4) (pc' := 58) rfl (hb hby d3_4) rfl (flt hc4_37).2.1 (by decide) (by decide) (XS.aloadN X36.here hx rfl (hb hby d3_58) rfl rfl k)) ?_
          obtain ⟨T51, X51, e51, st51⟩ := getF X36 hx hZ hown (host := "") (Or.inl (own_w hw 11 rfl)) Via.refl e36 F_ao0_bytes (g := (mkF m 59 #[.val (.ref ao0), .val (.int p1), .val (.int p2), .val (.int (2 : Int32)), .val (.int p2)] [(.ref ao0)])) rfl rfl (hb hby d3_59)
          refine own_go (x' := T51.setTop (mkF m 62 #[.val (.ref ao0), .val (.int p1), .val (.int p2), .val (.int (2 : Int32)), .val (.int p2)] [(.ref ar)])) st51 ?_
          refine own_retR X51 hx hlk hret rfl rfl (hb hby d3_62) ?_ (by decide) (by decide)
          rw [e51]
          exact ⟨(.ref b0), (.ref b35), .null, .null, rfl, Nf, Kp, V_ar, Or.inl ⟨rfl, Or.inr hc39⟩, Or.inr ⟨b35, k35, rfl, V_b35, hc4_31⟩, Or.inl ⟨rfl, hc4_37⟩, Or.inl ⟨rfl, (own_le hc4_37 (by decide))⟩⟩
      · refine own_go (x' := T3.setTop (mkF m 59 #[.val (.ref ao0), .val (.int p1), .val (.int p2), .val (.int (1 : Int32)), .val (.int (p2 + (64 : Int32)))] [(.ref ao0)])) (fun _ k => XS.icmpYes X3.here hx rfl (pc0 := 4) (pc' := 58) rfl (hb hby d3_4) rfl (flt hc4_31).2.1 (by decide) (by decide) (XS.aloadN X3.here hx rfl (hb hby d3_58) rfl rfl k)) ?_
        obtain ⟨T52, X52, e52, st52⟩ := getF X3 hx hZ hown (host := "") (Or.inl (own_w hw 11 rfl)) Via.refl e3 F_ao0_bytes (g := (mkF m 59 #[.val (.ref ao0), .val (.int p1), .val (.int p2), .val (.int (1 : Int32)), .val (.int (p2 + (64 : Int32)))] [(.ref ao0)])) rfl rfl (hb hby d3_59)
        refine own_go (x' := T52.setTop (mkF m 62 #[.val (.ref ao0), .val (.int p1), .val (.int p2), .val (.int (1 : Int32)), .val (.int (p2 + (64 : Int32)))] [(.ref ar)])) st52 ?_
        refine own_retR X52 hx hlk hret rfl rfl (hb hby d3_62) ?_ (by decide) (by decide)
        rw [e52]
        exact ⟨(.ref b0), .null, .null, .null, rfl, Nf, Kp, V_ar, Or.inl ⟨rfl, Or.inr hc39⟩, Or.inl ⟨rfl, hc4_31⟩, Or.inl ⟨rfl, (own_le hc4_31 (by decide))⟩, Or.inl ⟨rfl, (own_le hc4_31 (by decide))⟩⟩
  · refine own_go (x' := s₁.setTop (mkF m 59 #[.val (.ref ao0), .val (.int p1), .val (.int p2), .val (.int (0 : Int32)), .unset] [(.ref ao0)])) (fun _ k => XS.icmpYes X0.here hx rfl (pc0 := 4) (pc' := 58) rfl (hb hby d3_4) rfl (flt hc4).2.1 (by decide) (by decide) (XS.aloadN X0.here hx rfl (hb hby d3_58) rfl rfl k)) ?_
    obtain ⟨T53, X53, e53, st53⟩ := getF X0 hx hZ hown (host := "") (Or.inl (own_w hw 11 rfl)) Via.refl e0 F_ao0_bytes (g := (mkF m 59 #[.val (.ref ao0), .val (.int p1), .val (.int p2), .val (.int (0 : Int32)), .unset] [(.ref ao0)])) rfl rfl (hb hby d3_59)
    refine own_go (x' := T53.setTop (mkF m 62 #[.val (.ref ao0), .val (.int p1), .val (.int p2), .val (.int (0 : Int32)), .unset] [(.ref ar)])) st53 ?_
    refine own_retR X53 hx hlk hret rfl rfl (hb hby d3_62) ?_ (by decide) (by decide)
    rw [e53]
    exact ⟨(.ref b0), .null, .null, .null, rfl, Nf, Kp, V_ar, Or.inl ⟨rfl, Or.inl hc4⟩, Or.inl ⟨rfl, (own_le hc4 (by decide))⟩, Or.inl ⟨rfl, (own_le hc4 (by decide))⟩, Or.inl ⟨rfl, (own_le hc4 (by decide))⟩⟩
def Q_rmS_2 (Z : State) (ao0 : Addr) (p1 : Int32) (p2 : Int32) (ar : Addr) (kc : ClassId) (nA n1 : Int32) (b0 : Addr) (k0 : ClassId) (b1 : Addr) (k1 : ClassId) (h0 : Heap) (n0 : Nat) (v : Option Value) (h : Heap) (L : List Loc) : Prop := ∃ w0 w1 w2 w3 : Value, v = some (.ref ar) ∧ Fr n0 L ∧ Keep h0 h [ar] ∧ Arv Z h ar kc (.array .byte) (4 : Int32) [w0, w1, w2, w3] .null ∧ own_Rp Z h h0.size w0 b0 (0 : Int32) p1 nA (p2 + (64 : Int32)) ∧ own_Rp Z h h0.size w1 b1 (1 : Int32) p1 n1 p2 ∧ own_Rn Z h w2 (2 : Int32) p1 p2 ∧ own_Rn Z h w3 (3 : Int32) p1 p2
theorem pn_rmS_2 : plainName "com/example/wee_match/weematch/Sieve$Windows" = true := by first | (simp [plainName, overriddenIn]; done) | decide +kernel
theorem ef_rmS_2 (m : MethodId) (x0 : Addr) (x1 : Int32) (x2 : Int32) : entryFrame m #[(.ref x0), (.int x1), (.int x2)] 5 = mkF m 0 #[.val (.ref x0), .val (.int x1), .val (.int x2), .unset, .unset] [] := by first | (simp [entryFrame, mkF, argsToLocals, Value.category]; done) | rfl
set_option maxRecDepth 65536 in
set_option maxHeartbeats 40000000 in
theorem rmS_2 (l : Launch) (Z : State) (a0 : Array Value) (hw : ∀ d ∈ tables_1, d.before a0 Z = true) (ws : List Jvm.Cond) (ao0 : Addr) (p1 : Int32) (p2 : Int32) (ar : Addr) (kc : ClassId) (nA n1 : Int32) (b0 : Addr) (k0 : ClassId) (b1 : Addr) (k1 : ClassId) (h0 : Heap) (n0 : Nat) (Z0 : n0 ≤ h0.size) (F_ao0_bytes : Fld Z h0 ao0 "com/example/wee_match/weematch/Sieve$Windows" "bytes" "[[B" (.ref ar)) (V_ar : Arv Z h0 ar kc (.array .byte) (4 : Int32) [.ref b0, .ref b1, .null, .null] .null) (O_ar : OvrA Z kc .byte "[B") (ne_ao0_ar : ao0 ≠ ar) (g_ar : n0 ≤ ar) (hs : own_L p2 16383) (ht : own_L (p2 + (64 : Int32)) 16447) (hu : ¬ (4 : Int32) < p1) (V_b0 : Arv Z h0 b0 k0 .byte nA [] (.int (0 : Int32))) (V_b1 : Arv Z h0 b1 k1 .byte n1 [] (.int (0 : Int32))) (ne_b0_ar : b0 ≠ ar) (ne_b1_ar : b1 ≠ ar) :
    MetFree l (⟨"com/example/wee_match/weematch/Sieve$Windows", "bytes", "(II)[[B"⟩ : MethodName) (head1 (Jvm.Cond.code (⟨"com/example/wee_match/weematch/Sieve$Windows", "bytes", "(II)[[B"⟩ : MethodName) prog_20_method_2_code 5 (some (.array (.array .byte))) :: ws) ({ frames := 0, cells := 4, slots := 65596, locals := 0 } : Room)) (fun a U => a = #[(.ref ao0), (.int p1), (.int p2)] ∧ Z.Warmed39 U.vm ∧ U.heap = h0) (fun _ _ _ _ _ => True) (fun _ U o U' => ∃ v L, o = .returned v ∧ (Q_rmS_2 Z ao0 p1 p2 ar kc nA n1 b0 k0 b1 k1 h0 n0) v U'.heap L ∧ FrameEnd U o U' L ({ frames := 0, cells := 4, slots := 65596, locals := 0 } : Room).cells ({ frames := 0, cells := 4, slots := 65596, locals := 0 } : Room).slots) := by
  refine MetFree.of_bodySF (plainFor_of_name pn_rmS_2) hisR ?_
  intro p e s m args below meth c s₁ Bd hml0 hP hK
  obtain ⟨rfl, hZ, hh⟩ := hP
  have hx := Bd.exec
  have hby := Bd.bytes
  have hlk := BodyLoose.notSynchronized Bd
  have hret := Bd.returns
  have hml : c.maxLocals = 5 := hml0
  have hown : s.vm.findClass "com/example/wee_match/weematch/Sieve$Windows" = some m.cls := findClass_of_methodNamed Bd.named
  have hnm := (name_of_methodNamed Bd.named Bd.method).1
  have X0 : Stand p l e ({ frames := 0, cells := 4, slots := 65596, locals := 0 } : Room) s m #[(.ref ao0), (.int p1), (.int p2)] below meth c s₁ [] 0 0 := Stand.of_body Bd
  have e0 : s₁.heap = h0 := by rw [← hh, Bd.state]; rfl
  have Nf := Fr.nil n0
  have Zs := Z0
  have Kp : Keep h0 h0 [ar] := Keep.refl _ _
  show own_End p e below s (Q_rmS_2 Z ao0 p1 p2 ar kc nA n1 b0 k0 b1 k1 h0 n0) ({ frames := 0, cells := 4, slots := 65596, locals := 0 } : Room).cells ({ frames := 0, cells := 4, slots := 65596, locals := 0 } : Room).slots (s₁.setTop (entryFrame m #[(.ref ao0), (.int p1), (.int p2)] 5))
  refine own_go (x' := s₁.setTop (mkF m 0 #[.val (.ref ao0), .val (.int p1), .val (.int p2), .unset, .unset] [])) (fun t k => castTop (ef_rmS_2 m ao0 p1 p2) k) ?_
  refine own_go (x' := s₁.setTop (mkF m 4 #[.val (.ref ao0), .val (.int p1), .val (.int p2), .val (.int (0 : Int32)), .unset] [(.int p1), (.int (0 : Int32))])) (fun _ k => XS.iconst X0.here hx rfl (hb hby d3_0) (XS.istoreN X0.here hx rfl (hb hby d3_1) rfl (l' := #[.val (.ref ao0), .val (.int p1), .val (.int p2), .val (.int (0 : Int32)), .unset]) rfl (XS.iloadN X0.here hx rfl (hb hby d3_2) rfl (XS.iloadN X0.here hx rfl (hb hby d3_3) rfl k)))) ?_
  by_cases hc4 : (0 : Int32) < p1
  · refine own_go (x' := s₁.setTop (mkF m 15 #[.val (.ref ao0), .val (.int p1), .val (.int p2), .val (.int (0 : Int32)), .unset] [(.int (p2 + (64 : Int32)))])) (fun _ k => XS.icmpNo X0.here hx rfl (hb hby d3_4) rfl (tlt hc4).2.1 (XS.iloadN X0.here hx rfl (hb hby d3_7) rfl (XS.ifNo X0.here hx rfl (hb hby d3_8) rfl ((if0 _ _).trans (teq rfl).2) (XS.iloadN X0.here hx rfl (hb hby d3_11) rfl (XS.bipush X0.here hx rfl (hb hby d3_12) (XS.iadd X0.here hx rfl (hb hby d3_14) rfl k)))))) ?_
    refine own_go (x' := s₁.setTop (mkF m 22 #[.val (.ref ao0), .val (.int p1), .val (.int p2), .val (.int (0 : Int32)), .val (.int (p2 + (64 : Int32)))] [(.ref ao0)])) (fun _ k => XS.goto X0.here hx rfl (pc0 := 15) (pc' := 19) rfl (hb hby d3_15) (by decide) (by decide) (XS.istore X0.here hx rfl (hb hby d3_19) rfl (l' := #[.val (.ref ao0), .val (.int p1), .val (.int p2), .val (.int (0 : Int32)), .val (.int (p2 + (64 : Int32)))]) rfl (XS.aloadN X0.here hx rfl (hb hby d3_21) rfl rfl k))) ?_
    obtain ⟨T1, X1, e1, st1⟩ := getF X0 hx hZ hown (host := "") (Or.inl (own_w hw 11 rfl)) Via.refl e0 F_ao0_bytes (g := (mkF m 22 #[.val (.ref ao0), .val (.int p1), .val (.int p2), .val (.int (0 : Int32)), .val (.int (p2 + (64 : Int32)))] [(.ref ao0)])) rfl rfl (hb hby d3_22)
    refine own_go (x' := T1.setTop (mkF m 25 #[.val (.ref ao0), .val (.int p1), .val (.int p2), .val (.int (0 : Int32)), .val (.int (p2 + (64 : Int32)))] [(.ref ar)])) st1 ?_
    refine own_go (x' := T1.setTop (mkF m 26 #[.val (.ref ao0), .val (.int p1), .val (.int p2), .val (.int (0 : Int32)), .val (.int (p2 + (64 : Int32)))] [(.int (0 : Int32)), (.ref ar)])) (fun _ k => XS.iloadN X1.here hx rfl (hb hby d3_25) rfl k) ?_
    obtain ⟨cl2, Ar2, q2, Sz2, Nn2, Hh2, Gg2⟩ := id V_ar
    have hin2 : ¬ ((0 : Int32) < 0 ∨ cl2.slots.size ≤ ((0 : Int32)).toNatClampNeg) := inb_of Sz2 ⟨by decide, by decide⟩
    refine own_go (x' := T1.setTop (mkF m 27 #[.val (.ref ao0), .val (.int p1), .val (.int p2), .val (.int (0 : Int32)), .val (.int (p2 + (64 : Int32)))] [(.ref b0)])) (X1.aaload hx (j := (0 : Int32)) (v := (.ref b0)) (Eq.trans (congrArg (fun h_ => h_[_]?) e1) Ar2.1) (State.isArrayOf_alike hZ.alike Ar2.2.1) rfl Ar2.2.2 hin2 (Hh2.at hin2 rfl) (g := (mkF m 26 #[.val (.ref ao0), .val (.int p1), .val (.int p2), .val (.int (0 : Int32)), .val (.int (p2 + (64 : Int32)))] [(.int (0 : Int32)), (.ref ar)])) rfl rfl (hb hby d3_26)) ?_
    refine own_go (x' := T1.setTop (mkF m 31 #[.val (.ref ao0), .val (.int p1), .val (.int p2), .val (.int (0 : Int32)), .val (.int (p2 + (64 : Int32)))] [(.ref ao0)])) (fun _ k => XS.ifnullNo X1.here hx rfl (hb hby d3_27) rfl (XS.aloadN X1.here hx rfl (hb hby d3_30) rfl rfl k)) ?_
    obtain ⟨T3, X3, e3, st3⟩ := getF X1 hx hZ hown (host := "") (Or.inl (own_w hw 11 rfl)) Via.refl e1 F_ao0_bytes (g := (mkF m 31 #[.val (.ref ao0), .val (.int p1), .val (.int p2), .val (.int (0 : Int32)), .val (.int (p2 + (64 : Int32)))] [(.ref ao0)])) rfl rfl (hb hby d3_31)
    refine own_go (x' := T3.setTop (mkF m 34 #[.val (.ref ao0), .val (.int p1), .val (.int p2), .val (.int (0 : Int32)), .val (.int (p2 + (64 : Int32)))] [(.ref ar)])) st3 ?_
    refine own_go (x' := T3.setTop (mkF m 35 #[.val (.ref ao0), .val (.int p1), .val (.int p2), .val (.int (0 : Int32)), .val (.int (p2 + (64 : Int32)))] [(.int (0 : Int32)), (.ref ar)])) (fun _ k => XS.iloadN X3.here hx rfl (hb hby d3_34) rfl k) ?_
    obtain ⟨cl4, Ar4, q4, Sz4, Nn4, Hh4, Gg4⟩ := id V_ar
    have hin4 : ¬ ((0 : Int32) < 0 ∨ cl4.slots.size ≤ ((0 : Int32)).toNatClampNeg) := inb_of Sz4 ⟨by decide, by decide⟩
    refine own_go (x' := T3.setTop (mkF m 36 #[.val (.ref ao0), .val (.int p1), .val (.int p2), .val (.int (0 : Int32)), .val (.int (p2 + (64 : Int32)))] [(.ref b0)])) (X3.aaload hx (j := (0 : Int32)) (v := (.ref b0)) (Eq.trans (congrArg (fun h_ => h_[_]?) e3) Ar4.1) (State.isArrayOf_alike hZ.alike Ar4.2.1) rfl Ar4.2.2 hin4 (Hh4.at hin4 rfl) (g := (mkF m 35 #[.val (.ref ao0), .val (.int p1), .val (.int p2), .val (.int (0 : Int32)), .val (.int (p2 + (64 : Int32)))] [(.int (0 : Int32)), (.ref ar)])) rfl rfl (hb hby d3_35)) ?_
    obtain ⟨cl5, Ar5, -, Sz5, Nn5, -, -⟩ := id V_b0
    refine own_go (x' := T3.setTop (mkF m 37 #[.val (.ref ao0), .val (.int p1), .val (.int p2), .val (.int (0 : Int32)), .val (.int (p2 + (64 : Int32)))] [(.int nA)])) (fun t k => X3.arraylength hx (Eq.trans (congrArg (fun h_ => h_[_]?) e3) Ar5.1) (State.isArrayOf_alike hZ.alike Ar5.2.1) (g := (mkF m 36 #[.val (.ref ao0), .val (.int p1), .val (.int p2), .val (.int (0 : Int32)), .val (.int (p2 + (64 : Int32)))] [(.ref b0)])) rfl rfl (hb hby d3_36) t (by rw [len_of Sz5 Nn5]; exact k)) ?_
    refine own_go (x' := T3.setTop (mkF m 39 #[.val (.ref ao0), .val (.int p1), .val (.int p2), .val (.int (0 : Int32)), .val (.int (p2 + (64 : Int32)))] [(.int (p2 + (64 : Int32))), (.int nA)])) (fun _ k => XS.iload X3.here hx rfl (hb hby d3_37) rfl k) ?_
    by_cases hc39 : nA < (p2 + (64 : Int32))
    · refine own_go (x' := T3.setTop (mkF m 43 #[.val (.ref ao0), .val (.int p1), .val (.int p2), .val (.int (0 : Int32)), .val (.int (p2 + (64 : Int32)))] [(.ref ao0)])) (fun _ k => XS.icmpNo X3.here hx rfl (hb hby d3_39) rfl (tlt hc39).2.1 (XS.aloadN X3.here hx rfl (hb hby d3_42) rfl rfl k)) ?_
      obtain ⟨T6, X6, e6, st6⟩ := getF X3 hx hZ hown (host := "") (Or.inl (own_w hw 11 rfl)) Via.refl e3 F_ao0_bytes (g := (mkF m 43 #[.val (.ref ao0), .val (.int p1), .val (.int p2), .val (.int (0 : Int32)), .val (.int (p2 + (64 : Int32)))] [(.ref ao0)])) rfl rfl (hb hby d3_43)
      refine own_go (x' := T6.setTop (mkF m 46 #[.val (.ref ao0), .val (.int p1), .val (.int p2), .val (.int (0 : Int32)), .val (.int (p2 + (64 : Int32)))] [(.ref ar)])) st6 ?_
      refine own_go (x' := T6.setTop (mkF m 49 #[.val (.ref ao0), .val (.int p1), .val (.int p2), .val (.int (0 : Int32)), .val (.int (p2 + (64 : Int32)))] [(.int (p2 + (64 : Int32))), (.int (0 : Int32)), (.ref ar)])) (fun _ k => XS.iloadN X6.here hx rfl (hb hby d3_46) rfl (XS.iload X6.here hx rfl (hb hby d3_47) rfl k)) ?_
      obtain ⟨T7, h7, k7, X7, e7, E7, A7, Q7, st7⟩ := newPE X6 hx hZ (own_w hw 29 rfl) e6 (g := (mkF m 49 #[.val (.ref ao0), .val (.int p1), .val (.int p2), .val (.int (0 : Int32)), .val (.int (p2 + (64 : Int32)))] [(.int (p2 + (64 : Int32))), (.int (0 : Int32)), (.ref ar)])) rfl (hb hby d3_49) rfl ht.1 (cap := 16447) ht.2 (by decide) (by decide) (by decide) (ad := "[B") (by decide)
      obtain ⟨b7, g7⟩ : ∃ z, z = h0.size := ⟨_, rfl⟩
      rw [← g7] at A7 st7
      rw [← g7] at Q7
      have ne_ao0_b7 : ao0 ≠ b7 := Nat.ne_of_lt (Nat.lt_of_lt_of_le F_ao0_bytes.lt (Nat.le_of_eq g7.symm))
      have ne_ar_b7 : ar ≠ b7 := Nat.ne_of_lt (Nat.lt_of_lt_of_le V_ar.lt (Nat.le_of_eq g7.symm))
      have ne_b0_b7 : b0 ≠ b7 := Nat.ne_of_lt (Nat.lt_of_lt_of_le V_b0.lt (Nat.le_of_eq g7.symm))
      have ne_b1_b7 : b1 ≠ b7 := Nat.ne_of_lt (Nat.lt_of_lt_of_le V_b1.lt (Nat.le_of_eq g7.symm))
      have g_b7 : n0 ≤ b7 := Nat.le_trans Zs (Nat.le_of_eq g7.symm)
      have sz_b7 : h0.size ≤ b7 := Nat.le_trans Kp.1 (Nat.le_of_eq g7.symm)
      replace F_ao0_bytes := Fld.ext E7 F_ao0_bytes
      replace V_ar := V_ar.ext E7
      replace V_b0 := V_b0.ext E7
      replace V_b1 := V_b1.ext E7
      replace Zs := Nat.le_trans Zs E7.1
      replace Kp := Kp.ext E7
      have E_b7 := Q7
      have V_b7 : Arv Z h7 b7 k7 .byte (p2 + (64 : Int32)) [] (.int (0 : Int32)) := Arv.new A7 ht.1
      refine own_go (x' := T7.setTop (mkF m 51 #[.val (.ref ao0), .val (.int p1), .val (.int p2), .val (.int (0 : Int32)), .val (.int (p2 + (64 : Int32)))] [(.ref b7), (.int (0 : Int32)), (.ref ar)])) st7 ?_
      obtain ⟨cl8, Ar8, q8, Sz8, Nn8, Hh8, Gg8⟩ := V_ar
      have hin8 : ¬ ((0 : Int32) < 0 ∨ cl8.slots.size ≤ ((0 : Int32)).toNatClampNeg) := inb_of Sz8 ⟨by decide, by decide⟩
      obtain ⟨T8, h8, X8, e8, W8, st8⟩ := stR X7 hx hZ e7 Ar8 (j := (0 : Int32)) hin8 rfl (Sto.ofVA Ar8 q8 O_ar (Ins.self E_b7)) (g := (mkF m 51 #[.val (.ref ao0), .val (.int p1), .val (.int p2), .val (.int (0 : Int32)), .val (.int (p2 + (64 : Int32)))] [(.ref b7), (.int (0 : Int32)), (.ref ar)])) rfl rfl (hb hby d3_51)
      refine own_go (x' := T8.setTop (mkF m 52 #[.val (.ref ao0), .val (.int p1), .val (.int p2), .val (.int (0 : Int32)), .val (.int (p2 + (64 : Int32)))] [])) st8 ?_
      replace F_ao0_bytes := Fld.other W8 F_ao0_bytes (Or.inl ne_ao0_ar)
      replace V_b0 := V_b0.other W8 ne_b0_ar
      replace V_b1 := V_b1.other W8 ne_b1_ar
      replace E_b7 := Exa.wr W8 E_b7
      replace V_b7 := V_b7.other W8 (Ne.symm ne_ar_b7)
      replace Zs := Nat.le_trans Zs (Keep.of_wr W8).1
      replace Nf := Fr.snoc X8 Nf g_ar
      replace Kp := Kp.wr W8 (Or.inl (by simp))
      have V_ar : Arv Z h8 ar kc (.array .byte) (4 : Int32) [(.ref b7), (.ref b1), .null, .null] .null := Arv.set Ar8 q8 Sz8 Nn8 Hh8 Gg8 rfl W8 0 rfl (Nat.le_of_ble_eq_true rfl)
      refine own_go (x' := T8.setTop (mkF m 2 #[.val (.ref ao0), .val (.int p1), .val (.int p2), .val (.int ((0 : Int32) + (1 : Int32))), .val (.int (p2 + (64 : Int32)))] [])) (fun _ k => XS.iinc X8.here hx rfl (hb hby d3_52) rfl (l' := #[.val (.ref ao0), .val (.int p1), .val (.int p2), .val (.int ((0 : Int32) + (1 : Int32))), .val (.int (p2 + (64 : Int32)))]) rfl (XS.goto X8.here hx rfl (pc0 := 55) (pc' := 2) rfl (hb hby d3_55) (by decide) (by decide) k)) ?_
      rw [show ((0 : Int32) + (1 : Int32)) = (1 : Int32) from by decide +kernel]
      refine own_go (x' := T8.setTop (mkF m 4 #[.val (.ref ao0), .val (.int p1), .val (.int p2), .val (.int (1 : Int32)), .val (.int (p2 + (64 : Int32)))] [(.int p1), (.int (1 : Int32))])) (fun _ k => XS.iloadN X8.here hx rfl (hb hby d3_2) rfl (XS.iloadN X8.here hx rfl (hb hby d3_3) rfl k)) ?_
      by_cases hc4_9 : (1 : Int32) < p1
      · refine own_go (x' := T8.setTop (mkF m 22 #[.val (.ref ao0), .val (.int p1), .val (.int p2), .val (.int (1 : Int32)), .val (.int p2)] [(.ref ao0)])) (fun _ k => XS.icmpNo X8.here hx rfl (hb hby d3_4) rfl (tlt hc4_9).2.1 (XS.iloadN X8.here hx rfl (hb hby d3_7) rfl (XS.ifYes X8.here hx rfl (pc0 := 8) (pc' := 18) rfl (hb hby d3_8) rfl ((if0 _ _).trans (feq (by decide +kernel : ¬ ((1 : Int32) = (0 : Int32)))).2) (by decide) (by decide) (XS.iloadN X8.here hx rfl (hb hby d3_18) rfl (XS.istore X8.here hx rfl (hb hby d3_19) rfl (l' := #[.val (.ref ao0), .val (.int p1), .val (.int p2), .val (.int (1 : Int32)), .val (.int p2)]) rfl (XS.aloadN X8.here hx rfl (hb hby d3_21) rfl rfl k)))))) ?_
        obtain ⟨T10, X10, e10, st10⟩ := getF X8 hx hZ hown (host := "") (Or.inl (own_w hw 11 rfl)) Via.refl e8 F_ao0_bytes (g := (mkF m 22 #[.val (.ref ao0), .val (.int p1), .val (.int p2), .val (.int (1 : Int32)), .val (.int p2)] [(.ref ao0)])) rfl rfl (hb hby d3_22)
        refine own_go (x' := T10.setTop (mkF m 25 #[.val (.ref ao0), .val (.int p1), .val (.int p2), .val (.int (1 : Int32)), .val (.int p2)] [(.ref ar)])) st10 ?_
        refine own_go (x' := T10.setTop (mkF m 26 #[.val (.ref ao0), .val (.int p1), .val (.int p2), .val (.int (1 : Int32)), .val (.int p2)] [(.int (1 : Int32)), (.ref ar)])) (fun _ k => XS.iloadN X10.here hx rfl (hb hby d3_25) rfl k) ?_
        obtain ⟨cl11, Ar11, q11, Sz11, Nn11, Hh11, Gg11⟩ := id V_ar
        have hin11 : ¬ ((1 : Int32) < 0 ∨ cl11.slots.size ≤ ((1 : Int32)).toNatClampNeg) := inb_of Sz11 ⟨by decide, by decide⟩
        refine own_go (x' := T10.setTop (mkF m 27 #[.val (.ref ao0), .val (.int p1), .val (.int p2), .val (.int (1 : Int32)), .val (.int p2)] [(.ref b1)])) (X10.aaload hx (j := (1 : Int32)) (v := (.ref b1)) (Eq.trans (congrArg (fun h_ => h_[_]?) e10) Ar11.1) (State.isArrayOf_alike hZ.alike Ar11.2.1) rfl Ar11.2.2 hin11 (Hh11.at hin11 rfl) (g := (mkF m 26 #[.val (.ref ao0), .val (.int p1), .val (.int p2), .val (.int (1 : Int32)), .val (.int p2)] [(.int (1 : Int32)), (.ref ar)])) rfl rfl (hb hby d3_26)) ?_
        refine own_go (x' := T10.setTop (mkF m 31 #[.val (.ref ao0), .val (.int p1), .val (.int p2), .val (.int (1 : Int32)), .val (.int p2)] [(.ref ao0)])) (fun _ k => XS.ifnullNo X10.here hx rfl (hb hby d3_27) rfl (XS.aloadN X10.here hx rfl (hb hby d3_30) rfl rfl k)) ?_
        obtain ⟨T12, X12, e12, st12⟩ := getF X10 hx hZ hown (host := "") (Or.inl (own_w hw 11 rfl)) Via.refl e10 F_ao0_bytes (g := (mkF m 31 #[.val (.ref ao0), .val (.int p1), .val (.int p2), .val (.int (1 : Int32)), .val (.int p2)] [(.ref ao0)])) rfl rfl (hb hby d3_31)
        refine own_go (x' := T12.setTop (mkF m 34 #[.val (.ref ao0), .val (.int p1), .val (.int p2), .val (.int (1 : Int32)), .val (.int p2)] [(.ref ar)])) st12 ?_
        refine own_go (x' := T12.setTop (mkF m 35 #[.val (.ref ao0), .val (.int p1), .val (.int p2), .val (.int (1 : Int32)), .val (.int p2)] [(.int (1 : Int32)), (.ref ar)])) (fun _ k => XS.iloadN X12.here hx rfl (hb hby d3_34) rfl k) ?_
        obtain ⟨cl13, Ar13, q13, Sz13, Nn13, Hh13, Gg13⟩ := id V_ar
        have hin13 : ¬ ((1 : Int32) < 0 ∨ cl13.slots.size ≤ ((1 : Int32)).toNatClampNeg) := inb_of Sz13 ⟨by decide, by decide⟩
        refine own_go (x' := T12.setTop (mkF m 36 #[.val (.ref ao0), .val (.int p1), .val (.int p2), .val (.int (1 : Int32)), .val (.int p2)] [(.ref b1)])) (X12.aaload hx (j := (1 : Int32)) (v := (.ref b1)) (Eq.trans (congrArg (fun h_ => h_[_]?) e12) Ar13.1) (State.isArrayOf_alike hZ.alike Ar13.2.1) rfl Ar13.2.2 hin13 (Hh13.at hin13 rfl) (g := (mkF m 35 #[.val (.ref ao0), .val (.int p1), .val (.int p2), .val (.int (1 : Int32)), .val (.int p2)] [(.int (1 : Int32)), (.ref ar)])) rfl rfl (hb hby d3_35)) ?_
        obtain ⟨cl14, Ar14, -, Sz14, Nn14, -, -⟩ := id V_b1
        refine own_go (x' := T12.setTop (mkF m 37 #[.val (.ref ao0), .val (.int p1), .val (.int p2), .val (.int (1 : Int32)), .val (.int p2)] [(.int n1)])) (fun t k => X12.arraylength hx (Eq.trans (congrArg (fun h_ => h_[_]?) e12) Ar14.1) (State.isArrayOf_alike hZ.alike Ar14.2.1) (g := (mkF m 36 #[.val (.ref ao0), .val (.int p1), .val (.int p2), .val (.int (1 : Int32)), .val (.int p2)] [(.ref b1)])) rfl rfl (hb hby d3_36) t (by rw [len_of Sz14 Nn14]; exact k)) ?_
        refine own_go (x' := T12.setTop (mkF m 39 #[.val (.ref ao0), .val (.int p1), .val (.int p2), .val (.int (1 : Int32)), .val (.int p2)] [(.int p2), (.int n1)])) (fun _ k => XS.iload X12.here hx rfl (hb hby d3_37) rfl k) ?_
        by_cases hc39_15 : n1 < p2
        · refine own_go (x' := T12.setTop (mkF m 43 #[.val (.ref ao0), .val (.int p1), .val (.int p2), .val (.int (1 : Int32)), .val (.int p2)] [(.ref ao0)])) (fun _ k => XS.icmpNo X12.here hx rfl (hb hby d3_39) rfl (tlt hc39_15).2.1 (XS.aloadN X12.here hx rfl (hb hby d3_42) rfl rfl k)) ?_
          obtain ⟨T16, X16, e16, st16⟩ := getF X12 hx hZ hown (host := "") (Or.inl (own_w hw 11 rfl)) Via.refl e12 F_ao0_bytes (g := (mkF m 43 #[.val (.ref ao0), .val (.int p1), .val (.int p2), .val (.int (1 : Int32)), .val (.int p2)] [(.ref ao0)])) rfl rfl (hb hby d3_43)
          refine own_go (x' := T16.setTop (mkF m 46 #[.val (.ref ao0), .val (.int p1), .val (.int p2), .val (.int (1 : Int32)), .val (.int p2)] [(.ref ar)])) st16 ?_
          refine own_go (x' := T16.setTop (mkF m 49 #[.val (.ref ao0), .val (.int p1), .val (.int p2), .val (.int (1 : Int32)), .val (.int p2)] [(.int p2), (.int (1 : Int32)), (.ref ar)])) (fun _ k => XS.iloadN X16.here hx rfl (hb hby d3_46) rfl (XS.iload X16.here hx rfl (hb hby d3_47) rfl k)) ?_
          obtain ⟨T17, h17, k17, X17, e17, E17, A17, Q17, st17⟩ := newPE X16 hx hZ (own_w hw 29 rfl) e16 (g := (mkF m 49 #[.val (.ref ao0), .val (.int p1), .val (.int p2), .val (.int (1 : Int32)), .val (.int p2)] [(.int p2), (.int (1 : Int32)), (.ref ar)])) rfl (hb hby d3_49) rfl hs.1 (cap := 16383) hs.2 (by decide) (by decide) (by decide) (ad := "[B") (by decide)
          obtain ⟨b17, g17⟩ : ∃ z, z = h8.size := ⟨_, rfl⟩
          rw [← g17] at A17 st17
          rw [← g17] at Q17
          have ne_ao0_b17 : ao0 ≠ b17 := Nat.ne_of_lt (Nat.lt_of_lt_of_le F_ao0_bytes.lt (Nat.le_of_eq g17.symm))
          have ne_b0_b17 : b0 ≠ b17 := Nat.ne_of_lt (Nat.lt_of_lt_of_le V_b0.lt (Nat.le_of_eq g17.symm))
          have ne_b1_b17 : b1 ≠ b17 := Nat.ne_of_lt (Nat.lt_of_lt_of_le V_b1.lt (Nat.le_of_eq g17.symm))
          have ne_b7_b17 : b7 ≠ b17 := Nat.ne_of_lt (Nat.lt_of_lt_of_le E_b7.lt (Nat.le_of_eq g17.symm))
          have ne_ar_b17 : ar ≠ b17 := Nat.ne_of_lt (Nat.lt_of_lt_of_le V_ar.lt (Nat.le_of_eq g17.symm))
          have g_b17 : n0 ≤ b17 := Nat.le_trans Zs (Nat.le_of_eq g17.symm)
          have sz_b17 : h0.size ≤ b17 := Nat.le_trans Kp.1 (Nat.le_of_eq g17.symm)
          replace F_ao0_bytes := Fld.ext E17 F_ao0_bytes
          replace V_b0 := V_b0.ext E17
          replace V_b1 := V_b1.ext E17
          replace E_b7 := Exa.ext E17 E_b7
          replace V_b7 := V_b7.ext E17
          replace V_ar := V_ar.ext E17
          replace Zs := Nat.le_trans Zs E17.1
          replace Kp := Kp.ext E17
          have E_b17 := Q17
          have V_b17 : Arv Z h17 b17 k17 .byte p2 [] (.int (0 : Int32)) := Arv.new A17 hs.1
          refine own_go (x' := T17.setTop (mkF m 51 #[.val (.ref ao0), .val (.int p1), .val (.int p2), .val (.int (1 : Int32)), .val (.int p2)] [(.ref b17), (.int (1 : Int32)), (.ref ar)])) st17 ?_
          obtain ⟨cl18, Ar18, q18, Sz18, Nn18, Hh18, Gg18⟩ := V_ar
          have hin18 : ¬ ((1 : Int32) < 0 ∨ cl18.slots.size ≤ ((1 : Int32)).toNatClampNeg) := inb_of Sz18 ⟨by decide, by decide⟩
          obtain ⟨T18, h18, X18, e18, W18, st18⟩ := stR X17 hx hZ e17 Ar18 (j := (1 : Int32)) hin18 rfl (Sto.ofVA Ar18 q18 O_ar (Ins.self E_b17)) (g := (mkF m 51 #[.val (.ref ao0), .val (.int p1), .val (.int p2), .val (.int (1 : Int32)), .val (.int p2)] [(.ref b17), (.int (1 : Int32)), (.ref ar)])) rfl rfl (hb hby d3_51)
          refine own_go (x' := T18.setTop (mkF m 52 #[.val (.ref ao0), .val (.int p1), .val (.int p2), .val (.int (1 : Int32)), .val (.int p2)] [])) st18 ?_
          replace F_ao0_bytes := Fld.other W18 F_ao0_bytes (Or.inl ne_ao0_ar)
          replace V_b0 := V_b0.other W18 ne_b0_ar
          replace V_b1 := V_b1.other W18 ne_b1_ar
          replace E_b7 := Exa.wr W18 E_b7
          replace V_b7 := V_b7.other W18 (Ne.symm ne_ar_b7)
          replace E_b17 := Exa.wr W18 E_b17
          replace V_b17 := V_b17.other W18 (Ne.symm ne_ar_b17)
          replace Zs := Nat.le_trans Zs (Keep.of_wr W18).1
          replace Nf := Fr.snoc X18 Nf g_ar
          replace Kp := Kp.wr W18 (Or.inl (by simp))
          have V_ar : Arv Z h18 ar kc (.array .byte) (4 : Int32) [(.ref b7), (.ref b17), .null, .null] .null := Arv.set Ar18 q18 Sz18 Nn18 Hh18 Gg18 rfl W18 1 rfl (Nat.le_of_ble_eq_true rfl)
          refine own_go (x' := T18.setTop (mkF m 2 #[.val (.ref ao0), .val (.int p1), .val (.int p2), .val (.int ((1 : Int32) + (1 : Int32))), .val (.int p2)] [])) (fun _ k => XS.iinc X18.here hx rfl (hb hby d3_52) rfl (l' := #[.val (.ref ao0), .val (.int p1), .val (.int p2), .val (.int ((1 : Int32) + (1 : Int32))), .val (.int p2)]) rfl (XS.goto X18.here hx rfl (pc0 := 55) (pc' := 2) rfl (hb hby d3_55) (by decide) (by decide) k)) ?_
          rw [show ((1 : Int32) + (1 : Int32)) = (2 : Int32) from by decide +kernel]
          refine own_go (x' := T18.setTop (mkF m 4 #[.val (.ref ao0), .val (.int p1), .val (.int p2), .val (.int (2 : Int32)), .val (.int p2)] [(.int p1), (.int (2 : Int32))])) (fun _ k => XS.iloadN X18.here hx rfl (hb hby d3_2) rfl (XS.iloadN X18.here hx rfl (hb hby d3_3) rfl k)) ?_
          by_cases hc4_19 : (2 : Int32) < p1
          · refine own_go (x' := T18.setTop (mkF m 22 #[.val (.ref ao0), .val (.int p1), .val (.int p2), .val (.int (2 : Int32)), .val (.int p2)] [(.ref ao0)])) (fun _ k => XS.icmpNo X18.here hx rfl (hb hby d3_4) rfl (tlt hc4_19).2.1 (XS.iloadN X18.here hx rfl (hb hby d3_7) rfl (XS.ifYes X18.here hx rfl (pc0 := 8) (pc' := 18) rfl (hb hby d3_8) rfl ((if0 _ _).trans (feq (by decide +kernel : ¬ ((2 : Int32) = (0 : Int32)))).2) (by decide) (by decide) (XS.iloadN X18.here hx rfl (hb hby d3_18) rfl (XS.istore X18.here hx rfl (hb hby d3_19) rfl (l' := #[.val (.ref ao0), .val (.int p1), .val (.int p2), .val (.int (2 : Int32)), .val (.int p2)]) rfl (XS.aloadN X18.here hx rfl (hb hby d3_21) rfl rfl k)))))) ?_
            obtain ⟨T20, X20, e20, st20⟩ := getF X18 hx hZ hown (host := "") (Or.inl (own_w hw 11 rfl)) Via.refl e18 F_ao0_bytes (g := (mkF m 22 #[.val (.ref ao0), .val (.int p1), .val (.int p2), .val (.int (2 : Int32)), .val (.int p2)] [(.ref ao0)])) rfl rfl (hb hby d3_22)
            refine own_go (x' := T20.setTop (mkF m 25 #[.val (.ref ao0), .val (.int p1), .val (.int p2), .val (.int (2 : Int32)), .val (.int p2)] [(.ref ar)])) st20 ?_
            refine own_go (x' := T20.setTop (mkF m 26 #[.val (.ref ao0), .val (.int p1), .val (.int p2), .val (.int (2 : Int32)), .val (.int p2)] [(.int (2 : Int32)), (.ref ar)])) (fun _ k => XS.iloadN X20.here hx rfl (hb hby d3_25) rfl k) ?_
            obtain ⟨cl21, Ar21, q21, Sz21, Nn21, Hh21, Gg21⟩ := id V_ar
            have hin21 : ¬ ((2 : Int32) < 0 ∨ cl21.slots.size ≤ ((2 : Int32)).toNatClampNeg) := inb_of Sz21 ⟨by decide, by decide⟩
            refine own_go (x' := T20.setTop (mkF m 27 #[.val (.ref ao0), .val (.int p1), .val (.int p2), .val (.int (2 : Int32)), .val (.int p2)] [.null])) (X20.aaload hx (j := (2 : Int32)) (v := .null) (Eq.trans (congrArg (fun h_ => h_[_]?) e20) Ar21.1) (State.isArrayOf_alike hZ.alike Ar21.2.1) rfl Ar21.2.2 hin21 (Hh21.at hin21 rfl) (g := (mkF m 26 #[.val (.ref ao0), .val (.int p1), .val (.int p2), .val (.int (2 : Int32)), .val (.int p2)] [(.int (2 : Int32)), (.ref ar)])) rfl rfl (hb hby d3_26)) ?_
            refine own_go (x' := T20.setTop (mkF m 43 #[.val (.ref ao0), .val (.int p1), .val (.int p2), .val (.int (2 : Int32)), .val (.int p2)] [(.ref ao0)])) (fun _ k => XS.ifnullYes X20.here hx rfl (pc0 := 27) (pc' := 42) rfl (hb hby d3_27) rfl (by decide) (by decide) (XS.aloadN X20.here hx rfl (hb hby d3_42) rfl rfl k)) ?_
            obtain ⟨T22, X22, e22, st22⟩ := getF X20 hx hZ hown (host := "") (Or.inl (own_w hw 11 rfl)) Via.refl e20 F_ao0_bytes (g := (mkF m 43 #[.val (.ref ao0), .val (.int p1), .val (.int p2), .val (.int (2 : Int32)), .val (.int p2)] [(.ref ao0)])) rfl rfl (hb hby d3_43)
            refine own_go (x' := T22.setTop (mkF m 46 #[.val (.ref ao0), .val (.int p1), .val (.int p2), .val (.int (2 : Int32)), .val (.int p2)] [(.ref ar)])) st22 ?_
            refine own_go (x' := T22.setTop (mkF m 49 #[.val (.ref ao0), .val (.int p1), .val (.int p2), .val (.int (2 : Int32)), .val (.int p2)] [(.int p2), (.int (2 : Int32)), (.ref ar)])) (fun _ k => XS.iloadN X22.here hx rfl (hb hby d3_46) rfl (XS.iload X22.here hx rfl (hb hby d3_47) rfl k)) ?_
            obtain ⟨T23, h23, k23, X23, e23, E23, A23, Q23, st23⟩ := newPE X22 hx hZ (own_w hw 29 rfl) e22 (g := (mkF m 49 #[.val (.ref ao0), .val (.int p1), .val (.int p2), .val (.int (2 : Int32)), .val (.int p2)] [(.int p2), (.int (2 : Int32)), (.ref ar)])) rfl (hb hby d3_49) rfl hs.1 (cap := 16383) hs.2 (by decide) (by decide) (by decide) (ad := "[B") (by decide)
            obtain ⟨b23, g23⟩ : ∃ z, z = h18.size := ⟨_, rfl⟩
            rw [← g23] at A23 st23
            rw [← g23] at Q23
            have ne_ao0_b23 : ao0 ≠ b23 := Nat.ne_of_lt (Nat.lt_of_lt_of_le F_ao0_bytes.lt (Nat.le_of_eq g23.symm))
            have ne_b0_b23 : b0 ≠ b23 := Nat.ne_of_lt (Nat.lt_of_lt_of_le V_b0.lt (Nat.le_of_eq g23.symm))
            have ne_b1_b23 : b1 ≠ b23 := Nat.ne_of_lt (Nat.lt_of_lt_of_le V_b1.lt (Nat.le_of_eq g23.symm))
            have ne_b7_b23 : b7 ≠ b23 := Nat.ne_of_lt (Nat.lt_of_lt_of_le E_b7.lt (Nat.le_of_eq g23.symm))
            have ne_b17_b23 : b17 ≠ b23 := Nat.ne_of_lt (Nat.lt_of_lt_of_le E_b17.lt (Nat.le_of_eq g23.symm))
            have ne_ar_b23 : ar ≠ b23 := Nat.ne_of_lt (Nat.lt_of_lt_of_le V_ar.lt (Nat.le_of_eq g23.symm))
            have g_b23 : n0 ≤ b23 := Nat.le_trans Zs (Nat.le_of_eq g23.symm)
            have sz_b23 : h0.size ≤ b23 := Nat.le_trans Kp.1 (Nat.le_of_eq g23.symm)
            replace F_ao0_bytes := Fld.ext E23 F_ao0_bytes
            replace V_b0 := V_b0.ext E23
            replace V_b1 := V_b1.ext E23
            replace E_b7 := Exa.ext E23 E_b7
            replace V_b7 := V_b7.ext E23
            replace E_b17 := Exa.ext E23 E_b17
            replace V_b17 := V_b17.ext E23
            replace V_ar := V_ar.ext E23
            replace Zs := Nat.le_trans Zs E23.1
            replace Kp := Kp.ext E23
            have E_b23 := Q23
            have V_b23 : Arv Z h23 b23 k23 .byte p2 [] (.int (0 : Int32)) := Arv.new A23 hs.1
            refine own_go (x' := T23.setTop (mkF m 51 #[.val (.ref ao0), .val (.int p1), .val (.int p2), .val (.int (2 : Int32)), .val (.int p2)] [(.ref b23), (.int (2 : Int32)), (.ref ar)])) st23 ?_
            obtain ⟨cl24, Ar24, q24, Sz24, Nn24, Hh24, Gg24⟩ := V_ar
            have hin24 : ¬ ((2 : Int32) < 0 ∨ cl24.slots.size ≤ ((2 : Int32)).toNatClampNeg) := inb_of Sz24 ⟨by decide, by decide⟩
            obtain ⟨T24, h24, X24, e24, W24, st24⟩ := stR X23 hx hZ e23 Ar24 (j := (2 : Int32)) hin24 rfl (Sto.ofVA Ar24 q24 O_ar (Ins.self E_b23)) (g := (mkF m 51 #[.val (.ref ao0), .val (.int p1), .val (.int p2), .val (.int (2 : Int32)), .val (.int p2)] [(.ref b23), (.int (2 : Int32)), (.ref ar)])) rfl rfl (hb hby d3_51)
            refine own_go (x' := T24.setTop (mkF m 52 #[.val (.ref ao0), .val (.int p1), .val (.int p2), .val (.int (2 : Int32)), .val (.int p2)] [])) st24 ?_
            replace F_ao0_bytes := Fld.other W24 F_ao0_bytes (Or.inl ne_ao0_ar)
            replace V_b0 := V_b0.other W24 ne_b0_ar
            replace V_b1 := V_b1.other W24 ne_b1_ar
            replace E_b7 := Exa.wr W24 E_b7
            replace V_b7 := V_b7.other W24 (Ne.symm ne_ar_b7)
            replace E_b17 := Exa.wr W24 E_b17
            replace V_b17 := V_b17.other W24 (Ne.symm ne_ar_b17)
            replace E_b23 := Exa.wr W24 E_b23
            replace V_b23 := V_b23.other W24 (Ne.symm ne_ar_b23)
            replace Zs := Nat.le_trans Zs (Keep.of_wr W24).1
            replace Nf := Fr.snoc X24 Nf g_ar
            replace Kp := Kp.wr W24 (Or.inl (by simp))
            have V_ar : Arv Z h24 ar kc (.array .byte) (4 : Int32) [(.ref b7), (.ref b17), (.ref b23), .null] .null := Arv.set Ar24 q24 Sz24 Nn24 Hh24 Gg24 rfl W24 2 rfl (Nat.le_of_ble_eq_true rfl)
            refine own_go (x' := T24.setTop (mkF m 2 #[.val (.ref ao0), .val (.int p1), .val (.int p2), .val (.int ((2 : Int32) + (1 : Int32))), .val (.int p2)] [])) (fun _ k => XS.iinc X24.here hx rfl (hb hby d3_52) rfl (l' := #[.val (.ref ao0), .val (.int p1), .val (.int p2), .val (.int ((2 : Int32) + (1 : Int32))), .val (.int p2)]) rfl (XS.goto X24.here hx rfl (pc0 := 55) (pc' := 2) rfl (hb hby d3_55) (by decide) (by decide) k)) ?_
            rw [show ((2 : Int32) + (1 : Int32)) = (3 : Int32) from by decide +kernel]
            refine own_go (x' := T24.setTop (mkF m 4 #[.val (.ref ao0), .val (.int p1), .val (.int p2), .val (.int (3 : Int32)), .val (.int p2)] [(.int p1), (.int (3 : Int32))])) (fun _ k => XS.iloadN X24.here hx rfl (hb hby d3_2) rfl (XS.iloadN X24.here hx rfl (hb hby d3_3) rfl k)) ?_
            by_cases hc4_25 : (3 : Int32) < p1
            · refine own_go (x' := T24.setTop (mkF m 22 #[.val (.ref ao0), .val (.int p1), .val (.int p2), .val (.int (3 : Int32)), .val (.int p2)] [(.ref ao0)])) (fun _ k => XS.icmpNo X24.here hx rfl (hb hby d3_4) rfl (tlt hc4_25).2.1 (XS.iloadN X24.here hx rfl (hb hby d3_7) rfl (XS.ifYes X24.here hx rfl (pc0 := 8) (pc' := 18) rfl (hb hby d3_8) rfl ((if0 _ _).trans (feq (by decide +kernel : ¬ ((3 : Int32) = (0 : Int32)))).2) (by decide) (by decide) (XS.iloadN X24.here hx rfl (hb hby d3_18) rfl (XS.istore X24.here hx rfl (hb hby d3_19) rfl (l' := #[.val (.ref ao0), .val (.int p1), .val (.int p2), .val (.int (3 : Int32)), .val (.int p2)]) rfl (XS.aloadN X24.here hx rfl (hb hby d3_21) rfl rfl k)))))) ?_
              obtain ⟨T26, X26, e26, st26⟩ := getF X24 hx hZ hown (host := "") (Or.inl (own_w hw 11 rfl)) Via.refl e24 F_ao0_bytes (g := (mkF m 22 #[.val (.ref ao0), .val (.int p1), .val (.int p2), .val (.int (3 : Int32)), .val (.int p2)] [(.ref ao0)])) rfl rfl (hb hby d3_22)
              refine own_go (x' := T26.setTop (mkF m 25 #[.val (.ref ao0), .val (.int p1), .val (.int p2), .val (.int (3 : Int32)), .val (.int p2)] [(.ref ar)])) st26 ?_
              refine own_go (x' := T26.setTop (mkF m 26 #[.val (.ref ao0), .val (.int p1), .val (.int p2), .val (.int (3 : Int32)), .val (.int p2)] [(.int (3 : Int32)), (.ref ar)])) (fun _ k => XS.iloadN X26.here hx rfl (hb hby d3_25) rfl k) ?_
              obtain ⟨cl27, Ar27, q27, Sz27, Nn27, Hh27, Gg27⟩ := id V_ar
              have hin27 : ¬ ((3 : Int32) < 0 ∨ cl27.slots.size ≤ ((3 : Int32)).toNatClampNeg) := inb_of Sz27 ⟨by decide, by decide⟩
              refine own_go (x' := T26.setTop (mkF m 27 #[.val (.ref ao0), .val (.int p1), .val (.int p2), .val (.int (3 : Int32)), .val (.int p2)] [.null])) (X26.aaload hx (j := (3 : Int32)) (v := .null) (Eq.trans (congrArg (fun h_ => h_[_]?) e26) Ar27.1) (State.isArrayOf_alike hZ.alike Ar27.2.1) rfl Ar27.2.2 hin27 (Hh27.at hin27 rfl) (g := (mkF m 26 #[.val (.ref ao0), .val (.int p1), .val (.int p2), .val (.int (3 : Int32)), .val (.int p2)] [(.int (3 : Int32)), (.ref ar)])) rfl rfl (hb hby d3_26)) ?_
              refine own_go (x' := T26.setTop (mkF m 43 #[.val (.ref ao0), .val (.int p1), .val (.int p2), .val (.int (3 : Int32)), .val (.int p2)] [(.ref ao0)])) (fun _ k => XS.ifnullYes X26.here hx rfl (pc0 := 27) (pc' := 42) rfl (hb hby d3_27) rfl (by decide) (by decide) (XS.aloadN X26.here hx rfl (hb hby d3_42) rfl rfl k)) ?_
              obtain ⟨T28, X28, e28, st28⟩ := getF X26 hx hZ hown (host := "") (Or.inl (own_w hw 11 rfl)) Via.refl e26 F_ao0_bytes (g := (mkF m 43 #[.val (.ref ao0), .val (.int p1), .val (.int p2), .val (.int (3 : Int32)), .val (.int p2)] [(.ref ao0)])) rfl rfl (hb hby d3_43)
              refine own_go (x' := T28.setTop (mkF m 46 #[.val (.ref ao0), .val (.int p1), .val (.int p2), .val (.int (3 : Int32)), .val (.int p2)] [(.ref ar)])) st28 ?_
              refine own_go (x' := T28.setTop (mkF m 49 #[.val (.ref ao0), .val (.int p1), .val (.int p2), .val (.int (3 : Int32)), .val (.int p2)] [(.int p2), (.int (3 : Int32)), (.ref ar)])) (fun _ k => XS.iloadN X28.here hx rfl (hb hby d3_46) rfl (XS.iload X28.here hx rfl (hb hby d3_47) rfl k)) ?_
              obtain ⟨T29, h29, k29, X29, e29, E29, A29, Q29, st29⟩ := newPE X28 hx hZ (own_w hw 29 rfl) e28 (g := (mkF m 49 #[.val (.ref ao0), .val (.int p1), .val (.int p2), .val (.int (3 : Int32)), .val (.int p2)] [(.int p2), (.int (3 : Int32)), (.ref ar)])) rfl (hb hby d3_49) rfl hs.1 (cap := 16383) hs.2 (by decide) (by decide) (by decide) (ad := "[B") (by decide)
              obtain ⟨b29, g29⟩ : ∃ z, z = h24.size := ⟨_, rfl⟩
              rw [← g29] at A29 st29
              rw [← g29] at Q29
              have ne_ao0_b29 : ao0 ≠ b29 := Nat.ne_of_lt (Nat.lt_of_lt_of_le F_ao0_bytes.lt (Nat.le_of_eq g29.symm))
              have ne_b0_b29 : b0 ≠ b29 := Nat.ne_of_lt (Nat.lt_of_lt_of_le V_b0.lt (Nat.le_of_eq g29.symm))
              have ne_b1_b29 : b1 ≠ b29 := Nat.ne_of_lt (Nat.lt_of_lt_of_le V_b1.lt (Nat.le_of_eq g29.symm))
              have ne_b7_b29 : b7 ≠ b29 := Nat.ne_of_lt (Nat.lt_of_lt_of_le E_b7.lt (Nat.le_of_eq g29.symm))
              have ne_b17_b29 : b17 ≠ b29 := Nat.ne_of_lt (Nat.lt_of_lt_of_le E_b17.lt (Nat.le_of_eq g29.symm))
              have ne_b23_b29 : b23 ≠ b29 := Nat.ne_of_lt (Nat.lt_of_lt_of_le E_b23.lt (Nat.le_of_eq g29.symm))
              have ne_ar_b29 : ar ≠ b29 := Nat.ne_of_lt (Nat.lt_of_lt_of_le V_ar.lt (Nat.le_of_eq g29.symm))
              have g_b29 : n0 ≤ b29 := Nat.le_trans Zs (Nat.le_of_eq g29.symm)
              have sz_b29 : h0.size ≤ b29 := Nat.le_trans Kp.1 (Nat.le_of_eq g29.symm)
              replace F_ao0_bytes := Fld.ext E29 F_ao0_bytes
              replace V_b0 := V_b0.ext E29
              replace V_b1 := V_b1.ext E29
              replace E_b7 := Exa.ext E29 E_b7
              replace V_b7 := V_b7.ext E29
              replace E_b17 := Exa.ext E29 E_b17
              replace V_b17 := V_b17.ext E29
              replace E_b23 := Exa.ext E29 E_b23
              replace V_b23 := V_b23.ext E29
              replace V_ar := V_ar.ext E29
              replace Zs := Nat.le_trans Zs E29.1
              replace Kp := Kp.ext E29
              have E_b29 := Q29
              have V_b29 : Arv Z h29 b29 k29 .byte p2 [] (.int (0 : Int32)) := Arv.new A29 hs.1
              refine own_go (x' := T29.setTop (mkF m 51 #[.val (.ref ao0), .val (.int p1), .val (.int p2), .val (.int (3 : Int32)), .val (.int p2)] [(.ref b29), (.int (3 : Int32)), (.ref ar)])) st29 ?_
              obtain ⟨cl30, Ar30, q30, Sz30, Nn30, Hh30, Gg30⟩ := V_ar
              have hin30 : ¬ ((3 : Int32) < 0 ∨ cl30.slots.size ≤ ((3 : Int32)).toNatClampNeg) := inb_of Sz30 ⟨by decide, by decide⟩
              obtain ⟨T30, h30, X30, e30, W30, st30⟩ := stR X29 hx hZ e29 Ar30 (j := (3 : Int32)) hin30 rfl (Sto.ofVA Ar30 q30 O_ar (Ins.self E_b29)) (g := (mkF m 51 #[.val (.ref ao0), .val (.int p1), .val (.int p2), .val (.int (3 : Int32)), .val (.int p2)] [(.ref b29), (.int (3 : Int32)), (.ref ar)])) rfl rfl (hb hby d3_51)
              refine own_go (x' := T30.setTop (mkF m 52 #[.val (.ref ao0), .val (.int p1), .val (.int p2), .val (.int (3 : Int32)), .val (.int p2)] [])) st30 ?_
              replace F_ao0_bytes := Fld.other W30 F_ao0_bytes (Or.inl ne_ao0_ar)
              replace V_b0 := V_b0.other W30 ne_b0_ar
              replace V_b1 := V_b1.other W30 ne_b1_ar
              replace E_b7 := Exa.wr W30 E_b7
              replace V_b7 := V_b7.other W30 (Ne.symm ne_ar_b7)
              replace E_b17 := Exa.wr W30 E_b17
              replace V_b17 := V_b17.other W30 (Ne.symm ne_ar_b17)
              replace E_b23 := Exa.wr W30 E_b23
              replace V_b23 := V_b23.other W30 (Ne.symm ne_ar_b23)
              replace E_b29 := Exa.wr W30 E_b29
              replace V_b29 := V_b29.other W30 (Ne.symm ne_ar_b29)
              replace Zs := Nat.le_trans Zs (Keep.of_wr W30).1
              replace Nf := Fr.snoc X30 Nf g_ar
              replace Kp := Kp.wr W30 (Or.inl (by simp))
              have V_ar : Arv Z h30 ar kc (.array .byte) (4 : Int32) [(.ref b7), (.ref b17), (.ref b23), (.ref b29)] .null := Arv.set Ar30 q30 Sz30 Nn30 Hh30 Gg30 rfl W30 3 rfl (Nat.le_of_ble_eq_true rfl)
              refine own_go (x' := T30.setTop (mkF m 2 #[.val (.ref ao0), .val (.int p1), .val (.int p2), .val (.int ((3 : Int32) + (1 : Int32))), .val (.int p2)] [])) (fun _ k => XS.iinc X30.here hx rfl (hb hby d3_52) rfl (l' := #[.val (.ref ao0), .val (.int p1), .val (.int p2), .val (.int ((3 : Int32) + (1 : Int32))), .val (.int p2)]) rfl (XS.goto X30.here hx rfl (pc0 := 55) (pc' := 2) rfl (hb hby d3_55) (by decide) (by decide) k)) ?_
              rw [show ((3 : Int32) + (1 : Int32)) = (4 : Int32) from by decide +kernel]
              refine own_go (x' := T30.setTop (mkF m 59 #[.val (.ref ao0), .val (.int p1), .val (.int p2), .val (.int (4 : Int32)), .val (.int p2)] [(.ref ao0)])) (fun _ k => XS.iloadN X30.here hx rfl (hb hby d3_2) rfl (XS.iloadN X30.here hx rfl (hb hby d3_3) rfl (XS.icmpYes X30.here hx rfl (pc0 := 4) (pc' := 58) rfl (hb hby d3_4) rfl (flt hu).2.1 (by decide) (by decide) (XS.aloadN X30.here hx rfl (hb hby d3_58) rfl rfl k)))) ?_
              obtain ⟨T31, X31, e31, st31⟩ := getF X30 hx hZ hown (host := "") (Or.inl (own_w hw 11 rfl)) Via.refl e30 F_ao0_bytes (g := (mkF m 59 #[.val (.ref ao0), .val (.int p1), .val (.int p2), .val (.int (4 : Int32)), .val (.int p2)] [(.ref ao0)])) rfl rfl (hb hby d3_59)
              refine own_go (x' := T31.setTop (mkF m 62 #[.val (.ref ao0), .val (.int p1), .val (.int p2), .val (.int (4 : Int32)), .val (.int p2)] [(.ref ar)])) st31 ?_
              refine own_retR X31 hx hlk hret rfl rfl (hb hby d3_62) ?_ (by decide) (by decide)
              rw [e31]
              exact ⟨(.ref b7), (.ref b17), (.ref b23), (.ref b29), rfl, Nf, Kp, V_ar, Or.inr ⟨b7, k7, rfl, sz_b7, V_b7, hc4, hc39⟩, Or.inr ⟨b17, k17, rfl, sz_b17, V_b17, hc4_9, hc39_15⟩, Or.inr ⟨b23, k23, rfl, V_b23, hc4_19⟩, Or.inr ⟨b29, k29, rfl, V_b29, hc4_25⟩⟩
            · refine own_go (x' := T24.setTop (mkF m 59 #[.val (.ref ao0), .val (.int p1), .val (.int p2), .val (.int (3 : Int32)), .val (.int p2)] [(.ref ao0)])) (fun _ k => XS.icmpYes X24.here hx rfl (pc0 := 4) (pc' := 58) rfl (hb hby d3_4) rfl (flt hc4_25).2.1 (by decide) (by decide) (XS.aloadN X24.here hx rfl (hb hby d3_58) rfl rfl k)) ?_
              obtain ⟨T32, X32, e32, st32⟩ := getF X24 hx hZ hown (host := "") (Or.inl (own_w hw 11 rfl)) Via.refl e24 F_ao0_bytes (g := (mkF m 59 #[.val (.ref ao0), .val (.int p1), .val (.int p2), .val (.int (3 : Int32)), .val (.int p2)] [(.ref ao0)])) rfl rfl (hb hby d3_59)
              refine own_go (x' := T32.setTop (mkF m 62 #[.val (.ref ao0), .val (.int p1), .val (.int p2), .val (.int (3 : Int32)), .val (.int p2)] [(.ref ar)])) st32 ?_
              refine own_retR X32 hx hlk hret rfl rfl (hb hby d3_62) ?_ (by decide) (by decide)
              rw [e32]
              exact ⟨(.ref b7), (.ref b17), (.ref b23), .null, rfl, Nf, Kp, V_ar, Or.inr ⟨b7, k7, rfl, sz_b7, V_b7, hc4, hc39⟩, Or.inr ⟨b17, k17, rfl, sz_b17, V_b17, hc4_9, hc39_15⟩, Or.inr ⟨b23, k23, rfl, V_b23, hc4_19⟩, Or.inl ⟨rfl, hc4_25⟩⟩
          · refine own_go (x' := T18.setTop (mkF m 59 #[.val (.ref ao0), .val (.int p1), .val (.int p2), .val (.int (2 : Int32)), .val (.int p2)] [(.ref ao0)])) (fun _ k => XS.icmpYes X18.here hx rfl (pc0 := 4) (pc' := 58) rfl (hb hby d3_4) rfl (flt hc4_19).2.1 (by decide) (by decide) (XS.aloadN X18.here hx rfl (hb hby d3_58) rfl rfl k)) ?_
            obtain ⟨T33, X33, e33, st33⟩ := getF X18 hx hZ hown (host := "") (Or.inl (own_w hw 11 rfl)) Via.refl e18 F_ao0_bytes (g := (mkF m 59 #[.val (.ref ao0), .val (.int p1), .val (.int p2), .val (.int (2 : Int32)), .val (.int p2)] [(.ref ao0)])) rfl rfl (hb hby d3_59)
            refine own_go (x' := T33.setTop (mkF m 62 #[.val (.ref ao0), .val (.int p1), .val (.int p2), .val (.int (2 : Int32)), .val (.int p2)] [(.ref ar)])) st33 ?_
            refine own_retR X33 hx hlk hret rfl rfl (hb hby d3_62) ?_ (by decide) (by decide)
            rw [e33]
            exact ⟨(.ref b7), (.ref b17), .null, .null, rfl, Nf, Kp, V_ar, Or.inr ⟨b7, k7, rfl, sz_b7, V_b7, hc4, hc39⟩, Or.inr ⟨b17, k17, rfl, sz_b17, V_b17, hc4_9, hc39_15⟩, Or.inl ⟨rfl, hc4_19⟩, Or.inl ⟨rfl, (own_le hc4_19 (by decide))⟩⟩
        · refine own_go (x' := T12.setTop (mkF m 2 #[.val (.ref ao0), .val (.int p1), .val (.int p2), .val (.int ((1 : Int32) + (1 : Int32))), .val (.int p2)] [])) (fun _ k => XS.icmpYes X12.here hx rfl (pc0 := 39) (pc' := 52) rfl (hb hby d3_39) rfl (flt hc39_15).2.1 (by decide) (by decide) (XS.iinc X12.here hx rfl (hb hby d3_52) rfl (l' := #[.val (.ref ao0), .val (.int p1), .val (.int p2), .val (.int ((1 : Int32) + (1 : Int32))), .val (.int p2)]) rfl (XS.goto X12.here hx rfl (pc0 := 55) (pc' := 2) rfl (hb hby d3_55) (by decide) (by decide) k))) ?_
          rw [show ((1 : Int32) + (1 : Int32)) = (2 : Int32) from by decide +kernel]
          refine own_go (x' := T12.setTop (mkF m 4 #[.val (.ref ao0), .val (.int p1), .val (.int p2), .val (.int (2 : Int32)), .val (.int p2)] [(.int p1), (.int (2 : Int32))])) (fun _ k => XS.iloadN X12.here hx rfl (hb hby d3_2) rfl (XS.iloadN X12.here hx rfl (hb hby d3_3) rfl k)) ?_
          by_cases hc4_34 : (2 : Int32) < p1
          · refine own_go (x' := T12.setTop (mkF m 22 #[.val (.ref ao0), .val (.int p1), .val (.int p2), .val (.int (2 : Int32)), .val (.int p2)] [(.ref ao0)])) (fun _ k => XS.icmpNo X12.here hx rfl (hb hby d3_4) rfl (tlt hc4_34).2.1 (XS.iloadN X12.here hx rfl (hb hby d3_7) rfl (XS.ifYes X12.here hx rfl (pc0 := 8) (pc' := 18) rfl (hb hby d3_8) rfl ((if0 _ _).trans (feq (by decide +kernel : ¬ ((2 : Int32) = (0 : Int32)))).2) (by decide) (by decide) (XS.iloadN X12.here hx rfl (hb hby d3_18) rfl (XS.istore X12.here hx rfl (hb hby d3_19) rfl (l' := #[.val (.ref ao0), .val (.int p1), .val (.int p2), .val (.int (2 : Int32)), .val (.int p2)]) rfl (XS.aloadN X12.here hx rfl (hb hby d3_21) rfl rfl k)))))) ?_
            obtain ⟨T35, X35, e35, st35⟩ := getF X12 hx hZ hown (host := "") (Or.inl (own_w hw 11 rfl)) Via.refl e12 F_ao0_bytes (g := (mkF m 22 #[.val (.ref ao0), .val (.int p1), .val (.int p2), .val (.int (2 : Int32)), .val (.int p2)] [(.ref ao0)])) rfl rfl (hb hby d3_22)
            refine own_go (x' := T35.setTop (mkF m 25 #[.val (.ref ao0), .val (.int p1), .val (.int p2), .val (.int (2 : Int32)), .val (.int p2)] [(.ref ar)])) st35 ?_
            refine own_go (x' := T35.setTop (mkF m 26 #[.val (.ref ao0), .val (.int p1), .val (.int p2), .val (.int (2 : Int32)), .val (.int p2)] [(.int (2 : Int32)), (.ref ar)])) (fun _ k => XS.iloadN X35.here hx rfl (hb hby d3_25) rfl k) ?_
            obtain ⟨cl36, Ar36, q36, Sz36, Nn36, Hh36, Gg36⟩ := id V_ar
            have hin36 : ¬ ((2 : Int32) < 0 ∨ cl36.slots.size ≤ ((2 : Int32)).toNatClampNeg) := inb_of Sz36 ⟨by decide, by decide⟩
            refine own_go (x' := T35.setTop (mkF m 27 #[.val (.ref ao0), .val (.int p1), .val (.int p2), .val (.int (2 : Int32)), .val (.int p2)] [.null])) (X35.aaload hx (j := (2 : Int32)) (v := .null) (Eq.trans (congrArg (fun h_ => h_[_]?) e35) Ar36.1) (State.isArrayOf_alike hZ.alike Ar36.2.1) rfl Ar36.2.2 hin36 (Hh36.at hin36 rfl) (g := (mkF m 26 #[.val (.ref ao0), .val (.int p1), .val (.int p2), .val (.int (2 : Int32)), .val (.int p2)] [(.int (2 : Int32)), (.ref ar)])) rfl rfl (hb hby d3_26)) ?_
            refine own_go (x' := T35.setTop (mkF m 43 #[.val (.ref ao0), .val (.int p1), .val (.int p2), .val (.int (2 : Int32)), .val (.int p2)] [(.ref ao0)])) (fun _ k => XS.ifnullYes X35.here hx rfl (pc0 := 27) (pc' := 42) rfl (hb hby d3_27) rfl (by decide) (by decide) (XS.aloadN X35.here hx rfl (hb hby d3_42) rfl rfl k)) ?_
            obtain ⟨T37, X37, e37, st37⟩ := getF X35 hx hZ hown (host := "") (Or.inl (own_w hw 11 rfl)) Via.refl e35 F_ao0_bytes (g := (mkF m 43 #[.val (.ref ao0), .val (.int p1), .val (.int p2), .val (.int (2 : Int32)), .val (.int p2)] [(.ref ao0)])) rfl rfl (hb hby d3_43)
            refine own_go (x' := T37.setTop (mkF m 46 #[.val (.ref ao0), .val (.int p1), .val (.int p2), .val (.int (2 : Int32)), .val (.int p2)] [(.ref ar)])) st37 ?_
            refine own_go (x' := T37.setTop (mkF m 49 #[.val (.ref ao0), .val (.int p1), .val (.int p2), .val (.int (2 : Int32)), .val (.int p2)] [(.int p2), (.int (2 : Int32)), (.ref ar)])) (fun _ k => XS.iloadN X37.here hx rfl (hb hby d3_46) rfl (XS.iload X37.here hx rfl (hb hby d3_47) rfl k)) ?_
            obtain ⟨T38, h38, k38, X38, e38, E38, A38, Q38, st38⟩ := newPE X37 hx hZ (own_w hw 29 rfl) e37 (g := (mkF m 49 #[.val (.ref ao0), .val (.int p1), .val (.int p2), .val (.int (2 : Int32)), .val (.int p2)] [(.int p2), (.int (2 : Int32)), (.ref ar)])) rfl (hb hby d3_49) rfl hs.1 (cap := 16383) hs.2 (by decide) (by decide) (by decide) (ad := "[B") (by decide)
            obtain ⟨b38, g38⟩ : ∃ z, z = h8.size := ⟨_, rfl⟩
            rw [← g38] at A38 st38
            rw [← g38] at Q38
            have ne_ao0_b38 : ao0 ≠ b38 := Nat.ne_of_lt (Nat.lt_of_lt_of_le F_ao0_bytes.lt (Nat.le_of_eq g38.symm))
            have ne_b0_b38 : b0 ≠ b38 := Nat.ne_of_lt (Nat.lt_of_lt_of_le V_b0.lt (Nat.le_of_eq g38.symm))
            have ne_b1_b38 : b1 ≠ b38 := Nat.ne_of_lt (Nat.lt_of_lt_of_le V_b1.lt (Nat.le_of_eq g38.symm))
            have ne_b7_b38 : b7 ≠ b38 := Nat.ne_of_lt (Nat.lt_of_lt_of_le E_b7.lt (Nat.le_of_eq g38.symm))
            have ne_ar_b38 : ar ≠ b38 := Nat.ne_of_lt (Nat.lt_of_lt_of_le V_ar.lt (Nat.le_of_eq g38.symm))
            have g_b38 : n0 ≤ b38 := Nat.le_trans Zs (Nat.le_of_eq g38.symm)
            have sz_b38 : h0.size ≤ b38 := Nat.le_trans Kp.1 (Nat.le_of_eq g38.symm)
            replace F_ao0_bytes := Fld.ext E38 F_ao0_bytes
            replace V_b0 := V_b0.ext E38
            replace V_b1 := V_b1.ext E38
            replace E_b7 := Exa.ext E38 E_b7
            replace V_b7 := V_b7.ext E38
            replace V_ar := V_ar.ext E38
            replace Zs := Nat.le_trans Zs E38.1
            replace Kp := Kp.ext E38
            have E_b38 := Q38
            have V_b38 : Arv Z h38 b38 k38 .byte p2 [] (.int (0 : Int32)) := Arv.new A38 hs.1
            refine own_go (x' := T38.setTop (mkF m 51 #[.val (.ref ao0), .val (.int p1), .val (.int p2), .val (.int (2 : Int32)), .val (.int p2)] [(.ref b38), (.int (2 : Int32)), (.ref ar)])) st38 ?_
            obtain ⟨cl39, Ar39, q39, Sz39, Nn39, Hh39, Gg39⟩ := V_ar
            have hin39 : ¬ ((2 : Int32) < 0 ∨ cl39.slots.size ≤ ((2 : Int32)).toNatClampNeg) := inb_of Sz39 ⟨by decide, by decide⟩
            obtain ⟨T39, h39, X39, e39, W39, st39⟩ := stR X38 hx hZ e38 Ar39 (j := (2 : Int32)) hin39 rfl (Sto.ofVA Ar39 q39 O_ar (Ins.self E_b38)) (g := (mkF m 51 #[.val (.ref ao0), .val (.int p1), .val (.int p2), .val (.int (2 : Int32)), .val (.int p2)] [(.ref b38), (.int (2 : Int32)), (.ref ar)])) rfl rfl (hb hby d3_51)
            refine own_go (x' := T39.setTop (mkF m 52 #[.val (.ref ao0), .val (.int p1), .val (.int p2), .val (.int (2 : Int32)), .val (.int p2)] [])) st39 ?_
            replace F_ao0_bytes := Fld.other W39 F_ao0_bytes (Or.inl ne_ao0_ar)
            replace V_b0 := V_b0.other W39 ne_b0_ar
            replace V_b1 := V_b1.other W39 ne_b1_ar
            replace E_b7 := Exa.wr W39 E_b7
            replace V_b7 := V_b7.other W39 (Ne.symm ne_ar_b7)
            replace E_b38 := Exa.wr W39 E_b38
            replace V_b38 := V_b38.other W39 (Ne.symm ne_ar_b38)
            replace Zs := Nat.le_trans Zs (Keep.of_wr W39).1
            replace Nf := Fr.snoc X39 Nf g_ar
            replace Kp := Kp.wr W39 (Or.inl (by simp))
            have V_ar : Arv Z h39 ar kc (.array .byte) (4 : Int32) [(.ref b7), (.ref b1), (.ref b38), .null] .null := Arv.set Ar39 q39 Sz39 Nn39 Hh39 Gg39 rfl W39 2 rfl (Nat.le_of_ble_eq_true rfl)
            refine own_go (x' := T39.setTop (mkF m 2 #[.val (.ref ao0), .val (.int p1), .val (.int p2), .val (.int ((2 : Int32) + (1 : Int32))), .val (.int p2)] [])) (fun _ k => XS.iinc X39.here hx rfl (hb hby d3_52) rfl (l' := #[.val (.ref ao0), .val (.int p1), .val (.int p2), .val (.int ((2 : Int32) + (1 : Int32))), .val (.int p2)]) rfl (XS.goto X39.here hx rfl (pc0 := 55) (pc' := 2) rfl (hb hby d3_55) (by decide) (by decide) k)) ?_
            rw [show ((2 : Int32) + (1 : Int32)) = (3 : Int32) from by decide +kernel]
            refine own_go (x' := T39.setTop (mkF m 4 #[.val (.ref ao0), .val (.int p1), .val (.int p2), .val (.int (3 : Int32)), .val (.int p2)] [(.int p1), (.int (3 : Int32))])) (fun _ k => XS.iloadN X39.here hx rfl (hb hby d3_2) rfl (XS.iloadN X39.here hx rfl (hb hby d3_3) rfl k)) ?_
            by_cases hc4_40 : (3 : Int32) < p1
            · refine own_go (x' := T39.setTop (mkF m 22 #[.val (.ref ao0), .val (.int p1), .val (.int p2), .val (.int (3 : Int32)), .val (.int p2)] [(.ref ao0)])) (fun _ k => XS.icmpNo X39.here hx rfl (hb hby d3_4) rfl (tlt hc4_40).2.1 (XS.iloadN X39.here hx rfl (hb hby d3_7) rfl (XS.ifYes X39.here hx rfl (pc0 := 8) (pc' := 18) rfl (hb hby d3_8) rfl ((if0 _ _).trans (feq (by decide +kernel : ¬ ((3 : Int32) = (0 : Int32)))).2) (by decide) (by decide) (XS.iloadN X39.here hx rfl (hb hby d3_18) rfl (XS.istore X39.here hx rfl (hb hby d3_19) rfl (l' := #[.val (.ref ao0), .val (.int p1), .val (.int p2), .val (.int (3 : Int32)), .val (.int p2)]) rfl (XS.aloadN X39.here hx rfl (hb hby d3_21) rfl rfl k)))))) ?_
              obtain ⟨T41, X41, e41, st41⟩ := getF X39 hx hZ hown (host := "") (Or.inl (own_w hw 11 rfl)) Via.refl e39 F_ao0_bytes (g := (mkF m 22 #[.val (.ref ao0), .val (.int p1), .val (.int p2), .val (.int (3 : Int32)), .val (.int p2)] [(.ref ao0)])) rfl rfl (hb hby d3_22)
              refine own_go (x' := T41.setTop (mkF m 25 #[.val (.ref ao0), .val (.int p1), .val (.int p2), .val (.int (3 : Int32)), .val (.int p2)] [(.ref ar)])) st41 ?_
              refine own_go (x' := T41.setTop (mkF m 26 #[.val (.ref ao0), .val (.int p1), .val (.int p2), .val (.int (3 : Int32)), .val (.int p2)] [(.int (3 : Int32)), (.ref ar)])) (fun _ k => XS.iloadN X41.here hx rfl (hb hby d3_25) rfl k) ?_
              obtain ⟨cl42, Ar42, q42, Sz42, Nn42, Hh42, Gg42⟩ := id V_ar
              have hin42 : ¬ ((3 : Int32) < 0 ∨ cl42.slots.size ≤ ((3 : Int32)).toNatClampNeg) := inb_of Sz42 ⟨by decide, by decide⟩
              refine own_go (x' := T41.setTop (mkF m 27 #[.val (.ref ao0), .val (.int p1), .val (.int p2), .val (.int (3 : Int32)), .val (.int p2)] [.null])) (X41.aaload hx (j := (3 : Int32)) (v := .null) (Eq.trans (congrArg (fun h_ => h_[_]?) e41) Ar42.1) (State.isArrayOf_alike hZ.alike Ar42.2.1) rfl Ar42.2.2 hin42 (Hh42.at hin42 rfl) (g := (mkF m 26 #[.val (.ref ao0), .val (.int p1), .val (.int p2), .val (.int (3 : Int32)), .val (.int p2)] [(.int (3 : Int32)), (.ref ar)])) rfl rfl (hb hby d3_26)) ?_
              refine own_go (x' := T41.setTop (mkF m 43 #[.val (.ref ao0), .val (.int p1), .val (.int p2), .val (.int (3 : Int32)), .val (.int p2)] [(.ref ao0)])) (fun _ k => XS.ifnullYes X41.here hx rfl (pc0 := 27) (pc' := 42) rfl (hb hby d3_27) rfl (by decide) (by decide) (XS.aloadN X41.here hx rfl (hb hby d3_42) rfl rfl k)) ?_
              obtain ⟨T43, X43, e43, st43⟩ := getF X41 hx hZ hown (host := "") (Or.inl (own_w hw 11 rfl)) Via.refl e41 F_ao0_bytes (g := (mkF m 43 #[.val (.ref ao0), .val (.int p1), .val (.int p2), .val (.int (3 : Int32)), .val (.int p2)] [(.ref ao0)])) rfl rfl (hb hby d3_43)
              refine own_go (x' := T43.setTop (mkF m 46 #[.val (.ref ao0), .val (.int p1), .val (.int p2), .val (.int (3 : Int32)), .val (.int p2)] [(.ref ar)])) st43 ?_
              refine own_go (x' := T43.setTop (mkF m 49 #[.val (.ref ao0), .val (.int p1), .val (.int p2), .val (.int (3 : Int32)), .val (.int p2)] [(.int p2), (.int (3 : Int32)), (.ref ar)])) (fun _ k => XS.iloadN X43.here hx rfl (hb hby d3_46) rfl (XS.iload X43.here hx rfl (hb hby d3_47) rfl k)) ?_
              obtain ⟨T44, h44, k44, X44, e44, E44, A44, Q44, st44⟩ := newPE X43 hx hZ (own_w hw 29 rfl) e43 (g := (mkF m 49 #[.val (.ref ao0), .val (.int p1), .val (.int p2), .val (.int (3 : Int32)), .val (.int p2)] [(.int p2), (.int (3 : Int32)), (.ref ar)])) rfl (hb hby d3_49) rfl hs.1 (cap := 16383) hs.2 (by decide) (by decide) (by decide) (ad := "[B") (by decide)
              obtain ⟨b44, g44⟩ : ∃ z, z = h39.size := ⟨_, rfl⟩
              rw [← g44] at A44 st44
              rw [← g44] at Q44
              have ne_ao0_b44 : ao0 ≠ b44 := Nat.ne_of_lt (Nat.lt_of_lt_of_le F_ao0_bytes.lt (Nat.le_of_eq g44.symm))
              have ne_b0_b44 : b0 ≠ b44 := Nat.ne_of_lt (Nat.lt_of_lt_of_le V_b0.lt (Nat.le_of_eq g44.symm))
              have ne_b1_b44 : b1 ≠ b44 := Nat.ne_of_lt (Nat.lt_of_lt_of_le V_b1.lt (Nat.le_of_eq g44.symm))
              have ne_b7_b44 : b7 ≠ b44 := Nat.ne_of_lt (Nat.lt_of_lt_of_le E_b7.lt (Nat.le_of_eq g44.symm))
              have ne_b38_b44 : b38 ≠ b44 := Nat.ne_of_lt (Nat.lt_of_lt_of_le E_b38.lt (Nat.le_of_eq g44.symm))
              have ne_ar_b44 : ar ≠ b44 := Nat.ne_of_lt (Nat.lt_of_lt_of_le V_ar.lt (Nat.le_of_eq g44.symm))
              have g_b44 : n0 ≤ b44 := Nat.le_trans Zs (Nat.le_of_eq g44.symm)
              have sz_b44 : h0.size ≤ b44 := Nat.le_trans Kp.1 (Nat.le_of_eq g44.symm)
              replace F_ao0_bytes := Fld.ext E44 F_ao0_bytes
              replace V_b0 := V_b0.ext E44
              replace V_b1 := V_b1.ext E44
              replace E_b7 := Exa.ext E44 E_b7
              replace V_b7 := V_b7.ext E44
              replace E_b38 := Exa.ext E44 E_b38
              replace V_b38 := V_b38.ext E44
              replace V_ar := V_ar.ext E44
              replace Zs := Nat.le_trans Zs E44.1
              replace Kp := Kp.ext E44
              have E_b44 := Q44
              have V_b44 : Arv Z h44 b44 k44 .byte p2 [] (.int (0 : Int32)) := Arv.new A44 hs.1
              refine own_go (x' := T44.setTop (mkF m 51 #[.val (.ref ao0), .val (.int p1), .val (.int p2), .val (.int (3 : Int32)), .val (.int p2)] [(.ref b44), (.int (3 : Int32)), (.ref ar)])) st44 ?_
              obtain ⟨cl45, Ar45, q45, Sz45, Nn45, Hh45, Gg45⟩ := V_ar
              have hin45 : ¬ ((3 : Int32) < 0 ∨ cl45.slots.size ≤ ((3 : Int32)).toNatClampNeg) := inb_of Sz45 ⟨by decide, by decide⟩
              obtain ⟨T45, h45, X45, e45, W45, st45⟩ := stR X44 hx hZ e44 Ar45 (j := (3 : Int32)) hin45 rfl (Sto.ofVA Ar45 q45 O_ar (Ins.self E_b44)) (g := (mkF m 51 #[.val (.ref ao0), .val (.int p1), .val (.int p2), .val (.int (3 : Int32)), .val (.int p2)] [(.ref b44), (.int (3 : Int32)), (.ref ar)])) rfl rfl (hb hby d3_51)
              refine own_go (x' := T45.setTop (mkF m 52 #[.val (.ref ao0), .val (.int p1), .val (.int p2), .val (.int (3 : Int32)), .val (.int p2)] [])) st45 ?_
              replace F_ao0_bytes := Fld.other W45 F_ao0_bytes (Or.inl ne_ao0_ar)
              replace V_b0 := V_b0.other W45 ne_b0_ar
              replace V_b1 := V_b1.other W45 ne_b1_ar
              replace E_b7 := Exa.wr W45 E_b7
              replace V_b7 := V_b7.other W45 (Ne.symm ne_ar_b7)
              replace E_b38 := Exa.wr W45 E_b38
              replace V_b38 := V_b38.other W45 (Ne.symm ne_ar_b38)
              replace E_b44 := Exa.wr W45 E_b44
              replace V_b44 := V_b44.other W45 (Ne.symm ne_ar_b44)
              replace Zs := Nat.le_trans Zs (Keep.of_wr W45).1
              replace Nf := Fr.snoc X45 Nf g_ar
              replace Kp := Kp.wr W45 (Or.inl (by simp))
              have V_ar : Arv Z h45 ar kc (.array .byte) (4 : Int32) [(.ref b7), (.ref b1), (.ref b38), (.ref b44)] .null := Arv.set Ar45 q45 Sz45 Nn45 Hh45 Gg45 rfl W45 3 rfl (Nat.le_of_ble_eq_true rfl)
              refine own_go (x' := T45.setTop (mkF m 2 #[.val (.ref ao0), .val (.int p1), .val (.int p2), .val (.int ((3 : Int32) + (1 : Int32))), .val (.int p2)] [])) (fun _ k => XS.iinc X45.here hx rfl (hb hby d3_52) rfl (l' := #[.val (.ref ao0), .val (.int p1), .val (.int p2), .val (.int ((3 : Int32) + (1 : Int32))), .val (.int p2)]) rfl (XS.goto X45.here hx rfl (pc0 := 55) (pc' := 2) rfl (hb hby d3_55) (by decide) (by decide) k)) ?_
              rw [show ((3 : Int32) + (1 : Int32)) = (4 : Int32) from by decide +kernel]
              refine own_go (x' := T45.setTop (mkF m 59 #[.val (.ref ao0), .val (.int p1), .val (.int p2), .val (.int (4 : Int32)), .val (.int p2)] [(.ref ao0)])) (fun _ k => XS.iloadN X45.here hx rfl (hb hby d3_2) rfl (XS.iloadN X45.here hx rfl (hb hby d3_3) rfl (XS.icmpYes X45.here hx rfl (pc0 := 4) (pc' := 58) rfl (hb hby d3_4) rfl (flt hu).2.1 (by decide) (by decide) (XS.aloadN X45.here hx rfl (hb hby d3_58) rfl rfl k)))) ?_
              obtain ⟨T46, X46, e46, st46⟩ := getF X45 hx hZ hown (host := "") (Or.inl (own_w hw 11 rfl)) Via.refl e45 F_ao0_bytes (g := (mkF m 59 #[.val (.ref ao0), .val (.int p1), .val (.int p2), .val (.int (4 : Int32)), .val (.int p2)] [(.ref ao0)])) rfl rfl (hb hby d3_59)
              refine own_go (x' := T46.setTop (mkF m 62 #[.val (.ref ao0), .val (.int p1), .val (.int p2), .val (.int (4 : Int32)), .val (.int p2)] [(.ref ar)])) st46 ?_
              refine own_retR X46 hx hlk hret rfl rfl (hb hby d3_62) ?_ (by decide) (by decide)
              rw [e46]
              exact ⟨(.ref b7), (.ref b1), (.ref b38), (.ref b44), rfl, Nf, Kp, V_ar, Or.inr ⟨b7, k7, rfl, sz_b7, V_b7, hc4, hc39⟩, Or.inl ⟨rfl, Or.inr hc39_15⟩, Or.inr ⟨b38, k38, rfl, V_b38, hc4_34⟩, Or.inr ⟨b44, k44, rfl, V_b44, hc4_40⟩⟩
            · refine own_go (x' := T39.setTop (mkF m 59 #[.val (.ref ao0), .val (.int p1), .val (.int p2), .val (.int (3 : Int32)), .val (.int p2)] [(.ref ao0)])) (fun _ k => XS.icmpYes X39.here hx rfl (pc0 := 4) (pc' := 58) rfl (hb hby d3_4) rfl (flt hc4_40).2.1 (by decide) (by decide) (XS.aloadN X39.here hx rfl (hb hby d3_58) rfl rfl k)) ?_
              obtain ⟨T47, X47, e47, st47⟩ := getF X39 hx hZ hown (host := "") (Or.inl (own_w hw 11 rfl)) Via.refl e39 F_ao0_bytes (g := (mkF m 59 #[.val (.ref ao0), .val (.int p1), .val (.int p2), .val (.int (3 : Int32)), .val (.int p2)] [(.ref ao0)])) rfl rfl (hb hby d3_59)
              refine own_go (x' := T47.setTop (mkF m 62 #[.val (.ref ao0), .val (.int p1), .val (.int p2), .val (.int (3 : Int32)), .val (.int p2)] [(.ref ar)])) st47 ?_
              refine own_retR X47 hx hlk hret rfl rfl (hb hby d3_62) ?_ (by decide) (by decide)
              rw [e47]
              exact ⟨(.ref b7), (.ref b1), (.ref b38), .null, rfl, Nf, Kp, V_ar, Or.inr ⟨b7, k7, rfl, sz_b7, V_b7, hc4, hc39⟩, Or.inl ⟨rfl, Or.inr hc39_15⟩, Or.inr ⟨b38, k38, rfl, V_b38, hc4_34⟩, Or.inl ⟨rfl, hc4_40⟩⟩
          · refine own_go (x' := T12.setTop (mkF m 59 #[.val (.ref ao0), .val (.int p1), .val (.int p2), .val (.int (2 : Int32)), .val (.int p2)] [(.ref ao0)])) (fun _ k => XS.icmpYes X12.here hx rfl (pc0 := 4) (pc' := 58) rfl (hb hby d3_4) rfl (flt hc4_34).2.1 (by decide) (by decide) (XS.aloadN X12.here hx rfl (hb hby d3_58) rfl rfl k)) ?_
            obtain ⟨T48, X48, e48, st48⟩ := getF X12 hx hZ hown (host := "") (Or.inl (own_w hw 11 rfl)) Via.refl e12 F_ao0_bytes (g := (mkF m 59 #[.val (.ref ao0), .val (.int p1), .val (.int p2), .val (.int (2 : Int32)), .val (.int p2)] [(.ref ao0)])) rfl rfl (hb hby d3_59)
            refine own_go (x' := T48.setTop (mkF m 62 #[.val (.ref ao0), .val (.int p1), .val (.int p2), .val (.int (2 : Int32)), .val (.int p2)] [(.ref ar)])) st48 ?_
            refine own_retR X48 hx hlk hret rfl rfl (hb hby d3_62) ?_ (by decide) (by decide)
            rw [e48]
            exact ⟨(.ref b7), (.ref b1), .null, .null, rfl, Nf, Kp, V_ar, Or.inr ⟨b7, k7, rfl, sz_b7, V_b7, hc4, hc39⟩, Or.inl ⟨rfl, Or.inr hc39_15⟩, Or.inl ⟨rfl, hc4_34⟩, Or.inl ⟨rfl, (own_le hc4_34 (by decide))⟩⟩
      · refine own_go (x' := T8.setTop (mkF m 59 #[.val (.ref ao0), .val (.int p1), .val (.int p2), .val (.int (1 : Int32)), .val (.int (p2 + (64 : Int32)))] [(.ref ao0)])) (fun _ k => XS.icmpYes X8.here hx rfl (pc0 := 4) (pc' := 58) rfl (hb hby d3_4) rfl (flt hc4_9).2.1 (by decide) (by decide) (XS.aloadN X8.here hx rfl (hb hby d3_58) rfl rfl k)) ?_
        obtain ⟨T49, X49, e49, st49⟩ := getF X8 hx hZ hown (host := "") (Or.inl (own_w hw 11 rfl)) Via.refl e8 F_ao0_bytes (g := (mkF m 59 #[.val (.ref ao0), .val (.int p1), .val (.int p2), .val (.int (1 : Int32)), .val (.int (p2 + (64 : Int32)))] [(.ref ao0)])) rfl rfl (hb hby d3_59)
        refine own_go (x' := T49.setTop (mkF m 62 #[.val (.ref ao0), .val (.int p1), .val (.int p2), .val (.int (1 : Int32)), .val (.int (p2 + (64 : Int32)))] [(.ref ar)])) st49 ?_
        refine own_retR X49 hx hlk hret rfl rfl (hb hby d3_62) ?_ (by decide) (by decide)
        rw [e49]
        exact ⟨(.ref b7), (.ref b1), .null, .null, rfl, Nf, Kp, V_ar, Or.inr ⟨b7, k7, rfl, sz_b7, V_b7, hc4, hc39⟩, Or.inl ⟨rfl, Or.inl hc4_9⟩, Or.inl ⟨rfl, (own_le hc4_9 (by decide))⟩, Or.inl ⟨rfl, (own_le hc4_9 (by decide))⟩⟩
    · refine own_go (x' := T3.setTop (mkF m 2 #[.val (.ref ao0), .val (.int p1), .val (.int p2), .val (.int ((0 : Int32) + (1 : Int32))), .val (.int (p2 + (64 : Int32)))] [])) (fun _ k => XS.icmpYes X3.here hx rfl (pc0 := 39) (pc' := 52) rfl (hb hby d3_39) rfl (flt hc39).2.1 (by decide) (by decide) (XS.iinc X3.here hx rfl (hb hby d3_52) rfl (l' := #[.val (.ref ao0), .val (.int p1), .val (.int p2), .val (.int ((0 : Int32) + (1 : Int32))), .val (.int (p2 + (64 : Int32)))]) rfl (XS.goto X3.here hx rfl (pc0 := 55) (pc' := 2) rfl (hb hby d3_55) (by decide) (by decide) k))) ?_
      rw [show ((0 : Int32) + (1 : Int32)) = (1 : Int32) from by decide +kernel]
      refine own_go (x' := T3.setTop (mkF m 4 #[.val (.ref ao0), .val (.int p1), .val (.int p2), .val (.int (1 : Int32)), .val (.int (p2 + (64 : Int32)))] [(.int p1), (.int (1 : Int32))])) (fun _ k => XS.iloadN X3.here hx rfl (hb hby d3_2) rfl (XS.iloadN X3.here hx rfl (hb hby d3_3) rfl k)) ?_
      by_cases hc4_50 : (1 : Int32) < p1
      · refine own_go (x' := T3.setTop (mkF m 22 #[.val (.ref ao0), .val (.int p1), .val (.int p2), .val (.int (1 : Int32)), .val (.int p2)] [(.ref ao0)])) (fun _ k => XS.icmpNo X3.here hx rfl (hb hby d3_4) rfl (tlt hc4_50).2.1 (XS.iloadN X3.here hx rfl (hb hby d3_7) rfl (XS.ifYes X3.here hx rfl (pc0 := 8) (pc' := 18) rfl (hb hby d3_8) rfl ((if0 _ _).trans (feq (by decide +kernel : ¬ ((1 : Int32) = (0 : Int32)))).2) (by decide) (by decide) (XS.iloadN X3.here hx rfl (hb hby d3_18) rfl (XS.istore X3.here hx rfl (hb hby d3_19) rfl (l' := #[.val (.ref ao0), .val (.int p1), .val (.int p2), .val (.int (1 : Int32)), .val (.int p2)]) rfl (XS.aloadN X3.here hx rfl (hb hby d3_21) rfl rfl k)))))) ?_
        obtain ⟨T51, X51, e51, st51⟩ := getF X3 hx hZ hown (host := "") (Or.inl (own_w hw 11 rfl)) Via.refl e3 F_ao0_bytes (g := (mkF m 22 #[.val (.ref ao0), .val (.int p1), .val (.int p2), .val (.int (1 : Int32)), .val (.int p2)] [(.ref ao0)])) rfl rfl (hb hby d3_22)
        refine own_go (x' := T51.setTop (mkF m 25 #[.val (.ref ao0), .val (.int p1), .val (.int p2), .val (.int (1 : Int32)), .val (.int p2)] [(.ref ar)])) st51 ?_
        refine own_go (x' := T51.setTop (mkF m 26 #[.val (.ref ao0), .val (.int p1), .val (.int p2), .val (.int (1 : Int32)), .val (.int p2)] [(.int (1 : Int32)), (.ref ar)])) (fun _ k => XS.iloadN X51.here hx rfl (hb hby d3_25) rfl k) ?_
        obtain ⟨cl52, Ar52, q52, Sz52, Nn52, Hh52, Gg52⟩ := id V_ar
        have hin52 : ¬ ((1 : Int32) < 0 ∨ cl52.slots.size ≤ ((1 : Int32)).toNatClampNeg) := inb_of Sz52 ⟨by decide, by decide⟩
        refine own_go (x' := T51.setTop (mkF m 27 #[.val (.ref ao0), .val (.int p1), .val (.int p2), .val (.int (1 : Int32)), .val (.int p2)] [(.ref b1)])) (X51.aaload hx (j := (1 : Int32)) (v := (.ref b1)) (Eq.trans (congrArg (fun h_ => h_[_]?) e51) Ar52.1) (State.isArrayOf_alike hZ.alike Ar52.2.1) rfl Ar52.2.2 hin52 (Hh52.at hin52 rfl) (g := (mkF m 26 #[.val (.ref ao0), .val (.int p1), .val (.int p2), .val (.int (1 : Int32)), .val (.int p2)] [(.int (1 : Int32)), (.ref ar)])) rfl rfl (hb hby d3_26)) ?_
        refine own_go (x' := T51.setTop (mkF m 31 #[.val (.ref ao0), .val (.int p1), .val (.int p2), .val (.int (1 : Int32)), .val (.int p2)] [(.ref ao0)])) (fun _ k => XS.ifnullNo X51.here hx rfl (hb hby d3_27) rfl (XS.aloadN X51.here hx rfl (hb hby d3_30) rfl rfl k)) ?_
        obtain ⟨T53, X53, e53, st53⟩ := getF X51 hx hZ hown (host := "") (Or.inl (own_w hw 11 rfl)) Via.refl e51 F_ao0_bytes (g := (mkF m 31 #[.val (.ref ao0), .val (.int p1), .val (.int p2), .val (.int (1 : Int32)), .val (.int p2)] [(.ref ao0)])) rfl rfl (hb hby d3_31)
        refine own_go (x' := T53.setTop (mkF m 34 #[.val (.ref ao0), .val (.int p1), .val (.int p2), .val (.int (1 : Int32)), .val (.int p2)] [(.ref ar)])) st53 ?_
        refine own_go (x' := T53.setTop (mkF m 35 #[.val (.ref ao0), .val (.int p1), .val (.int p2), .val (.int (1 : Int32)), .val (.int p2)] [(.int (1 : Int32)), (.ref ar)])) (fun _ k => XS.iloadN X53.here hx rfl (hb hby d3_34) rfl k) ?_
        obtain ⟨cl54, Ar54, q54, Sz54, Nn54, Hh54, Gg54⟩ := id V_ar
        have hin54 : ¬ ((1 : Int32) < 0 ∨ cl54.slots.size ≤ ((1 : Int32)).toNatClampNeg) := inb_of Sz54 ⟨by decide, by decide⟩
        refine own_go (x' := T53.setTop (mkF m 36 #[.val (.ref ao0), .val (.int p1), .val (.int p2), .val (.int (1 : Int32)), .val (.int p2)] [(.ref b1)])) (X53.aaload hx (j := (1 : Int32)) (v := (.ref b1)) (Eq.trans (congrArg (fun h_ => h_[_]?) e53) Ar54.1) (State.isArrayOf_alike hZ.alike Ar54.2.1) rfl Ar54.2.2 hin54 (Hh54.at hin54 rfl) (g := (mkF m 35 #[.val (.ref ao0), .val (.int p1), .val (.int p2), .val (.int (1 : Int32)), .val (.int p2)] [(.int (1 : Int32)), (.ref ar)])) rfl rfl (hb hby d3_35)) ?_
        obtain ⟨cl55, Ar55, -, Sz55, Nn55, -, -⟩ := id V_b1
        refine own_go (x' := T53.setTop (mkF m 37 #[.val (.ref ao0), .val (.int p1), .val (.int p2), .val (.int (1 : Int32)), .val (.int p2)] [(.int n1)])) (fun t k => X53.arraylength hx (Eq.trans (congrArg (fun h_ => h_[_]?) e53) Ar55.1) (State.isArrayOf_alike hZ.alike Ar55.2.1) (g := (mkF m 36 #[.val (.ref ao0), .val (.int p1), .val (.int p2), .val (.int (1 : Int32)), .val (.int p2)] [(.ref b1)])) rfl rfl (hb hby d3_36) t (by rw [len_of Sz55 Nn55]; exact k)) ?_
        refine own_go (x' := T53.setTop (mkF m 39 #[.val (.ref ao0), .val (.int p1), .val (.int p2), .val (.int (1 : Int32)), .val (.int p2)] [(.int p2), (.int n1)])) (fun _ k => XS.iload X53.here hx rfl (hb hby d3_37) rfl k) ?_
        by_cases hc39_56 : n1 < p2
        · refine own_go (x' := T53.setTop (mkF m 43 #[.val (.ref ao0), .val (.int p1), .val (.int p2), .val (.int (1 : Int32)), .val (.int p2)] [(.ref ao0)])) (fun _ k => XS.icmpNo X53.here hx rfl (hb hby d3_39) rfl (tlt hc39_56).2.1 (XS.aloadN X53.here hx rfl (hb hby d3_42) rfl rfl k)) ?_
          obtain ⟨T57, X57, e57, st57⟩ := getF X53 hx hZ hown (host := "") (Or.inl (own_w hw 11 rfl)) Via.refl e53 F_ao0_bytes (g := (mkF m 43 #[.val (.ref ao0), .val (.int p1), .val (.int p2), .val (.int (1 : Int32)), .val (.int p2)] [(.ref ao0)])) rfl rfl (hb hby d3_43)
          refine own_go (x' := T57.setTop (mkF m 46 #[.val (.ref ao0), .val (.int p1), .val (.int p2), .val (.int (1 : Int32)), .val (.int p2)] [(.ref ar)])) st57 ?_
          refine own_go (x' := T57.setTop (mkF m 49 #[.val (.ref ao0), .val (.int p1), .val (.int p2), .val (.int (1 : Int32)), .val (.int p2)] [(.int p2), (.int (1 : Int32)), (.ref ar)])) (fun _ k => XS.iloadN X57.here hx rfl (hb hby d3_46) rfl (XS.iload X57.here hx rfl (hb hby d3_47) rfl k)) ?_
          obtain ⟨T58, h58, k58, X58, e58, E58, A58, Q58, st58⟩ := newPE X57 hx hZ (own_w hw 29 rfl) e57 (g := (mkF m 49 #[.val (.ref ao0), .val (.int p1), .val (.int p2), .val (.int (1 : Int32)), .val (.int p2)] [(.int p2), (.int (1 : Int32)), (.ref ar)])) rfl (hb hby d3_49) rfl hs.1 (cap := 16383) hs.2 (by decide) (by decide) (by decide) (ad := "[B") (by decide)
          obtain ⟨b58, g58⟩ : ∃ z, z = h0.size := ⟨_, rfl⟩
          rw [← g58] at A58 st58
          rw [← g58] at Q58
          have ne_ao0_b58 : ao0 ≠ b58 := Nat.ne_of_lt (Nat.lt_of_lt_of_le F_ao0_bytes.lt (Nat.le_of_eq g58.symm))
          have ne_ar_b58 : ar ≠ b58 := Nat.ne_of_lt (Nat.lt_of_lt_of_le V_ar.lt (Nat.le_of_eq g58.symm))
          have ne_b0_b58 : b0 ≠ b58 := Nat.ne_of_lt (Nat.lt_of_lt_of_le V_b0.lt (Nat.le_of_eq g58.symm))
          have ne_b1_b58 : b1 ≠ b58 := Nat.ne_of_lt (Nat.lt_of_lt_of_le V_b1.lt (Nat.le_of_eq g58.symm))
          have g_b58 : n0 ≤ b58 := Nat.le_trans Zs (Nat.le_of_eq g58.symm)
          have sz_b58 : h0.size ≤ b58 := Nat.le_trans Kp.1 (Nat.le_of_eq g58.symm)
          replace F_ao0_bytes := Fld.ext E58 F_ao0_bytes
          replace V_ar := V_ar.ext E58
          replace V_b0 := V_b0.ext E58
          replace V_b1 := V_b1.ext E58
          replace Zs := Nat.le_trans Zs E58.1
          replace Kp := Kp.ext E58
          have E_b58 := Q58
          have V_b58 : Arv Z h58 b58 k58 .byte p2 [] (.int (0 : Int32)) := Arv.new A58 hs.1
          refine own_go (x' := T58.setTop (mkF m 51 #[.val (.ref ao0), .val (.int p1), .val (.int p2), .val (.int (1 : Int32)), .val (.int p2)] [(.ref b58), (.int (1 : Int32)), (.ref ar)])) st58 ?_
          obtain ⟨cl59, Ar59, q59, Sz59, Nn59, Hh59, Gg59⟩ := V_ar
          have hin59 : ¬ ((1 : Int32) < 0 ∨ cl59.slots.size ≤ ((1 : Int32)).toNatClampNeg) := inb_of Sz59 ⟨by decide, by decide⟩
          obtain ⟨T59, h59, X59, e59, W59, st59⟩ := stR X58 hx hZ e58 Ar59 (j := (1 : Int32)) hin59 rfl (Sto.ofVA Ar59 q59 O_ar (Ins.self E_b58)) (g := (mkF m 51 #[.val (.ref ao0), .val (.int p1), .val (.int p2), .val (.int (1 : Int32)), .val (.int p2)] [(.ref b58), (.int (1 : Int32)), (.ref ar)])) rfl rfl (hb hby d3_51)
          refine own_go (x' := T59.setTop (mkF m 52 #[.val (.ref ao0), .val (.int p1), .val (.int p2), .val (.int (1 : Int32)), .val (.int p2)] [])) st59 ?_
          replace F_ao0_bytes := Fld.other W59 F_ao0_bytes (Or.inl ne_ao0_ar)
          replace V_b0 := V_b0.other W59 ne_b0_ar
          replace V_b1 := V_b1.other W59 ne_b1_ar
          replace E_b58 := Exa.wr W59 E_b58
          replace V_b58 := V_b58.other W59 (Ne.symm ne_ar_b58)
          replace Zs := Nat.le_trans Zs (Keep.of_wr W59).1
          replace Nf := Fr.snoc X59 Nf g_ar
          replace Kp := Kp.wr W59 (Or.inl (by simp))
          have V_ar : Arv Z h59 ar kc (.array .byte) (4 : Int32) [(.ref b0), (.ref b58), .null, .null] .null := Arv.set Ar59 q59 Sz59 Nn59 Hh59 Gg59 rfl W59 1 rfl (Nat.le_of_ble_eq_true rfl)
          refine own_go (x' := T59.setTop (mkF m 2 #[.val (.ref ao0), .val (.int p1), .val (.int p2), .val (.int ((1 : Int32) + (1 : Int32))), .val (.int p2)] [])) (fun _ k => XS.iinc X59.here hx rfl (hb hby d3_52) rfl (l' := #[.val (.ref ao0), .val (.int p1), .val (.int p2), .val (.int ((1 : Int32) + (1 : Int32))), .val (.int p2)]) rfl (XS.goto X59.here hx rfl (pc0 := 55) (pc' := 2) rfl (hb hby d3_55) (by decide) (by decide) k)) ?_
          rw [show ((1 : Int32) + (1 : Int32)) = (2 : Int32) from by decide +kernel]
          refine own_go (x' := T59.setTop (mkF m 4 #[.val (.ref ao0), .val (.int p1), .val (.int p2), .val (.int (2 : Int32)), .val (.int p2)] [(.int p1), (.int (2 : Int32))])) (fun _ k => XS.iloadN X59.here hx rfl (hb hby d3_2) rfl (XS.iloadN X59.here hx rfl (hb hby d3_3) rfl k)) ?_
          by_cases hc4_60 : (2 : Int32) < p1
          · refine own_go (x' := T59.setTop (mkF m 22 #[.val (.ref ao0), .val (.int p1), .val (.int p2), .val (.int (2 : Int32)), .val (.int p2)] [(.ref ao0)])) (fun _ k => XS.icmpNo X59.here hx rfl (hb hby d3_4) rfl (tlt hc4_60).2.1 (XS.iloadN X59.here hx rfl (hb hby d3_7) rfl (XS.ifYes X59.here hx rfl (pc0 := 8) (pc' := 18) rfl (hb hby d3_8) rfl ((if0 _ _).trans (feq (by decide +kernel : ¬ ((2 : Int32) = (0 : Int32)))).2) (by decide) (by decide) (XS.iloadN X59.here hx rfl (hb hby d3_18) rfl (XS.istore X59.here hx rfl (hb hby d3_19) rfl (l' := #[.val (.ref ao0), .val (.int p1), .val (.int p2), .val (.int (2 : Int32)), .val (.int p2)]) rfl (XS.aloadN X59.here hx rfl (hb hby d3_21) rfl rfl k)))))) ?_
            obtain ⟨T61, X61, e61, st61⟩ := getF X59 hx hZ hown (host := "") (Or.inl (own_w hw 11 rfl)) Via.refl e59 F_ao0_bytes (g := (mkF m 22 #[.val (.ref ao0), .val (.int p1), .val (.int p2), .val (.int (2 : Int32)), .val (.int p2)] [(.ref ao0)])) rfl rfl (hb hby d3_22)
            refine own_go (x' := T61.setTop (mkF m 25 #[.val (.ref ao0), .val (.int p1), .val (.int p2), .val (.int (2 : Int32)), .val (.int p2)] [(.ref ar)])) st61 ?_
            refine own_go (x' := T61.setTop (mkF m 26 #[.val (.ref ao0), .val (.int p1), .val (.int p2), .val (.int (2 : Int32)), .val (.int p2)] [(.int (2 : Int32)), (.ref ar)])) (fun _ k => XS.iloadN X61.here hx rfl (hb hby d3_25) rfl k) ?_
            obtain ⟨cl62, Ar62, q62, Sz62, Nn62, Hh62, Gg62⟩ := id V_ar
            have hin62 : ¬ ((2 : Int32) < 0 ∨ cl62.slots.size ≤ ((2 : Int32)).toNatClampNeg) := inb_of Sz62 ⟨by decide, by decide⟩
            refine own_go (x' := T61.setTop (mkF m 27 #[.val (.ref ao0), .val (.int p1), .val (.int p2), .val (.int (2 : Int32)), .val (.int p2)] [.null])) (X61.aaload hx (j := (2 : Int32)) (v := .null) (Eq.trans (congrArg (fun h_ => h_[_]?) e61) Ar62.1) (State.isArrayOf_alike hZ.alike Ar62.2.1) rfl Ar62.2.2 hin62 (Hh62.at hin62 rfl) (g := (mkF m 26 #[.val (.ref ao0), .val (.int p1), .val (.int p2), .val (.int (2 : Int32)), .val (.int p2)] [(.int (2 : Int32)), (.ref ar)])) rfl rfl (hb hby d3_26)) ?_
            refine own_go (x' := T61.setTop (mkF m 43 #[.val (.ref ao0), .val (.int p1), .val (.int p2), .val (.int (2 : Int32)), .val (.int p2)] [(.ref ao0)])) (fun _ k => XS.ifnullYes X61.here hx rfl (pc0 := 27) (pc' := 42) rfl (hb hby d3_27) rfl (by decide) (by decide) (XS.aloadN X61.here hx rfl (hb hby d3_42) rfl rfl k)) ?_
            obtain ⟨T63, X63, e63, st63⟩ := getF X61 hx hZ hown (host := "") (Or.inl (own_w hw 11 rfl)) Via.refl e61 F_ao0_bytes (g := (mkF m 43 #[.val (.ref ao0), .val (.int p1), .val (.int p2), .val (.int (2 : Int32)), .val (.int p2)] [(.ref ao0)])) rfl rfl (hb hby d3_43)
            refine own_go (x' := T63.setTop (mkF m 46 #[.val (.ref ao0), .val (.int p1), .val (.int p2), .val (.int (2 : Int32)), .val (.int p2)] [(.ref ar)])) st63 ?_
            refine own_go (x' := T63.setTop (mkF m 49 #[.val (.ref ao0), .val (.int p1), .val (.int p2), .val (.int (2 : Int32)), .val (.int p2)] [(.int p2), (.int (2 : Int32)), (.ref ar)])) (fun _ k => XS.iloadN X63.here hx rfl (hb hby d3_46) rfl (XS.iload X63.here hx rfl (hb hby d3_47) rfl k)) ?_
            obtain ⟨T64, h64, k64, X64, e64, E64, A64, Q64, st64⟩ := newPE X63 hx hZ (own_w hw 29 rfl) e63 (g := (mkF m 49 #[.val (.ref ao0), .val (.int p1), .val (.int p2), .val (.int (2 : Int32)), .val (.int p2)] [(.int p2), (.int (2 : Int32)), (.ref ar)])) rfl (hb hby d3_49) rfl hs.1 (cap := 16383) hs.2 (by decide) (by decide) (by decide) (ad := "[B") (by decide)
            obtain ⟨b64, g64⟩ : ∃ z, z = h59.size := ⟨_, rfl⟩
            rw [← g64] at A64 st64
            rw [← g64] at Q64
            have ne_ao0_b64 : ao0 ≠ b64 := Nat.ne_of_lt (Nat.lt_of_lt_of_le F_ao0_bytes.lt (Nat.le_of_eq g64.symm))
            have ne_b0_b64 : b0 ≠ b64 := Nat.ne_of_lt (Nat.lt_of_lt_of_le V_b0.lt (Nat.le_of_eq g64.symm))
            have ne_b1_b64 : b1 ≠ b64 := Nat.ne_of_lt (Nat.lt_of_lt_of_le V_b1.lt (Nat.le_of_eq g64.symm))
            have ne_b58_b64 : b58 ≠ b64 := Nat.ne_of_lt (Nat.lt_of_lt_of_le E_b58.lt (Nat.le_of_eq g64.symm))
            have ne_ar_b64 : ar ≠ b64 := Nat.ne_of_lt (Nat.lt_of_lt_of_le V_ar.lt (Nat.le_of_eq g64.symm))
            have g_b64 : n0 ≤ b64 := Nat.le_trans Zs (Nat.le_of_eq g64.symm)
            have sz_b64 : h0.size ≤ b64 := Nat.le_trans Kp.1 (Nat.le_of_eq g64.symm)
            replace F_ao0_bytes := Fld.ext E64 F_ao0_bytes
            replace V_b0 := V_b0.ext E64
            replace V_b1 := V_b1.ext E64
            replace E_b58 := Exa.ext E64 E_b58
            replace V_b58 := V_b58.ext E64
            replace V_ar := V_ar.ext E64
            replace Zs := Nat.le_trans Zs E64.1
            replace Kp := Kp.ext E64
            have E_b64 := Q64
            have V_b64 : Arv Z h64 b64 k64 .byte p2 [] (.int (0 : Int32)) := Arv.new A64 hs.1
            refine own_go (x' := T64.setTop (mkF m 51 #[.val (.ref ao0), .val (.int p1), .val (.int p2), .val (.int (2 : Int32)), .val (.int p2)] [(.ref b64), (.int (2 : Int32)), (.ref ar)])) st64 ?_
            obtain ⟨cl65, Ar65, q65, Sz65, Nn65, Hh65, Gg65⟩ := V_ar
            have hin65 : ¬ ((2 : Int32) < 0 ∨ cl65.slots.size ≤ ((2 : Int32)).toNatClampNeg) := inb_of Sz65 ⟨by decide, by decide⟩
            obtain ⟨T65, h65, X65, e65, W65, st65⟩ := stR X64 hx hZ e64 Ar65 (j := (2 : Int32)) hin65 rfl (Sto.ofVA Ar65 q65 O_ar (Ins.self E_b64)) (g := (mkF m 51 #[.val (.ref ao0), .val (.int p1), .val (.int p2), .val (.int (2 : Int32)), .val (.int p2)] [(.ref b64), (.int (2 : Int32)), (.ref ar)])) rfl rfl (hb hby d3_51)
            refine own_go (x' := T65.setTop (mkF m 52 #[.val (.ref ao0), .val (.int p1), .val (.int p2), .val (.int (2 : Int32)), .val (.int p2)] [])) st65 ?_
            replace F_ao0_bytes := Fld.other W65 F_ao0_bytes (Or.inl ne_ao0_ar)
            replace V_b0 := V_b0.other W65 ne_b0_ar
            replace V_b1 := V_b1.other W65 ne_b1_ar
            replace E_b58 := Exa.wr W65 E_b58
            replace V_b58 := V_b58.other W65 (Ne.symm ne_ar_b58)
            replace E_b64 := Exa.wr W65 E_b64
            replace V_b64 := V_b64.other W65 (Ne.symm ne_ar_b64)
            replace Zs := Nat.le_trans Zs (Keep.of_wr W65).1
            replace Nf := Fr.snoc X65 Nf g_ar
            replace Kp := Kp.wr W65 (Or.inl (by simp))
            have V_ar : Arv Z h65 ar kc (.array .byte) (4 : Int32) [(.ref b0), (.ref b58), (.ref b64), .null] .null := Arv.set Ar65 q65 Sz65 Nn65 Hh65 Gg65 rfl W65 2 rfl (Nat.le_of_ble_eq_true rfl)
            refine own_go (x' := T65.setTop (mkF m 2 #[.val (.ref ao0), .val (.int p1), .val (.int p2), .val (.int ((2 : Int32) + (1 : Int32))), .val (.int p2)] [])) (fun _ k => XS.iinc X65.here hx rfl (hb hby d3_52) rfl (l' := #[.val (.ref ao0), .val (.int p1), .val (.int p2), .val (.int ((2 : Int32) + (1 : Int32))), .val (.int p2)]) rfl (XS.goto X65.here hx rfl (pc0 := 55) (pc' := 2) rfl (hb hby d3_55) (by decide) (by decide) k)) ?_
            rw [show ((2 : Int32) + (1 : Int32)) = (3 : Int32) from by decide +kernel]
            refine own_go (x' := T65.setTop (mkF m 4 #[.val (.ref ao0), .val (.int p1), .val (.int p2), .val (.int (3 : Int32)), .val (.int p2)] [(.int p1), (.int (3 : Int32))])) (fun _ k => XS.iloadN X65.here hx rfl (hb hby d3_2) rfl (XS.iloadN X65.here hx rfl (hb hby d3_3) rfl k)) ?_
            by_cases hc4_66 : (3 : Int32) < p1
            · refine own_go (x' := T65.setTop (mkF m 22 #[.val (.ref ao0), .val (.int p1), .val (.int p2), .val (.int (3 : Int32)), .val (.int p2)] [(.ref ao0)])) (fun _ k => XS.icmpNo X65.here hx rfl (hb hby d3_4) rfl (tlt hc4_66).2.1 (XS.iloadN X65.here hx rfl (hb hby d3_7) rfl (XS.ifYes X65.here hx rfl (pc0 := 8) (pc' := 18) rfl (hb hby d3_8) rfl ((if0 _ _).trans (feq (by decide +kernel : ¬ ((3 : Int32) = (0 : Int32)))).2) (by decide) (by decide) (XS.iloadN X65.here hx rfl (hb hby d3_18) rfl (XS.istore X65.here hx rfl (hb hby d3_19) rfl (l' := #[.val (.ref ao0), .val (.int p1), .val (.int p2), .val (.int (3 : Int32)), .val (.int p2)]) rfl (XS.aloadN X65.here hx rfl (hb hby d3_21) rfl rfl k)))))) ?_
              obtain ⟨T67, X67, e67, st67⟩ := getF X65 hx hZ hown (host := "") (Or.inl (own_w hw 11 rfl)) Via.refl e65 F_ao0_bytes (g := (mkF m 22 #[.val (.ref ao0), .val (.int p1), .val (.int p2), .val (.int (3 : Int32)), .val (.int p2)] [(.ref ao0)])) rfl rfl (hb hby d3_22)
              refine own_go (x' := T67.setTop (mkF m 25 #[.val (.ref ao0), .val (.int p1), .val (.int p2), .val (.int (3 : Int32)), .val (.int p2)] [(.ref ar)])) st67 ?_
              refine own_go (x' := T67.setTop (mkF m 26 #[.val (.ref ao0), .val (.int p1), .val (.int p2), .val (.int (3 : Int32)), .val (.int p2)] [(.int (3 : Int32)), (.ref ar)])) (fun _ k => XS.iloadN X67.here hx rfl (hb hby d3_25) rfl k) ?_
              obtain ⟨cl68, Ar68, q68, Sz68, Nn68, Hh68, Gg68⟩ := id V_ar
              have hin68 : ¬ ((3 : Int32) < 0 ∨ cl68.slots.size ≤ ((3 : Int32)).toNatClampNeg) := inb_of Sz68 ⟨by decide, by decide⟩
              refine own_go (x' := T67.setTop (mkF m 27 #[.val (.ref ao0), .val (.int p1), .val (.int p2), .val (.int (3 : Int32)), .val (.int p2)] [.null])) (X67.aaload hx (j := (3 : Int32)) (v := .null) (Eq.trans (congrArg (fun h_ => h_[_]?) e67) Ar68.1) (State.isArrayOf_alike hZ.alike Ar68.2.1) rfl Ar68.2.2 hin68 (Hh68.at hin68 rfl) (g := (mkF m 26 #[.val (.ref ao0), .val (.int p1), .val (.int p2), .val (.int (3 : Int32)), .val (.int p2)] [(.int (3 : Int32)), (.ref ar)])) rfl rfl (hb hby d3_26)) ?_
              refine own_go (x' := T67.setTop (mkF m 43 #[.val (.ref ao0), .val (.int p1), .val (.int p2), .val (.int (3 : Int32)), .val (.int p2)] [(.ref ao0)])) (fun _ k => XS.ifnullYes X67.here hx rfl (pc0 := 27) (pc' := 42) rfl (hb hby d3_27) rfl (by decide) (by decide) (XS.aloadN X67.here hx rfl (hb hby d3_42) rfl rfl k)) ?_
              obtain ⟨T69, X69, e69, st69⟩ := getF X67 hx hZ hown (host := "") (Or.inl (own_w hw 11 rfl)) Via.refl e67 F_ao0_bytes (g := (mkF m 43 #[.val (.ref ao0), .val (.int p1), .val (.int p2), .val (.int (3 : Int32)), .val (.int p2)] [(.ref ao0)])) rfl rfl (hb hby d3_43)
              refine own_go (x' := T69.setTop (mkF m 46 #[.val (.ref ao0), .val (.int p1), .val (.int p2), .val (.int (3 : Int32)), .val (.int p2)] [(.ref ar)])) st69 ?_
              refine own_go (x' := T69.setTop (mkF m 49 #[.val (.ref ao0), .val (.int p1), .val (.int p2), .val (.int (3 : Int32)), .val (.int p2)] [(.int p2), (.int (3 : Int32)), (.ref ar)])) (fun _ k => XS.iloadN X69.here hx rfl (hb hby d3_46) rfl (XS.iload X69.here hx rfl (hb hby d3_47) rfl k)) ?_
              obtain ⟨T70, h70, k70, X70, e70, E70, A70, Q70, st70⟩ := newPE X69 hx hZ (own_w hw 29 rfl) e69 (g := (mkF m 49 #[.val (.ref ao0), .val (.int p1), .val (.int p2), .val (.int (3 : Int32)), .val (.int p2)] [(.int p2), (.int (3 : Int32)), (.ref ar)])) rfl (hb hby d3_49) rfl hs.1 (cap := 16383) hs.2 (by decide) (by decide) (by decide) (ad := "[B") (by decide)
              obtain ⟨b70, g70⟩ : ∃ z, z = h65.size := ⟨_, rfl⟩
              rw [← g70] at A70 st70
              rw [← g70] at Q70
              have ne_ao0_b70 : ao0 ≠ b70 := Nat.ne_of_lt (Nat.lt_of_lt_of_le F_ao0_bytes.lt (Nat.le_of_eq g70.symm))
              have ne_b0_b70 : b0 ≠ b70 := Nat.ne_of_lt (Nat.lt_of_lt_of_le V_b0.lt (Nat.le_of_eq g70.symm))
              have ne_b1_b70 : b1 ≠ b70 := Nat.ne_of_lt (Nat.lt_of_lt_of_le V_b1.lt (Nat.le_of_eq g70.symm))
              have ne_b58_b70 : b58 ≠ b70 := Nat.ne_of_lt (Nat.lt_of_lt_of_le E_b58.lt (Nat.le_of_eq g70.symm))
              have ne_b64_b70 : b64 ≠ b70 := Nat.ne_of_lt (Nat.lt_of_lt_of_le E_b64.lt (Nat.le_of_eq g70.symm))
              have ne_ar_b70 : ar ≠ b70 := Nat.ne_of_lt (Nat.lt_of_lt_of_le V_ar.lt (Nat.le_of_eq g70.symm))
              have g_b70 : n0 ≤ b70 := Nat.le_trans Zs (Nat.le_of_eq g70.symm)
              have sz_b70 : h0.size ≤ b70 := Nat.le_trans Kp.1 (Nat.le_of_eq g70.symm)
              replace F_ao0_bytes := Fld.ext E70 F_ao0_bytes
              replace V_b0 := V_b0.ext E70
              replace V_b1 := V_b1.ext E70
              replace E_b58 := Exa.ext E70 E_b58
              replace V_b58 := V_b58.ext E70
              replace E_b64 := Exa.ext E70 E_b64
              replace V_b64 := V_b64.ext E70
              replace V_ar := V_ar.ext E70
              replace Zs := Nat.le_trans Zs E70.1
              replace Kp := Kp.ext E70
              have E_b70 := Q70
              have V_b70 : Arv Z h70 b70 k70 .byte p2 [] (.int (0 : Int32)) := Arv.new A70 hs.1
              refine own_go (x' := T70.setTop (mkF m 51 #[.val (.ref ao0), .val (.int p1), .val (.int p2), .val (.int (3 : Int32)), .val (.int p2)] [(.ref b70), (.int (3 : Int32)), (.ref ar)])) st70 ?_
              obtain ⟨cl71, Ar71, q71, Sz71, Nn71, Hh71, Gg71⟩ := V_ar
              have hin71 : ¬ ((3 : Int32) < 0 ∨ cl71.slots.size ≤ ((3 : Int32)).toNatClampNeg) := inb_of Sz71 ⟨by decide, by decide⟩
              obtain ⟨T71, h71, X71, e71, W71, st71⟩ := stR X70 hx hZ e70 Ar71 (j := (3 : Int32)) hin71 rfl (Sto.ofVA Ar71 q71 O_ar (Ins.self E_b70)) (g := (mkF m 51 #[.val (.ref ao0), .val (.int p1), .val (.int p2), .val (.int (3 : Int32)), .val (.int p2)] [(.ref b70), (.int (3 : Int32)), (.ref ar)])) rfl rfl (hb hby d3_51)
              refine own_go (x' := T71.setTop (mkF m 52 #[.val (.ref ao0), .val (.int p1), .val (.int p2), .val (.int (3 : Int32)), .val (.int p2)] [])) st71 ?_
              replace F_ao0_bytes := Fld.other W71 F_ao0_bytes (Or.inl ne_ao0_ar)
              replace V_b0 := V_b0.other W71 ne_b0_ar
              replace V_b1 := V_b1.other W71 ne_b1_ar
              replace E_b58 := Exa.wr W71 E_b58
              replace V_b58 := V_b58.other W71 (Ne.symm ne_ar_b58)
              replace E_b64 := Exa.wr W71 E_b64
              replace V_b64 := V_b64.other W71 (Ne.symm ne_ar_b64)
              replace E_b70 := Exa.wr W71 E_b70
              replace V_b70 := V_b70.other W71 (Ne.symm ne_ar_b70)
              replace Zs := Nat.le_trans Zs (Keep.of_wr W71).1
              replace Nf := Fr.snoc X71 Nf g_ar
              replace Kp := Kp.wr W71 (Or.inl (by simp))
              have V_ar : Arv Z h71 ar kc (.array .byte) (4 : Int32) [(.ref b0), (.ref b58), (.ref b64), (.ref b70)] .null := Arv.set Ar71 q71 Sz71 Nn71 Hh71 Gg71 rfl W71 3 rfl (Nat.le_of_ble_eq_true rfl)
              refine own_go (x' := T71.setTop (mkF m 2 #[.val (.ref ao0), .val (.int p1), .val (.int p2), .val (.int ((3 : Int32) + (1 : Int32))), .val (.int p2)] [])) (fun _ k => XS.iinc X71.here hx rfl (hb hby d3_52) rfl (l' := #[.val (.ref ao0), .val (.int p1), .val (.int p2), .val (.int ((3 : Int32) + (1 : Int32))), .val (.int p2)]) rfl (XS.goto X71.here hx rfl (pc0 := 55) (pc' := 2) rfl (hb hby d3_55) (by decide) (by decide) k)) ?_
              rw [show ((3 : Int32) + (1 : Int32)) = (4 : Int32) from by decide +kernel]
              refine own_go (x' := T71.setTop (mkF m 59 #[.val (.ref ao0), .val (.int p1), .val (.int p2), .val (.int (4 : Int32)), .val (.int p2)] [(.ref ao0)])) (fun _ k => XS.iloadN X71.here hx rfl (hb hby d3_2) rfl (XS.iloadN X71.here hx rfl (hb hby d3_3) rfl (XS.icmpYes X71.here hx rfl (pc0 := 4) (pc' := 58) rfl (hb hby d3_4) rfl (flt hu).2.1 (by decide) (by decide) (XS.aloadN X71.here hx rfl (hb hby d3_58) rfl rfl k)))) ?_
              obtain ⟨T72, X72, e72, st72⟩ := getF X71 hx hZ hown (host := "") (Or.inl (own_w hw 11 rfl)) Via.refl e71 F_ao0_bytes (g := (mkF m 59 #[.val (.ref ao0), .val (.int p1), .val (.int p2), .val (.int (4 : Int32)), .val (.int p2)] [(.ref ao0)])) rfl rfl (hb hby d3_59)
              refine own_go (x' := T72.setTop (mkF m 62 #[.val (.ref ao0), .val (.int p1), .val (.int p2), .val (.int (4 : Int32)), .val (.int p2)] [(.ref ar)])) st72 ?_
              refine own_retR X72 hx hlk hret rfl rfl (hb hby d3_62) ?_ (by decide) (by decide)
              rw [e72]
              exact ⟨(.ref b0), (.ref b58), (.ref b64), (.ref b70), rfl, Nf, Kp, V_ar, Or.inl ⟨rfl, Or.inr hc39⟩, Or.inr ⟨b58, k58, rfl, sz_b58, V_b58, hc4_50, hc39_56⟩, Or.inr ⟨b64, k64, rfl, V_b64, hc4_60⟩, Or.inr ⟨b70, k70, rfl, V_b70, hc4_66⟩⟩
            · refine own_go (x' := T65.setTop (mkF m 59 #[.val (.ref ao0), .val (.int p1), .val (.int p2), .val (.int (3 : Int32)), .val (.int p2)] [(.ref ao0)])) (fun _ k => XS.icmpYes X65.here hx rfl (pc0 := 4) (pc' := 58) rfl (hb hby d3_4) rfl (flt hc4_66).2.1 (by decide) (by decide) (XS.aloadN X65.here hx rfl (hb hby d3_58) rfl rfl k)) ?_
              obtain ⟨T73, X73, e73, st73⟩ := getF X65 hx hZ hown (host := "") (Or.inl (own_w hw 11 rfl)) Via.refl e65 F_ao0_bytes (g := (mkF m 59 #[.val (.ref ao0), .val (.int p1), .val (.int p2), .val (.int (3 : Int32)), .val (.int p2)] [(.ref ao0)])) rfl rfl (hb hby d3_59)
              refine own_go (x' := T73.setTop (mkF m 62 #[.val (.ref ao0), .val (.int p1), .val (.int p2), .val (.int (3 : Int32)), .val (.int p2)] [(.ref ar)])) st73 ?_
              refine own_retR X73 hx hlk hret rfl rfl (hb hby d3_62) ?_ (by decide) (by decide)
              rw [e73]
              exact ⟨(.ref b0), (.ref b58), (.ref b64), .null, rfl, Nf, Kp, V_ar, Or.inl ⟨rfl, Or.inr hc39⟩, Or.inr ⟨b58, k58, rfl, sz_b58, V_b58, hc4_50, hc39_56⟩, Or.inr ⟨b64, k64, rfl, V_b64, hc4_60⟩, Or.inl ⟨rfl, hc4_66⟩⟩
          · refine own_go (x' := T59.setTop (mkF m 59 #[.val (.ref ao0), .val (.int p1), .val (.int p2), .val (.int (2 : Int32)), .val (.int p2)] [(.ref ao0)])) (fun _ k => XS.icmpYes X59.here hx rfl (pc0 := 4) (pc' := 58) rfl (hb hby d3_4) rfl (flt hc4_60).2.1 (by decide) (by decide) (XS.aloadN X59.here hx rfl (hb hby d3_58) rfl rfl k)) ?_
            obtain ⟨T74, X74, e74, st74⟩ := getF X59 hx hZ hown (host := "") (Or.inl (own_w hw 11 rfl)) Via.refl e59 F_ao0_bytes (g := (mkF m 59 #[.val (.ref ao0), .val (.int p1), .val (.int p2), .val (.int (2 : Int32)), .val (.int p2)] [(.ref ao0)])) rfl rfl (hb hby d3_59)
            refine own_go (x' := T74.setTop (mkF m 62 #[.val (.ref ao0), .val (.int p1), .val (.int p2), .val (.int (2 : Int32)), .val (.int p2)] [(.ref ar)])) st74 ?_
            refine own_retR X74 hx hlk hret rfl rfl (hb hby d3_62) ?_ (by decide) (by decide)
            rw [e74]
            exact ⟨(.ref b0), (.ref b58), .null, .null, rfl, Nf, Kp, V_ar, Or.inl ⟨rfl, Or.inr hc39⟩, Or.inr ⟨b58, k58, rfl, sz_b58, V_b58, hc4_50, hc39_56⟩, Or.inl ⟨rfl, hc4_60⟩, Or.inl ⟨rfl, (own_le hc4_60 (by decide))⟩⟩
        · refine own_go (x' := T53.setTop (mkF m 2 #[.val (.ref ao0), .val (.int p1), .val (.int p2), .val (.int ((1 : Int32) + (1 : Int32))), .val (.int p2)] [])) (fun _ k => XS.icmpYes X53.here hx rfl (pc0 := 39) (pc' := 52) rfl (hb hby d3_39) rfl (flt hc39_56).2.1 (by decide) (by decide) (XS.iinc X53.here hx rfl (hb hby d3_52) rfl (l' := #[.val (.ref ao0), .val (.int p1), .val (.int p2), .val (.int ((1 : Int32) + (1 : Int32))), .val (.int p2)]) rfl (XS.goto X53.here hx rfl (pc0 := 55) (pc' := 2) rfl (hb hby d3_55) (by decide) (by decide) k))) ?_
          rw [show ((1 : Int32) + (1 : Int32)) = (2 : Int32) from by decide +kernel]
          refine own_go (x' := T53.setTop (mkF m 4 #[.val (.ref ao0), .val (.int p1), .val (.int p2), .val (.int (2 : Int32)), .val (.int p2)] [(.int p1), (.int (2 : Int32))])) (fun _ k => XS.iloadN X53.here hx rfl (hb hby d3_2) rfl (XS.iloadN X53.here hx rfl (hb hby d3_3) rfl k)) ?_
          by_cases hc4_75 : (2 : Int32) < p1
          · refine own_go (x' := T53.setTop (mkF m 22 #[.val (.ref ao0), .val (.int p1), .val (.int p2), .val (.int (2 : Int32)), .val (.int p2)] [(.ref ao0)])) (fun _ k => XS.icmpNo X53.here hx rfl (hb hby d3_4) rfl (tlt hc4_75).2.1 (XS.iloadN X53.here hx rfl (hb hby d3_7) rfl (XS.ifYes X53.here hx rfl (pc0 := 8) (pc' := 18) rfl (hb hby d3_8) rfl ((if0 _ _).trans (feq (by decide +kernel : ¬ ((2 : Int32) = (0 : Int32)))).2) (by decide) (by decide) (XS.iloadN X53.here hx rfl (hb hby d3_18) rfl (XS.istore X53.here hx rfl (hb hby d3_19) rfl (l' := #[.val (.ref ao0), .val (.int p1), .val (.int p2), .val (.int (2 : Int32)), .val (.int p2)]) rfl (XS.aloadN X53.here hx rfl (hb hby d3_21) rfl rfl k)))))) ?_
            obtain ⟨T76, X76, e76, st76⟩ := getF X53 hx hZ hown (host := "") (Or.inl (own_w hw 11 rfl)) Via.refl e53 F_ao0_bytes (g := (mkF m 22 #[.val (.ref ao0), .val (.int p1), .val (.int p2), .val (.int (2 : Int32)), .val (.int p2)] [(.ref ao0)])) rfl rfl (hb hby d3_22)
            refine own_go (x' := T76.setTop (mkF m 25 #[.val (.ref ao0), .val (.int p1), .val (.int p2), .val (.int (2 : Int32)), .val (.int p2)] [(.ref ar)])) st76 ?_
            refine own_go (x' := T76.setTop (mkF m 26 #[.val (.ref ao0), .val (.int p1), .val (.int p2), .val (.int (2 : Int32)), .val (.int p2)] [(.int (2 : Int32)), (.ref ar)])) (fun _ k => XS.iloadN X76.here hx rfl (hb hby d3_25) rfl k) ?_
            obtain ⟨cl77, Ar77, q77, Sz77, Nn77, Hh77, Gg77⟩ := id V_ar
            have hin77 : ¬ ((2 : Int32) < 0 ∨ cl77.slots.size ≤ ((2 : Int32)).toNatClampNeg) := inb_of Sz77 ⟨by decide, by decide⟩
            refine own_go (x' := T76.setTop (mkF m 27 #[.val (.ref ao0), .val (.int p1), .val (.int p2), .val (.int (2 : Int32)), .val (.int p2)] [.null])) (X76.aaload hx (j := (2 : Int32)) (v := .null) (Eq.trans (congrArg (fun h_ => h_[_]?) e76) Ar77.1) (State.isArrayOf_alike hZ.alike Ar77.2.1) rfl Ar77.2.2 hin77 (Hh77.at hin77 rfl) (g := (mkF m 26 #[.val (.ref ao0), .val (.int p1), .val (.int p2), .val (.int (2 : Int32)), .val (.int p2)] [(.int (2 : Int32)), (.ref ar)])) rfl rfl (hb hby d3_26)) ?_
            refine own_go (x' := T76.setTop (mkF m 43 #[.val (.ref ao0), .val (.int p1), .val (.int p2), .val (.int (2 : Int32)), .val (.int p2)] [(.ref ao0)])) (fun _ k => XS.ifnullYes X76.here hx rfl (pc0 := 27) (pc' := 42) rfl (hb hby d3_27) rfl (by decide) (by decide) (XS.aloadN X76.here hx rfl (hb hby d3_42) rfl rfl k)) ?_
            obtain ⟨T78, X78, e78, st78⟩ := getF X76 hx hZ hown (host := "") (Or.inl (own_w hw 11 rfl)) Via.refl e76 F_ao0_bytes (g := (mkF m 43 #[.val (.ref ao0), .val (.int p1), .val (.int p2), .val (.int (2 : Int32)), .val (.int p2)] [(.ref ao0)])) rfl rfl (hb hby d3_43)
            refine own_go (x' := T78.setTop (mkF m 46 #[.val (.ref ao0), .val (.int p1), .val (.int p2), .val (.int (2 : Int32)), .val (.int p2)] [(.ref ar)])) st78 ?_
            refine own_go (x' := T78.setTop (mkF m 49 #[.val (.ref ao0), .val (.int p1), .val (.int p2), .val (.int (2 : Int32)), .val (.int p2)] [(.int p2), (.int (2 : Int32)), (.ref ar)])) (fun _ k => XS.iloadN X78.here hx rfl (hb hby d3_46) rfl (XS.iload X78.here hx rfl (hb hby d3_47) rfl k)) ?_
            obtain ⟨T79, h79, k79, X79, e79, E79, A79, Q79, st79⟩ := newPE X78 hx hZ (own_w hw 29 rfl) e78 (g := (mkF m 49 #[.val (.ref ao0), .val (.int p1), .val (.int p2), .val (.int (2 : Int32)), .val (.int p2)] [(.int p2), (.int (2 : Int32)), (.ref ar)])) rfl (hb hby d3_49) rfl hs.1 (cap := 16383) hs.2 (by decide) (by decide) (by decide) (ad := "[B") (by decide)
            obtain ⟨b79, g79⟩ : ∃ z, z = h0.size := ⟨_, rfl⟩
            rw [← g79] at A79 st79
            rw [← g79] at Q79
            have ne_ao0_b79 : ao0 ≠ b79 := Nat.ne_of_lt (Nat.lt_of_lt_of_le F_ao0_bytes.lt (Nat.le_of_eq g79.symm))
            have ne_ar_b79 : ar ≠ b79 := Nat.ne_of_lt (Nat.lt_of_lt_of_le V_ar.lt (Nat.le_of_eq g79.symm))
            have ne_b0_b79 : b0 ≠ b79 := Nat.ne_of_lt (Nat.lt_of_lt_of_le V_b0.lt (Nat.le_of_eq g79.symm))
            have ne_b1_b79 : b1 ≠ b79 := Nat.ne_of_lt (Nat.lt_of_lt_of_le V_b1.lt (Nat.le_of_eq g79.symm))
            have g_b79 : n0 ≤ b79 := Nat.le_trans Zs (Nat.le_of_eq g79.symm)
            have sz_b79 : h0.size ≤ b79 := Nat.le_trans Kp.1 (Nat.le_of_eq g79.symm)
            replace F_ao0_bytes := Fld.ext E79 F_ao0_bytes
            replace V_ar := V_ar.ext E79
            replace V_b0 := V_b0.ext E79
            replace V_b1 := V_b1.ext E79
            replace Zs := Nat.le_trans Zs E79.1
            replace Kp := Kp.ext E79
            have E_b79 := Q79
            have V_b79 : Arv Z h79 b79 k79 .byte p2 [] (.int (0 : Int32)) := Arv.new A79 hs.1
            refine own_go (x' := T79.setTop (mkF m 51 #[.val (.ref ao0), .val (.int p1), .val (.int p2), .val (.int (2 : Int32)), .val (.int p2)] [(.ref b79), (.int (2 : Int32)), (.ref ar)])) st79 ?_
            obtain ⟨cl80, Ar80, q80, Sz80, Nn80, Hh80, Gg80⟩ := V_ar
            have hin80 : ¬ ((2 : Int32) < 0 ∨ cl80.slots.size ≤ ((2 : Int32)).toNatClampNeg) := inb_of Sz80 ⟨by decide, by decide⟩
            obtain ⟨T80, h80, X80, e80, W80, st80⟩ := stR X79 hx hZ e79 Ar80 (j := (2 : Int32)) hin80 rfl (Sto.ofVA Ar80 q80 O_ar (Ins.self E_b79)) (g := (mkF m 51 #[.val (.ref ao0), .val (.int p1), .val (.int p2), .val (.int (2 : Int32)), .val (.int p2)] [(.ref b79), (.int (2 : Int32)), (.ref ar)])) rfl rfl (hb hby d3_51)
            refine own_go (x' := T80.setTop (mkF m 52 #[.val (.ref ao0), .val (.int p1), .val (.int p2), .val (.int (2 : Int32)), .val (.int p2)] [])) st80 ?_
            replace F_ao0_bytes := Fld.other W80 F_ao0_bytes (Or.inl ne_ao0_ar)
            replace V_b0 := V_b0.other W80 ne_b0_ar
            replace V_b1 := V_b1.other W80 ne_b1_ar
            replace E_b79 := Exa.wr W80 E_b79
            replace V_b79 := V_b79.other W80 (Ne.symm ne_ar_b79)
            replace Zs := Nat.le_trans Zs (Keep.of_wr W80).1
            replace Nf := Fr.snoc X80 Nf g_ar
            replace Kp := Kp.wr W80 (Or.inl (by simp))
            have V_ar : Arv Z h80 ar kc (.array .byte) (4 : Int32) [(.ref b0), (.ref b1), (.ref b79), .null] .null := Arv.set Ar80 q80 Sz80 Nn80 Hh80 Gg80 rfl W80 2 rfl (Nat.le_of_ble_eq_true rfl)
            refine own_go (x' := T80.setTop (mkF m 2 #[.val (.ref ao0), .val (.int p1), .val (.int p2), .val (.int ((2 : Int32) + (1 : Int32))), .val (.int p2)] [])) (fun _ k => XS.iinc X80.here hx rfl (hb hby d3_52) rfl (l' := #[.val (.ref ao0), .val (.int p1), .val (.int p2), .val (.int ((2 : Int32) + (1 : Int32))), .val (.int p2)]) rfl (XS.goto X80.here hx rfl (pc0 := 55) (pc' := 2) rfl (hb hby d3_55) (by decide) (by decide) k)) ?_
            rw [show ((2 : Int32) + (1 : Int32)) = (3 : Int32) from by decide +kernel]
            refine own_go (x' := T80.setTop (mkF m 4 #[.val (.ref ao0), .val (.int p1), .val (.int p2), .val (.int (3 : Int32)), .val (.int p2)] [(.int p1), (.int (3 : Int32))])) (fun _ k => XS.iloadN X80.here hx rfl (hb hby d3_2) rfl (XS.iloadN X80.here hx rfl (hb hby d3_3) rfl k)) ?_
            by_cases hc4_81 : (3 : Int32) < p1
            · refine own_go (x' := T80.setTop (mkF m 22 #[.val (.ref ao0), .val (.int p1), .val (.int p2), .val (.int (3 : Int32)), .val (.int p2)] [(.ref ao0)])) (fun _ k => XS.icmpNo X80.here hx rfl (hb hby d3_4) rfl (tlt hc4_81).2.1 (XS.iloadN X80.here hx rfl (hb hby d3_7) rfl (XS.ifYes X80.here hx rfl (pc0 := 8) (pc' := 18) rfl (hb hby d3_8) rfl ((if0 _ _).trans (feq (by decide +kernel : ¬ ((3 : Int32) = (0 : Int32)))).2) (by decide) (by decide) (XS.iloadN X80.here hx rfl (hb hby d3_18) rfl (XS.istore X80.here hx rfl (hb hby d3_19) rfl (l' := #[.val (.ref ao0), .val (.int p1), .val (.int p2), .val (.int (3 : Int32)), .val (.int p2)]) rfl (XS.aloadN X80.here hx rfl (hb hby d3_21) rfl rfl k)))))) ?_
              obtain ⟨T82, X82, e82, st82⟩ := getF X80 hx hZ hown (host := "") (Or.inl (own_w hw 11 rfl)) Via.refl e80 F_ao0_bytes (g := (mkF m 22 #[.val (.ref ao0), .val (.int p1), .val (.int p2), .val (.int (3 : Int32)), .val (.int p2)] [(.ref ao0)])) rfl rfl (hb hby d3_22)
              refine own_go (x' := T82.setTop (mkF m 25 #[.val (.ref ao0), .val (.int p1), .val (.int p2), .val (.int (3 : Int32)), .val (.int p2)] [(.ref ar)])) st82 ?_
              refine own_go (x' := T82.setTop (mkF m 26 #[.val (.ref ao0), .val (.int p1), .val (.int p2), .val (.int (3 : Int32)), .val (.int p2)] [(.int (3 : Int32)), (.ref ar)])) (fun _ k => XS.iloadN X82.here hx rfl (hb hby d3_25) rfl k) ?_
              obtain ⟨cl83, Ar83, q83, Sz83, Nn83, Hh83, Gg83⟩ := id V_ar
              have hin83 : ¬ ((3 : Int32) < 0 ∨ cl83.slots.size ≤ ((3 : Int32)).toNatClampNeg) := inb_of Sz83 ⟨by decide, by decide⟩
              refine own_go (x' := T82.setTop (mkF m 27 #[.val (.ref ao0), .val (.int p1), .val (.int p2), .val (.int (3 : Int32)), .val (.int p2)] [.null])) (X82.aaload hx (j := (3 : Int32)) (v := .null) (Eq.trans (congrArg (fun h_ => h_[_]?) e82) Ar83.1) (State.isArrayOf_alike hZ.alike Ar83.2.1) rfl Ar83.2.2 hin83 (Hh83.at hin83 rfl) (g := (mkF m 26 #[.val (.ref ao0), .val (.int p1), .val (.int p2), .val (.int (3 : Int32)), .val (.int p2)] [(.int (3 : Int32)), (.ref ar)])) rfl rfl (hb hby d3_26)) ?_
              refine own_go (x' := T82.setTop (mkF m 43 #[.val (.ref ao0), .val (.int p1), .val (.int p2), .val (.int (3 : Int32)), .val (.int p2)] [(.ref ao0)])) (fun _ k => XS.ifnullYes X82.here hx rfl (pc0 := 27) (pc' := 42) rfl (hb hby d3_27) rfl (by decide) (by decide) (XS.aloadN X82.here hx rfl (hb hby d3_42) rfl rfl k)) ?_
              obtain ⟨T84, X84, e84, st84⟩ := getF X82 hx hZ hown (host := "") (Or.inl (own_w hw 11 rfl)) Via.refl e82 F_ao0_bytes (g := (mkF m 43 #[.val (.ref ao0), .val (.int p1), .val (.int p2), .val (.int (3 : Int32)), .val (.int p2)] [(.ref ao0)])) rfl rfl (hb hby d3_43)
              refine own_go (x' := T84.setTop (mkF m 46 #[.val (.ref ao0), .val (.int p1), .val (.int p2), .val (.int (3 : Int32)), .val (.int p2)] [(.ref ar)])) st84 ?_
              refine own_go (x' := T84.setTop (mkF m 49 #[.val (.ref ao0), .val (.int p1), .val (.int p2), .val (.int (3 : Int32)), .val (.int p2)] [(.int p2), (.int (3 : Int32)), (.ref ar)])) (fun _ k => XS.iloadN X84.here hx rfl (hb hby d3_46) rfl (XS.iload X84.here hx rfl (hb hby d3_47) rfl k)) ?_
              obtain ⟨T85, h85, k85, X85, e85, E85, A85, Q85, st85⟩ := newPE X84 hx hZ (own_w hw 29 rfl) e84 (g := (mkF m 49 #[.val (.ref ao0), .val (.int p1), .val (.int p2), .val (.int (3 : Int32)), .val (.int p2)] [(.int p2), (.int (3 : Int32)), (.ref ar)])) rfl (hb hby d3_49) rfl hs.1 (cap := 16383) hs.2 (by decide) (by decide) (by decide) (ad := "[B") (by decide)
              obtain ⟨b85, g85⟩ : ∃ z, z = h80.size := ⟨_, rfl⟩
              rw [← g85] at A85 st85
              rw [← g85] at Q85
              have ne_ao0_b85 : ao0 ≠ b85 := Nat.ne_of_lt (Nat.lt_of_lt_of_le F_ao0_bytes.lt (Nat.le_of_eq g85.symm))
              have ne_b0_b85 : b0 ≠ b85 := Nat.ne_of_lt (Nat.lt_of_lt_of_le V_b0.lt (Nat.le_of_eq g85.symm))
              have ne_b1_b85 : b1 ≠ b85 := Nat.ne_of_lt (Nat.lt_of_lt_of_le V_b1.lt (Nat.le_of_eq g85.symm))
              have ne_b79_b85 : b79 ≠ b85 := Nat.ne_of_lt (Nat.lt_of_lt_of_le E_b79.lt (Nat.le_of_eq g85.symm))
              have ne_ar_b85 : ar ≠ b85 := Nat.ne_of_lt (Nat.lt_of_lt_of_le V_ar.lt (Nat.le_of_eq g85.symm))
              have g_b85 : n0 ≤ b85 := Nat.le_trans Zs (Nat.le_of_eq g85.symm)
              have sz_b85 : h0.size ≤ b85 := Nat.le_trans Kp.1 (Nat.le_of_eq g85.symm)
              replace F_ao0_bytes := Fld.ext E85 F_ao0_bytes
              replace V_b0 := V_b0.ext E85
              replace V_b1 := V_b1.ext E85
              replace E_b79 := Exa.ext E85 E_b79
              replace V_b79 := V_b79.ext E85
              replace V_ar := V_ar.ext E85
              replace Zs := Nat.le_trans Zs E85.1
              replace Kp := Kp.ext E85
              have E_b85 := Q85
              have V_b85 : Arv Z h85 b85 k85 .byte p2 [] (.int (0 : Int32)) := Arv.new A85 hs.1
              refine own_go (x' := T85.setTop (mkF m 51 #[.val (.ref ao0), .val (.int p1), .val (.int p2), .val (.int (3 : Int32)), .val (.int p2)] [(.ref b85), (.int (3 : Int32)), (.ref ar)])) st85 ?_
              obtain ⟨cl86, Ar86, q86, Sz86, Nn86, Hh86, Gg86⟩ := V_ar
              have hin86 : ¬ ((3 : Int32) < 0 ∨ cl86.slots.size ≤ ((3 : Int32)).toNatClampNeg) := inb_of Sz86 ⟨by decide, by decide⟩
              obtain ⟨T86, h86, X86, e86, W86, st86⟩ := stR X85 hx hZ e85 Ar86 (j := (3 : Int32)) hin86 rfl (Sto.ofVA Ar86 q86 O_ar (Ins.self E_b85)) (g := (mkF m 51 #[.val (.ref ao0), .val (.int p1), .val (.int p2), .val (.int (3 : Int32)), .val (.int p2)] [(.ref b85), (.int (3 : Int32)), (.ref ar)])) rfl rfl (hb hby d3_51)
              refine own_go (x' := T86.setTop (mkF m 52 #[.val (.ref ao0), .val (.int p1), .val (.int p2), .val (.int (3 : Int32)), .val (.int p2)] [])) st86 ?_
              replace F_ao0_bytes := Fld.other W86 F_ao0_bytes (Or.inl ne_ao0_ar)
              replace V_b0 := V_b0.other W86 ne_b0_ar
              replace V_b1 := V_b1.other W86 ne_b1_ar
              replace E_b79 := Exa.wr W86 E_b79
              replace V_b79 := V_b79.other W86 (Ne.symm ne_ar_b79)
              replace E_b85 := Exa.wr W86 E_b85
              replace V_b85 := V_b85.other W86 (Ne.symm ne_ar_b85)
              replace Zs := Nat.le_trans Zs (Keep.of_wr W86).1
              replace Nf := Fr.snoc X86 Nf g_ar
              replace Kp := Kp.wr W86 (Or.inl (by simp))
              have V_ar : Arv Z h86 ar kc (.array .byte) (4 : Int32) [(.ref b0), (.ref b1), (.ref b79), (.ref b85)] .null := Arv.set Ar86 q86 Sz86 Nn86 Hh86 Gg86 rfl W86 3 rfl (Nat.le_of_ble_eq_true rfl)
              refine own_go (x' := T86.setTop (mkF m 2 #[.val (.ref ao0), .val (.int p1), .val (.int p2), .val (.int ((3 : Int32) + (1 : Int32))), .val (.int p2)] [])) (fun _ k => XS.iinc X86.here hx rfl (hb hby d3_52) rfl (l' := #[.val (.ref ao0), .val (.int p1), .val (.int p2), .val (.int ((3 : Int32) + (1 : Int32))), .val (.int p2)]) rfl (XS.goto X86.here hx rfl (pc0 := 55) (pc' := 2) rfl (hb hby d3_55) (by decide) (by decide) k)) ?_
              rw [show ((3 : Int32) + (1 : Int32)) = (4 : Int32) from by decide +kernel]
              refine own_go (x' := T86.setTop (mkF m 59 #[.val (.ref ao0), .val (.int p1), .val (.int p2), .val (.int (4 : Int32)), .val (.int p2)] [(.ref ao0)])) (fun _ k => XS.iloadN X86.here hx rfl (hb hby d3_2) rfl (XS.iloadN X86.here hx rfl (hb hby d3_3) rfl (XS.icmpYes X86.here hx rfl (pc0 := 4) (pc' := 58) rfl (hb hby d3_4) rfl (flt hu).2.1 (by decide) (by decide) (XS.aloadN X86.here hx rfl (hb hby d3_58) rfl rfl k)))) ?_
              obtain ⟨T87, X87, e87, st87⟩ := getF X86 hx hZ hown (host := "") (Or.inl (own_w hw 11 rfl)) Via.refl e86 F_ao0_bytes (g := (mkF m 59 #[.val (.ref ao0), .val (.int p1), .val (.int p2), .val (.int (4 : Int32)), .val (.int p2)] [(.ref ao0)])) rfl rfl (hb hby d3_59)
              refine own_go (x' := T87.setTop (mkF m 62 #[.val (.ref ao0), .val (.int p1), .val (.int p2), .val (.int (4 : Int32)), .val (.int p2)] [(.ref ar)])) st87 ?_
              refine own_retR X87 hx hlk hret rfl rfl (hb hby d3_62) ?_ (by decide) (by decide)
              rw [e87]
              exact ⟨(.ref b0), (.ref b1), (.ref b79), (.ref b85), rfl, Nf, Kp, V_ar, Or.inl ⟨rfl, Or.inr hc39⟩, Or.inl ⟨rfl, Or.inr hc39_56⟩, Or.inr ⟨b79, k79, rfl, V_b79, hc4_75⟩, Or.inr ⟨b85, k85, rfl, V_b85, hc4_81⟩⟩
            · refine own_go (x' := T80.setTop (mkF m 59 #[.val (.ref ao0), .val (.int p1), .val (.int p2), .val (.int (3 : Int32)), .val (.int p2)] [(.ref ao0)])) (fun _ k => XS.icmpYes X80.here hx rfl (pc0 := 4) (pc' := 58) rfl (hb hby d3_4) rfl (flt hc4_81).2.1 (by decide) (by decide) (XS.aloadN X80.here hx rfl (hb hby d3_58) rfl rfl k)) ?_
              obtain ⟨T88, X88, e88, st88⟩ := getF X80 hx hZ hown (host := "") (Or.inl (own_w hw 11 rfl)) Via.refl e80 F_ao0_bytes (g := (mkF m 59 #[.val (.ref ao0), .val (.int p1), .val (.int p2), .val (.int (3 : Int32)), .val (.int p2)] [(.ref ao0)])) rfl rfl (hb hby d3_59)
              refine own_go (x' := T88.setTop (mkF m 62 #[.val (.ref ao0), .val (.int p1), .val (.int p2), .val (.int (3 : Int32)), .val (.int p2)] [(.ref ar)])) st88 ?_
              refine own_retR X88 hx hlk hret rfl rfl (hb hby d3_62) ?_ (by decide) (by decide)
              rw [e88]
              exact ⟨(.ref b0), (.ref b1), (.ref b79), .null, rfl, Nf, Kp, V_ar, Or.inl ⟨rfl, Or.inr hc39⟩, Or.inl ⟨rfl, Or.inr hc39_56⟩, Or.inr ⟨b79, k79, rfl, V_b79, hc4_75⟩, Or.inl ⟨rfl, hc4_81⟩⟩
          · refine own_go (x' := T53.setTop (mkF m 59 #[.val (.ref ao0), .val (.int p1), .val (.int p2), .val (.int (2 : Int32)), .val (.int p2)] [(.ref ao0)])) (fun _ k => XS.icmpYes X53.here hx rfl (pc0 := 4) (pc' := 58) rfl (hb hby d3_4) rfl (flt hc4_75).2.1 (by decide) (by decide) (XS.aloadN X53.here hx rfl (hb hby d3_58) rfl rfl k)) ?_
            obtain ⟨T89, X89, e89, st89⟩ := getF X53 hx hZ hown (host := "") (Or.inl (own_w hw 11 rfl)) Via.refl e53 F_ao0_bytes (g := (mkF m 59 #[.val (.ref ao0), .val (.int p1), .val (.int p2), .val (.int (2 : Int32)), .val (.int p2)] [(.ref ao0)])) rfl rfl (hb hby d3_59)
            refine own_go (x' := T89.setTop (mkF m 62 #[.val (.ref ao0), .val (.int p1), .val (.int p2), .val (.int (2 : Int32)), .val (.int p2)] [(.ref ar)])) st89 ?_
            refine own_retR X89 hx hlk hret rfl rfl (hb hby d3_62) ?_ (by decide) (by decide)
            rw [e89]
            exact ⟨(.ref b0), (.ref b1), .null, .null, rfl, Nf, Kp, V_ar, Or.inl ⟨rfl, Or.inr hc39⟩, Or.inl ⟨rfl, Or.inr hc39_56⟩, Or.inl ⟨rfl, hc4_75⟩, Or.inl ⟨rfl, (own_le hc4_75 (by decide))⟩⟩
      · refine own_go (x' := T3.setTop (mkF m 59 #[.val (.ref ao0), .val (.int p1), .val (.int p2), .val (.int (1 : Int32)), .val (.int (p2 + (64 : Int32)))] [(.ref ao0)])) (fun _ k => XS.icmpYes X3.here hx rfl (pc0 := 4) (pc' := 58) rfl (hb hby d3_4) rfl (flt hc4_50).2.1 (by decide) (by decide) (XS.aloadN X3.here hx rfl (hb hby d3_58) rfl rfl k)) ?_
        obtain ⟨T90, X90, e90, st90⟩ := getF X3 hx hZ hown (host := "") (Or.inl (own_w hw 11 rfl)) Via.refl e3 F_ao0_bytes (g := (mkF m 59 #[.val (.ref ao0), .val (.int p1), .val (.int p2), .val (.int (1 : Int32)), .val (.int (p2 + (64 : Int32)))] [(.ref ao0)])) rfl rfl (hb hby d3_59)
        refine own_go (x' := T90.setTop (mkF m 62 #[.val (.ref ao0), .val (.int p1), .val (.int p2), .val (.int (1 : Int32)), .val (.int (p2 + (64 : Int32)))] [(.ref ar)])) st90 ?_
        refine own_retR X90 hx hlk hret rfl rfl (hb hby d3_62) ?_ (by decide) (by decide)
        rw [e90]
        exact ⟨(.ref b0), (.ref b1), .null, .null, rfl, Nf, Kp, V_ar, Or.inl ⟨rfl, Or.inr hc39⟩, Or.inl ⟨rfl, Or.inl hc4_50⟩, Or.inl ⟨rfl, (own_le hc4_50 (by decide))⟩, Or.inl ⟨rfl, (own_le hc4_50 (by decide))⟩⟩
  · refine own_go (x' := s₁.setTop (mkF m 59 #[.val (.ref ao0), .val (.int p1), .val (.int p2), .val (.int (0 : Int32)), .unset] [(.ref ao0)])) (fun _ k => XS.icmpYes X0.here hx rfl (pc0 := 4) (pc' := 58) rfl (hb hby d3_4) rfl (flt hc4).2.1 (by decide) (by decide) (XS.aloadN X0.here hx rfl (hb hby d3_58) rfl rfl k)) ?_
    obtain ⟨T91, X91, e91, st91⟩ := getF X0 hx hZ hown (host := "") (Or.inl (own_w hw 11 rfl)) Via.refl e0 F_ao0_bytes (g := (mkF m 59 #[.val (.ref ao0), .val (.int p1), .val (.int p2), .val (.int (0 : Int32)), .unset] [(.ref ao0)])) rfl rfl (hb hby d3_59)
    refine own_go (x' := T91.setTop (mkF m 62 #[.val (.ref ao0), .val (.int p1), .val (.int p2), .val (.int (0 : Int32)), .unset] [(.ref ar)])) st91 ?_
    refine own_retR X91 hx hlk hret rfl rfl (hb hby d3_62) ?_ (by decide) (by decide)
    rw [e91]
    exact ⟨(.ref b0), (.ref b1), .null, .null, rfl, Nf, Kp, V_ar, Or.inl ⟨rfl, Or.inl hc4⟩, Or.inl ⟨rfl, Or.inl (own_le hc4 (by decide))⟩, Or.inl ⟨rfl, (own_le hc4 (by decide))⟩, Or.inl ⟨rfl, (own_le hc4 (by decide))⟩⟩
def Q_rmS_3 (Z : State) (ao0 : Addr) (p1 : Int32) (p2 : Int32) (ar : Addr) (kc : ClassId) (nA n1 : Int32) (b0 : Addr) (k0 : ClassId) (b1 : Addr) (k1 : ClassId) (b2 : Addr) (k2 : ClassId) (h0 : Heap) (n0 : Nat) (v : Option Value) (h : Heap) (L : List Loc) : Prop := ∃ w0 w1 w2 w3 : Value, v = some (.ref ar) ∧ Fr n0 L ∧ Keep h0 h [ar] ∧ Arv Z h ar kc (.array .byte) (4 : Int32) [w0, w1, w2, w3] .null ∧ own_Rp Z h h0.size w0 b0 (0 : Int32) p1 nA (p2 + (64 : Int32)) ∧ own_Rp Z h h0.size w1 b1 (1 : Int32) p1 n1 p2 ∧ own_Rp Z h h0.size w2 b2 (2 : Int32) p1 n1 p2 ∧ own_Rn Z h w3 (3 : Int32) p1 p2
theorem pn_rmS_3 : plainName "com/example/wee_match/weematch/Sieve$Windows" = true := by first | (simp [plainName, overriddenIn]; done) | decide +kernel
theorem ef_rmS_3 (m : MethodId) (x0 : Addr) (x1 : Int32) (x2 : Int32) : entryFrame m #[(.ref x0), (.int x1), (.int x2)] 5 = mkF m 0 #[.val (.ref x0), .val (.int x1), .val (.int x2), .unset, .unset] [] := by first | (simp [entryFrame, mkF, argsToLocals, Value.category]; done) | rfl
set_option maxRecDepth 65536 in
set_option maxHeartbeats 40000000 in
theorem rmS_3 (l : Launch) (Z : State) (a0 : Array Value) (hw : ∀ d ∈ tables_1, d.before a0 Z = true) (ws : List Jvm.Cond) (ao0 : Addr) (p1 : Int32) (p2 : Int32) (ar : Addr) (kc : ClassId) (nA n1 : Int32) (b0 : Addr) (k0 : ClassId) (b1 : Addr) (k1 : ClassId) (b2 : Addr) (k2 : ClassId) (h0 : Heap) (n0 : Nat) (Z0 : n0 ≤ h0.size) (F_ao0_bytes : Fld Z h0 ao0 "com/example/wee_match/weematch/Sieve$Windows" "bytes" "[[B" (.ref ar)) (V_ar : Arv Z h0 ar kc (.array .byte) (4 : Int32) [.ref b0, .ref b1, .ref b2, .null] .null) (O_ar : OvrA Z kc .byte "[B") (ne_ao0_ar : ao0 ≠ ar) (g_ar : n0 ≤ ar) (hs : own_L p2 16383) (ht : own_L (p2 + (64 : Int32)) 16447) (hu : ¬ (4 : Int32) < p1) (V_b0 : Arv Z h0 b0 k0 .byte nA [] (.int (0 : Int32))) (V_b1 : Arv Z h0 b1 k1 .byte n1 [] (.int (0 : Int32))) (V_b2 : Arv Z h0 b2 k2 .byte n1 [] (.int (0 : Int32))) (ne_b0_ar : b0 ≠ ar) (ne_b1_ar : b1 ≠ ar) (ne_b2_ar : b2 ≠ ar) :
    MetFree l (⟨"com/example/wee_match/weematch/Sieve$Windows", "bytes", "(II)[[B"⟩ : MethodName) (head1 (Jvm.Cond.code (⟨"com/example/wee_match/weematch/Sieve$Windows", "bytes", "(II)[[B"⟩ : MethodName) prog_20_method_2_code 5 (some (.array (.array .byte))) :: ws) ({ frames := 0, cells := 4, slots := 65596, locals := 0 } : Room)) (fun a U => a = #[(.ref ao0), (.int p1), (.int p2)] ∧ Z.Warmed39 U.vm ∧ U.heap = h0) (fun _ _ _ _ _ => True) (fun _ U o U' => ∃ v L, o = .returned v ∧ (Q_rmS_3 Z ao0 p1 p2 ar kc nA n1 b0 k0 b1 k1 b2 k2 h0 n0) v U'.heap L ∧ FrameEnd U o U' L ({ frames := 0, cells := 4, slots := 65596, locals := 0 } : Room).cells ({ frames := 0, cells := 4, slots := 65596, locals := 0 } : Room).slots) := by
  refine MetFree.of_bodySF (plainFor_of_name pn_rmS_3) hisR ?_
  intro p e s m args below meth c s₁ Bd hml0 hP hK
  obtain ⟨rfl, hZ, hh⟩ := hP
  have hx := Bd.exec
  have hby := Bd.bytes
  have hlk := BodyLoose.notSynchronized Bd
  have hret := Bd.returns
  have hml : c.maxLocals = 5 := hml0
  have hown : s.vm.findClass "com/example/wee_match/weematch/Sieve$Windows" = some m.cls := findClass_of_methodNamed Bd.named
  have hnm := (name_of_methodNamed Bd.named Bd.method).1
  have X0 : Stand p l e ({ frames := 0, cells := 4, slots := 65596, locals := 0 } : Room) s m #[(.ref ao0), (.int p1), (.int p2)] below meth c s₁ [] 0 0 := Stand.of_body Bd
  have e0 : s₁.heap = h0 := by rw [← hh, Bd.state]; rfl
  have Nf := Fr.nil n0
  have Zs := Z0
  have Kp : Keep h0 h0 [ar] := Keep.refl _ _
  show own_End p e below s (Q_rmS_3 Z ao0 p1 p2 ar kc nA n1 b0 k0 b1 k1 b2 k2 h0 n0) ({ frames := 0, cells := 4, slots := 65596, locals := 0 } : Room).cells ({ frames := 0, cells := 4, slots := 65596, locals := 0 } : Room).slots (s₁.setTop (entryFrame m #[(.ref ao0), (.int p1), (.int p2)] 5))
  refine own_go (x' := s₁.setTop (mkF m 0 #[.val (.ref ao0), .val (.int p1), .val (.int p2), .unset, .unset] [])) (fun t k => castTop (ef_rmS_3 m ao0 p1 p2) k) ?_
  refine own_go (x' := s₁.setTop (mkF m 4 #[.val (.ref ao0), .val (.int p1), .val (.int p2), .val (.int (0 : Int32)), .unset] [(.int p1), (.int (0 : Int32))])) (fun _ k => XS.iconst X0.here hx rfl (hb hby d3_0) (XS.istoreN X0.here hx rfl (hb hby d3_1) rfl (l' := #[.val (.ref ao0), .val (.int p1), .val (.int p2), .val (.int (0 : Int32)), .unset]) rfl (XS.iloadN X0.here hx rfl (hb hby d3_2) rfl (XS.iloadN X0.here hx rfl (hb hby d3_3) rfl k)))) ?_
  by_cases hc4 : (0 : Int32) < p1
  · refine own_go (x' := s₁.setTop (mkF m 15 #[.val (.ref ao0), .val (.int p1), .val (.int p2), .val (.int (0 : Int32)), .unset] [(.int (p2 + (64 : Int32)))])) (fun _ k => XS.icmpNo X0.here hx rfl (hb hby d3_4) rfl (tlt hc4).2.1 (XS.iloadN X0.here hx rfl (hb hby d3_7) rfl (XS.ifNo X0.here hx rfl (hb hby d3_8) rfl ((if0 _ _).trans (teq rfl).2) (XS.iloadN X0.here hx rfl (hb hby d3_11) rfl (XS.bipush X0.here hx rfl (hb hby d3_12) (XS.iadd X0.here hx rfl (hb hby d3_14) rfl k)))))) ?_
    refine own_go (x' := s₁.setTop (mkF m 22 #[.val (.ref ao0), .val (.int p1), .val (.int p2), .val (.int (0 : Int32)), .val (.int (p2 + (64 : Int32)))] [(.ref ao0)])) (fun _ k => XS.goto X0.here hx rfl (pc0 := 15) (pc' := 19) rfl (hb hby d3_15) (by decide) (by decide) (XS.istore X0.here hx rfl (hb hby d3_19) rfl (l' := #[.val (.ref ao0), .val (.int p1), .val (.int p2), .val (.int (0 : Int32)), .val (.int (p2 + (64 : Int32)))]) rfl (XS.aloadN X0.here hx rfl (hb hby d3_21) rfl rfl k))) ?_
    obtain ⟨T1, X1, e1, st1⟩ := getF X0 hx hZ hown (host := "") (Or.inl (own_w hw 11 rfl)) Via.refl e0 F_ao0_bytes (g := (mkF m 22 #[.val (.ref ao0), .val (.int p1), .val (.int p2), .val (.int (0 : Int32)), .val (.int (p2 + (64 : Int32)))] [(.ref ao0)])) rfl rfl (hb hby d3_22)
    refine own_go (x' := T1.setTop (mkF m 25 #[.val (.ref ao0), .val (.int p1), .val (.int p2), .val (.int (0 : Int32)), .val (.int (p2 + (64 : Int32)))] [(.ref ar)])) st1 ?_
    refine own_go (x' := T1.setTop (mkF m 26 #[.val (.ref ao0), .val (.int p1), .val (.int p2), .val (.int (0 : Int32)), .val (.int (p2 + (64 : Int32)))] [(.int (0 : Int32)), (.ref ar)])) (fun _ k => XS.iloadN X1.here hx rfl (hb hby d3_25) rfl k) ?_
    obtain ⟨cl2, Ar2, q2, Sz2, Nn2, Hh2, Gg2⟩ := id V_ar
    have hin2 : ¬ ((0 : Int32) < 0 ∨ cl2.slots.size ≤ ((0 : Int32)).toNatClampNeg) := inb_of Sz2 ⟨by decide, by decide⟩
    refine own_go (x' := T1.setTop (mkF m 27 #[.val (.ref ao0), .val (.int p1), .val (.int p2), .val (.int (0 : Int32)), .val (.int (p2 + (64 : Int32)))] [(.ref b0)])) (X1.aaload hx (j := (0 : Int32)) (v := (.ref b0)) (Eq.trans (congrArg (fun h_ => h_[_]?) e1) Ar2.1) (State.isArrayOf_alike hZ.alike Ar2.2.1) rfl Ar2.2.2 hin2 (Hh2.at hin2 rfl) (g := (mkF m 26 #[.val (.ref ao0), .val (.int p1), .val (.int p2), .val (.int (0 : Int32)), .val (.int (p2 + (64 : Int32)))] [(.int (0 : Int32)), (.ref ar)])) rfl rfl (hb hby d3_26)) ?_
    refine own_go (x' := T1.setTop (mkF m 31 #[.val (.ref ao0), .val (.int p1), .val (.int p2), .val (.int (0 : Int32)), .val (.int (p2 + (64 : Int32)))] [(.ref ao0)])) (fun _ k => XS.ifnullNo X1.here hx rfl (hb hby d3_27) rfl (XS.aloadN X1.here hx rfl (hb hby d3_30) rfl rfl k)) ?_
    obtain ⟨T3, X3, e3, st3⟩ := getF X1 hx hZ hown (host := "") (Or.inl (own_w hw 11 rfl)) Via.refl e1 F_ao0_bytes (g := (mkF m 31 #[.val (.ref ao0), .val (.int p1), .val (.int p2), .val (.int (0 : Int32)), .val (.int (p2 + (64 : Int32)))] [(.ref ao0)])) rfl rfl (hb hby d3_31)
    refine own_go (x' := T3.setTop (mkF m 34 #[.val (.ref ao0), .val (.int p1), .val (.int p2), .val (.int (0 : Int32)), .val (.int (p2 + (64 : Int32)))] [(.ref ar)])) st3 ?_
    refine own_go (x' := T3.setTop (mkF m 35 #[.val (.ref ao0), .val (.int p1), .val (.int p2), .val (.int (0 : Int32)), .val (.int (p2 + (64 : Int32)))] [(.int (0 : Int32)), (.ref ar)])) (fun _ k => XS.iloadN X3.here hx rfl (hb hby d3_34) rfl k) ?_
    obtain ⟨cl4, Ar4, q4, Sz4, Nn4, Hh4, Gg4⟩ := id V_ar
    have hin4 : ¬ ((0 : Int32) < 0 ∨ cl4.slots.size ≤ ((0 : Int32)).toNatClampNeg) := inb_of Sz4 ⟨by decide, by decide⟩
    refine own_go (x' := T3.setTop (mkF m 36 #[.val (.ref ao0), .val (.int p1), .val (.int p2), .val (.int (0 : Int32)), .val (.int (p2 + (64 : Int32)))] [(.ref b0)])) (X3.aaload hx (j := (0 : Int32)) (v := (.ref b0)) (Eq.trans (congrArg (fun h_ => h_[_]?) e3) Ar4.1) (State.isArrayOf_alike hZ.alike Ar4.2.1) rfl Ar4.2.2 hin4 (Hh4.at hin4 rfl) (g := (mkF m 35 #[.val (.ref ao0), .val (.int p1), .val (.int p2), .val (.int (0 : Int32)), .val (.int (p2 + (64 : Int32)))] [(.int (0 : Int32)), (.ref ar)])) rfl rfl (hb hby d3_35)) ?_
    obtain ⟨cl5, Ar5, -, Sz5, Nn5, -, -⟩ := id V_b0
    refine own_go (x' := T3.setTop (mkF m 37 #[.val (.ref ao0), .val (.int p1), .val (.int p2), .val (.int (0 : Int32)), .val (.int (p2 + (64 : Int32)))] [(.int nA)])) (fun t k => X3.arraylength hx (Eq.trans (congrArg (fun h_ => h_[_]?) e3) Ar5.1) (State.isArrayOf_alike hZ.alike Ar5.2.1) (g := (mkF m 36 #[.val (.ref ao0), .val (.int p1), .val (.int p2), .val (.int (0 : Int32)), .val (.int (p2 + (64 : Int32)))] [(.ref b0)])) rfl rfl (hb hby d3_36) t (by rw [len_of Sz5 Nn5]; exact k)) ?_
    refine own_go (x' := T3.setTop (mkF m 39 #[.val (.ref ao0), .val (.int p1), .val (.int p2), .val (.int (0 : Int32)), .val (.int (p2 + (64 : Int32)))] [(.int (p2 + (64 : Int32))), (.int nA)])) (fun _ k => XS.iload X3.here hx rfl (hb hby d3_37) rfl k) ?_
    by_cases hc39 : nA < (p2 + (64 : Int32))
    · refine own_go (x' := T3.setTop (mkF m 43 #[.val (.ref ao0), .val (.int p1), .val (.int p2), .val (.int (0 : Int32)), .val (.int (p2 + (64 : Int32)))] [(.ref ao0)])) (fun _ k => XS.icmpNo X3.here hx rfl (hb hby d3_39) rfl (tlt hc39).2.1 (XS.aloadN X3.here hx rfl (hb hby d3_42) rfl rfl k)) ?_
      obtain ⟨T6, X6, e6, st6⟩ := getF X3 hx hZ hown (host := "") (Or.inl (own_w hw 11 rfl)) Via.refl e3 F_ao0_bytes (g := (mkF m 43 #[.val (.ref ao0), .val (.int p1), .val (.int p2), .val (.int (0 : Int32)), .val (.int (p2 + (64 : Int32)))] [(.ref ao0)])) rfl rfl (hb hby d3_43)
      refine own_go (x' := T6.setTop (mkF m 46 #[.val (.ref ao0), .val (.int p1), .val (.int p2), .val (.int (0 : Int32)), .val (.int (p2 + (64 : Int32)))] [(.ref ar)])) st6 ?_
      refine own_go (x' := T6.setTop (mkF m 49 #[.val (.ref ao0), .val (.int p1), .val (.int p2), .val (.int (0 : Int32)), .val (.int (p2 + (64 : Int32)))] [(.int (p2 + (64 : Int32))), (.int (0 : Int32)), (.ref ar)])) (fun _ k => XS.iloadN X6.here hx rfl (hb hby d3_46) rfl (XS.iload X6.here hx rfl (hb hby d3_47) rfl k)) ?_
      obtain ⟨T7, h7, k7, X7, e7, E7, A7, Q7, st7⟩ := newPE X6 hx hZ (own_w hw 29 rfl) e6 (g := (mkF m 49 #[.val (.ref ao0), .val (.int p1), .val (.int p2), .val (.int (0 : Int32)), .val (.int (p2 + (64 : Int32)))] [(.int (p2 + (64 : Int32))), (.int (0 : Int32)), (.ref ar)])) rfl (hb hby d3_49) rfl ht.1 (cap := 16447) ht.2 (by decide) (by decide) (by decide) (ad := "[B") (by decide)
      obtain ⟨b7, g7⟩ : ∃ z, z = h0.size := ⟨_, rfl⟩
      rw [← g7] at A7 st7
      rw [← g7] at Q7
      have ne_ao0_b7 : ao0 ≠ b7 := Nat.ne_of_lt (Nat.lt_of_lt_of_le F_ao0_bytes.lt (Nat.le_of_eq g7.symm))
      have ne_ar_b7 : ar ≠ b7 := Nat.ne_of_lt (Nat.lt_of_lt_of_le V_ar.lt (Nat.le_of_eq g7.symm))
      have ne_b0_b7 : b0 ≠ b7 := Nat.ne_of_lt (Nat.lt_of_lt_of_le V_b0.lt (Nat.le_of_eq g7.symm))
      have ne_b1_b7 : b1 ≠ b7 := Nat.ne_of_lt (Nat.lt_of_lt_of_le V_b1.lt (Nat.le_of_eq g7.symm))
      have ne_b2_b7 : b2 ≠ b7 := Nat.ne_of_lt (Nat.lt_of_lt_of_le V_b2.lt (Nat.le_of_eq g7.symm))
      have g_b7 : n0 ≤ b7 := Nat.le_trans Zs (Nat.le_of_eq g7.symm)
      have sz_b7 : h0.size ≤ b7 := Nat.le_trans Kp.1 (Nat.le_of_eq g7.symm)
      replace F_ao0_bytes := Fld.ext E7 F_ao0_bytes
      replace V_ar := V_ar.ext E7
      replace V_b0 := V_b0.ext E7
      replace V_b1 := V_b1.ext E7
      replace V_b2 := V_b2.ext E7
      replace Zs := Nat.le_trans Zs E7.1
      replace Kp := Kp.ext E7
      have E_b7 := Q7
      have V_b7 : Arv Z h7 b7 k7 .byte (p2 + (64 : Int32)) [] (.int (0 : Int32)) := Arv.new A7 ht.1
      refine own_go (x' := T7.setTop (mkF m 51 #[.val (.ref ao0), .val (.int p1), .val (.int p2), .val (.int (0 : Int32)), .val (.int (p2 + (64 : Int32)))] [(.ref b7), (.int (0 : Int32)), (.ref ar)])) st7 ?_
      obtain ⟨cl8, Ar8, q8, Sz8, Nn8, Hh8, Gg8⟩ := V_ar
      have hin8 : ¬ ((0 : Int32) < 0 ∨ cl8.slots.size ≤ ((0 : Int32)).toNatClampNeg) := inb_of Sz8 ⟨by decide, by decide⟩
      obtain ⟨T8, h8, X8, e8, W8, st8⟩ := stR X7 hx hZ e7 Ar8 (j := (0 : Int32)) hin8 rfl (Sto.ofVA Ar8 q8 O_ar (Ins.self E_b7)) (g := (mkF m 51 #[.val (.ref ao0), .val (.int p1), .val (.int p2), .val (.int (0 : Int32)), .val (.int (p2 + (64 : Int32)))] [(.ref b7), (.int (0 : Int32)), (.ref ar)])) rfl rfl (hb hby d3_51)
      refine own_go (x' := T8.setTop (mkF m 52 #[.val (.ref ao0), .val (.int p1), .val (.int p2), .val (.int (0 : Int32)), .val (.int (p2 + (64 : Int32)))] [])) st8 ?_
      replace F_ao0_bytes := Fld.other W8 F_ao0_bytes (Or.inl ne_ao0_ar)
      replace V_b0 := V_b0.other W8 ne_b0_ar
      replace V_b1 := V_b1.other W8 ne_b1_ar
      replace V_b2 := V_b2.other W8 ne_b2_ar
      replace E_b7 := Exa.wr W8 E_b7
      replace V_b7 := V_b7.other W8 (Ne.symm ne_ar_b7)
      replace Zs := Nat.le_trans Zs (Keep.of_wr W8).1
      replace Nf := Fr.snoc X8 Nf g_ar
      replace Kp := Kp.wr W8 (Or.inl (by simp))
      have V_ar : Arv Z h8 ar kc (.array .byte) (4 : Int32) [(.ref b7), (.ref b1), (.ref b2), .null] .null := Arv.set Ar8 q8 Sz8 Nn8 Hh8 Gg8 rfl W8 0 rfl (Nat.le_of_ble_eq_true rfl)
      refine own_go (x' := T8.setTop (mkF m 2 #[.val (.ref ao0), .val (.int p1), .val (.int p2), .val (.int ((0 : Int32) + (1 : Int32))), .val (.int (p2 + (64 : Int32)))] [])) (fun _ k => XS.iinc X8.here hx rfl (hb hby d3_52) rfl (l' := #[.val (.ref ao0), .val (.int p1), .val (.int p2), .val (.int ((0 : Int32) + (1 : Int32))), .val (.int (p2 + (64 : Int32)))]) rfl (XS.goto X8.here hx rfl (pc0 := 55) (pc' := 2) rfl (hb hby d3_55) (by decide) (by decide) k)) ?_
      rw [show ((0 : Int32) + (1 : Int32)) = (1 : Int32) from by decide +kernel]
      refine own_go (x' := T8.setTop (mkF m 4 #[.val (.ref ao0), .val (.int p1), .val (.int p2), .val (.int (1 : Int32)), .val (.int (p2 + (64 : Int32)))] [(.int p1), (.int (1 : Int32))])) (fun _ k => XS.iloadN X8.here hx rfl (hb hby d3_2) rfl (XS.iloadN X8.here hx rfl (hb hby d3_3) rfl k)) ?_
      by_cases hc4_9 : (1 : Int32) < p1
      · refine own_go (x' := T8.setTop (mkF m 22 #[.val (.ref ao0), .val (.int p1), .val (.int p2), .val (.int (1 : Int32)), .val (.int p2)] [(.ref ao0)])) (fun _ k => XS.icmpNo X8.here hx rfl (hb hby d3_4) rfl (tlt hc4_9).2.1 (XS.iloadN X8.here hx rfl (hb hby d3_7) rfl (XS.ifYes X8.here hx rfl (pc0 := 8) (pc' := 18) rfl (hb hby d3_8) rfl ((if0 _ _).trans (feq (by decide +kernel : ¬ ((1 : Int32) = (0 : Int32)))).2) (by decide) (by decide) (XS.iloadN X8.here hx rfl (hb hby d3_18) rfl (XS.istore X8.here hx rfl (hb hby d3_19) rfl (l' := #[.val (.ref ao0), .val (.int p1), .val (.int p2), .val (.int (1 : Int32)), .val (.int p2)]) rfl (XS.aloadN X8.here hx rfl (hb hby d3_21) rfl rfl k)))))) ?_
        obtain ⟨T10, X10, e10, st10⟩ := getF X8 hx hZ hown (host := "") (Or.inl (own_w hw 11 rfl)) Via.refl e8 F_ao0_bytes (g := (mkF m 22 #[.val (.ref ao0), .val (.int p1), .val (.int p2), .val (.int (1 : Int32)), .val (.int p2)] [(.ref ao0)])) rfl rfl (hb hby d3_22)
        refine own_go (x' := T10.setTop (mkF m 25 #[.val (.ref ao0), .val (.int p1), .val (.int p2), .val (.int (1 : Int32)), .val (.int p2)] [(.ref ar)])) st10 ?_
        refine own_go (x' := T10.setTop (mkF m 26 #[.val (.ref ao0), .val (.int p1), .val (.int p2), .val (.int (1 : Int32)), .val (.int p2)] [(.int (1 : Int32)), (.ref ar)])) (fun _ k => XS.iloadN X10.here hx rfl (hb hby d3_25) rfl k) ?_
        obtain ⟨cl11, Ar11, q11, Sz11, Nn11, Hh11, Gg11⟩ := id V_ar
        have hin11 : ¬ ((1 : Int32) < 0 ∨ cl11.slots.size ≤ ((1 : Int32)).toNatClampNeg) := inb_of Sz11 ⟨by decide, by decide⟩
        refine own_go (x' := T10.setTop (mkF m 27 #[.val (.ref ao0), .val (.int p1), .val (.int p2), .val (.int (1 : Int32)), .val (.int p2)] [(.ref b1)])) (X10.aaload hx (j := (1 : Int32)) (v := (.ref b1)) (Eq.trans (congrArg (fun h_ => h_[_]?) e10) Ar11.1) (State.isArrayOf_alike hZ.alike Ar11.2.1) rfl Ar11.2.2 hin11 (Hh11.at hin11 rfl) (g := (mkF m 26 #[.val (.ref ao0), .val (.int p1), .val (.int p2), .val (.int (1 : Int32)), .val (.int p2)] [(.int (1 : Int32)), (.ref ar)])) rfl rfl (hb hby d3_26)) ?_
        refine own_go (x' := T10.setTop (mkF m 31 #[.val (.ref ao0), .val (.int p1), .val (.int p2), .val (.int (1 : Int32)), .val (.int p2)] [(.ref ao0)])) (fun _ k => XS.ifnullNo X10.here hx rfl (hb hby d3_27) rfl (XS.aloadN X10.here hx rfl (hb hby d3_30) rfl rfl k)) ?_
        obtain ⟨T12, X12, e12, st12⟩ := getF X10 hx hZ hown (host := "") (Or.inl (own_w hw 11 rfl)) Via.refl e10 F_ao0_bytes (g := (mkF m 31 #[.val (.ref ao0), .val (.int p1), .val (.int p2), .val (.int (1 : Int32)), .val (.int p2)] [(.ref ao0)])) rfl rfl (hb hby d3_31)
        refine own_go (x' := T12.setTop (mkF m 34 #[.val (.ref ao0), .val (.int p1), .val (.int p2), .val (.int (1 : Int32)), .val (.int p2)] [(.ref ar)])) st12 ?_
        refine own_go (x' := T12.setTop (mkF m 35 #[.val (.ref ao0), .val (.int p1), .val (.int p2), .val (.int (1 : Int32)), .val (.int p2)] [(.int (1 : Int32)), (.ref ar)])) (fun _ k => XS.iloadN X12.here hx rfl (hb hby d3_34) rfl k) ?_
        obtain ⟨cl13, Ar13, q13, Sz13, Nn13, Hh13, Gg13⟩ := id V_ar
        have hin13 : ¬ ((1 : Int32) < 0 ∨ cl13.slots.size ≤ ((1 : Int32)).toNatClampNeg) := inb_of Sz13 ⟨by decide, by decide⟩
        refine own_go (x' := T12.setTop (mkF m 36 #[.val (.ref ao0), .val (.int p1), .val (.int p2), .val (.int (1 : Int32)), .val (.int p2)] [(.ref b1)])) (X12.aaload hx (j := (1 : Int32)) (v := (.ref b1)) (Eq.trans (congrArg (fun h_ => h_[_]?) e12) Ar13.1) (State.isArrayOf_alike hZ.alike Ar13.2.1) rfl Ar13.2.2 hin13 (Hh13.at hin13 rfl) (g := (mkF m 35 #[.val (.ref ao0), .val (.int p1), .val (.int p2), .val (.int (1 : Int32)), .val (.int p2)] [(.int (1 : Int32)), (.ref ar)])) rfl rfl (hb hby d3_35)) ?_
        obtain ⟨cl14, Ar14, -, Sz14, Nn14, -, -⟩ := id V_b1
        refine own_go (x' := T12.setTop (mkF m 37 #[.val (.ref ao0), .val (.int p1), .val (.int p2), .val (.int (1 : Int32)), .val (.int p2)] [(.int n1)])) (fun t k => X12.arraylength hx (Eq.trans (congrArg (fun h_ => h_[_]?) e12) Ar14.1) (State.isArrayOf_alike hZ.alike Ar14.2.1) (g := (mkF m 36 #[.val (.ref ao0), .val (.int p1), .val (.int p2), .val (.int (1 : Int32)), .val (.int p2)] [(.ref b1)])) rfl rfl (hb hby d3_36) t (by rw [len_of Sz14 Nn14]; exact k)) ?_
        refine own_go (x' := T12.setTop (mkF m 39 #[.val (.ref ao0), .val (.int p1), .val (.int p2), .val (.int (1 : Int32)), .val (.int p2)] [(.int p2), (.int n1)])) (fun _ k => XS.iload X12.here hx rfl (hb hby d3_37) rfl k) ?_
        by_cases hc39_15 : n1 < p2
        · refine own_go (x' := T12.setTop (mkF m 43 #[.val (.ref ao0), .val (.int p1), .val (.int p2), .val (.int (1 : Int32)), .val (.int p2)] [(.ref ao0)])) (fun _ k => XS.icmpNo X12.here hx rfl (hb hby d3_39) rfl (tlt hc39_15).2.1 (XS.aloadN X12.here hx rfl (hb hby d3_42) rfl rfl k)) ?_
          obtain ⟨T16, X16, e16, st16⟩ := getF X12 hx hZ hown (host := "") (Or.inl (own_w hw 11 rfl)) Via.refl e12 F_ao0_bytes (g := (mkF m 43 #[.val (.ref ao0), .val (.int p1), .val (.int p2), .val (.int (1 : Int32)), .val (.int p2)] [(.ref ao0)])) rfl rfl (hb hby d3_43)
          refine own_go (x' := T16.setTop (mkF m 46 #[.val (.ref ao0), .val (.int p1), .val (.int p2), .val (.int (1 : Int32)), .val (.int p2)] [(.ref ar)])) st16 ?_
          refine own_go (x' := T16.setTop (mkF m 49 #[.val (.ref ao0), .val (.int p1), .val (.int p2), .val (.int (1 : Int32)), .val (.int p2)] [(.int p2), (.int (1 : Int32)), (.ref ar)])) (fun _ k => XS.iloadN X16.here hx rfl (hb hby d3_46) rfl (XS.iload X16.here hx rfl (hb hby d3_47) rfl k)) ?_
          obtain ⟨T17, h17, k17, X17, e17, E17, A17, Q17, st17⟩ := newPE X16 hx hZ (own_w hw 29 rfl) e16 (g := (mkF m 49 #[.val (.ref ao0), .val (.int p1), .val (.int p2), .val (.int (1 : Int32)), .val (.int p2)] [(.int p2), (.int (1 : Int32)), (.ref ar)])) rfl (hb hby d3_49) rfl hs.1 (cap := 16383) hs.2 (by decide) (by decide) (by decide) (ad := "[B") (by decide)
          obtain ⟨b17, g17⟩ : ∃ z, z = h8.size := ⟨_, rfl⟩
          rw [← g17] at A17 st17
          rw [← g17] at Q17
          have ne_ao0_b17 : ao0 ≠ b17 := Nat.ne_of_lt (Nat.lt_of_lt_of_le F_ao0_bytes.lt (Nat.le_of_eq g17.symm))
          have ne_b0_b17 : b0 ≠ b17 := Nat.ne_of_lt (Nat.lt_of_lt_of_le V_b0.lt (Nat.le_of_eq g17.symm))
          have ne_b1_b17 : b1 ≠ b17 := Nat.ne_of_lt (Nat.lt_of_lt_of_le V_b1.lt (Nat.le_of_eq g17.symm))
          have ne_b2_b17 : b2 ≠ b17 := Nat.ne_of_lt (Nat.lt_of_lt_of_le V_b2.lt (Nat.le_of_eq g17.symm))
          have ne_b7_b17 : b7 ≠ b17 := Nat.ne_of_lt (Nat.lt_of_lt_of_le E_b7.lt (Nat.le_of_eq g17.symm))
          have ne_ar_b17 : ar ≠ b17 := Nat.ne_of_lt (Nat.lt_of_lt_of_le V_ar.lt (Nat.le_of_eq g17.symm))
          have g_b17 : n0 ≤ b17 := Nat.le_trans Zs (Nat.le_of_eq g17.symm)
          have sz_b17 : h0.size ≤ b17 := Nat.le_trans Kp.1 (Nat.le_of_eq g17.symm)
          replace F_ao0_bytes := Fld.ext E17 F_ao0_bytes
          replace V_b0 := V_b0.ext E17
          replace V_b1 := V_b1.ext E17
          replace V_b2 := V_b2.ext E17
          replace E_b7 := Exa.ext E17 E_b7
          replace V_b7 := V_b7.ext E17
          replace V_ar := V_ar.ext E17
          replace Zs := Nat.le_trans Zs E17.1
          replace Kp := Kp.ext E17
          have E_b17 := Q17
          have V_b17 : Arv Z h17 b17 k17 .byte p2 [] (.int (0 : Int32)) := Arv.new A17 hs.1
          refine own_go (x' := T17.setTop (mkF m 51 #[.val (.ref ao0), .val (.int p1), .val (.int p2), .val (.int (1 : Int32)), .val (.int p2)] [(.ref b17), (.int (1 : Int32)), (.ref ar)])) st17 ?_
          obtain ⟨cl18, Ar18, q18, Sz18, Nn18, Hh18, Gg18⟩ := V_ar
          have hin18 : ¬ ((1 : Int32) < 0 ∨ cl18.slots.size ≤ ((1 : Int32)).toNatClampNeg) := inb_of Sz18 ⟨by decide, by decide⟩
          obtain ⟨T18, h18, X18, e18, W18, st18⟩ := stR X17 hx hZ e17 Ar18 (j := (1 : Int32)) hin18 rfl (Sto.ofVA Ar18 q18 O_ar (Ins.self E_b17)) (g := (mkF m 51 #[.val (.ref ao0), .val (.int p1), .val (.int p2), .val (.int (1 : Int32)), .val (.int p2)] [(.ref b17), (.int (1 : Int32)), (.ref ar)])) rfl rfl (hb hby d3_51)
          refine own_go (x' := T18.setTop (mkF m 52 #[.val (.ref ao0), .val (.int p1), .val (.int p2), .val (.int (1 : Int32)), .val (.int p2)] [])) st18 ?_
          replace F_ao0_bytes := Fld.other W18 F_ao0_bytes (Or.inl ne_ao0_ar)
          replace V_b0 := V_b0.other W18 ne_b0_ar
          replace V_b1 := V_b1.other W18 ne_b1_ar
          replace V_b2 := V_b2.other W18 ne_b2_ar
          replace E_b7 := Exa.wr W18 E_b7
          replace V_b7 := V_b7.other W18 (Ne.symm ne_ar_b7)
          replace E_b17 := Exa.wr W18 E_b17
          replace V_b17 := V_b17.other W18 (Ne.symm ne_ar_b17)
          replace Zs := Nat.le_trans Zs (Keep.of_wr W18).1
          replace Nf := Fr.snoc X18 Nf g_ar
          replace Kp := Kp.wr W18 (Or.inl (by simp))
          have V_ar : Arv Z h18 ar kc (.array .byte) (4 : Int32) [(.ref b7), (.ref b17), (.ref b2), .null] .null := Arv.set Ar18 q18 Sz18 Nn18 Hh18 Gg18 rfl W18 1 rfl (Nat.le_of_ble_eq_true rfl)
          refine own_go (x' := T18.setTop (mkF m 2 #[.val (.ref ao0), .val (.int p1), .val (.int p2), .val (.int ((1 : Int32) + (1 : Int32))), .val (.int p2)] [])) (fun _ k => XS.iinc X18.here hx rfl (hb hby d3_52) rfl (l' := #[.val (.ref ao0), .val (.int p1), .val (.int p2), .val (.int ((1 : Int32) + (1 : Int32))), .val (.int p2)]) rfl (XS.goto X18.here hx rfl (pc0 := 55) (pc' := 2) rfl (hb hby d3_55) (by decide) (by decide) k)) ?_
          rw [show ((1 : Int32) + (1 : Int32)) = (2 : Int32) from by decide +kernel]
          refine own_go (x' := T18.setTop (mkF m 4 #[.val (.ref ao0), .val (.int p1), .val (.int p2), .val (.int (2 : Int32)), .val (.int p2)] [(.int p1), (.int (2 : Int32))])) (fun _ k => XS.iloadN X18.here hx rfl (hb hby d3_2) rfl (XS.iloadN X18.here hx rfl (hb hby d3_3) rfl k)) ?_
          by_cases hc4_19 : (2 : Int32) < p1
          · refine own_go (x' := T18.setTop (mkF m 22 #[.val (.ref ao0), .val (.int p1), .val (.int p2), .val (.int (2 : Int32)), .val (.int p2)] [(.ref ao0)])) (fun _ k => XS.icmpNo X18.here hx rfl (hb hby d3_4) rfl (tlt hc4_19).2.1 (XS.iloadN X18.here hx rfl (hb hby d3_7) rfl (XS.ifYes X18.here hx rfl (pc0 := 8) (pc' := 18) rfl (hb hby d3_8) rfl ((if0 _ _).trans (feq (by decide +kernel : ¬ ((2 : Int32) = (0 : Int32)))).2) (by decide) (by decide) (XS.iloadN X18.here hx rfl (hb hby d3_18) rfl (XS.istore X18.here hx rfl (hb hby d3_19) rfl (l' := #[.val (.ref ao0), .val (.int p1), .val (.int p2), .val (.int (2 : Int32)), .val (.int p2)]) rfl (XS.aloadN X18.here hx rfl (hb hby d3_21) rfl rfl k)))))) ?_
            obtain ⟨T20, X20, e20, st20⟩ := getF X18 hx hZ hown (host := "") (Or.inl (own_w hw 11 rfl)) Via.refl e18 F_ao0_bytes (g := (mkF m 22 #[.val (.ref ao0), .val (.int p1), .val (.int p2), .val (.int (2 : Int32)), .val (.int p2)] [(.ref ao0)])) rfl rfl (hb hby d3_22)
            refine own_go (x' := T20.setTop (mkF m 25 #[.val (.ref ao0), .val (.int p1), .val (.int p2), .val (.int (2 : Int32)), .val (.int p2)] [(.ref ar)])) st20 ?_
            refine own_go (x' := T20.setTop (mkF m 26 #[.val (.ref ao0), .val (.int p1), .val (.int p2), .val (.int (2 : Int32)), .val (.int p2)] [(.int (2 : Int32)), (.ref ar)])) (fun _ k => XS.iloadN X20.here hx rfl (hb hby d3_25) rfl k) ?_
            obtain ⟨cl21, Ar21, q21, Sz21, Nn21, Hh21, Gg21⟩ := id V_ar
            have hin21 : ¬ ((2 : Int32) < 0 ∨ cl21.slots.size ≤ ((2 : Int32)).toNatClampNeg) := inb_of Sz21 ⟨by decide, by decide⟩
            refine own_go (x' := T20.setTop (mkF m 27 #[.val (.ref ao0), .val (.int p1), .val (.int p2), .val (.int (2 : Int32)), .val (.int p2)] [(.ref b2)])) (X20.aaload hx (j := (2 : Int32)) (v := (.ref b2)) (Eq.trans (congrArg (fun h_ => h_[_]?) e20) Ar21.1) (State.isArrayOf_alike hZ.alike Ar21.2.1) rfl Ar21.2.2 hin21 (Hh21.at hin21 rfl) (g := (mkF m 26 #[.val (.ref ao0), .val (.int p1), .val (.int p2), .val (.int (2 : Int32)), .val (.int p2)] [(.int (2 : Int32)), (.ref ar)])) rfl rfl (hb hby d3_26)) ?_
            refine own_go (x' := T20.setTop (mkF m 31 #[.val (.ref ao0), .val (.int p1), .val (.int p2), .val (.int (2 : Int32)), .val (.int p2)] [(.ref ao0)])) (fun _ k => XS.ifnullNo X20.here hx rfl (hb hby d3_27) rfl (XS.aloadN X20.here hx rfl (hb hby d3_30) rfl rfl k)) ?_
            obtain ⟨T22, X22, e22, st22⟩ := getF X20 hx hZ hown (host := "") (Or.inl (own_w hw 11 rfl)) Via.refl e20 F_ao0_bytes (g := (mkF m 31 #[.val (.ref ao0), .val (.int p1), .val (.int p2), .val (.int (2 : Int32)), .val (.int p2)] [(.ref ao0)])) rfl rfl (hb hby d3_31)
            refine own_go (x' := T22.setTop (mkF m 34 #[.val (.ref ao0), .val (.int p1), .val (.int p2), .val (.int (2 : Int32)), .val (.int p2)] [(.ref ar)])) st22 ?_
            refine own_go (x' := T22.setTop (mkF m 35 #[.val (.ref ao0), .val (.int p1), .val (.int p2), .val (.int (2 : Int32)), .val (.int p2)] [(.int (2 : Int32)), (.ref ar)])) (fun _ k => XS.iloadN X22.here hx rfl (hb hby d3_34) rfl k) ?_
            obtain ⟨cl23, Ar23, q23, Sz23, Nn23, Hh23, Gg23⟩ := id V_ar
            have hin23 : ¬ ((2 : Int32) < 0 ∨ cl23.slots.size ≤ ((2 : Int32)).toNatClampNeg) := inb_of Sz23 ⟨by decide, by decide⟩
            refine own_go (x' := T22.setTop (mkF m 36 #[.val (.ref ao0), .val (.int p1), .val (.int p2), .val (.int (2 : Int32)), .val (.int p2)] [(.ref b2)])) (X22.aaload hx (j := (2 : Int32)) (v := (.ref b2)) (Eq.trans (congrArg (fun h_ => h_[_]?) e22) Ar23.1) (State.isArrayOf_alike hZ.alike Ar23.2.1) rfl Ar23.2.2 hin23 (Hh23.at hin23 rfl) (g := (mkF m 35 #[.val (.ref ao0), .val (.int p1), .val (.int p2), .val (.int (2 : Int32)), .val (.int p2)] [(.int (2 : Int32)), (.ref ar)])) rfl rfl (hb hby d3_35)) ?_
            obtain ⟨cl24, Ar24, -, Sz24, Nn24, -, -⟩ := id V_b2
            refine own_go (x' := T22.setTop (mkF m 37 #[.val (.ref ao0), .val (.int p1), .val (.int p2), .val (.int (2 : Int32)), .val (.int p2)] [(.int n1)])) (fun t k => X22.arraylength hx (Eq.trans (congrArg (fun h_ => h_[_]?) e22) Ar24.1) (State.isArrayOf_alike hZ.alike Ar24.2.1) (g := (mkF m 36 #[.val (.ref ao0), .val (.int p1), .val (.int p2), .val (.int (2 : Int32)), .val (.int p2)] [(.ref b2)])) rfl rfl (hb hby d3_36) t (by rw [len_of Sz24 Nn24]; exact k)) ?_
            refine own_go (x' := T22.setTop (mkF m 43 #[.val (.ref ao0), .val (.int p1), .val (.int p2), .val (.int (2 : Int32)), .val (.int p2)] [(.ref ao0)])) (fun _ k => XS.iload X22.here hx rfl (hb hby d3_37) rfl (XS.icmpNo X22.here hx rfl (hb hby d3_39) rfl (tlt hc39_15).2.1 (XS.aloadN X22.here hx rfl (hb hby d3_42) rfl rfl k))) ?_
            obtain ⟨T25, X25, e25, st25⟩ := getF X22 hx hZ hown (host := "") (Or.inl (own_w hw 11 rfl)) Via.refl e22 F_ao0_bytes (g := (mkF m 43 #[.val (.ref ao0), .val (.int p1), .val (.int p2), .val (.int (2 : Int32)), .val (.int p2)] [(.ref ao0)])) rfl rfl (hb hby d3_43)
            refine own_go (x' := T25.setTop (mkF m 46 #[.val (.ref ao0), .val (.int p1), .val (.int p2), .val (.int (2 : Int32)), .val (.int p2)] [(.ref ar)])) st25 ?_
            refine own_go (x' := T25.setTop (mkF m 49 #[.val (.ref ao0), .val (.int p1), .val (.int p2), .val (.int (2 : Int32)), .val (.int p2)] [(.int p2), (.int (2 : Int32)), (.ref ar)])) (fun _ k => XS.iloadN X25.here hx rfl (hb hby d3_46) rfl (XS.iload X25.here hx rfl (hb hby d3_47) rfl k)) ?_
            obtain ⟨T26, h26, k26, X26, e26, E26, A26, Q26, st26⟩ := newPE X25 hx hZ (own_w hw 29 rfl) e25 (g := (mkF m 49 #[.val (.ref ao0), .val (.int p1), .val (.int p2), .val (.int (2 : Int32)), .val (.int p2)] [(.int p2), (.int (2 : Int32)), (.ref ar)])) rfl (hb hby d3_49) rfl hs.1 (cap := 16383) hs.2 (by decide) (by decide) (by decide) (ad := "[B") (by decide)
            obtain ⟨b26, g26⟩ : ∃ z, z = h18.size := ⟨_, rfl⟩
            rw [← g26] at A26 st26
            rw [← g26] at Q26
            have ne_ao0_b26 : ao0 ≠ b26 := Nat.ne_of_lt (Nat.lt_of_lt_of_le F_ao0_bytes.lt (Nat.le_of_eq g26.symm))
            have ne_b0_b26 : b0 ≠ b26 := Nat.ne_of_lt (Nat.lt_of_lt_of_le V_b0.lt (Nat.le_of_eq g26.symm))
            have ne_b1_b26 : b1 ≠ b26 := Nat.ne_of_lt (Nat.lt_of_lt_of_le V_b1.lt (Nat.le_of_eq g26.symm))
            have ne_b2_b26 : b2 ≠ b26 := Nat.ne_of_lt (Nat.lt_of_lt_of_le V_b2.lt (Nat.le_of_eq g26.symm))
            have ne_b7_b26 : b7 ≠ b26 := Nat.ne_of_lt (Nat.lt_of_lt_of_le E_b7.lt (Nat.le_of_eq g26.symm))
            have ne_b17_b26 : b17 ≠ b26 := Nat.ne_of_lt (Nat.lt_of_lt_of_le E_b17.lt (Nat.le_of_eq g26.symm))
            have ne_ar_b26 : ar ≠ b26 := Nat.ne_of_lt (Nat.lt_of_lt_of_le V_ar.lt (Nat.le_of_eq g26.symm))
            have g_b26 : n0 ≤ b26 := Nat.le_trans Zs (Nat.le_of_eq g26.symm)
            have sz_b26 : h0.size ≤ b26 := Nat.le_trans Kp.1 (Nat.le_of_eq g26.symm)
            replace F_ao0_bytes := Fld.ext E26 F_ao0_bytes
            replace V_b0 := V_b0.ext E26
            replace V_b1 := V_b1.ext E26
            replace V_b2 := V_b2.ext E26
            replace E_b7 := Exa.ext E26 E_b7
            replace V_b7 := V_b7.ext E26
            replace E_b17 := Exa.ext E26 E_b17
            replace V_b17 := V_b17.ext E26
            replace V_ar := V_ar.ext E26
            replace Zs := Nat.le_trans Zs E26.1
            replace Kp := Kp.ext E26
            have E_b26 := Q26
            have V_b26 : Arv Z h26 b26 k26 .byte p2 [] (.int (0 : Int32)) := Arv.new A26 hs.1
            refine own_go (x' := T26.setTop (mkF m 51 #[.val (.ref ao0), .val (.int p1), .val (.int p2), .val (.int (2 : Int32)), .val (.int p2)] [(.ref b26), (.int (2 : Int32)), (.ref ar)])) st26 ?_
            obtain ⟨cl27, Ar27, q27, Sz27, Nn27, Hh27, Gg27⟩ := V_ar
            have hin27 : ¬ ((2 : Int32) < 0 ∨ cl27.slots.size ≤ ((2 : Int32)).toNatClampNeg) := inb_of Sz27 ⟨by decide, by decide⟩
            obtain ⟨T27, h27, X27, e27, W27, st27⟩ := stR X26 hx hZ e26 Ar27 (j := (2 : Int32)) hin27 rfl (Sto.ofVA Ar27 q27 O_ar (Ins.self E_b26)) (g := (mkF m 51 #[.val (.ref ao0), .val (.int p1), .val (.int p2), .val (.int (2 : Int32)), .val (.int p2)] [(.ref b26), (.int (2 : Int32)), (.ref ar)])) rfl rfl (hb hby d3_51)
            refine own_go (x' := T27.setTop (mkF m 52 #[.val (.ref ao0), .val (.int p1), .val (.int p2), .val (.int (2 : Int32)), .val (.int p2)] [])) st27 ?_
            replace F_ao0_bytes := Fld.other W27 F_ao0_bytes (Or.inl ne_ao0_ar)
            replace V_b0 := V_b0.other W27 ne_b0_ar
            replace V_b1 := V_b1.other W27 ne_b1_ar
            replace V_b2 := V_b2.other W27 ne_b2_ar
            replace E_b7 := Exa.wr W27 E_b7
            replace V_b7 := V_b7.other W27 (Ne.symm ne_ar_b7)
            replace E_b17 := Exa.wr W27 E_b17
            replace V_b17 := V_b17.other W27 (Ne.symm ne_ar_b17)
            replace E_b26 := Exa.wr W27 E_b26
            replace V_b26 := V_b26.other W27 (Ne.symm ne_ar_b26)
            replace Zs := Nat.le_trans Zs (Keep.of_wr W27).1
            replace Nf := Fr.snoc X27 Nf g_ar
            replace Kp := Kp.wr W27 (Or.inl (by simp))
            have V_ar : Arv Z h27 ar kc (.array .byte) (4 : Int32) [(.ref b7), (.ref b17), (.ref b26), .null] .null := Arv.set Ar27 q27 Sz27 Nn27 Hh27 Gg27 rfl W27 2 rfl (Nat.le_of_ble_eq_true rfl)
            refine own_go (x' := T27.setTop (mkF m 2 #[.val (.ref ao0), .val (.int p1), .val (.int p2), .val (.int ((2 : Int32) + (1 : Int32))), .val (.int p2)] [])) (fun _ k => XS.iinc X27.here hx rfl (hb hby d3_52) rfl (l' := #[.val (.ref ao0), .val (.int p1), .val (.int p2), .val (.int ((2 : Int32) + (1 : Int32))), .val (.int p2)]) rfl (XS.goto X27.here hx rfl (pc0 := 55) (pc' := 2) rfl (hb hby d3_55) (by decide) (by decide) k)) ?_
            rw [show ((2 : Int32) + (1 : Int32)) = (3 : Int32) from by decide +kernel]
            refine own_go (x' := T27.setTop (mkF m 4 #[.val (.ref ao0), .val (.int p1), .val (.int p2), .val (.int (3 : Int32)), .val (.int p2)] [(.int p1), (.int (3 : Int32))])) (fun _ k => XS.iloadN X27.here hx rfl (hb hby d3_2) rfl (XS.iloadN X27.here hx rfl (hb hby d3_3) rfl k)) ?_
            by_cases hc4_28 : (3 : Int32) < p1
            · refine own_go (x' := T27.setTop (mkF m 22 #[.val (.ref ao0), .val (.int p1), .val (.int p2), .val (.int (3 : Int32)), .val (.int p2)] [(.ref ao0)])) (fun _ k => XS.icmpNo X27.here hx rfl (hb hby d3_4) rfl (tlt hc4_28).2.1 (XS.iloadN X27.here hx rfl (hb hby d3_7) rfl (XS.ifYes X27.here hx rfl (pc0 := 8) (pc' := 18) rfl (hb hby d3_8) rfl ((if0 _ _).trans (feq (by decide +kernel : ¬ ((3 : Int32) = (0 : Int32)))).2) (by decide) (by decide) (XS.iloadN X27.here hx rfl (hb hby d3_18) rfl (XS.istore X27.here hx rfl (hb hby d3_19) rfl (l' := #[.val (.ref ao0), .val (.int p1), .val (.int p2), .val (.int (3 : Int32)), .val (.int p2)]) rfl (XS.aloadN X27.here hx rfl (hb hby d3_21) rfl rfl k)))))) ?_
              obtain ⟨T29, X29, e29, st29⟩ := getF X27 hx hZ hown (host := "") (Or.inl (own_w hw 11 rfl)) Via.refl e27 F_ao0_bytes (g := (mkF m 22 #[.val (.ref ao0), .val (.int p1), .val (.int p2), .val (.int (3 : Int32)), .val (.int p2)] [(.ref ao0)])) rfl rfl (hb hby d3_22)
              refine own_go (x' := T29.setTop (mkF m 25 #[.val (.ref ao0), .val (.int p1), .val (.int p2), .val (.int (3 : Int32)), .val (.int p2)] [(.ref ar)])) st29 ?_
              refine own_go (x' := T29.setTop (mkF m 26 #[.val (.ref ao0), .val (.int p1), .val (.int p2), .val (.int (3 : Int32)), .val (.int p2)] [(.int (3 : Int32)), (.ref ar)])) (fun _ k => XS.iloadN X29.here hx rfl (hb hby d3_25) rfl k) ?_
              obtain ⟨cl30, Ar30, q30, Sz30, Nn30, Hh30, Gg30⟩ := id V_ar
              have hin30 : ¬ ((3 : Int32) < 0 ∨ cl30.slots.size ≤ ((3 : Int32)).toNatClampNeg) := inb_of Sz30 ⟨by decide, by decide⟩
              refine own_go (x' := T29.setTop (mkF m 27 #[.val (.ref ao0), .val (.int p1), .val (.int p2), .val (.int (3 : Int32)), .val (.int p2)] [.null])) (X29.aaload hx (j := (3 : Int32)) (v := .null) (Eq.trans (congrArg (fun h_ => h_[_]?) e29) Ar30.1) (State.isArrayOf_alike hZ.alike Ar30.2.1) rfl Ar30.2.2 hin30 (Hh30.at hin30 rfl) (g := (mkF m 26 #[.val (.ref ao0), .val (.int p1), .val (.int p2), .val (.int (3 : Int32)), .val (.int p2)] [(.int (3 : Int32)), (.ref ar)])) rfl rfl (hb hby d3_26)) ?_
              refine own_go (x' := T29.setTop (mkF m 43 #[.val (.ref ao0), .val (.int p1), .val (.int p2), .val (.int (3 : Int32)), .val (.int p2)] [(.ref ao0)])) (fun _ k => XS.ifnullYes X29.here hx rfl (pc0 := 27) (pc' := 42) rfl (hb hby d3_27) rfl (by decide) (by decide) (XS.aloadN X29.here hx rfl (hb hby d3_42) rfl rfl k)) ?_
              obtain ⟨T31, X31, e31, st31⟩ := getF X29 hx hZ hown (host := "") (Or.inl (own_w hw 11 rfl)) Via.refl e29 F_ao0_bytes (g := (mkF m 43 #[.val (.ref ao0), .val (.int p1), .val (.int p2), .val (.int (3 : Int32)), .val (.int p2)] [(.ref ao0)])) rfl rfl (hb hby d3_43)
              refine own_go (x' := T31.setTop (mkF m 46 #[.val (.ref ao0), .val (.int p1), .val (.int p2), .val (.int (3 : Int32)), .val (.int p2)] [(.ref ar)])) st31 ?_
              refine own_go (x' := T31.setTop (mkF m 49 #[.val (.ref ao0), .val (.int p1), .val (.int p2), .val (.int (3 : Int32)), .val (.int p2)] [(.int p2), (.int (3 : Int32)), (.ref ar)])) (fun _ k => XS.iloadN X31.here hx rfl (hb hby d3_46) rfl (XS.iload X31.here hx rfl (hb hby d3_47) rfl k)) ?_
              obtain ⟨T32, h32, k32, X32, e32, E32, A32, Q32, st32⟩ := newPE X31 hx hZ (own_w hw 29 rfl) e31 (g := (mkF m 49 #[.val (.ref ao0), .val (.int p1), .val (.int p2), .val (.int (3 : Int32)), .val (.int p2)] [(.int p2), (.int (3 : Int32)), (.ref ar)])) rfl (hb hby d3_49) rfl hs.1 (cap := 16383) hs.2 (by decide) (by decide) (by decide) (ad := "[B") (by decide)
              obtain ⟨b32, g32⟩ : ∃ z, z = h27.size := ⟨_, rfl⟩
              rw [← g32] at A32 st32
              rw [← g32] at Q32
              have ne_ao0_b32 : ao0 ≠ b32 := Nat.ne_of_lt (Nat.lt_of_lt_of_le F_ao0_bytes.lt (Nat.le_of_eq g32.symm))
              have ne_b0_b32 : b0 ≠ b32 := Nat.ne_of_lt (Nat.lt_of_lt_of_le V_b0.lt (Nat.le_of_eq g32.symm))
              have ne_b1_b32 : b1 ≠ b32 := Nat.ne_of_lt (Nat.lt_of_lt_of_le V_b1.lt (Nat.le_of_eq g32.symm))
              have ne_b2_b32 : b2 ≠ b32 := Nat.ne_of_lt (Nat.lt_of_lt_of_le V_b2.lt (Nat.le_of_eq g32.symm))
              have ne_b7_b32 : b7 ≠ b32 := Nat.ne_of_lt (Nat.lt_of_lt_of_le E_b7.lt (Nat.le_of_eq g32.symm))
              have ne_b17_b32 : b17 ≠ b32 := Nat.ne_of_lt (Nat.lt_of_lt_of_le E_b17.lt (Nat.le_of_eq g32.symm))
              have ne_b26_b32 : b26 ≠ b32 := Nat.ne_of_lt (Nat.lt_of_lt_of_le E_b26.lt (Nat.le_of_eq g32.symm))
              have ne_ar_b32 : ar ≠ b32 := Nat.ne_of_lt (Nat.lt_of_lt_of_le V_ar.lt (Nat.le_of_eq g32.symm))
              have g_b32 : n0 ≤ b32 := Nat.le_trans Zs (Nat.le_of_eq g32.symm)
              have sz_b32 : h0.size ≤ b32 := Nat.le_trans Kp.1 (Nat.le_of_eq g32.symm)
              replace F_ao0_bytes := Fld.ext E32 F_ao0_bytes
              replace V_b0 := V_b0.ext E32
              replace V_b1 := V_b1.ext E32
              replace V_b2 := V_b2.ext E32
              replace E_b7 := Exa.ext E32 E_b7
              replace V_b7 := V_b7.ext E32
              replace E_b17 := Exa.ext E32 E_b17
              replace V_b17 := V_b17.ext E32
              replace E_b26 := Exa.ext E32 E_b26
              replace V_b26 := V_b26.ext E32
              replace V_ar := V_ar.ext E32
              replace Zs := Nat.le_trans Zs E32.1
              replace Kp := Kp.ext E32
              have E_b32 := Q32
              have V_b32 : Arv Z h32 b32 k32 .byte p2 [] (.int (0 : Int32)) := Arv.new A32 hs.1
              refine own_go (x' := T32.setTop (mkF m 51 #[.val (.ref ao0), .val (.int p1), .val (.int p2), .val (.int (3 : Int32)), .val (.int p2)] [(.ref b32), (.int (3 : Int32)), (.ref ar)])) st32 ?_
              obtain ⟨cl33, Ar33, q33, Sz33, Nn33, Hh33, Gg33⟩ := V_ar
              have hin33 : ¬ ((3 : Int32) < 0 ∨ cl33.slots.size ≤ ((3 : Int32)).toNatClampNeg) := inb_of Sz33 ⟨by decide, by decide⟩
              obtain ⟨T33, h33, X33, e33, W33, st33⟩ := stR X32 hx hZ e32 Ar33 (j := (3 : Int32)) hin33 rfl (Sto.ofVA Ar33 q33 O_ar (Ins.self E_b32)) (g := (mkF m 51 #[.val (.ref ao0), .val (.int p1), .val (.int p2), .val (.int (3 : Int32)), .val (.int p2)] [(.ref b32), (.int (3 : Int32)), (.ref ar)])) rfl rfl (hb hby d3_51)
              refine own_go (x' := T33.setTop (mkF m 52 #[.val (.ref ao0), .val (.int p1), .val (.int p2), .val (.int (3 : Int32)), .val (.int p2)] [])) st33 ?_
              replace F_ao0_bytes := Fld.other W33 F_ao0_bytes (Or.inl ne_ao0_ar)
              replace V_b0 := V_b0.other W33 ne_b0_ar
              replace V_b1 := V_b1.other W33 ne_b1_ar
              replace V_b2 := V_b2.other W33 ne_b2_ar
              replace E_b7 := Exa.wr W33 E_b7
              replace V_b7 := V_b7.other W33 (Ne.symm ne_ar_b7)
              replace E_b17 := Exa.wr W33 E_b17
              replace V_b17 := V_b17.other W33 (Ne.symm ne_ar_b17)
              replace E_b26 := Exa.wr W33 E_b26
              replace V_b26 := V_b26.other W33 (Ne.symm ne_ar_b26)
              replace E_b32 := Exa.wr W33 E_b32
              replace V_b32 := V_b32.other W33 (Ne.symm ne_ar_b32)
              replace Zs := Nat.le_trans Zs (Keep.of_wr W33).1
              replace Nf := Fr.snoc X33 Nf g_ar
              replace Kp := Kp.wr W33 (Or.inl (by simp))
              have V_ar : Arv Z h33 ar kc (.array .byte) (4 : Int32) [(.ref b7), (.ref b17), (.ref b26), (.ref b32)] .null := Arv.set Ar33 q33 Sz33 Nn33 Hh33 Gg33 rfl W33 3 rfl (Nat.le_of_ble_eq_true rfl)
              refine own_go (x' := T33.setTop (mkF m 2 #[.val (.ref ao0), .val (.int p1), .val (.int p2), .val (.int ((3 : Int32) + (1 : Int32))), .val (.int p2)] [])) (fun _ k => XS.iinc X33.here hx rfl (hb hby d3_52) rfl (l' := #[.val (.ref ao0), .val (.int p1), .val (.int p2), .val (.int ((3 : Int32) + (1 : Int32))), .val (.int p2)]) rfl (XS.goto X33.here hx rfl (pc0 := 55) (pc' := 2) rfl (hb hby d3_55) (by decide) (by decide) k)) ?_
              rw [show ((3 : Int32) + (1 : Int32)) = (4 : Int32) from by decide +kernel]
              refine own_go (x' := T33.setTop (mkF m 59 #[.val (.ref ao0), .val (.int p1), .val (.int p2), .val (.int (4 : Int32)), .val (.int p2)] [(.ref ao0)])) (fun _ k => XS.iloadN X33.here hx rfl (hb hby d3_2) rfl (XS.iloadN X33.here hx rfl (hb hby d3_3) rfl (XS.icmpYes X33.here hx rfl (pc0 := 4) (pc' := 58) rfl (hb hby d3_4) rfl (flt hu).2.1 (by decide) (by decide) (XS.aloadN X33.here hx rfl (hb hby d3_58) rfl rfl k)))) ?_
              obtain ⟨T34, X34, e34, st34⟩ := getF X33 hx hZ hown (host := "") (Or.inl (own_w hw 11 rfl)) Via.refl e33 F_ao0_bytes (g := (mkF m 59 #[.val (.ref ao0), .val (.int p1), .val (.int p2), .val (.int (4 : Int32)), .val (.int p2)] [(.ref ao0)])) rfl rfl (hb hby d3_59)
              refine own_go (x' := T34.setTop (mkF m 62 #[.val (.ref ao0), .val (.int p1), .val (.int p2), .val (.int (4 : Int32)), .val (.int p2)] [(.ref ar)])) st34 ?_
              refine own_retR X34 hx hlk hret rfl rfl (hb hby d3_62) ?_ (by decide) (by decide)
              rw [e34]
              exact ⟨(.ref b7), (.ref b17), (.ref b26), (.ref b32), rfl, Nf, Kp, V_ar, Or.inr ⟨b7, k7, rfl, sz_b7, V_b7, hc4, hc39⟩, Or.inr ⟨b17, k17, rfl, sz_b17, V_b17, hc4_9, hc39_15⟩, Or.inr ⟨b26, k26, rfl, sz_b26, V_b26, hc4_19, hc39_15⟩, Or.inr ⟨b32, k32, rfl, V_b32, hc4_28⟩⟩
            · refine own_go (x' := T27.setTop (mkF m 59 #[.val (.ref ao0), .val (.int p1), .val (.int p2), .val (.int (3 : Int32)), .val (.int p2)] [(.ref ao0)])) (fun _ k => XS.icmpYes X27.here hx rfl (pc0 := 4) (pc' := 58) rfl (hb hby d3_4) rfl (flt hc4_28).2.1 (by decide) (by decide) (XS.aloadN X27.here hx rfl (hb hby d3_58) rfl rfl k)) ?_
              obtain ⟨T35, X35, e35, st35⟩ := getF X27 hx hZ hown (host := "") (Or.inl (own_w hw 11 rfl)) Via.refl e27 F_ao0_bytes (g := (mkF m 59 #[.val (.ref ao0), .val (.int p1), .val (.int p2), .val (.int (3 : Int32)), .val (.int p2)] [(.ref ao0)])) rfl rfl (hb hby d3_59)
              refine own_go (x' := T35.setTop (mkF m 62 #[.val (.ref ao0), .val (.int p1), .val (.int p2), .val (.int (3 : Int32)), .val (.int p2)] [(.ref ar)])) st35 ?_
              refine own_retR X35 hx hlk hret rfl rfl (hb hby d3_62) ?_ (by decide) (by decide)
              rw [e35]
              exact ⟨(.ref b7), (.ref b17), (.ref b26), .null, rfl, Nf, Kp, V_ar, Or.inr ⟨b7, k7, rfl, sz_b7, V_b7, hc4, hc39⟩, Or.inr ⟨b17, k17, rfl, sz_b17, V_b17, hc4_9, hc39_15⟩, Or.inr ⟨b26, k26, rfl, sz_b26, V_b26, hc4_19, hc39_15⟩, Or.inl ⟨rfl, hc4_28⟩⟩
          · refine own_go (x' := T18.setTop (mkF m 59 #[.val (.ref ao0), .val (.int p1), .val (.int p2), .val (.int (2 : Int32)), .val (.int p2)] [(.ref ao0)])) (fun _ k => XS.icmpYes X18.here hx rfl (pc0 := 4) (pc' := 58) rfl (hb hby d3_4) rfl (flt hc4_19).2.1 (by decide) (by decide) (XS.aloadN X18.here hx rfl (hb hby d3_58) rfl rfl k)) ?_
            obtain ⟨T36, X36, e36, st36⟩ := getF X18 hx hZ hown (host := "") (Or.inl (own_w hw 11 rfl)) Via.refl e18 F_ao0_bytes (g := (mkF m 59 #[.val (.ref ao0), .val (.int p1), .val (.int p2), .val (.int (2 : Int32)), .val (.int p2)] [(.ref ao0)])) rfl rfl (hb hby d3_59)
            refine own_go (x' := T36.setTop (mkF m 62 #[.val (.ref ao0), .val (.int p1), .val (.int p2), .val (.int (2 : Int32)), .val (.int p2)] [(.ref ar)])) st36 ?_
            refine own_retR X36 hx hlk hret rfl rfl (hb hby d3_62) ?_ (by decide) (by decide)
            rw [e36]
            exact ⟨(.ref b7), (.ref b17), (.ref b2), .null, rfl, Nf, Kp, V_ar, Or.inr ⟨b7, k7, rfl, sz_b7, V_b7, hc4, hc39⟩, Or.inr ⟨b17, k17, rfl, sz_b17, V_b17, hc4_9, hc39_15⟩, Or.inl ⟨rfl, Or.inl hc4_19⟩, Or.inl ⟨rfl, (own_le hc4_19 (by decide))⟩⟩
        · refine own_go (x' := T12.setTop (mkF m 2 #[.val (.ref ao0), .val (.int p1), .val (.int p2), .val (.int ((1 : Int32) + (1 : Int32))), .val (.int p2)] [])) (fun _ k => XS.icmpYes X12.here hx rfl (pc0 := 39) (pc' := 52) rfl (hb hby d3_39) rfl (flt hc39_15).2.1 (by decide) (by decide) (XS.iinc X12.here hx rfl (hb hby d3_52) rfl (l' := #[.val (.ref ao0), .val (.int p1), .val (.int p2), .val (.int ((1 : Int32) + (1 : Int32))), .val (.int p2)]) rfl (XS.goto X12.here hx rfl (pc0 := 55) (pc' := 2) rfl (hb hby d3_55) (by decide) (by decide) k))) ?_
          rw [show ((1 : Int32) + (1 : Int32)) = (2 : Int32) from by decide +kernel]
          refine own_go (x' := T12.setTop (mkF m 4 #[.val (.ref ao0), .val (.int p1), .val (.int p2), .val (.int (2 : Int32)), .val (.int p2)] [(.int p1), (.int (2 : Int32))])) (fun _ k => XS.iloadN X12.here hx rfl (hb hby d3_2) rfl (XS.iloadN X12.here hx rfl (hb hby d3_3) rfl k)) ?_
          by_cases hc4_37 : (2 : Int32) < p1
          · refine own_go (x' := T12.setTop (mkF m 22 #[.val (.ref ao0), .val (.int p1), .val (.int p2), .val (.int (2 : Int32)), .val (.int p2)] [(.ref ao0)])) (fun _ k => XS.icmpNo X12.here hx rfl (hb hby d3_4) rfl (tlt hc4_37).2.1 (XS.iloadN X12.here hx rfl (hb hby d3_7) rfl (XS.ifYes X12.here hx rfl (pc0 := 8) (pc' := 18) rfl (hb hby d3_8) rfl ((if0 _ _).trans (feq (by decide +kernel : ¬ ((2 : Int32) = (0 : Int32)))).2) (by decide) (by decide) (XS.iloadN X12.here hx rfl (hb hby d3_18) rfl (XS.istore X12.here hx rfl (hb hby d3_19) rfl (l' := #[.val (.ref ao0), .val (.int p1), .val (.int p2), .val (.int (2 : Int32)), .val (.int p2)]) rfl (XS.aloadN X12.here hx rfl (hb hby d3_21) rfl rfl k)))))) ?_
            obtain ⟨T38, X38, e38, st38⟩ := getF X12 hx hZ hown (host := "") (Or.inl (own_w hw 11 rfl)) Via.refl e12 F_ao0_bytes (g := (mkF m 22 #[.val (.ref ao0), .val (.int p1), .val (.int p2), .val (.int (2 : Int32)), .val (.int p2)] [(.ref ao0)])) rfl rfl (hb hby d3_22)
            refine own_go (x' := T38.setTop (mkF m 25 #[.val (.ref ao0), .val (.int p1), .val (.int p2), .val (.int (2 : Int32)), .val (.int p2)] [(.ref ar)])) st38 ?_
            refine own_go (x' := T38.setTop (mkF m 26 #[.val (.ref ao0), .val (.int p1), .val (.int p2), .val (.int (2 : Int32)), .val (.int p2)] [(.int (2 : Int32)), (.ref ar)])) (fun _ k => XS.iloadN X38.here hx rfl (hb hby d3_25) rfl k) ?_
            obtain ⟨cl39, Ar39, q39, Sz39, Nn39, Hh39, Gg39⟩ := id V_ar
            have hin39 : ¬ ((2 : Int32) < 0 ∨ cl39.slots.size ≤ ((2 : Int32)).toNatClampNeg) := inb_of Sz39 ⟨by decide, by decide⟩
            refine own_go (x' := T38.setTop (mkF m 27 #[.val (.ref ao0), .val (.int p1), .val (.int p2), .val (.int (2 : Int32)), .val (.int p2)] [(.ref b2)])) (X38.aaload hx (j := (2 : Int32)) (v := (.ref b2)) (Eq.trans (congrArg (fun h_ => h_[_]?) e38) Ar39.1) (State.isArrayOf_alike hZ.alike Ar39.2.1) rfl Ar39.2.2 hin39 (Hh39.at hin39 rfl) (g := (mkF m 26 #[.val (.ref ao0), .val (.int p1), .val (.int p2), .val (.int (2 : Int32)), .val (.int p2)] [(.int (2 : Int32)), (.ref ar)])) rfl rfl (hb hby d3_26)) ?_
            refine own_go (x' := T38.setTop (mkF m 31 #[.val (.ref ao0), .val (.int p1), .val (.int p2), .val (.int (2 : Int32)), .val (.int p2)] [(.ref ao0)])) (fun _ k => XS.ifnullNo X38.here hx rfl (hb hby d3_27) rfl (XS.aloadN X38.here hx rfl (hb hby d3_30) rfl rfl k)) ?_
            obtain ⟨T40, X40, e40, st40⟩ := getF X38 hx hZ hown (host := "") (Or.inl (own_w hw 11 rfl)) Via.refl e38 F_ao0_bytes (g := (mkF m 31 #[.val (.ref ao0), .val (.int p1), .val (.int p2), .val (.int (2 : Int32)), .val (.int p2)] [(.ref ao0)])) rfl rfl (hb hby d3_31)
            refine own_go (x' := T40.setTop (mkF m 34 #[.val (.ref ao0), .val (.int p1), .val (.int p2), .val (.int (2 : Int32)), .val (.int p2)] [(.ref ar)])) st40 ?_
            refine own_go (x' := T40.setTop (mkF m 35 #[.val (.ref ao0), .val (.int p1), .val (.int p2), .val (.int (2 : Int32)), .val (.int p2)] [(.int (2 : Int32)), (.ref ar)])) (fun _ k => XS.iloadN X40.here hx rfl (hb hby d3_34) rfl k) ?_
            obtain ⟨cl41, Ar41, q41, Sz41, Nn41, Hh41, Gg41⟩ := id V_ar
            have hin41 : ¬ ((2 : Int32) < 0 ∨ cl41.slots.size ≤ ((2 : Int32)).toNatClampNeg) := inb_of Sz41 ⟨by decide, by decide⟩
            refine own_go (x' := T40.setTop (mkF m 36 #[.val (.ref ao0), .val (.int p1), .val (.int p2), .val (.int (2 : Int32)), .val (.int p2)] [(.ref b2)])) (X40.aaload hx (j := (2 : Int32)) (v := (.ref b2)) (Eq.trans (congrArg (fun h_ => h_[_]?) e40) Ar41.1) (State.isArrayOf_alike hZ.alike Ar41.2.1) rfl Ar41.2.2 hin41 (Hh41.at hin41 rfl) (g := (mkF m 35 #[.val (.ref ao0), .val (.int p1), .val (.int p2), .val (.int (2 : Int32)), .val (.int p2)] [(.int (2 : Int32)), (.ref ar)])) rfl rfl (hb hby d3_35)) ?_
            obtain ⟨cl42, Ar42, -, Sz42, Nn42, -, -⟩ := id V_b2
            refine own_go (x' := T40.setTop (mkF m 37 #[.val (.ref ao0), .val (.int p1), .val (.int p2), .val (.int (2 : Int32)), .val (.int p2)] [(.int n1)])) (fun t k => X40.arraylength hx (Eq.trans (congrArg (fun h_ => h_[_]?) e40) Ar42.1) (State.isArrayOf_alike hZ.alike Ar42.2.1) (g := (mkF m 36 #[.val (.ref ao0), .val (.int p1), .val (.int p2), .val (.int (2 : Int32)), .val (.int p2)] [(.ref b2)])) rfl rfl (hb hby d3_36) t (by rw [len_of Sz42 Nn42]; exact k)) ?_
            refine own_go (x' := T40.setTop (mkF m 2 #[.val (.ref ao0), .val (.int p1), .val (.int p2), .val (.int ((2 : Int32) + (1 : Int32))), .val (.int p2)] [])) (fun _ k => XS.iload X40.here hx rfl (hb hby d3_37) rfl (XS.icmpYes X40.here hx rfl (pc0 := 39) (pc' := 52) rfl (hb hby d3_39) rfl (flt hc39_15).2.1 (by decide) (by decide) (XS.iinc X40.here hx rfl (hb hby d3_52) rfl (l' := #[.val (.ref ao0), .val (.int p1), .val (.int p2), .val (.int ((2 : Int32) + (1 : Int32))), .val (.int p2)]) rfl (XS.goto X40.here hx rfl (pc0 := 55) (pc' := 2) rfl (hb hby d3_55) (by decide) (by decide) k)))) ?_
            rw [show ((2 : Int32) + (1 : Int32)) = (3 : Int32) from by decide +kernel]
            refine own_go (x' := T40.setTop (mkF m 4 #[.val (.ref ao0), .val (.int p1), .val (.int p2), .val (.int (3 : Int32)), .val (.int p2)] [(.int p1), (.int (3 : Int32))])) (fun _ k => XS.iloadN X40.here hx rfl (hb hby d3_2) rfl (XS.iloadN X40.here hx rfl (hb hby d3_3) rfl k)) ?_
            by_cases hc4_43 : (3 : Int32) < p1
            · refine own_go (x' := T40.setTop (mkF m 22 #[.val (.ref ao0), .val (.int p1), .val (.int p2), .val (.int (3 : Int32)), .val (.int p2)] [(.ref ao0)])) (fun _ k => XS.icmpNo X40.here hx rfl (hb hby d3_4) rfl (tlt hc4_43).2.1 (XS.iloadN X40.here hx rfl (hb hby d3_7) rfl (XS.ifYes X40.here hx rfl (pc0 := 8) (pc' := 18) rfl (hb hby d3_8) rfl ((if0 _ _).trans (feq (by decide +kernel : ¬ ((3 : Int32) = (0 : Int32)))).2) (by decide) (by decide) (XS.iloadN X40.here hx rfl (hb hby d3_18) rfl (XS.istore X40.here hx rfl (hb hby d3_19) rfl (l' := #[.val (.ref ao0), .val (.int p1), .val (.int p2), .val (.int (3 : Int32)), .val (.int p2)]) rfl (XS.aloadN X40.here hx rfl (hb hby d3_21) rfl rfl k)))))) ?_
              obtain ⟨T44, X44, e44, st44⟩ := getF X40 hx hZ hown (host := "") (Or.inl (own_w hw 11 rfl)) Via.refl e40 F_ao0_bytes (g := (mkF m 22 #[.val (.ref ao0), .val (.int p1), .val (.int p2), .val (.int (3 : Int32)), .val (.int p2)] [(.ref ao0)])) rfl rfl (hb hby d3_22)
              refine own_go (x' := T44.setTop (mkF m 25 #[.val (.ref ao0), .val (.int p1), .val (.int p2), .val (.int (3 : Int32)), .val (.int p2)] [(.ref ar)])) st44 ?_
              refine own_go (x' := T44.setTop (mkF m 26 #[.val (.ref ao0), .val (.int p1), .val (.int p2), .val (.int (3 : Int32)), .val (.int p2)] [(.int (3 : Int32)), (.ref ar)])) (fun _ k => XS.iloadN X44.here hx rfl (hb hby d3_25) rfl k) ?_
              obtain ⟨cl45, Ar45, q45, Sz45, Nn45, Hh45, Gg45⟩ := id V_ar
              have hin45 : ¬ ((3 : Int32) < 0 ∨ cl45.slots.size ≤ ((3 : Int32)).toNatClampNeg) := inb_of Sz45 ⟨by decide, by decide⟩
              refine own_go (x' := T44.setTop (mkF m 27 #[.val (.ref ao0), .val (.int p1), .val (.int p2), .val (.int (3 : Int32)), .val (.int p2)] [.null])) (X44.aaload hx (j := (3 : Int32)) (v := .null) (Eq.trans (congrArg (fun h_ => h_[_]?) e44) Ar45.1) (State.isArrayOf_alike hZ.alike Ar45.2.1) rfl Ar45.2.2 hin45 (Hh45.at hin45 rfl) (g := (mkF m 26 #[.val (.ref ao0), .val (.int p1), .val (.int p2), .val (.int (3 : Int32)), .val (.int p2)] [(.int (3 : Int32)), (.ref ar)])) rfl rfl (hb hby d3_26)) ?_
              refine own_go (x' := T44.setTop (mkF m 43 #[.val (.ref ao0), .val (.int p1), .val (.int p2), .val (.int (3 : Int32)), .val (.int p2)] [(.ref ao0)])) (fun _ k => XS.ifnullYes X44.here hx rfl (pc0 := 27) (pc' := 42) rfl (hb hby d3_27) rfl (by decide) (by decide) (XS.aloadN X44.here hx rfl (hb hby d3_42) rfl rfl k)) ?_
              obtain ⟨T46, X46, e46, st46⟩ := getF X44 hx hZ hown (host := "") (Or.inl (own_w hw 11 rfl)) Via.refl e44 F_ao0_bytes (g := (mkF m 43 #[.val (.ref ao0), .val (.int p1), .val (.int p2), .val (.int (3 : Int32)), .val (.int p2)] [(.ref ao0)])) rfl rfl (hb hby d3_43)
              refine own_go (x' := T46.setTop (mkF m 46 #[.val (.ref ao0), .val (.int p1), .val (.int p2), .val (.int (3 : Int32)), .val (.int p2)] [(.ref ar)])) st46 ?_
              refine own_go (x' := T46.setTop (mkF m 49 #[.val (.ref ao0), .val (.int p1), .val (.int p2), .val (.int (3 : Int32)), .val (.int p2)] [(.int p2), (.int (3 : Int32)), (.ref ar)])) (fun _ k => XS.iloadN X46.here hx rfl (hb hby d3_46) rfl (XS.iload X46.here hx rfl (hb hby d3_47) rfl k)) ?_
              obtain ⟨T47, h47, k47, X47, e47, E47, A47, Q47, st47⟩ := newPE X46 hx hZ (own_w hw 29 rfl) e46 (g := (mkF m 49 #[.val (.ref ao0), .val (.int p1), .val (.int p2), .val (.int (3 : Int32)), .val (.int p2)] [(.int p2), (.int (3 : Int32)), (.ref ar)])) rfl (hb hby d3_49) rfl hs.1 (cap := 16383) hs.2 (by decide) (by decide) (by decide) (ad := "[B") (by decide)
              obtain ⟨b47, g47⟩ : ∃ z, z = h8.size := ⟨_, rfl⟩
              rw [← g47] at A47 st47
              rw [← g47] at Q47
              have ne_ao0_b47 : ao0 ≠ b47 := Nat.ne_of_lt (Nat.lt_of_lt_of_le F_ao0_bytes.lt (Nat.le_of_eq g47.symm))
              have ne_b0_b47 : b0 ≠ b47 := Nat.ne_of_lt (Nat.lt_of_lt_of_le V_b0.lt (Nat.le_of_eq g47.symm))
              have ne_b1_b47 : b1 ≠ b47 := Nat.ne_of_lt (Nat.lt_of_lt_of_le V_b1.lt (Nat.le_of_eq g47.symm))
              have ne_b2_b47 : b2 ≠ b47 := Nat.ne_of_lt (Nat.lt_of_lt_of_le V_b2.lt (Nat.le_of_eq g47.symm))
              have ne_b7_b47 : b7 ≠ b47 := Nat.ne_of_lt (Nat.lt_of_lt_of_le E_b7.lt (Nat.le_of_eq g47.symm))
              have ne_ar_b47 : ar ≠ b47 := Nat.ne_of_lt (Nat.lt_of_lt_of_le V_ar.lt (Nat.le_of_eq g47.symm))
              have g_b47 : n0 ≤ b47 := Nat.le_trans Zs (Nat.le_of_eq g47.symm)
              have sz_b47 : h0.size ≤ b47 := Nat.le_trans Kp.1 (Nat.le_of_eq g47.symm)
              replace F_ao0_bytes := Fld.ext E47 F_ao0_bytes
              replace V_b0 := V_b0.ext E47
              replace V_b1 := V_b1.ext E47
              replace V_b2 := V_b2.ext E47
              replace E_b7 := Exa.ext E47 E_b7
              replace V_b7 := V_b7.ext E47
              replace V_ar := V_ar.ext E47
              replace Zs := Nat.le_trans Zs E47.1
              replace Kp := Kp.ext E47
              have E_b47 := Q47
              have V_b47 : Arv Z h47 b47 k47 .byte p2 [] (.int (0 : Int32)) := Arv.new A47 hs.1
              refine own_go (x' := T47.setTop (mkF m 51 #[.val (.ref ao0), .val (.int p1), .val (.int p2), .val (.int (3 : Int32)), .val (.int p2)] [(.ref b47), (.int (3 : Int32)), (.ref ar)])) st47 ?_
              obtain ⟨cl48, Ar48, q48, Sz48, Nn48, Hh48, Gg48⟩ := V_ar
              have hin48 : ¬ ((3 : Int32) < 0 ∨ cl48.slots.size ≤ ((3 : Int32)).toNatClampNeg) := inb_of Sz48 ⟨by decide, by decide⟩
              obtain ⟨T48, h48, X48, e48, W48, st48⟩ := stR X47 hx hZ e47 Ar48 (j := (3 : Int32)) hin48 rfl (Sto.ofVA Ar48 q48 O_ar (Ins.self E_b47)) (g := (mkF m 51 #[.val (.ref ao0), .val (.int p1), .val (.int p2), .val (.int (3 : Int32)), .val (.int p2)] [(.ref b47), (.int (3 : Int32)), (.ref ar)])) rfl rfl (hb hby d3_51)
              refine own_go (x' := T48.setTop (mkF m 52 #[.val (.ref ao0), .val (.int p1), .val (.int p2), .val (.int (3 : Int32)), .val (.int p2)] [])) st48 ?_
              replace F_ao0_bytes := Fld.other W48 F_ao0_bytes (Or.inl ne_ao0_ar)
              replace V_b0 := V_b0.other W48 ne_b0_ar
              replace V_b1 := V_b1.other W48 ne_b1_ar
              replace V_b2 := V_b2.other W48 ne_b2_ar
              replace E_b7 := Exa.wr W48 E_b7
              replace V_b7 := V_b7.other W48 (Ne.symm ne_ar_b7)
              replace E_b47 := Exa.wr W48 E_b47
              replace V_b47 := V_b47.other W48 (Ne.symm ne_ar_b47)
              replace Zs := Nat.le_trans Zs (Keep.of_wr W48).1
              replace Nf := Fr.snoc X48 Nf g_ar
              replace Kp := Kp.wr W48 (Or.inl (by simp))
              have V_ar : Arv Z h48 ar kc (.array .byte) (4 : Int32) [(.ref b7), (.ref b1), (.ref b2), (.ref b47)] .null := Arv.set Ar48 q48 Sz48 Nn48 Hh48 Gg48 rfl W48 3 rfl (Nat.le_of_ble_eq_true rfl)
              refine own_go (x' := T48.setTop (mkF m 2 #[.val (.ref ao0), .val (.int p1), .val (.int p2), .val (.int ((3 : Int32) + (1 : Int32))), .val (.int p2)] [])) (fun _ k => XS.iinc X48.here hx rfl (hb hby d3_52) rfl (l' := #[.val (.ref ao0), .val (.int p1), .val (.int p2), .val (.int ((3 : Int32) + (1 : Int32))), .val (.int p2)]) rfl (XS.goto X48.here hx rfl (pc0 := 55) (pc' := 2) rfl (hb hby d3_55) (by decide) (by decide) k)) ?_
              rw [show ((3 : Int32) + (1 : Int32)) = (4 : Int32) from by decide +kernel]
              refine own_go (x' := T48.setTop (mkF m 59 #[.val (.ref ao0), .val (.int p1), .val (.int p2), .val (.int (4 : Int32)), .val (.int p2)] [(.ref ao0)])) (fun _ k => XS.iloadN X48.here hx rfl (hb hby d3_2) rfl (XS.iloadN X48.here hx rfl (hb hby d3_3) rfl (XS.icmpYes X48.here hx rfl (pc0 := 4) (pc' := 58) rfl (hb hby d3_4) rfl (flt hu).2.1 (by decide) (by decide) (XS.aloadN X48.here hx rfl (hb hby d3_58) rfl rfl k)))) ?_
              obtain ⟨T49, X49, e49, st49⟩ := getF X48 hx hZ hown (host := "") (Or.inl (own_w hw 11 rfl)) Via.refl e48 F_ao0_bytes (g := (mkF m 59 #[.val (.ref ao0), .val (.int p1), .val (.int p2), .val (.int (4 : Int32)), .val (.int p2)] [(.ref ao0)])) rfl rfl (hb hby d3_59)
              refine own_go (x' := T49.setTop (mkF m 62 #[.val (.ref ao0), .val (.int p1), .val (.int p2), .val (.int (4 : Int32)), .val (.int p2)] [(.ref ar)])) st49 ?_
              refine own_retR X49 hx hlk hret rfl rfl (hb hby d3_62) ?_ (by decide) (by decide)
              rw [e49]
              exact ⟨(.ref b7), (.ref b1), (.ref b2), (.ref b47), rfl, Nf, Kp, V_ar, Or.inr ⟨b7, k7, rfl, sz_b7, V_b7, hc4, hc39⟩, Or.inl ⟨rfl, Or.inr hc39_15⟩, Or.inl ⟨rfl, Or.inr hc39_15⟩, Or.inr ⟨b47, k47, rfl, V_b47, hc4_43⟩⟩
            · refine own_go (x' := T40.setTop (mkF m 59 #[.val (.ref ao0), .val (.int p1), .val (.int p2), .val (.int (3 : Int32)), .val (.int p2)] [(.ref ao0)])) (fun _ k => XS.icmpYes X40.here hx rfl (pc0 := 4) (pc' := 58) rfl (hb hby d3_4) rfl (flt hc4_43).2.1 (by decide) (by decide) (XS.aloadN X40.here hx rfl (hb hby d3_58) rfl rfl k)) ?_
              obtain ⟨T50, X50, e50, st50⟩ := getF X40 hx hZ hown (host := "") (Or.inl (own_w hw 11 rfl)) Via.refl e40 F_ao0_bytes (g := (mkF m 59 #[.val (.ref ao0), .val (.int p1), .val (.int p2), .val (.int (3 : Int32)), .val (.int p2)] [(.ref ao0)])) rfl rfl (hb hby d3_59)
              refine own_go (x' := T50.setTop (mkF m 62 #[.val (.ref ao0), .val (.int p1), .val (.int p2), .val (.int (3 : Int32)), .val (.int p2)] [(.ref ar)])) st50 ?_
              refine own_retR X50 hx hlk hret rfl rfl (hb hby d3_62) ?_ (by decide) (by decide)
              rw [e50]
              exact ⟨(.ref b7), (.ref b1), (.ref b2), .null, rfl, Nf, Kp, V_ar, Or.inr ⟨b7, k7, rfl, sz_b7, V_b7, hc4, hc39⟩, Or.inl ⟨rfl, Or.inr hc39_15⟩, Or.inl ⟨rfl, Or.inr hc39_15⟩, Or.inl ⟨rfl, hc4_43⟩⟩
          · refine own_go (x' := T12.setTop (mkF m 59 #[.val (.ref ao0), .val (.int p1), .val (.int p2), .val (.int (2 : Int32)), .val (.int p2)] [(.ref ao0)])) (fun _ k => XS.icmpYes X12.here hx rfl (pc0 := 4) (pc' := 58) rfl (hb hby d3_4) rfl (flt hc4_37).2.1 (by decide) (by decide) (XS.aloadN X12.here hx rfl (hb hby d3_58) rfl rfl k)) ?_
            obtain ⟨T51, X51, e51, st51⟩ := getF X12 hx hZ hown (host := "") (Or.inl (own_w hw 11 rfl)) Via.refl e12 F_ao0_bytes (g := (mkF m 59 #[.val (.ref ao0), .val (.int p1), .val (.int p2), .val (.int (2 : Int32)), .val (.int p2)] [(.ref ao0)])) rfl rfl (hb hby d3_59)
            refine own_go (x' := T51.setTop (mkF m 62 #[.val (.ref ao0), .val (.int p1), .val (.int p2), .val (.int (2 : Int32)), .val (.int p2)] [(.ref ar)])) st51 ?_
            refine own_retR X51 hx hlk hret rfl rfl (hb hby d3_62) ?_ (by decide) (by decide)
            rw [e51]
            exact ⟨(.ref b7), (.ref b1), (.ref b2), .null, rfl, Nf, Kp, V_ar, Or.inr ⟨b7, k7, rfl, sz_b7, V_b7, hc4, hc39⟩, Or.inl ⟨rfl, Or.inr hc39_15⟩, Or.inl ⟨rfl, Or.inl hc4_37⟩, Or.inl ⟨rfl, (own_le hc4_37 (by decide))⟩⟩
      · refine own_go (x' := T8.setTop (mkF m 59 #[.val (.ref ao0), .val (.int p1), .val (.int p2), .val (.int (1 : Int32)), .val (.int (p2 + (64 : Int32)))] [(.ref ao0)])) (fun _ k => XS.icmpYes X8.here hx rfl (pc0 := 4) (pc' := 58) rfl (hb hby d3_4) rfl (flt hc4_9).2.1 (by decide) (by decide) (XS.aloadN X8.here hx rfl (hb hby d3_58) rfl rfl k)) ?_
        obtain ⟨T52, X52, e52, st52⟩ := getF X8 hx hZ hown (host := "") (Or.inl (own_w hw 11 rfl)) Via.refl e8 F_ao0_bytes (g := (mkF m 59 #[.val (.ref ao0), .val (.int p1), .val (.int p2), .val (.int (1 : Int32)), .val (.int (p2 + (64 : Int32)))] [(.ref ao0)])) rfl rfl (hb hby d3_59)
        refine own_go (x' := T52.setTop (mkF m 62 #[.val (.ref ao0), .val (.int p1), .val (.int p2), .val (.int (1 : Int32)), .val (.int (p2 + (64 : Int32)))] [(.ref ar)])) st52 ?_
        refine own_retR X52 hx hlk hret rfl rfl (hb hby d3_62) ?_ (by decide) (by decide)
        rw [e52]
        exact ⟨(.ref b7), (.ref b1), (.ref b2), .null, rfl, Nf, Kp, V_ar, Or.inr ⟨b7, k7, rfl, sz_b7, V_b7, hc4, hc39⟩, Or.inl ⟨rfl, Or.inl hc4_9⟩, Or.inl ⟨rfl, Or.inl (own_le hc4_9 (by decide))⟩, Or.inl ⟨rfl, (own_le hc4_9 (by decide))⟩⟩
    · refine own_go (x' := T3.setTop (mkF m 2 #[.val (.ref ao0), .val (.int p1), .val (.int p2), .val (.int ((0 : Int32) + (1 : Int32))), .val (.int (p2 + (64 : Int32)))] [])) (fun _ k => XS.icmpYes X3.here hx rfl (pc0 := 39) (pc' := 52) rfl (hb hby d3_39) rfl (flt hc39).2.1 (by decide) (by decide) (XS.iinc X3.here hx rfl (hb hby d3_52) rfl (l' := #[.val (.ref ao0), .val (.int p1), .val (.int p2), .val (.int ((0 : Int32) + (1 : Int32))), .val (.int (p2 + (64 : Int32)))]) rfl (XS.goto X3.here hx rfl (pc0 := 55) (pc' := 2) rfl (hb hby d3_55) (by decide) (by decide) k))) ?_
      rw [show ((0 : Int32) + (1 : Int32)) = (1 : Int32) from by decide +kernel]
      refine own_go (x' := T3.setTop (mkF m 4 #[.val (.ref ao0), .val (.int p1), .val (.int p2), .val (.int (1 : Int32)), .val (.int (p2 + (64 : Int32)))] [(.int p1), (.int (1 : Int32))])) (fun _ k => XS.iloadN X3.here hx rfl (hb hby d3_2) rfl (XS.iloadN X3.here hx rfl (hb hby d3_3) rfl k)) ?_
      by_cases hc4_53 : (1 : Int32) < p1
      · refine own_go (x' := T3.setTop (mkF m 22 #[.val (.ref ao0), .val (.int p1), .val (.int p2), .val (.int (1 : Int32)), .val (.int p2)] [(.ref ao0)])) (fun _ k => XS.icmpNo X3.here hx rfl (hb hby d3_4) rfl (tlt hc4_53).2.1 (XS.iloadN X3.here hx rfl (hb hby d3_7) rfl (XS.ifYes X3.here hx rfl (pc0 := 8) (pc' := 18) rfl (hb hby d3_8) rfl ((if0 _ _).trans (feq (by decide +kernel : ¬ ((1 : Int32) = (0 : Int32)))).2) (by decide) (by decide) (XS.iloadN X3.here hx rfl (hb hby d3_18) rfl (XS.istore X3.here hx rfl (hb hby d3_19) rfl (l' := #[.val (.ref ao0), .val (.int p1), .val (.int p2), .val (.int (1 : Int32)), .val (.int p2)]) rfl (XS.aloadN X3.here hx rfl (hb hby d3_21) rfl rfl k)))))) ?_
        obtain ⟨T54, X54, e54, st54⟩ := getF X3 hx hZ hown (host := "") (Or.inl (own_w hw 11 rfl)) Via.refl e3 F_ao0_bytes (g := (mkF m 22 #[.val (.ref ao0), .val (.int p1), .val (.int p2), .val (.int (1 : Int32)), .val (.int p2)] [(.ref ao0)])) rfl rfl (hb hby d3_22)
        refine own_go (x' := T54.setTop (mkF m 25 #[.val (.ref ao0), .val (.int p1), .val (.int p2), .val (.int (1 : Int32)), .val (.int p2)] [(.ref ar)])) st54 ?_
        refine own_go (x' := T54.setTop (mkF m 26 #[.val (.ref ao0), .val (.int p1), .val (.int p2), .val (.int (1 : Int32)), .val (.int p2)] [(.int (1 : Int32)), (.ref ar)])) (fun _ k => XS.iloadN X54.here hx rfl (hb hby d3_25) rfl k) ?_
        obtain ⟨cl55, Ar55, q55, Sz55, Nn55, Hh55, Gg55⟩ := id V_ar
        have hin55 : ¬ ((1 : Int32) < 0 ∨ cl55.slots.size ≤ ((1 : Int32)).toNatClampNeg) := inb_of Sz55 ⟨by decide, by decide⟩
        refine own_go (x' := T54.setTop (mkF m 27 #[.val (.ref ao0), .val (.int p1), .val (.int p2), .val (.int (1 : Int32)), .val (.int p2)] [(.ref b1)])) (X54.aaload hx (j := (1 : Int32)) (v := (.ref b1)) (Eq.trans (congrArg (fun h_ => h_[_]?) e54) Ar55.1) (State.isArrayOf_alike hZ.alike Ar55.2.1) rfl Ar55.2.2 hin55 (Hh55.at hin55 rfl) (g := (mkF m 26 #[.val (.ref ao0), .val (.int p1), .val (.int p2), .val (.int (1 : Int32)), .val (.int p2)] [(.int (1 : Int32)), (.ref ar)])) rfl rfl (hb hby d3_26)) ?_
        refine own_go (x' := T54.setTop (mkF m 31 #[.val (.ref ao0), .val (.int p1), .val (.int p2), .val (.int (1 : Int32)), .val (.int p2)] [(.ref ao0)])) (fun _ k => XS.ifnullNo X54.here hx rfl (hb hby d3_27) rfl (XS.aloadN X54.here hx rfl (hb hby d3_30) rfl rfl k)) ?_
        obtain ⟨T56, X56, e56, st56⟩ := getF X54 hx hZ hown (host := "") (Or.inl (own_w hw 11 rfl)) Via.refl e54 F_ao0_bytes (g := (mkF m 31 #[.val (.ref ao0), .val (.int p1), .val (.int p2), .val (.int (1 : Int32)), .val (.int p2)] [(.ref ao0)])) rfl rfl (hb hby d3_31)
        refine own_go (x' := T56.setTop (mkF m 34 #[.val (.ref ao0), .val (.int p1), .val (.int p2), .val (.int (1 : Int32)), .val (.int p2)] [(.ref ar)])) st56 ?_
        refine own_go (x' := T56.setTop (mkF m 35 #[.val (.ref ao0), .val (.int p1), .val (.int p2), .val (.int (1 : Int32)), .val (.int p2)] [(.int (1 : Int32)), (.ref ar)])) (fun _ k => XS.iloadN X56.here hx rfl (hb hby d3_34) rfl k) ?_
        obtain ⟨cl57, Ar57, q57, Sz57, Nn57, Hh57, Gg57⟩ := id V_ar
        have hin57 : ¬ ((1 : Int32) < 0 ∨ cl57.slots.size ≤ ((1 : Int32)).toNatClampNeg) := inb_of Sz57 ⟨by decide, by decide⟩
        refine own_go (x' := T56.setTop (mkF m 36 #[.val (.ref ao0), .val (.int p1), .val (.int p2), .val (.int (1 : Int32)), .val (.int p2)] [(.ref b1)])) (X56.aaload hx (j := (1 : Int32)) (v := (.ref b1)) (Eq.trans (congrArg (fun h_ => h_[_]?) e56) Ar57.1) (State.isArrayOf_alike hZ.alike Ar57.2.1) rfl Ar57.2.2 hin57 (Hh57.at hin57 rfl) (g := (mkF m 35 #[.val (.ref ao0), .val (.int p1), .val (.int p2), .val (.int (1 : Int32)), .val (.int p2)] [(.int (1 : Int32)), (.ref ar)])) rfl rfl (hb hby d3_35)) ?_
        obtain ⟨cl58, Ar58, -, Sz58, Nn58, -, -⟩ := id V_b1
        refine own_go (x' := T56.setTop (mkF m 37 #[.val (.ref ao0), .val (.int p1), .val (.int p2), .val (.int (1 : Int32)), .val (.int p2)] [(.int n1)])) (fun t k => X56.arraylength hx (Eq.trans (congrArg (fun h_ => h_[_]?) e56) Ar58.1) (State.isArrayOf_alike hZ.alike Ar58.2.1) (g := (mkF m 36 #[.val (.ref ao0), .val (.int p1), .val (.int p2), .val (.int (1 : Int32)), .val (.int p2)] [(.ref b1)])) rfl rfl (hb hby d3_36) t (by rw [len_of Sz58 Nn58]; exact k)) ?_
        refine own_go (x' := T56.setTop (mkF m 39 #[.val (.ref ao0), .val (.int p1), .val (.int p2), .val (.int (1 : Int32)), .val (.int p2)] [(.int p2), (.int n1)])) (fun _ k => XS.iload X56.here hx rfl (hb hby d3_37) rfl k) ?_
        by_cases hc39_59 : n1 < p2
        · refine own_go (x' := T56.setTop (mkF m 43 #[.val (.ref ao0), .val (.int p1), .val (.int p2), .val (.int (1 : Int32)), .val (.int p2)] [(.ref ao0)])) (fun _ k => XS.icmpNo X56.here hx rfl (hb hby d3_39) rfl (tlt hc39_59).2.1 (XS.aloadN X56.here hx rfl (hb hby d3_42) rfl rfl k)) ?_
          obtain ⟨T60, X60, e60, st60⟩ := getF X56 hx hZ hown (host := "") (Or.inl (own_w hw 11 rfl)) Via.refl e56 F_ao0_bytes (g := (mkF m 43 #[.val (.ref ao0), .val (.int p1), .val (.int p2), .val (.int (1 : Int32)), .val (.int p2)] [(.ref ao0)])) rfl rfl (hb hby d3_43)
          refine own_go (x' := T60.setTop (mkF m 46 #[.val (.ref ao0), .val (.int p1), .val (.int p2), .val (.int (1 : Int32)), .val (.int p2)] [(.ref ar)])) st60 ?_
          refine own_go (x' := T60.setTop (mkF m 49 #[.val (.ref ao0), .val (.int p1), .val (.int p2), .val (.int (1 : Int32)), .val (.int p2)] [(.int p2), (.int (1 : Int32)), (.ref ar)])) (fun _ k => XS.iloadN X60.here hx rfl (hb hby d3_46) rfl (XS.iload X60.here hx rfl (hb hby d3_47) rfl k)) ?_
          obtain ⟨T61, h61, k61, X61, e61, E61, A61, Q61, st61⟩ := newPE X60 hx hZ (own_w hw 29 rfl) e60 (g := (mkF m 49 #[.val (.ref ao0), .val (.int p1), .val (.int p2), .val (.int (1 : Int32)), .val (.int p2)] [(.int p2), (.int (1 : Int32)), (.ref ar)])) rfl (hb hby d3_49) rfl hs.1 (cap := 16383) hs.2 (by decide) (by decide) (by decide) (ad := "[B") (by decide)
          obtain ⟨b61, g61⟩ : ∃ z, z = h0.size := ⟨_, rfl⟩
          rw [← g61] at A61 st61
          rw [← g61] at Q61
          have ne_ao0_b61 : ao0 ≠ b61 := Nat.ne_of_lt (Nat.lt_of_lt_of_le F_ao0_bytes.lt (Nat.le_of_eq g61.symm))
          have ne_ar_b61 : ar ≠ b61 := Nat.ne_of_lt (Nat.lt_of_lt_of_le V_ar.lt (Nat.le_of_eq g61.symm))
          have ne_b0_b61 : b0 ≠ b61 := Nat.ne_of_lt (Nat.lt_of_lt_of_le V_b0.lt (Nat.le_of_eq g61.symm))
          have ne_b1_b61 : b1 ≠ b61 := Nat.ne_of_lt (Nat.lt_of_lt_of_le V_b1.lt (Nat.le_of_eq g61.symm))
          have ne_b2_b61 : b2 ≠ b61 := Nat.ne_of_lt (Nat.lt_of_lt_of_le V_b2.lt (Nat.le_of_eq g61.symm))
          have g_b61 : n0 ≤ b61 := Nat.le_trans Zs (Nat.le_of_eq g61.symm)
          have sz_b61 : h0.size ≤ b61 := Nat.le_trans Kp.1 (Nat.le_of_eq g61.symm)
          replace F_ao0_bytes := Fld.ext E61 F_ao0_bytes
          replace V_ar := V_ar.ext E61
          replace V_b0 := V_b0.ext E61
          replace V_b1 := V_b1.ext E61
          replace V_b2 := V_b2.ext E61
          replace Zs := Nat.le_trans Zs E61.1
          replace Kp := Kp.ext E61
          have E_b61 := Q61
          have V_b61 : Arv Z h61 b61 k61 .byte p2 [] (.int (0 : Int32)) := Arv.new A61 hs.1
          refine own_go (x' := T61.setTop (mkF m 51 #[.val (.ref ao0), .val (.int p1), .val (.int p2), .val (.int (1 : Int32)), .val (.int p2)] [(.ref b61), (.int (1 : Int32)), (.ref ar)])) st61 ?_
          obtain ⟨cl62, Ar62, q62, Sz62, Nn62, Hh62, Gg62⟩ := V_ar
          have hin62 : ¬ ((1 : Int32) < 0 ∨ cl62.slots.size ≤ ((1 : Int32)).toNatClampNeg) := inb_of Sz62 ⟨by decide, by decide⟩
          obtain ⟨T62, h62, X62, e62, W62, st62⟩ := stR X61 hx hZ e61 Ar62 (j := (1 : Int32)) hin62 rfl (Sto.ofVA Ar62 q62 O_ar (Ins.self E_b61)) (g := (mkF m 51 #[.val (.ref ao0), .val (.int p1), .val (.int p2), .val (.int (1 : Int32)), .val (.int p2)] [(.ref b61), (.int (1 : Int32)), (.ref ar)])) rfl rfl (hb hby d3_51)
          refine own_go (x' := T62.setTop (mkF m 52 #[.val (.ref ao0), .val (.int p1), .val (.int p2), .val (.int (1 : Int32)), .val (.int p2)] [])) st62 ?_
          replace F_ao0_bytes := Fld.other W62 F_ao0_bytes (Or.inl ne_ao0_ar)
          replace V_b0 := V_b0.other W62 ne_b0_ar
          replace V_b1 := V_b1.other W62 ne_b1_ar
          replace V_b2 := V_b2.other W62 ne_b2_ar
          replace E_b61 := Exa.wr W62 E_b61
          replace V_b61 := V_b61.other W62 (Ne.symm ne_ar_b61)
          replace Zs := Nat.le_trans Zs (Keep.of_wr W62).1
          replace Nf := Fr.snoc X62 Nf g_ar
          replace Kp := Kp.wr W62 (Or.inl (by simp))
          have V_ar : Arv Z h62 ar kc (.array .byte) (4 : Int32) [(.ref b0), (.ref b61), (.ref b2), .null] .null := Arv.set Ar62 q62 Sz62 Nn62 Hh62 Gg62 rfl W62 1 rfl (Nat.le_of_ble_eq_true rfl)
          refine own_go (x' := T62.setTop (mkF m 2 #[.val (.ref ao0), .val (.int p1), .val (.int p2), .val (.int ((1 : Int32) + (1 : Int32))), .val (.int p2)] [])) (fun _ k => XS.iinc X62.here hx rfl (hb hby d3_52) rfl (l' := #[.val (.ref ao0), .val (.int p1), .val (.int p2), .val (.int ((1 : Int32) + (1 : Int32))), .val (.int p2)]) rfl (XS.goto X62.here hx rfl (pc0 := 55) (pc' := 2) rfl (hb hby d3_55) (by decide) (by decide) k)) ?_
          rw [show ((1 : Int32) + (1 : Int32)) = (2 : Int32) from by decide +kernel]
          refine own_go (x' := T62.setTop (mkF m 4 #[.val (.ref ao0), .val (.int p1), .val (.int p2), .val (.int (2 : Int32)), .val (.int p2)] [(.int p1), (.int (2 : Int32))])) (fun _ k => XS.iloadN X62.here hx rfl (hb hby d3_2) rfl (XS.iloadN X62.here hx rfl (hb hby d3_3) rfl k)) ?_
          by_cases hc4_63 : (2 : Int32) < p1
          · refine own_go (x' := T62.setTop (mkF m 22 #[.val (.ref ao0), .val (.int p1), .val (.int p2), .val (.int (2 : Int32)), .val (.int p2)] [(.ref ao0)])) (fun _ k => XS.icmpNo X62.here hx rfl (hb hby d3_4) rfl (tlt hc4_63).2.1 (XS.iloadN X62.here hx rfl (hb hby d3_7) rfl (XS.ifYes X62.here hx rfl (pc0 := 8) (pc' := 18) rfl (hb hby d3_8) rfl ((if0 _ _).trans (feq (by decide +kernel : ¬ ((2 : Int32) = (0 : Int32)))).2) (by decide) (by decide) (XS.iloadN X62.here hx rfl (hb hby d3_18) rfl (XS.istore X62.here hx rfl (hb hby d3_19) rfl (l' := #[.val (.ref ao0), .val (.int p1), .val (.int p2), .val (.int (2 : Int32)), .val (.int p2)]) rfl (XS.aloadN X62.here hx rfl (hb hby d3_21) rfl rfl k)))))) ?_
            obtain ⟨T64, X64, e64, st64⟩ := getF X62 hx hZ hown (host := "") (Or.inl (own_w hw 11 rfl)) Via.refl e62 F_ao0_bytes (g := (mkF m 22 #[.val (.ref ao0), .val (.int p1), .val (.int p2), .val (.int (2 : Int32)), .val (.int p2)] [(.ref ao0)])) rfl rfl (hb hby d3_22)
            refine own_go (x' := T64.setTop (mkF m 25 #[.val (.ref ao0), .val (.int p1), .val (.int p2), .val (.int (2 : Int32)), .val (.int p2)] [(.ref ar)])) st64 ?_
            refine own_go (x' := T64.setTop (mkF m 26 #[.val (.ref ao0), .val (.int p1), .val (.int p2), .val (.int (2 : Int32)), .val (.int p2)] [(.int (2 : Int32)), (.ref ar)])) (fun _ k => XS.iloadN X64.here hx rfl (hb hby d3_25) rfl k) ?_
            obtain ⟨cl65, Ar65, q65, Sz65, Nn65, Hh65, Gg65⟩ := id V_ar
            have hin65 : ¬ ((2 : Int32) < 0 ∨ cl65.slots.size ≤ ((2 : Int32)).toNatClampNeg) := inb_of Sz65 ⟨by decide, by decide⟩
            refine own_go (x' := T64.setTop (mkF m 27 #[.val (.ref ao0), .val (.int p1), .val (.int p2), .val (.int (2 : Int32)), .val (.int p2)] [(.ref b2)])) (X64.aaload hx (j := (2 : Int32)) (v := (.ref b2)) (Eq.trans (congrArg (fun h_ => h_[_]?) e64) Ar65.1) (State.isArrayOf_alike hZ.alike Ar65.2.1) rfl Ar65.2.2 hin65 (Hh65.at hin65 rfl) (g := (mkF m 26 #[.val (.ref ao0), .val (.int p1), .val (.int p2), .val (.int (2 : Int32)), .val (.int p2)] [(.int (2 : Int32)), (.ref ar)])) rfl rfl (hb hby d3_26)) ?_
            refine own_go (x' := T64.setTop (mkF m 31 #[.val (.ref ao0), .val (.int p1), .val (.int p2), .val (.int (2 : Int32)), .val (.int p2)] [(.ref ao0)])) (fun _ k => XS.ifnullNo X64.here hx rfl (hb hby d3_27) rfl (XS.aloadN X64.here hx rfl (hb hby d3_30) rfl rfl k)) ?_
            obtain ⟨T66, X66, e66, st66⟩ := getF X64 hx hZ hown (host := "") (Or.inl (own_w hw 11 rfl)) Via.refl e64 F_ao0_bytes (g := (mkF m 31 #[.val (.ref ao0), .val (.int p1), .val (.int p2), .val (.int (2 : Int32)), .val (.int p2)] [(.ref ao0)])) rfl rfl (hb hby d3_31)
            refine own_go (x' := T66.setTop (mkF m 34 #[.val (.ref ao0), .val (.int p1), .val (.int p2), .val (.int (2 : Int32)), .val (.int p2)] [(.ref ar)])) st66 ?_
            refine own_go (x' := T66.setTop (mkF m 35 #[.val (.ref ao0), .val (.int p1), .val (.int p2), .val (.int (2 : Int32)), .val (.int p2)] [(.int (2 : Int32)), (.ref ar)])) (fun _ k => XS.iloadN X66.here hx rfl (hb hby d3_34) rfl k) ?_
            obtain ⟨cl67, Ar67, q67, Sz67, Nn67, Hh67, Gg67⟩ := id V_ar
            have hin67 : ¬ ((2 : Int32) < 0 ∨ cl67.slots.size ≤ ((2 : Int32)).toNatClampNeg) := inb_of Sz67 ⟨by decide, by decide⟩
            refine own_go (x' := T66.setTop (mkF m 36 #[.val (.ref ao0), .val (.int p1), .val (.int p2), .val (.int (2 : Int32)), .val (.int p2)] [(.ref b2)])) (X66.aaload hx (j := (2 : Int32)) (v := (.ref b2)) (Eq.trans (congrArg (fun h_ => h_[_]?) e66) Ar67.1) (State.isArrayOf_alike hZ.alike Ar67.2.1) rfl Ar67.2.2 hin67 (Hh67.at hin67 rfl) (g := (mkF m 35 #[.val (.ref ao0), .val (.int p1), .val (.int p2), .val (.int (2 : Int32)), .val (.int p2)] [(.int (2 : Int32)), (.ref ar)])) rfl rfl (hb hby d3_35)) ?_
            obtain ⟨cl68, Ar68, -, Sz68, Nn68, -, -⟩ := id V_b2
            refine own_go (x' := T66.setTop (mkF m 37 #[.val (.ref ao0), .val (.int p1), .val (.int p2), .val (.int (2 : Int32)), .val (.int p2)] [(.int n1)])) (fun t k => X66.arraylength hx (Eq.trans (congrArg (fun h_ => h_[_]?) e66) Ar68.1) (State.isArrayOf_alike hZ.alike Ar68.2.1) (g := (mkF m 36 #[.val (.ref ao0), .val (.int p1), .val (.int p2), .val (.int (2 : Int32)), .val (.int p2)] [(.ref b2)])) rfl rfl (hb hby d3_36) t (by rw [len_of Sz68 Nn68]; exact k)) ?_
            refine own_go (x' := T66.setTop (mkF m 43 #[.val (.ref ao0), .val (.int p1), .val (.int p2), .val (.int (2 : Int32)), .val (.int p2)] [(.ref ao0)])) (fun _ k => XS.iload X66.here hx rfl (hb hby d3_37) rfl (XS.icmpNo X66.here hx rfl (hb hby d3_39) rfl (tlt hc39_59).2.1 (XS.aloadN X66.here hx rfl (hb hby d3_42) rfl rfl k))) ?_
            obtain ⟨T69, X69, e69, st69⟩ := getF X66 hx hZ hown (host := "") (Or.inl (own_w hw 11 rfl)) Via.refl e66 F_ao0_bytes (g := (mkF m 43 #[.val (.ref ao0), .val (.int p1), .val (.int p2), .val (.int (2 : Int32)), .val (.int p2)] [(.ref ao0)])) rfl rfl (hb hby d3_43)
            refine own_go (x' := T69.setTop (mkF m 46 #[.val (.ref ao0), .val (.int p1), .val (.int p2), .val (.int (2 : Int32)), .val (.int p2)] [(.ref ar)])) st69 ?_
            refine own_go (x' := T69.setTop (mkF m 49 #[.val (.ref ao0), .val (.int p1), .val (.int p2), .val (.int (2 : Int32)), .val (.int p2)] [(.int p2), (.int (2 : Int32)), (.ref ar)])) (fun _ k => XS.iloadN X69.here hx rfl (hb hby d3_46) rfl (XS.iload X69.here hx rfl (hb hby d3_47) rfl k)) ?_
            obtain ⟨T70, h70, k70, X70, e70, E70, A70, Q70, st70⟩ := newPE X69 hx hZ (own_w hw 29 rfl) e69 (g := (mkF m 49 #[.val (.ref ao0), .val (.int p1), .val (.int p2), .val (.int (2 : Int32)), .val (.int p2)] [(.int p2), (.int (2 : Int32)), (.ref ar)])) rfl (hb hby d3_49) rfl hs.1 (cap := 16383) hs.2 (by decide) (by decide) (by decide) (ad := "[B") (by decide)
            obtain ⟨b70, g70⟩ : ∃ z, z = h62.size := ⟨_, rfl⟩
            rw [← g70] at A70 st70
            rw [← g70] at Q70
            have ne_ao0_b70 : ao0 ≠ b70 := Nat.ne_of_lt (Nat.lt_of_lt_of_le F_ao0_bytes.lt (Nat.le_of_eq g70.symm))
            have ne_b0_b70 : b0 ≠ b70 := Nat.ne_of_lt (Nat.lt_of_lt_of_le V_b0.lt (Nat.le_of_eq g70.symm))
            have ne_b1_b70 : b1 ≠ b70 := Nat.ne_of_lt (Nat.lt_of_lt_of_le V_b1.lt (Nat.le_of_eq g70.symm))
            have ne_b2_b70 : b2 ≠ b70 := Nat.ne_of_lt (Nat.lt_of_lt_of_le V_b2.lt (Nat.le_of_eq g70.symm))
            have ne_b61_b70 : b61 ≠ b70 := Nat.ne_of_lt (Nat.lt_of_lt_of_le E_b61.lt (Nat.le_of_eq g70.symm))
            have ne_ar_b70 : ar ≠ b70 := Nat.ne_of_lt (Nat.lt_of_lt_of_le V_ar.lt (Nat.le_of_eq g70.symm))
            have g_b70 : n0 ≤ b70 := Nat.le_trans Zs (Nat.le_of_eq g70.symm)
            have sz_b70 : h0.size ≤ b70 := Nat.le_trans Kp.1 (Nat.le_of_eq g70.symm)
            replace F_ao0_bytes := Fld.ext E70 F_ao0_bytes
            replace V_b0 := V_b0.ext E70
            replace V_b1 := V_b1.ext E70
            replace V_b2 := V_b2.ext E70
            replace E_b61 := Exa.ext E70 E_b61
            replace V_b61 := V_b61.ext E70
            replace V_ar := V_ar.ext E70
            replace Zs := Nat.le_trans Zs E70.1
            replace Kp := Kp.ext E70
            have E_b70 := Q70
            have V_b70 : Arv Z h70 b70 k70 .byte p2 [] (.int (0 : Int32)) := Arv.new A70 hs.1
            refine own_go (x' := T70.setTop (mkF m 51 #[.val (.ref ao0), .val (.int p1), .val (.int p2), .val (.int (2 : Int32)), .val (.int p2)] [(.ref b70), (.int (2 : Int32)), (.ref ar)])) st70 ?_
            obtain ⟨cl71, Ar71, q71, Sz71, Nn71, Hh71, Gg71⟩ := V_ar
            have hin71 : ¬ ((2 : Int32) < 0 ∨ cl71.slots.size ≤ ((2 : Int32)).toNatClampNeg) := inb_of Sz71 ⟨by decide, by decide⟩
            obtain ⟨T71, h71, X71, e71, W71, st71⟩ := stR X70 hx hZ e70 Ar71 (j := (2 : Int32)) hin71 rfl (Sto.ofVA Ar71 q71 O_ar (Ins.self E_b70)) (g := (mkF m 51 #[.val (.ref ao0), .val (.int p1), .val (.int p2), .val (.int (2 : Int32)), .val (.int p2)] [(.ref b70), (.int (2 : Int32)), (.ref ar)])) rfl rfl (hb hby d3_51)
            refine own_go (x' := T71.setTop (mkF m 52 #[.val (.ref ao0), .val (.int p1), .val (.int p2), .val (.int (2 : Int32)), .val (.int p2)] [])) st71 ?_
            replace F_ao0_bytes := Fld.other W71 F_ao0_bytes (Or.inl ne_ao0_ar)
            replace V_b0 := V_b0.other W71 ne_b0_ar
            replace V_b1 := V_b1.other W71 ne_b1_ar
            replace V_b2 := V_b2.other W71 ne_b2_ar
            replace E_b61 := Exa.wr W71 E_b61
            replace V_b61 := V_b61.other W71 (Ne.symm ne_ar_b61)
            replace E_b70 := Exa.wr W71 E_b70
            replace V_b70 := V_b70.other W71 (Ne.symm ne_ar_b70)
            replace Zs := Nat.le_trans Zs (Keep.of_wr W71).1
            replace Nf := Fr.snoc X71 Nf g_ar
            replace Kp := Kp.wr W71 (Or.inl (by simp))
            have V_ar : Arv Z h71 ar kc (.array .byte) (4 : Int32) [(.ref b0), (.ref b61), (.ref b70), .null] .null := Arv.set Ar71 q71 Sz71 Nn71 Hh71 Gg71 rfl W71 2 rfl (Nat.le_of_ble_eq_true rfl)
            refine own_go (x' := T71.setTop (mkF m 2 #[.val (.ref ao0), .val (.int p1), .val (.int p2), .val (.int ((2 : Int32) + (1 : Int32))), .val (.int p2)] [])) (fun _ k => XS.iinc X71.here hx rfl (hb hby d3_52) rfl (l' := #[.val (.ref ao0), .val (.int p1), .val (.int p2), .val (.int ((2 : Int32) + (1 : Int32))), .val (.int p2)]) rfl (XS.goto X71.here hx rfl (pc0 := 55) (pc' := 2) rfl (hb hby d3_55) (by decide) (by decide) k)) ?_
            rw [show ((2 : Int32) + (1 : Int32)) = (3 : Int32) from by decide +kernel]
            refine own_go (x' := T71.setTop (mkF m 4 #[.val (.ref ao0), .val (.int p1), .val (.int p2), .val (.int (3 : Int32)), .val (.int p2)] [(.int p1), (.int (3 : Int32))])) (fun _ k => XS.iloadN X71.here hx rfl (hb hby d3_2) rfl (XS.iloadN X71.here hx rfl (hb hby d3_3) rfl k)) ?_
            by_cases hc4_72 : (3 : Int32) < p1
            · refine own_go (x' := T71.setTop (mkF m 22 #[.val (.ref ao0), .val (.int p1), .val (.int p2), .val (.int (3 : Int32)), .val (.int p2)] [(.ref ao0)])) (fun _ k => XS.icmpNo X71.here hx rfl (hb hby d3_4) rfl (tlt hc4_72).2.1 (XS.iloadN X71.here hx rfl (hb hby d3_7) rfl (XS.ifYes X71.here hx rfl (pc0 := 8) (pc' := 18) rfl (hb hby d3_8) rfl ((if0 _ _).trans (feq (by decide +kernel : ¬ ((3 : Int32) = (0 : Int32)))).2) (by decide) (by decide) (XS.iloadN X71.here hx rfl (hb hby d3_18) rfl (XS.istore X71.here hx rfl (hb hby d3_19) rfl (l' := #[.val (.ref ao0), .val (.int p1), .val (.int p2), .val (.int (3 : Int32)), .val (.int p2)]) rfl (XS.aloadN X71.here hx rfl (hb hby d3_21) rfl rfl k)))))) ?_
              obtain ⟨T73, X73, e73, st73⟩ := getF X71 hx hZ hown (host := "") (Or.inl (own_w hw 11 rfl)) Via.refl e71 F_ao0_bytes (g := (mkF m 22 #[.val (.ref ao0), .val (.int p1), .val (.int p2), .val (.int (3 : Int32)), .val (.int p2)] [(.ref ao0)])) rfl rfl (hb hby d3_22)
              refine own_go (x' := T73.setTop (mkF m 25 #[.val (.ref ao0), .val (.int p1), .val (.int p2), .val (.int (3 : Int32)), .val (.int p2)] [(.ref ar)])) st73 ?_
              refine own_go (x' := T73.setTop (mkF m 26 #[.val (.ref ao0), .val (.int p1), .val (.int p2), .val (.int (3 : Int32)), .val (.int p2)] [(.int (3 : Int32)), (.ref ar)])) (fun _ k => XS.iloadN X73.here hx rfl (hb hby d3_25) rfl k) ?_
              obtain ⟨cl74, Ar74, q74, Sz74, Nn74, Hh74, Gg74⟩ := id V_ar
              have hin74 : ¬ ((3 : Int32) < 0 ∨ cl74.slots.size ≤ ((3 : Int32)).toNatClampNeg) := inb_of Sz74 ⟨by decide, by decide⟩
              refine own_go (x' := T73.setTop (mkF m 27 #[.val (.ref ao0), .val (.int p1), .val (.int p2), .val (.int (3 : Int32)), .val (.int p2)] [.null])) (X73.aaload hx (j := (3 : Int32)) (v := .null) (Eq.trans (congrArg (fun h_ => h_[_]?) e73) Ar74.1) (State.isArrayOf_alike hZ.alike Ar74.2.1) rfl Ar74.2.2 hin74 (Hh74.at hin74 rfl) (g := (mkF m 26 #[.val (.ref ao0), .val (.int p1), .val (.int p2), .val (.int (3 : Int32)), .val (.int p2)] [(.int (3 : Int32)), (.ref ar)])) rfl rfl (hb hby d3_26)) ?_
              refine own_go (x' := T73.setTop (mkF m 43 #[.val (.ref ao0), .val (.int p1), .val (.int p2), .val (.int (3 : Int32)), .val (.int p2)] [(.ref ao0)])) (fun _ k => XS.ifnullYes X73.here hx rfl (pc0 := 27) (pc' := 42) rfl (hb hby d3_27) rfl (by decide) (by decide) (XS.aloadN X73.here hx rfl (hb hby d3_42) rfl rfl k)) ?_
              obtain ⟨T75, X75, e75, st75⟩ := getF X73 hx hZ hown (host := "") (Or.inl (own_w hw 11 rfl)) Via.refl e73 F_ao0_bytes (g := (mkF m 43 #[.val (.ref ao0), .val (.int p1), .val (.int p2), .val (.int (3 : Int32)), .val (.int p2)] [(.ref ao0)])) rfl rfl (hb hby d3_43)
              refine own_go (x' := T75.setTop (mkF m 46 #[.val (.ref ao0), .val (.int p1), .val (.int p2), .val (.int (3 : Int32)), .val (.int p2)] [(.ref ar)])) st75 ?_
              refine own_go (x' := T75.setTop (mkF m 49 #[.val (.ref ao0), .val (.int p1), .val (.int p2), .val (.int (3 : Int32)), .val (.int p2)] [(.int p2), (.int (3 : Int32)), (.ref ar)])) (fun _ k => XS.iloadN X75.here hx rfl (hb hby d3_46) rfl (XS.iload X75.here hx rfl (hb hby d3_47) rfl k)) ?_
              obtain ⟨T76, h76, k76, X76, e76, E76, A76, Q76, st76⟩ := newPE X75 hx hZ (own_w hw 29 rfl) e75 (g := (mkF m 49 #[.val (.ref ao0), .val (.int p1), .val (.int p2), .val (.int (3 : Int32)), .val (.int p2)] [(.int p2), (.int (3 : Int32)), (.ref ar)])) rfl (hb hby d3_49) rfl hs.1 (cap := 16383) hs.2 (by decide) (by decide) (by decide) (ad := "[B") (by decide)
              obtain ⟨b76, g76⟩ : ∃ z, z = h71.size := ⟨_, rfl⟩
              rw [← g76] at A76 st76
              rw [← g76] at Q76
              have ne_ao0_b76 : ao0 ≠ b76 := Nat.ne_of_lt (Nat.lt_of_lt_of_le F_ao0_bytes.lt (Nat.le_of_eq g76.symm))
              have ne_b0_b76 : b0 ≠ b76 := Nat.ne_of_lt (Nat.lt_of_lt_of_le V_b0.lt (Nat.le_of_eq g76.symm))
              have ne_b1_b76 : b1 ≠ b76 := Nat.ne_of_lt (Nat.lt_of_lt_of_le V_b1.lt (Nat.le_of_eq g76.symm))
              have ne_b2_b76 : b2 ≠ b76 := Nat.ne_of_lt (Nat.lt_of_lt_of_le V_b2.lt (Nat.le_of_eq g76.symm))
              have ne_b61_b76 : b61 ≠ b76 := Nat.ne_of_lt (Nat.lt_of_lt_of_le E_b61.lt (Nat.le_of_eq g76.symm))
              have ne_b70_b76 : b70 ≠ b76 := Nat.ne_of_lt (Nat.lt_of_lt_of_le E_b70.lt (Nat.le_of_eq g76.symm))
              have ne_ar_b76 : ar ≠ b76 := Nat.ne_of_lt (Nat.lt_of_lt_of_le V_ar.lt (Nat.le_of_eq g76.symm))
              have g_b76 : n0 ≤ b76 := Nat.le_trans Zs (Nat.le_of_eq g76.symm)
              have sz_b76 : h0.size ≤ b76 := Nat.le_trans Kp.1 (Nat.le_of_eq g76.symm)
              replace F_ao0_bytes := Fld.ext E76 F_ao0_bytes
              replace V_b0 := V_b0.ext E76
              replace V_b1 := V_b1.ext E76
              replace V_b2 := V_b2.ext E76
              replace E_b61 := Exa.ext E76 E_b61
              replace V_b61 := V_b61.ext E76
              replace E_b70 := Exa.ext E76 E_b70
              replace V_b70 := V_b70.ext E76
              replace V_ar := V_ar.ext E76
              replace Zs := Nat.le_trans Zs E76.1
              replace Kp := Kp.ext E76
              have E_b76 := Q76
              have V_b76 : Arv Z h76 b76 k76 .byte p2 [] (.int (0 : Int32)) := Arv.new A76 hs.1
              refine own_go (x' := T76.setTop (mkF m 51 #[.val (.ref ao0), .val (.int p1), .val (.int p2), .val (.int (3 : Int32)), .val (.int p2)] [(.ref b76), (.int (3 : Int32)), (.ref ar)])) st76 ?_
              obtain ⟨cl77, Ar77, q77, Sz77, Nn77, Hh77, Gg77⟩ := V_ar
              have hin77 : ¬ ((3 : Int32) < 0 ∨ cl77.slots.size ≤ ((3 : Int32)).toNatClampNeg) := inb_of Sz77 ⟨by decide, by decide⟩
              obtain ⟨T77, h77, X77, e77, W77, st77⟩ := stR X76 hx hZ e76 Ar77 (j := (3 : Int32)) hin77 rfl (Sto.ofVA Ar77 q77 O_ar (Ins.self E_b76)) (g := (mkF m 51 #[.val (.ref ao0), .val (.int p1), .val (.int p2), .val (.int (3 : Int32)), .val (.int p2)] [(.ref b76), (.int (3 : Int32)), (.ref ar)])) rfl rfl (hb hby d3_51)
              refine own_go (x' := T77.setTop (mkF m 52 #[.val (.ref ao0), .val (.int p1), .val (.int p2), .val (.int (3 : Int32)), .val (.int p2)] [])) st77 ?_
              replace F_ao0_bytes := Fld.other W77 F_ao0_bytes (Or.inl ne_ao0_ar)
              replace V_b0 := V_b0.other W77 ne_b0_ar
              replace V_b1 := V_b1.other W77 ne_b1_ar
              replace V_b2 := V_b2.other W77 ne_b2_ar
              replace E_b61 := Exa.wr W77 E_b61
              replace V_b61 := V_b61.other W77 (Ne.symm ne_ar_b61)
              replace E_b70 := Exa.wr W77 E_b70
              replace V_b70 := V_b70.other W77 (Ne.symm ne_ar_b70)
              replace E_b76 := Exa.wr W77 E_b76
              replace V_b76 := V_b76.other W77 (Ne.symm ne_ar_b76)
              replace Zs := Nat.le_trans Zs (Keep.of_wr W77).1
              replace Nf := Fr.snoc X77 Nf g_ar
              replace Kp := Kp.wr W77 (Or.inl (by simp))
              have V_ar : Arv Z h77 ar kc (.array .byte) (4 : Int32) [(.ref b0), (.ref b61), (.ref b70), (.ref b76)] .null := Arv.set Ar77 q77 Sz77 Nn77 Hh77 Gg77 rfl W77 3 rfl (Nat.le_of_ble_eq_true rfl)
              refine own_go (x' := T77.setTop (mkF m 2 #[.val (.ref ao0), .val (.int p1), .val (.int p2), .val (.int ((3 : Int32) + (1 : Int32))), .val (.int p2)] [])) (fun _ k => XS.iinc X77.here hx rfl (hb hby d3_52) rfl (l' := #[.val (.ref ao0), .val (.int p1), .val (.int p2), .val (.int ((3 : Int32) + (1 : Int32))), .val (.int p2)]) rfl (XS.goto X77.here hx rfl (pc0 := 55) (pc' := 2) rfl (hb hby d3_55) (by decide) (by decide) k)) ?_
              rw [show ((3 : Int32) + (1 : Int32)) = (4 : Int32) from by decide +kernel]
              refine own_go (x' := T77.setTop (mkF m 59 #[.val (.ref ao0), .val (.int p1), .val (.int p2), .val (.int (4 : Int32)), .val (.int p2)] [(.ref ao0)])) (fun _ k => XS.iloadN X77.here hx rfl (hb hby d3_2) rfl (XS.iloadN X77.here hx rfl (hb hby d3_3) rfl (XS.icmpYes X77.here hx rfl (pc0 := 4) (pc' := 58) rfl (hb hby d3_4) rfl (flt hu).2.1 (by decide) (by decide) (XS.aloadN X77.here hx rfl (hb hby d3_58) rfl rfl k)))) ?_
              obtain ⟨T78, X78, e78, st78⟩ := getF X77 hx hZ hown (host := "") (Or.inl (own_w hw 11 rfl)) Via.refl e77 F_ao0_bytes (g := (mkF m 59 #[.val (.ref ao0), .val (.int p1), .val (.int p2), .val (.int (4 : Int32)), .val (.int p2)] [(.ref ao0)])) rfl rfl (hb hby d3_59)
              refine own_go (x' := T78.setTop (mkF m 62 #[.val (.ref ao0), .val (.int p1), .val (.int p2), .val (.int (4 : Int32)), .val (.int p2)] [(.ref ar)])) st78 ?_
              refine own_retR X78 hx hlk hret rfl rfl (hb hby d3_62) ?_ (by decide) (by decide)
              rw [e78]
              exact ⟨(.ref b0), (.ref b61), (.ref b70), (.ref b76), rfl, Nf, Kp, V_ar, Or.inl ⟨rfl, Or.inr hc39⟩, Or.inr ⟨b61, k61, rfl, sz_b61, V_b61, hc4_53, hc39_59⟩, Or.inr ⟨b70, k70, rfl, sz_b70, V_b70, hc4_63, hc39_59⟩, Or.inr ⟨b76, k76, rfl, V_b76, hc4_72⟩⟩
            · refine own_go (x' := T71.setTop (mkF m 59 #[.val (.ref ao0), .val (.int p1), .val (.int p2), .val (.int (3 : Int32)), .val (.int p2)] [(.ref ao0)])) (fun _ k => XS.icmpYes X71.here hx rfl (pc0 := 4) (pc' := 58) rfl (hb hby d3_4) rfl (flt hc4_72).2.1 (by decide) (by decide) (XS.aloadN X71.here hx rfl (hb hby d3_58) rfl rfl k)) ?_
              obtain ⟨T79, X79, e79, st79⟩ := getF X71 hx hZ hown (host := "") (Or.inl (own_w hw 11 rfl)) Via.refl e71 F_ao0_bytes (g := (mkF m 59 #[.val (.ref ao0), .val (.int p1), .val (.int p2), .val (.int (3 : Int32)), .val (.int p2)] [(.ref ao0)])) rfl rfl (hb hby d3_59)
              refine own_go (x' := T79.setTop (mkF m 62 #[.val (.ref ao0), .val (.int p1), .val (.int p2), .val (.int (3 : Int32)), .val (.int p2)] [(.ref ar)])) st79 ?_
              refine own_retR X79 hx hlk hret rfl rfl (hb hby d3_62) ?_ (by decide) (by decide)
              rw [e79]
              exact ⟨(.ref b0), (.ref b61), (.ref b70), .null, rfl, Nf, Kp, V_ar, Or.inl ⟨rfl, Or.inr hc39⟩, Or.inr ⟨b61, k61, rfl, sz_b61, V_b61, hc4_53, hc39_59⟩, Or.inr ⟨b70, k70, rfl, sz_b70, V_b70, hc4_63, hc39_59⟩, Or.inl ⟨rfl, hc4_72⟩⟩
          · refine own_go (x' := T62.setTop (mkF m 59 #[.val (.ref ao0), .val (.int p1), .val (.int p2), .val (.int (2 : Int32)), .val (.int p2)] [(.ref ao0)])) (fun _ k => XS.icmpYes X62.here hx rfl (pc0 := 4) (pc' := 58) rfl (hb hby d3_4) rfl (flt hc4_63).2.1 (by decide) (by decide) (XS.aloadN X62.here hx rfl (hb hby d3_58) rfl rfl k)) ?_
            obtain ⟨T80, X80, e80, st80⟩ := getF X62 hx hZ hown (host := "") (Or.inl (own_w hw 11 rfl)) Via.refl e62 F_ao0_bytes (g := (mkF m 59 #[.val (.ref ao0), .val (.int p1), .val (.int p2), .val (.int (2 : Int32)), .val (.int p2)] [(.ref ao0)])) rfl rfl (hb hby d3_59)
            refine own_go (x' := T80.setTop (mkF m 62 #[.val (.ref ao0), .val (.int p1), .val (.int p2), .val (.int (2 : Int32)), .val (.int p2)] [(.ref ar)])) st80 ?_
            refine own_retR X80 hx hlk hret rfl rfl (hb hby d3_62) ?_ (by decide) (by decide)
            rw [e80]
            exact ⟨(.ref b0), (.ref b61), (.ref b2), .null, rfl, Nf, Kp, V_ar, Or.inl ⟨rfl, Or.inr hc39⟩, Or.inr ⟨b61, k61, rfl, sz_b61, V_b61, hc4_53, hc39_59⟩, Or.inl ⟨rfl, Or.inl hc4_63⟩, Or.inl ⟨rfl, (own_le hc4_63 (by decide))⟩⟩
        · refine own_go (x' := T56.setTop (mkF m 2 #[.val (.ref ao0), .val (.int p1), .val (.int p2), .val (.int ((1 : Int32) + (1 : Int32))), .val (.int p2)] [])) (fun _ k => XS.icmpYes X56.here hx rfl (pc0 := 39) (pc' := 52) rfl (hb hby d3_39) rfl (flt hc39_59).2.1 (by decide) (by decide) (XS.iinc X56.here hx rfl (hb hby d3_52) rfl (l' := #[.val (.ref ao0), .val (.int p1), .val (.int p2), .val (.int ((1 : Int32) + (1 : Int32))), .val (.int p2)]) rfl (XS.goto X56.here hx rfl (pc0 := 55) (pc' := 2) rfl (hb hby d3_55) (by decide) (by decide) k))) ?_
          rw [show ((1 : Int32) + (1 : Int32)) = (2 : Int32) from by decide +kernel]
          refine own_go (x' := T56.setTop (mkF m 4 #[.val (.ref ao0), .val (.int p1), .val (.int p2), .val (.int (2 : Int32)), .val (.int p2)] [(.int p1), (.int (2 : Int32))])) (fun _ k => XS.iloadN X56.here hx rfl (hb hby d3_2) rfl (XS.iloadN X56.here hx rfl (hb hby d3_3) rfl k)) ?_
          by_cases hc4_81 : (2 : Int32) < p1
          · refine own_go (x' := T56.setTop (mkF m 22 #[.val (.ref ao0), .val (.int p1), .val (.int p2), .val (.int (2 : Int32)), .val (.int p2)] [(.ref ao0)])) (fun _ k => XS.icmpNo X56.here hx rfl (hb hby d3_4) rfl (tlt hc4_81).2.1 (XS.iloadN X56.here hx rfl (hb hby d3_7) rfl (XS.ifYes X56.here hx rfl (pc0 := 8) (pc' := 18) rfl (hb hby d3_8) rfl ((if0 _ _).trans (feq (by decide +kernel : ¬ ((2 : Int32) = (0 : Int32)))).2) (by decide) (by decide) (XS.iloadN X56.here hx rfl (hb hby d3_18) rfl (XS.istore X56.here hx rfl (hb hby d3_19) rfl (l' := #[.val (.ref ao0), .val (.int p1), .val (.int p2), .val (.int (2 : Int32)), .val (.int p2)]) rfl (XS.aloadN X56.here hx rfl (hb hby d3_21) rfl rfl k)))))) ?_
            obtain ⟨T82, X82, e82, st82⟩ := getF X56 hx hZ hown (host := "") (Or.inl (own_w hw 11 rfl)) Via.refl e56 F_ao0_bytes (g := (mkF m 22 #[.val (.ref ao0), .val (.int p1), .val (.int p2), .val (.int (2 : Int32)), .val (.int p2)] [(.ref ao0)])) rfl rfl (hb hby d3_22)
            refine own_go (x' := T82.setTop (mkF m 25 #[.val (.ref ao0), .val (.int p1), .val (.int p2), .val (.int (2 : Int32)), .val (.int p2)] [(.ref ar)])) st82 ?_
            refine own_go (x' := T82.setTop (mkF m 26 #[.val (.ref ao0), .val (.int p1), .val (.int p2), .val (.int (2 : Int32)), .val (.int p2)] [(.int (2 : Int32)), (.ref ar)])) (fun _ k => XS.iloadN X82.here hx rfl (hb hby d3_25) rfl k) ?_
            obtain ⟨cl83, Ar83, q83, Sz83, Nn83, Hh83, Gg83⟩ := id V_ar
            have hin83 : ¬ ((2 : Int32) < 0 ∨ cl83.slots.size ≤ ((2 : Int32)).toNatClampNeg) := inb_of Sz83 ⟨by decide, by decide⟩
            refine own_go (x' := T82.setTop (mkF m 27 #[.val (.ref ao0), .val (.int p1), .val (.int p2), .val (.int (2 : Int32)), .val (.int p2)] [(.ref b2)])) (X82.aaload hx (j := (2 : Int32)) (v := (.ref b2)) (Eq.trans (congrArg (fun h_ => h_[_]?) e82) Ar83.1) (State.isArrayOf_alike hZ.alike Ar83.2.1) rfl Ar83.2.2 hin83 (Hh83.at hin83 rfl) (g := (mkF m 26 #[.val (.ref ao0), .val (.int p1), .val (.int p2), .val (.int (2 : Int32)), .val (.int p2)] [(.int (2 : Int32)), (.ref ar)])) rfl rfl (hb hby d3_26)) ?_
            refine own_go (x' := T82.setTop (mkF m 31 #[.val (.ref ao0), .val (.int p1), .val (.int p2), .val (.int (2 : Int32)), .val (.int p2)] [(.ref ao0)])) (fun _ k => XS.ifnullNo X82.here hx rfl (hb hby d3_27) rfl (XS.aloadN X82.here hx rfl (hb hby d3_30) rfl rfl k)) ?_
            obtain ⟨T84, X84, e84, st84⟩ := getF X82 hx hZ hown (host := "") (Or.inl (own_w hw 11 rfl)) Via.refl e82 F_ao0_bytes (g := (mkF m 31 #[.val (.ref ao0), .val (.int p1), .val (.int p2), .val (.int (2 : Int32)), .val (.int p2)] [(.ref ao0)])) rfl rfl (hb hby d3_31)
            refine own_go (x' := T84.setTop (mkF m 34 #[.val (.ref ao0), .val (.int p1), .val (.int p2), .val (.int (2 : Int32)), .val (.int p2)] [(.ref ar)])) st84 ?_
            refine own_go (x' := T84.setTop (mkF m 35 #[.val (.ref ao0), .val (.int p1), .val (.int p2), .val (.int (2 : Int32)), .val (.int p2)] [(.int (2 : Int32)), (.ref ar)])) (fun _ k => XS.iloadN X84.here hx rfl (hb hby d3_34) rfl k) ?_
            obtain ⟨cl85, Ar85, q85, Sz85, Nn85, Hh85, Gg85⟩ := id V_ar
            have hin85 : ¬ ((2 : Int32) < 0 ∨ cl85.slots.size ≤ ((2 : Int32)).toNatClampNeg) := inb_of Sz85 ⟨by decide, by decide⟩
            refine own_go (x' := T84.setTop (mkF m 36 #[.val (.ref ao0), .val (.int p1), .val (.int p2), .val (.int (2 : Int32)), .val (.int p2)] [(.ref b2)])) (X84.aaload hx (j := (2 : Int32)) (v := (.ref b2)) (Eq.trans (congrArg (fun h_ => h_[_]?) e84) Ar85.1) (State.isArrayOf_alike hZ.alike Ar85.2.1) rfl Ar85.2.2 hin85 (Hh85.at hin85 rfl) (g := (mkF m 35 #[.val (.ref ao0), .val (.int p1), .val (.int p2), .val (.int (2 : Int32)), .val (.int p2)] [(.int (2 : Int32)), (.ref ar)])) rfl rfl (hb hby d3_35)) ?_
            obtain ⟨cl86, Ar86, -, Sz86, Nn86, -, -⟩ := id V_b2
            refine own_go (x' := T84.setTop (mkF m 37 #[.val (.ref ao0), .val (.int p1), .val (.int p2), .val (.int (2 : Int32)), .val (.int p2)] [(.int n1)])) (fun t k => X84.arraylength hx (Eq.trans (congrArg (fun h_ => h_[_]?) e84) Ar86.1) (State.isArrayOf_alike hZ.alike Ar86.2.1) (g := (mkF m 36 #[.val (.ref ao0), .val (.int p1), .val (.int p2), .val (.int (2 : Int32)), .val (.int p2)] [(.ref b2)])) rfl rfl (hb hby d3_36) t (by rw [len_of Sz86 Nn86]; exact k)) ?_
            refine own_go (x' := T84.setTop (mkF m 2 #[.val (.ref ao0), .val (.int p1), .val (.int p2), .val (.int ((2 : Int32) + (1 : Int32))), .val (.int p2)] [])) (fun _ k => XS.iload X84.here hx rfl (hb hby d3_37) rfl (XS.icmpYes X84.here hx rfl (pc0 := 39) (pc' := 52) rfl (hb hby d3_39) rfl (flt hc39_59).2.1 (by decide) (by decide) (XS.iinc X84.here hx rfl (hb hby d3_52) rfl (l' := #[.val (.ref ao0), .val (.int p1), .val (.int p2), .val (.int ((2 : Int32) + (1 : Int32))), .val (.int p2)]) rfl (XS.goto X84.here hx rfl (pc0 := 55) (pc' := 2) rfl (hb hby d3_55) (by decide) (by decide) k)))) ?_
            rw [show ((2 : Int32) + (1 : Int32)) = (3 : Int32) from by decide +kernel]
            refine own_go (x' := T84.setTop (mkF m 4 #[.val (.ref ao0), .val (.int p1), .val (.int p2), .val (.int (3 : Int32)), .val (.int p2)] [(.int p1), (.int (3 : Int32))])) (fun _ k => XS.iloadN X84.here hx rfl (hb hby d3_2) rfl (XS.iloadN X84.here hx rfl (hb hby d3_3) rfl k)) ?_
            by_cases hc4_87 : (3 : Int32) < p1
            · refine own_go (x' := T84.setTop (mkF m 22 #[.val (.ref ao0), .val (.int p1), .val (.int p2), .val (.int (3 : Int32)), .val (.int p2)] [(.ref ao0)])) (fun _ k => XS.icmpNo X84.here hx rfl (hb hby d3_4) rfl (tlt hc4_87).2.1 (XS.iloadN X84.here hx rfl (hb hby d3_7) rfl (XS.ifYes X84.here hx rfl (pc0 := 8) (pc' := 18) rfl (hb hby d3_8) rfl ((if0 _ _).trans (feq (by decide +kernel : ¬ ((3 : Int32) = (0 : Int32)))).2) (by decide) (by decide) (XS.iloadN X84.here hx rfl (hb hby d3_18) rfl (XS.istore X84.here hx rfl (hb hby d3_19) rfl (l' := #[.val (.ref ao0), .val (.int p1), .val (.int p2), .val (.int (3 : Int32)), .val (.int p2)]) rfl (XS.aloadN X84.here hx rfl (hb hby d3_21) rfl rfl k)))))) ?_
              obtain ⟨T88, X88, e88, st88⟩ := getF X84 hx hZ hown (host := "") (Or.inl (own_w hw 11 rfl)) Via.refl e84 F_ao0_bytes (g := (mkF m 22 #[.val (.ref ao0), .val (.int p1), .val (.int p2), .val (.int (3 : Int32)), .val (.int p2)] [(.ref ao0)])) rfl rfl (hb hby d3_22)
              refine own_go (x' := T88.setTop (mkF m 25 #[.val (.ref ao0), .val (.int p1), .val (.int p2), .val (.int (3 : Int32)), .val (.int p2)] [(.ref ar)])) st88 ?_
              refine own_go (x' := T88.setTop (mkF m 26 #[.val (.ref ao0), .val (.int p1), .val (.int p2), .val (.int (3 : Int32)), .val (.int p2)] [(.int (3 : Int32)), (.ref ar)])) (fun _ k => XS.iloadN X88.here hx rfl (hb hby d3_25) rfl k) ?_
              obtain ⟨cl89, Ar89, q89, Sz89, Nn89, Hh89, Gg89⟩ := id V_ar
              have hin89 : ¬ ((3 : Int32) < 0 ∨ cl89.slots.size ≤ ((3 : Int32)).toNatClampNeg) := inb_of Sz89 ⟨by decide, by decide⟩
              refine own_go (x' := T88.setTop (mkF m 27 #[.val (.ref ao0), .val (.int p1), .val (.int p2), .val (.int (3 : Int32)), .val (.int p2)] [.null])) (X88.aaload hx (j := (3 : Int32)) (v := .null) (Eq.trans (congrArg (fun h_ => h_[_]?) e88) Ar89.1) (State.isArrayOf_alike hZ.alike Ar89.2.1) rfl Ar89.2.2 hin89 (Hh89.at hin89 rfl) (g := (mkF m 26 #[.val (.ref ao0), .val (.int p1), .val (.int p2), .val (.int (3 : Int32)), .val (.int p2)] [(.int (3 : Int32)), (.ref ar)])) rfl rfl (hb hby d3_26)) ?_
              refine own_go (x' := T88.setTop (mkF m 43 #[.val (.ref ao0), .val (.int p1), .val (.int p2), .val (.int (3 : Int32)), .val (.int p2)] [(.ref ao0)])) (fun _ k => XS.ifnullYes X88.here hx rfl (pc0 := 27) (pc' := 42) rfl (hb hby d3_27) rfl (by decide) (by decide) (XS.aloadN X88.here hx rfl (hb hby d3_42) rfl rfl k)) ?_
              obtain ⟨T90, X90, e90, st90⟩ := getF X88 hx hZ hown (host := "") (Or.inl (own_w hw 11 rfl)) Via.refl e88 F_ao0_bytes (g := (mkF m 43 #[.val (.ref ao0), .val (.int p1), .val (.int p2), .val (.int (3 : Int32)), .val (.int p2)] [(.ref ao0)])) rfl rfl (hb hby d3_43)
              refine own_go (x' := T90.setTop (mkF m 46 #[.val (.ref ao0), .val (.int p1), .val (.int p2), .val (.int (3 : Int32)), .val (.int p2)] [(.ref ar)])) st90 ?_
              refine own_go (x' := T90.setTop (mkF m 49 #[.val (.ref ao0), .val (.int p1), .val (.int p2), .val (.int (3 : Int32)), .val (.int p2)] [(.int p2), (.int (3 : Int32)), (.ref ar)])) (fun _ k => XS.iloadN X90.here hx rfl (hb hby d3_46) rfl (XS.iload X90.here hx rfl (hb hby d3_47) rfl k)) ?_
              obtain ⟨T91, h91, k91, X91, e91, E91, A91, Q91, st91⟩ := newPE X90 hx hZ (own_w hw 29 rfl) e90 (g := (mkF m 49 #[.val (.ref ao0), .val (.int p1), .val (.int p2), .val (.int (3 : Int32)), .val (.int p2)] [(.int p2), (.int (3 : Int32)), (.ref ar)])) rfl (hb hby d3_49) rfl hs.1 (cap := 16383) hs.2 (by decide) (by decide) (by decide) (ad := "[B") (by decide)
              obtain ⟨b91, g91⟩ : ∃ z, z = h0.size := ⟨_, rfl⟩
              rw [← g91] at A91 st91
              rw [← g91] at Q91
              have ne_ao0_b91 : ao0 ≠ b91 := Nat.ne_of_lt (Nat.lt_of_lt_of_le F_ao0_bytes.lt (Nat.le_of_eq g91.symm))
              have ne_ar_b91 : ar ≠ b91 := Nat.ne_of_lt (Nat.lt_of_lt_of_le V_ar.lt (Nat.le_of_eq g91.symm))
              have ne_b0_b91 : b0 ≠ b91 := Nat.ne_of_lt (Nat.lt_of_lt_of_le V_b0.lt (Nat.le_of_eq g91.symm))
              have ne_b1_b91 : b1 ≠ b91 := Nat.ne_of_lt (Nat.lt_of_lt_of_le V_b1.lt (Nat.le_of_eq g91.symm))
              have ne_b2_b91 : b2 ≠ b91 := Nat.ne_of_lt (Nat.lt_of_lt_of_le V_b2.lt (Nat.le_of_eq g91.symm))
              have g_b91 : n0 ≤ b91 := Nat.le_trans Zs (Nat.le_of_eq g91.symm)
              have sz_b91 : h0.size ≤ b91 := Nat.le_trans Kp.1 (Nat.le_of_eq g91.symm)
              replace F_ao0_bytes := Fld.ext E91 F_ao0_bytes
              replace V_ar := V_ar.ext E91
              replace V_b0 := V_b0.ext E91
              replace V_b1 := V_b1.ext E91
              replace V_b2 := V_b2.ext E91
              replace Zs := Nat.le_trans Zs E91.1
              replace Kp := Kp.ext E91
              have E_b91 := Q91
              have V_b91 : Arv Z h91 b91 k91 .byte p2 [] (.int (0 : Int32)) := Arv.new A91 hs.1
              refine own_go (x' := T91.setTop (mkF m 51 #[.val (.ref ao0), .val (.int p1), .val (.int p2), .val (.int (3 : Int32)), .val (.int p2)] [(.ref b91), (.int (3 : Int32)), (.ref ar)])) st91 ?_
              obtain ⟨cl92, Ar92, q92, Sz92, Nn92, Hh92, Gg92⟩ := V_ar
              have hin92 : ¬ ((3 : Int32) < 0 ∨ cl92.slots.size ≤ ((3 : Int32)).toNatClampNeg) := inb_of Sz92 ⟨by decide, by decide⟩
              obtain ⟨T92, h92, X92, e92, W92, st92⟩ := stR X91 hx hZ e91 Ar92 (j := (3 : Int32)) hin92 rfl (Sto.ofVA Ar92 q92 O_ar (Ins.self E_b91)) (g := (mkF m 51 #[.val (.ref ao0), .val (.int p1), .val (.int p2), .val (.int (3 : Int32)), .val (.int p2)] [(.ref b91), (.int (3 : Int32)), (.ref ar)])) rfl rfl (hb hby d3_51)
              refine own_go (x' := T92.setTop (mkF m 52 #[.val (.ref ao0), .val (.int p1), .val (.int p2), .val (.int (3 : Int32)), .val (.int p2)] [])) st92 ?_
              replace F_ao0_bytes := Fld.other W92 F_ao0_bytes (Or.inl ne_ao0_ar)
              replace V_b0 := V_b0.other W92 ne_b0_ar
              replace V_b1 := V_b1.other W92 ne_b1_ar
              replace V_b2 := V_b2.other W92 ne_b2_ar
              replace E_b91 := Exa.wr W92 E_b91
              replace V_b91 := V_b91.other W92 (Ne.symm ne_ar_b91)
              replace Zs := Nat.le_trans Zs (Keep.of_wr W92).1
              replace Nf := Fr.snoc X92 Nf g_ar
              replace Kp := Kp.wr W92 (Or.inl (by simp))
              have V_ar : Arv Z h92 ar kc (.array .byte) (4 : Int32) [(.ref b0), (.ref b1), (.ref b2), (.ref b91)] .null := Arv.set Ar92 q92 Sz92 Nn92 Hh92 Gg92 rfl W92 3 rfl (Nat.le_of_ble_eq_true rfl)
              refine own_go (x' := T92.setTop (mkF m 2 #[.val (.ref ao0), .val (.int p1), .val (.int p2), .val (.int ((3 : Int32) + (1 : Int32))), .val (.int p2)] [])) (fun _ k => XS.iinc X92.here hx rfl (hb hby d3_52) rfl (l' := #[.val (.ref ao0), .val (.int p1), .val (.int p2), .val (.int ((3 : Int32) + (1 : Int32))), .val (.int p2)]) rfl (XS.goto X92.here hx rfl (pc0 := 55) (pc' := 2) rfl (hb hby d3_55) (by decide) (by decide) k)) ?_
              rw [show ((3 : Int32) + (1 : Int32)) = (4 : Int32) from by decide +kernel]
              refine own_go (x' := T92.setTop (mkF m 59 #[.val (.ref ao0), .val (.int p1), .val (.int p2), .val (.int (4 : Int32)), .val (.int p2)] [(.ref ao0)])) (fun _ k => XS.iloadN X92.here hx rfl (hb hby d3_2) rfl (XS.iloadN X92.here hx rfl (hb hby d3_3) rfl (XS.icmpYes X92.here hx rfl (pc0 := 4) (pc' := 58) rfl (hb hby d3_4) rfl (flt hu).2.1 (by decide) (by decide) (XS.aloadN X92.here hx rfl (hb hby d3_58) rfl rfl k)))) ?_
              obtain ⟨T93, X93, e93, st93⟩ := getF X92 hx hZ hown (host := "") (Or.inl (own_w hw 11 rfl)) Via.refl e92 F_ao0_bytes (g := (mkF m 59 #[.val (.ref ao0), .val (.int p1), .val (.int p2), .val (.int (4 : Int32)), .val (.int p2)] [(.ref ao0)])) rfl rfl (hb hby d3_59)
              refine own_go (x' := T93.setTop (mkF m 62 #[.val (.ref ao0), .val (.int p1), .val (.int p2), .val (.int (4 : Int32)), .val (.int p2)] [(.ref ar)])) st93 ?_
              refine own_retR X93 hx hlk hret rfl rfl (hb hby d3_62) ?_ (by decide) (by decide)
              rw [e93]
              exact ⟨(.ref b0), (.ref b1), (.ref b2), (.ref b91), rfl, Nf, Kp, V_ar, Or.inl ⟨rfl, Or.inr hc39⟩, Or.inl ⟨rfl, Or.inr hc39_59⟩, Or.inl ⟨rfl, Or.inr hc39_59⟩, Or.inr ⟨b91, k91, rfl, V_b91, hc4_87⟩⟩
            · refine own_go (x' := T84.setTop (mkF m 59 #[.val (.ref ao0), .val (.int p1), .val (.int p2), .val (.int (3 : Int32)), .val (.int p2)] [(.ref ao0)])) (fun _ k => XS.icmpYes X84.here hx rfl (pc0 := 4) (pc' := 58) rfl (hb hby d3_4) rfl (flt hc4_87).2.1 (by decide) (by decide) (XS.aloadN X84.here hx rfl (hb hby d3_58) rfl rfl k)) ?_
              obtain ⟨T94, X94, e94, st94⟩ := getF X84 hx hZ hown (host := "") (Or.inl (own_w hw 11 rfl)) Via.refl e84 F_ao0_bytes (g := (mkF m 59 #[.val (.ref ao0), .val (.int p1), .val (.int p2), .val (.int (3 : Int32)), .val (.int p2)] [(.ref ao0)])) rfl rfl (hb hby d3_59)
              refine own_go (x' := T94.setTop (mkF m 62 #[.val (.ref ao0), .val (.int p1), .val (.int p2), .val (.int (3 : Int32)), .val (.int p2)] [(.ref ar)])) st94 ?_
              refine own_retR X94 hx hlk hret rfl rfl (hb hby d3_62) ?_ (by decide) (by decide)
              rw [e94]
              exact ⟨(.ref b0), (.ref b1), (.ref b2), .null, rfl, Nf, Kp, V_ar, Or.inl ⟨rfl, Or.inr hc39⟩, Or.inl ⟨rfl, Or.inr hc39_59⟩, Or.inl ⟨rfl, Or.inr hc39_59⟩, Or.inl ⟨rfl, hc4_87⟩⟩
          · refine own_go (x' := T56.setTop (mkF m 59 #[.val (.ref ao0), .val (.int p1), .val (.int p2), .val (.int (2 : Int32)), .val (.int p2)] [(.ref ao0)])) (fun _ k => XS.icmpYes X56.here hx rfl (pc0 := 4) (pc' := 58) rfl (hb hby d3_4) rfl (flt hc4_81).2.1 (by decide) (by decide) (XS.aloadN X56.here hx rfl (hb hby d3_58) rfl rfl k)) ?_
            obtain ⟨T95, X95, e95, st95⟩ := getF X56 hx hZ hown (host := "") (Or.inl (own_w hw 11 rfl)) Via.refl e56 F_ao0_bytes (g := (mkF m 59 #[.val (.ref ao0), .val (.int p1), .val (.int p2), .val (.int (2 : Int32)), .val (.int p2)] [(.ref ao0)])) rfl rfl (hb hby d3_59)
            refine own_go (x' := T95.setTop (mkF m 62 #[.val (.ref ao0), .val (.int p1), .val (.int p2), .val (.int (2 : Int32)), .val (.int p2)] [(.ref ar)])) st95 ?_
            refine own_retR X95 hx hlk hret rfl rfl (hb hby d3_62) ?_ (by decide) (by decide)
            rw [e95]
            exact ⟨(.ref b0), (.ref b1), (.ref b2), .null, rfl, Nf, Kp, V_ar, Or.inl ⟨rfl, Or.inr hc39⟩, Or.inl ⟨rfl, Or.inr hc39_59⟩, Or.inl ⟨rfl, Or.inl hc4_81⟩, Or.inl ⟨rfl, (own_le hc4_81 (by decide))⟩⟩
      · refine own_go (x' := T3.setTop (mkF m 59 #[.val (.ref ao0), .val (.int p1), .val (.int p2), .val (.int (1 : Int32)), .val (.int (p2 + (64 : Int32)))] [(.ref ao0)])) (fun _ k => XS.icmpYes X3.here hx rfl (pc0 := 4) (pc' := 58) rfl (hb hby d3_4) rfl (flt hc4_53).2.1 (by decide) (by decide) (XS.aloadN X3.here hx rfl (hb hby d3_58) rfl rfl k)) ?_
        obtain ⟨T96, X96, e96, st96⟩ := getF X3 hx hZ hown (host := "") (Or.inl (own_w hw 11 rfl)) Via.refl e3 F_ao0_bytes (g := (mkF m 59 #[.val (.ref ao0), .val (.int p1), .val (.int p2), .val (.int (1 : Int32)), .val (.int (p2 + (64 : Int32)))] [(.ref ao0)])) rfl rfl (hb hby d3_59)
        refine own_go (x' := T96.setTop (mkF m 62 #[.val (.ref ao0), .val (.int p1), .val (.int p2), .val (.int (1 : Int32)), .val (.int (p2 + (64 : Int32)))] [(.ref ar)])) st96 ?_
        refine own_retR X96 hx hlk hret rfl rfl (hb hby d3_62) ?_ (by decide) (by decide)
        rw [e96]
        exact ⟨(.ref b0), (.ref b1), (.ref b2), .null, rfl, Nf, Kp, V_ar, Or.inl ⟨rfl, Or.inr hc39⟩, Or.inl ⟨rfl, Or.inl hc4_53⟩, Or.inl ⟨rfl, Or.inl (own_le hc4_53 (by decide))⟩, Or.inl ⟨rfl, (own_le hc4_53 (by decide))⟩⟩
  · refine own_go (x' := s₁.setTop (mkF m 59 #[.val (.ref ao0), .val (.int p1), .val (.int p2), .val (.int (0 : Int32)), .unset] [(.ref ao0)])) (fun _ k => XS.icmpYes X0.here hx rfl (pc0 := 4) (pc' := 58) rfl (hb hby d3_4) rfl (flt hc4).2.1 (by decide) (by decide) (XS.aloadN X0.here hx rfl (hb hby d3_58) rfl rfl k)) ?_
    obtain ⟨T97, X97, e97, st97⟩ := getF X0 hx hZ hown (host := "") (Or.inl (own_w hw 11 rfl)) Via.refl e0 F_ao0_bytes (g := (mkF m 59 #[.val (.ref ao0), .val (.int p1), .val (.int p2), .val (.int (0 : Int32)), .unset] [(.ref ao0)])) rfl rfl (hb hby d3_59)
    refine own_go (x' := T97.setTop (mkF m 62 #[.val (.ref ao0), .val (.int p1), .val (.int p2), .val (.int (0 : Int32)), .unset] [(.ref ar)])) st97 ?_
    refine own_retR X97 hx hlk hret rfl rfl (hb hby d3_62) ?_ (by decide) (by decide)
    rw [e97]
    exact ⟨(.ref b0), (.ref b1), (.ref b2), .null, rfl, Nf, Kp, V_ar, Or.inl ⟨rfl, Or.inl hc4⟩, Or.inl ⟨rfl, Or.inl (own_le hc4 (by decide))⟩, Or.inl ⟨rfl, Or.inl (own_le hc4 (by decide))⟩, Or.inl ⟨rfl, (own_le hc4 (by decide))⟩⟩
def Q_rmS_4 (Z : State) (ao0 : Addr) (p1 : Int32) (p2 : Int32) (ar : Addr) (kc : ClassId) (nA n1 : Int32) (b0 : Addr) (k0 : ClassId) (b1 : Addr) (k1 : ClassId) (b2 : Addr) (k2 : ClassId) (b3 : Addr) (k3 : ClassId) (h0 : Heap) (n0 : Nat) (v : Option Value) (h : Heap) (L : List Loc) : Prop := ∃ w0 w1 w2 w3 : Value, v = some (.ref ar) ∧ Fr n0 L ∧ Keep h0 h [ar] ∧ Arv Z h ar kc (.array .byte) (4 : Int32) [w0, w1, w2, w3] .null ∧ own_Rp Z h h0.size w0 b0 (0 : Int32) p1 nA (p2 + (64 : Int32)) ∧ own_Rp Z h h0.size w1 b1 (1 : Int32) p1 n1 p2 ∧ own_Rp Z h h0.size w2 b2 (2 : Int32) p1 n1 p2 ∧ own_Rp Z h h0.size w3 b3 (3 : Int32) p1 n1 p2
theorem pn_rmS_4 : plainName "com/example/wee_match/weematch/Sieve$Windows" = true := by first | (simp [plainName, overriddenIn]; done) | decide +kernel
theorem ef_rmS_4 (m : MethodId) (x0 : Addr) (x1 : Int32) (x2 : Int32) : entryFrame m #[(.ref x0), (.int x1), (.int x2)] 5 = mkF m 0 #[.val (.ref x0), .val (.int x1), .val (.int x2), .unset, .unset] [] := by first | (simp [entryFrame, mkF, argsToLocals, Value.category]; done) | rfl
set_option maxRecDepth 65536 in
set_option maxHeartbeats 40000000 in
theorem rmS_4 (l : Launch) (Z : State) (a0 : Array Value) (hw : ∀ d ∈ tables_1, d.before a0 Z = true) (ws : List Jvm.Cond) (ao0 : Addr) (p1 : Int32) (p2 : Int32) (ar : Addr) (kc : ClassId) (nA n1 : Int32) (b0 : Addr) (k0 : ClassId) (b1 : Addr) (k1 : ClassId) (b2 : Addr) (k2 : ClassId) (b3 : Addr) (k3 : ClassId) (h0 : Heap) (n0 : Nat) (Z0 : n0 ≤ h0.size) (F_ao0_bytes : Fld Z h0 ao0 "com/example/wee_match/weematch/Sieve$Windows" "bytes" "[[B" (.ref ar)) (V_ar : Arv Z h0 ar kc (.array .byte) (4 : Int32) [.ref b0, .ref b1, .ref b2, .ref b3] .null) (O_ar : OvrA Z kc .byte "[B") (ne_ao0_ar : ao0 ≠ ar) (g_ar : n0 ≤ ar) (hs : own_L p2 16383) (ht : own_L (p2 + (64 : Int32)) 16447) (hu : ¬ (4 : Int32) < p1) (V_b0 : Arv Z h0 b0 k0 .byte nA [] (.int (0 : Int32))) (V_b1 : Arv Z h0 b1 k1 .byte n1 [] (.int (0 : Int32))) (V_b2 : Arv Z h0 b2 k2 .byte n1 [] (.int (0 : Int32))) (V_b3 : Arv Z h0 b3 k3 .byte n1 [] (.int (0 : Int32))) (ne_b0_ar : b0 ≠ ar) (ne_b1_ar : b1 ≠ ar) (ne_b2_ar : b2 ≠ ar) (ne_b3_ar : b3 ≠ ar) :
    MetFree l (⟨"com/example/wee_match/weematch/Sieve$Windows", "bytes", "(II)[[B"⟩ : MethodName) (head1 (Jvm.Cond.code (⟨"com/example/wee_match/weematch/Sieve$Windows", "bytes", "(II)[[B"⟩ : MethodName) prog_20_method_2_code 5 (some (.array (.array .byte))) :: ws) ({ frames := 0, cells := 4, slots := 65596, locals := 0 } : Room)) (fun a U => a = #[(.ref ao0), (.int p1), (.int p2)] ∧ Z.Warmed39 U.vm ∧ U.heap = h0) (fun _ _ _ _ _ => True) (fun _ U o U' => ∃ v L, o = .returned v ∧ (Q_rmS_4 Z ao0 p1 p2 ar kc nA n1 b0 k0 b1 k1 b2 k2 b3 k3 h0 n0) v U'.heap L ∧ FrameEnd U o U' L ({ frames := 0, cells := 4, slots := 65596, locals := 0 } : Room).cells ({ frames := 0, cells := 4, slots := 65596, locals := 0 } : Room).slots) := by
  refine MetFree.of_bodySF (plainFor_of_name pn_rmS_4) hisR ?_
  intro p e s m args below meth c s₁ Bd hml0 hP hK
  obtain ⟨rfl, hZ, hh⟩ := hP
  have hx := Bd.exec
  have hby := Bd.bytes
  have hlk := BodyLoose.notSynchronized Bd
  have hret := Bd.returns
  have hml : c.maxLocals = 5 := hml0
  have hown : s.vm.findClass "com/example/wee_match/weematch/Sieve$Windows" = some m.cls := findClass_of_methodNamed Bd.named
  have hnm := (name_of_methodNamed Bd.named Bd.method).1
  have X0 : Stand p l e ({ frames := 0, cells := 4, slots := 65596, locals := 0 } : Room) s m #[(.ref ao0), (.int p1), (.int p2)] below meth c s₁ [] 0 0 := Stand.of_body Bd
  have e0 : s₁.heap = h0 := by rw [← hh, Bd.state]; rfl
  have Nf := Fr.nil n0
  have Zs := Z0
  have Kp : Keep h0 h0 [ar] := Keep.refl _ _
  show own_End p e below s (Q_rmS_4 Z ao0 p1 p2 ar kc nA n1 b0 k0 b1 k1 b2 k2 b3 k3 h0 n0) ({ frames := 0, cells := 4, slots := 65596, locals := 0 } : Room).cells ({ frames := 0, cells := 4, slots := 65596, locals := 0 } : Room).slots (s₁.setTop (entryFrame m #[(.ref ao0), (.int p1), (.int p2)] 5))
  refine own_go (x' := s₁.setTop (mkF m 0 #[.val (.ref ao0), .val (.int p1), .val (.int p2), .unset, .unset] [])) (fun t k => castTop (ef_rmS_4 m ao0 p1 p2) k) ?_
  refine own_go (x' := s₁.setTop (mkF m 4 #[.val (.ref ao0), .val (.int p1), .val (.int p2), .val (.int (0 : Int32)), .unset] [(.int p1), (.int (0 : Int32))])) (fun _ k => XS.iconst X0.here hx rfl (hb hby d3_0) (XS.istoreN X0.here hx rfl (hb hby d3_1) rfl (l' := #[.val (.ref ao0), .val (.int p1), .val (.int p2), .val (.int (0 : Int32)), .unset]) rfl (XS.iloadN X0.here hx rfl (hb hby d3_2) rfl (XS.iloadN X0.here hx rfl (hb hby d3_3) rfl k)))) ?_
  by_cases hc4 : (0 : Int32) < p1
  · refine own_go (x' := s₁.setTop (mkF m 15 #[.val (.ref ao0), .val (.int p1), .val (.int p2), .val (.int (0 : Int32)), .unset] [(.int (p2 + (64 : Int32)))])) (fun _ k => XS.icmpNo X0.here hx rfl (hb hby d3_4) rfl (tlt hc4).2.1 (XS.iloadN X0.here hx rfl (hb hby d3_7) rfl (XS.ifNo X0.here hx rfl (hb hby d3_8) rfl ((if0 _ _).trans (teq rfl).2) (XS.iloadN X0.here hx rfl (hb hby d3_11) rfl (XS.bipush X0.here hx rfl (hb hby d3_12) (XS.iadd X0.here hx rfl (hb hby d3_14) rfl k)))))) ?_
    refine own_go (x' := s₁.setTop (mkF m 22 #[.val (.ref ao0), .val (.int p1), .val (.int p2), .val (.int (0 : Int32)), .val (.int (p2 + (64 : Int32)))] [(.ref ao0)])) (fun _ k => XS.goto X0.here hx rfl (pc0 := 15) (pc' := 19) rfl (hb hby d3_15) (by decide) (by decide) (XS.istore X0.here hx rfl (hb hby d3_19) rfl (l' := #[.val (.ref ao0), .val (.int p1), .val (.int p2), .val (.int (0 : Int32)), .val (.int (p2 + (64 : Int32)))]) rfl (XS.aloadN X0.here hx rfl (hb hby d3_21) rfl rfl k))) ?_
    obtain ⟨T1, X1, e1, st1⟩ := getF X0 hx hZ hown (host := "") (Or.inl (own_w hw 11 rfl)) Via.refl e0 F_ao0_bytes (g := (mkF m 22 #[.val (.ref ao0), .val (.int p1), .val (.int p2), .val (.int (0 : Int32)), .val (.int (p2 + (64 : Int32)))] [(.ref ao0)])) rfl rfl (hb hby d3_22)
    refine own_go (x' := T1.setTop (mkF m 25 #[.val (.ref ao0), .val (.int p1), .val (.int p2), .val (.int (0 : Int32)), .val (.int (p2 + (64 : Int32)))] [(.ref ar)])) st1 ?_
    refine own_go (x' := T1.setTop (mkF m 26 #[.val (.ref ao0), .val (.int p1), .val (.int p2), .val (.int (0 : Int32)), .val (.int (p2 + (64 : Int32)))] [(.int (0 : Int32)), (.ref ar)])) (fun _ k => XS.iloadN X1.here hx rfl (hb hby d3_25) rfl k) ?_
    obtain ⟨cl2, Ar2, q2, Sz2, Nn2, Hh2, Gg2⟩ := id V_ar
    have hin2 : ¬ ((0 : Int32) < 0 ∨ cl2.slots.size ≤ ((0 : Int32)).toNatClampNeg) := inb_of Sz2 ⟨by decide, by decide⟩
    refine own_go (x' := T1.setTop (mkF m 27 #[.val (.ref ao0), .val (.int p1), .val (.int p2), .val (.int (0 : Int32)), .val (.int (p2 + (64 : Int32)))] [(.ref b0)])) (X1.aaload hx (j := (0 : Int32)) (v := (.ref b0)) (Eq.trans (congrArg (fun h_ => h_[_]?) e1) Ar2.1) (State.isArrayOf_alike hZ.alike Ar2.2.1) rfl Ar2.2.2 hin2 (Hh2.at hin2 rfl) (g := (mkF m 26 #[.val (.ref ao0), .val (.int p1), .val (.int p2), .val (.int (0 : Int32)), .val (.int (p2 + (64 : Int32)))] [(.int (0 : Int32)), (.ref ar)])) rfl rfl (hb hby d3_26)) ?_
    refine own_go (x' := T1.setTop (mkF m 31 #[.val (.ref ao0), .val (.int p1), .val (.int p2), .val (.int (0 : Int32)), .val (.int (p2 + (64 : Int32)))] [(.ref ao0)])) (fun _ k => XS.ifnullNo X1.here hx rfl (hb hby d3_27) rfl (XS.aloadN X1.here hx rfl (hb hby d3_30) rfl rfl k)) ?_
    obtain ⟨T3, X3, e3, st3⟩ := getF X1 hx hZ hown (host := "") (Or.inl (own_w hw 11 rfl)) Via.refl e1 F_ao0_bytes (g := (mkF m 31 #[.val (.ref ao0), .val (.int p1), .val (.int p2), .val (.int (0 : Int32)), .val (.int (p2 + (64 : Int32)))] [(.ref ao0)])) rfl rfl (hb hby d3_31)
    refine own_go (x' := T3.setTop (mkF m 34 #[.val (.ref ao0), .val (.int p1), .val (.int p2), .val (.int (0 : Int32)), .val (.int (p2 + (64 : Int32)))] [(.ref ar)])) st3 ?_
    refine own_go (x' := T3.setTop (mkF m 35 #[.val (.ref ao0), .val (.int p1), .val (.int p2), .val (.int (0 : Int32)), .val (.int (p2 + (64 : Int32)))] [(.int (0 : Int32)), (.ref ar)])) (fun _ k => XS.iloadN X3.here hx rfl (hb hby d3_34) rfl k) ?_
    obtain ⟨cl4, Ar4, q4, Sz4, Nn4, Hh4, Gg4⟩ := id V_ar
    have hin4 : ¬ ((0 : Int32) < 0 ∨ cl4.slots.size ≤ ((0 : Int32)).toNatClampNeg) := inb_of Sz4 ⟨by decide, by decide⟩
    refine own_go (x' := T3.setTop (mkF m 36 #[.val (.ref ao0), .val (.int p1), .val (.int p2), .val (.int (0 : Int32)), .val (.int (p2 + (64 : Int32)))] [(.ref b0)])) (X3.aaload hx (j := (0 : Int32)) (v := (.ref b0)) (Eq.trans (congrArg (fun h_ => h_[_]?) e3) Ar4.1) (State.isArrayOf_alike hZ.alike Ar4.2.1) rfl Ar4.2.2 hin4 (Hh4.at hin4 rfl) (g := (mkF m 35 #[.val (.ref ao0), .val (.int p1), .val (.int p2), .val (.int (0 : Int32)), .val (.int (p2 + (64 : Int32)))] [(.int (0 : Int32)), (.ref ar)])) rfl rfl (hb hby d3_35)) ?_
    obtain ⟨cl5, Ar5, -, Sz5, Nn5, -, -⟩ := id V_b0
    refine own_go (x' := T3.setTop (mkF m 37 #[.val (.ref ao0), .val (.int p1), .val (.int p2), .val (.int (0 : Int32)), .val (.int (p2 + (64 : Int32)))] [(.int nA)])) (fun t k => X3.arraylength hx (Eq.trans (congrArg (fun h_ => h_[_]?) e3) Ar5.1) (State.isArrayOf_alike hZ.alike Ar5.2.1) (g := (mkF m 36 #[.val (.ref ao0), .val (.int p1), .val (.int p2), .val (.int (0 : Int32)), .val (.int (p2 + (64 : Int32)))] [(.ref b0)])) rfl rfl (hb hby d3_36) t (by rw [len_of Sz5 Nn5]; exact k)) ?_
    refine own_go (x' := T3.setTop (mkF m 39 #[.val (.ref ao0), .val (.int p1), .val (.int p2), .val (.int (0 : Int32)), .val (.int (p2 + (64 : Int32)))] [(.int (p2 + (64 : Int32))), (.int nA)])) (fun _ k => XS.iload X3.here hx rfl (hb hby d3_37) rfl k) ?_
    by_cases hc39 : nA < (p2 + (64 : Int32))
    · refine own_go (x' := T3.setTop (mkF m 43 #[.val (.ref ao0), .val (.int p1), .val (.int p2), .val (.int (0 : Int32)), .val (.int (p2 + (64 : Int32)))] [(.ref ao0)])) (fun _ k => XS.icmpNo X3.here hx rfl (hb hby d3_39) rfl (tlt hc39).2.1 (XS.aloadN X3.here hx rfl (hb hby d3_42) rfl rfl k)) ?_
      obtain ⟨T6, X6, e6, st6⟩ := getF X3 hx hZ hown (host := "") (Or.inl (own_w hw 11 rfl)) Via.refl e3 F_ao0_bytes (g := (mkF m 43 #[.val (.ref ao0), .val (.int p1), .val (.int p2), .val (.int (0 : Int32)), .val (.int (p2 + (64 : Int32)))] [(.ref ao0)])) rfl rfl (hb hby d3_43)
      refine own_go (x' := T6.setTop (mkF m 46 #[.val (.ref ao0), .val (.int p1), .val (.int p2), .val (.int (0 : Int32)), .val (.int (p2 + (64 : Int32)))] [(.ref ar)])) st6 ?_
      refine own_go (x' := T6.setTop (mkF m 49 #[.val (.ref ao0), .val (.int p1), .val (.int p2), .val (.int (0 : Int32)), .val (.int (p2 + (64 : Int32)))] [(.int (p2 + (64 : Int32))), (.int (0 : Int32)), (.ref ar)])) (fun _ k => XS.iloadN X6.here hx rfl (hb hby d3_46) rfl (XS.iload X6.here hx rfl (hb hby d3_47) rfl k)) ?_
      obtain ⟨T7, h7, k7, X7, e7, E7, A7, Q7, st7⟩ := newPE X6 hx hZ (own_w hw 29 rfl) e6 (g := (mkF m 49 #[.val (.ref ao0), .val (.int p1), .val (.int p2), .val (.int (0 : Int32)), .val (.int (p2 + (64 : Int32)))] [(.int (p2 + (64 : Int32))), (.int (0 : Int32)), (.ref ar)])) rfl (hb hby d3_49) rfl ht.1 (cap := 16447) ht.2 (by decide) (by decide) (by decide) (ad := "[B") (by decide)
      obtain ⟨b7, g7⟩ : ∃ z, z = h0.size := ⟨_, rfl⟩
      rw [← g7] at A7 st7
      rw [← g7] at Q7
      have ne_ao0_b7 : ao0 ≠ b7 := Nat.ne_of_lt (Nat.lt_of_lt_of_le F_ao0_bytes.lt (Nat.le_of_eq g7.symm))
      have ne_ar_b7 : ar ≠ b7 := Nat.ne_of_lt (Nat.lt_of_lt_of_le V_ar.lt (Nat.le_of_eq g7.symm))
      have ne_b0_b7 : b0 ≠ b7 := Nat.ne_of_lt (Nat.lt_of_lt_of_le V_b0.lt (Nat.le_of_eq g7.symm))
      have ne_b1_b7 : b1 ≠ b7 := Nat.ne_of_lt (Nat.lt_of_lt_of_le V_b1.lt (Nat.le_of_eq g7.symm))
      have ne_b2_b7 : b2 ≠ b7 := Nat.ne_of_lt (Nat.lt_of_lt_of_le V_b2.lt (Nat.le_of_eq g7.symm))
      have ne_b3_b7 : b3 ≠ b7 := Nat.ne_of_lt (Nat.lt_of_lt_of_le V_b3.lt (Nat.le_of_eq g7.symm))
      have g_b7 : n0 ≤ b7 := Nat.le_trans Zs (Nat.le_of_eq g7.symm)
      have sz_b7 : h0.size ≤ b7 := Nat.le_trans Kp.1 (Nat.le_of_eq g7.symm)
      replace F_ao0_bytes := Fld.ext E7 F_ao0_bytes
      replace V_ar := V_ar.ext E7
      replace V_b0 := V_b0.ext E7
      replace V_b1 := V_b1.ext E7
      replace V_b2 := V_b2.ext E7
      replace V_b3 := V_b3.ext E7
      replace Zs := Nat.le_trans Zs E7.1
      replace Kp := Kp.ext E7
      have E_b7 := Q7
      have V_b7 : Arv Z h7 b7 k7 .byte (p2 + (64 : Int32)) [] (.int (0 : Int32)) := Arv.new A7 ht.1
      refine own_go (x' := T7.setTop (mkF m 51 #[.val (.ref ao0), .val (.int p1), .val (.int p2), .val (.int (0 : Int32)), .val (.int (p2 + (64 : Int32)))] [(.ref b7), (.int (0 : Int32)), (.ref ar)])) st7 ?_
      obtain ⟨cl8, Ar8, q8, Sz8, Nn8, Hh8, Gg8⟩ := V_ar
      have hin8 : ¬ ((0 : Int32) < 0 ∨ cl8.slots.size ≤ ((0 : Int32)).toNatClampNeg) := inb_of Sz8 ⟨by decide, by decide⟩
      obtain ⟨T8, h8, X8, e8, W8, st8⟩ := stR X7 hx hZ e7 Ar8 (j := (0 : Int32)) hin8 rfl (Sto.ofVA Ar8 q8 O_ar (Ins.self E_b7)) (g := (mkF m 51 #[.val (.ref ao0), .val (.int p1), .val (.int p2), .val (.int (0 : Int32)), .val (.int (p2 + (64 : Int32)))] [(.ref b7), (.int (0 : Int32)), (.ref ar)])) rfl rfl (hb hby d3_51)
      refine own_go (x' := T8.setTop (mkF m 52 #[.val (.ref ao0), .val (.int p1), .val (.int p2), .val (.int (0 : Int32)), .val (.int (p2 + (64 : Int32)))] [])) st8 ?_
      replace F_ao0_bytes := Fld.other W8 F_ao0_bytes (Or.inl ne_ao0_ar)
      replace V_b0 := V_b0.other W8 ne_b0_ar
      replace V_b1 := V_b1.other W8 ne_b1_ar
      replace V_b2 := V_b2.other W8 ne_b2_ar
      replace V_b3 := V_b3.other W8 ne_b3_ar
      replace E_b7 := Exa.wr W8 E_b7
      replace V_b7 := V_b7.other W8 (Ne.symm ne_ar_b7)
      replace Zs := Nat.le_trans Zs (Keep.of_wr W8).1
      replace Nf := Fr.snoc X8 Nf g_ar
      replace Kp := Kp.wr W8 (Or.inl (by simp))
      have V_ar : Arv Z h8 ar kc (.array .byte) (4 : Int32) [(.ref b7), (.ref b1), (.ref b2), (.ref b3)] .null := Arv.set Ar8 q8 Sz8 Nn8 Hh8 Gg8 rfl W8 0 rfl (Nat.le_of_ble_eq_true rfl)
      refine own_go (x' := T8.setTop (mkF m 2 #[.val (.ref ao0), .val (.int p1), .val (.int p2), .val (.int ((0 : Int32) + (1 : Int32))), .val (.int (p2 + (64 : Int32)))] [])) (fun _ k => XS.iinc X8.here hx rfl (hb hby d3_52) rfl (l' := #[.val (.ref ao0), .val (.int p1), .val (.int p2), .val (.int ((0 : Int32) + (1 : Int32))), .val (.int (p2 + (64 : Int32)))]) rfl (XS.goto X8.here hx rfl (pc0 := 55) (pc' := 2) rfl (hb hby d3_55) (by decide) (by decide) k)) ?_
      rw [show ((0 : Int32) + (1 : Int32)) = (1 : Int32) from by decide +kernel]
      refine own_go (x' := T8.setTop (mkF m 4 #[.val (.ref ao0), .val (.int p1), .val (.int p2), .val (.int (1 : Int32)), .val (.int (p2 + (64 : Int32)))] [(.int p1), (.int (1 : Int32))])) (fun _ k => XS.iloadN X8.here hx rfl (hb hby d3_2) rfl (XS.iloadN X8.here hx rfl (hb hby d3_3) rfl k)) ?_
      by_cases hc4_9 : (1 : Int32) < p1
      · refine own_go (x' := T8.setTop (mkF m 22 #[.val (.ref ao0), .val (.int p1), .val (.int p2), .val (.int (1 : Int32)), .val (.int p2)] [(.ref ao0)])) (fun _ k => XS.icmpNo X8.here hx rfl (hb hby d3_4) rfl (tlt hc4_9).2.1 (XS.iloadN X8.here hx rfl (hb hby d3_7) rfl (XS.ifYes X8.here hx rfl (pc0 := 8) (pc' := 18) rfl (hb hby d3_8) rfl ((if0 _ _).trans (feq (by decide +kernel : ¬ ((1 : Int32) = (0 : Int32)))).2) (by decide) (by decide) (XS.iloadN X8.here hx rfl (hb hby d3_18) rfl (XS.istore X8.here hx rfl (hb hby d3_19) rfl (l' := #[.val (.ref ao0), .val (.int p1), .val (.int p2), .val (.int (1 : Int32)), .val (.int p2)]) rfl (XS.aloadN X8.here hx rfl (hb hby d3_21) rfl rfl k)))))) ?_
        obtain ⟨T10, X10, e10, st10⟩ := getF X8 hx hZ hown (host := "") (Or.inl (own_w hw 11 rfl)) Via.refl e8 F_ao0_bytes (g := (mkF m 22 #[.val (.ref ao0), .val (.int p1), .val (.int p2), .val (.int (1 : Int32)), .val (.int p2)] [(.ref ao0)])) rfl rfl (hb hby d3_22)
        refine own_go (x' := T10.setTop (mkF m 25 #[.val (.ref ao0), .val (.int p1), .val (.int p2), .val (.int (1 : Int32)), .val (.int p2)] [(.ref ar)])) st10 ?_
        refine own_go (x' := T10.setTop (mkF m 26 #[.val (.ref ao0), .val (.int p1), .val (.int p2), .val (.int (1 : Int32)), .val (.int p2)] [(.int (1 : Int32)), (.ref ar)])) (fun _ k => XS.iloadN X10.here hx rfl (hb hby d3_25) rfl k) ?_
        obtain ⟨cl11, Ar11, q11, Sz11, Nn11, Hh11, Gg11⟩ := id V_ar
        have hin11 : ¬ ((1 : Int32) < 0 ∨ cl11.slots.size ≤ ((1 : Int32)).toNatClampNeg) := inb_of Sz11 ⟨by decide, by decide⟩
        refine own_go (x' := T10.setTop (mkF m 27 #[.val (.ref ao0), .val (.int p1), .val (.int p2), .val (.int (1 : Int32)), .val (.int p2)] [(.ref b1)])) (X10.aaload hx (j := (1 : Int32)) (v := (.ref b1)) (Eq.trans (congrArg (fun h_ => h_[_]?) e10) Ar11.1) (State.isArrayOf_alike hZ.alike Ar11.2.1) rfl Ar11.2.2 hin11 (Hh11.at hin11 rfl) (g := (mkF m 26 #[.val (.ref ao0), .val (.int p1), .val (.int p2), .val (.int (1 : Int32)), .val (.int p2)] [(.int (1 : Int32)), (.ref ar)])) rfl rfl (hb hby d3_26)) ?_
        refine own_go (x' := T10.setTop (mkF m 31 #[.val (.ref ao0), .val (.int p1), .val (.int p2), .val (.int (1 : Int32)), .val (.int p2)] [(.ref ao0)])) (fun _ k => XS.ifnullNo X10.here hx rfl (hb hby d3_27) rfl (XS.aloadN X10.here hx rfl (hb hby d3_30) rfl rfl k)) ?_
        obtain ⟨T12, X12, e12, st12⟩ := getF X10 hx hZ hown (host := "") (Or.inl (own_w hw 11 rfl)) Via.refl e10 F_ao0_bytes (g := (mkF m 31 #[.val (.ref ao0), .val (.int p1), .val (.int p2), .val (.int (1 : Int32)), .val (.int p2)] [(.ref ao0)])) rfl rfl (hb hby d3_31)
        refine own_go (x' := T12.setTop (mkF m 34 #[.val (.ref ao0), .val (.int p1), .val (.int p2), .val (.int (1 : Int32)), .val (.int p2)] [(.ref ar)])) st12 ?_
        refine own_go (x' := T12.setTop (mkF m 35 #[.val (.ref ao0), .val (.int p1), .val (.int p2), .val (.int (1 : Int32)), .val (.int p2)] [(.int (1 : Int32)), (.ref ar)])) (fun _ k => XS.iloadN X12.here hx rfl (hb hby d3_34) rfl k) ?_
        obtain ⟨cl13, Ar13, q13, Sz13, Nn13, Hh13, Gg13⟩ := id V_ar
        have hin13 : ¬ ((1 : Int32) < 0 ∨ cl13.slots.size ≤ ((1 : Int32)).toNatClampNeg) := inb_of Sz13 ⟨by decide, by decide⟩
        refine own_go (x' := T12.setTop (mkF m 36 #[.val (.ref ao0), .val (.int p1), .val (.int p2), .val (.int (1 : Int32)), .val (.int p2)] [(.ref b1)])) (X12.aaload hx (j := (1 : Int32)) (v := (.ref b1)) (Eq.trans (congrArg (fun h_ => h_[_]?) e12) Ar13.1) (State.isArrayOf_alike hZ.alike Ar13.2.1) rfl Ar13.2.2 hin13 (Hh13.at hin13 rfl) (g := (mkF m 35 #[.val (.ref ao0), .val (.int p1), .val (.int p2), .val (.int (1 : Int32)), .val (.int p2)] [(.int (1 : Int32)), (.ref ar)])) rfl rfl (hb hby d3_35)) ?_
        obtain ⟨cl14, Ar14, -, Sz14, Nn14, -, -⟩ := id V_b1
        refine own_go (x' := T12.setTop (mkF m 37 #[.val (.ref ao0), .val (.int p1), .val (.int p2), .val (.int (1 : Int32)), .val (.int p2)] [(.int n1)])) (fun t k => X12.arraylength hx (Eq.trans (congrArg (fun h_ => h_[_]?) e12) Ar14.1) (State.isArrayOf_alike hZ.alike Ar14.2.1) (g := (mkF m 36 #[.val (.ref ao0), .val (.int p1), .val (.int p2), .val (.int (1 : Int32)), .val (.int p2)] [(.ref b1)])) rfl rfl (hb hby d3_36) t (by rw [len_of Sz14 Nn14]; exact k)) ?_
        refine own_go (x' := T12.setTop (mkF m 39 #[.val (.ref ao0), .val (.int p1), .val (.int p2), .val (.int (1 : Int32)), .val (.int p2)] [(.int p2), (.int n1)])) (fun _ k => XS.iload X12.here hx rfl (hb hby d3_37) rfl k) ?_
        by_cases hc39_15 : n1 < p2
        · refine own_go (x' := T12.setTop (mkF m 43 #[.val (.ref ao0), .val (.int p1), .val (.int p2), .val (.int (1 : Int32)), .val (.int p2)] [(.ref ao0)])) (fun _ k => XS.icmpNo X12.here hx rfl (hb hby d3_39) rfl (tlt hc39_15).2.1 (XS.aloadN X12.here hx rfl (hb hby d3_42) rfl rfl k)) ?_
          obtain ⟨T16, X16, e16, st16⟩ := getF X12 hx hZ hown (host := "") (Or.inl (own_w hw 11 rfl)) Via.refl e12 F_ao0_bytes (g := (mkF m 43 #[.val (.ref ao0), .val (.int p1), .val (.int p2), .val (.int (1 : Int32)), .val (.int p2)] [(.ref ao0)])) rfl rfl (hb hby d3_43)
          refine own_go (x' := T16.setTop (mkF m 46 #[.val (.ref ao0), .val (.int p1), .val (.int p2), .val (.int (1 : Int32)), .val (.int p2)] [(.ref ar)])) st16 ?_
          refine own_go (x' := T16.setTop (mkF m 49 #[.val (.ref ao0), .val (.int p1), .val (.int p2), .val (.int (1 : Int32)), .val (.int p2)] [(.int p2), (.int (1 : Int32)), (.ref ar)])) (fun _ k => XS.iloadN X16.here hx rfl (hb hby d3_46) rfl (XS.iload X16.here hx rfl (hb hby d3_47) rfl k)) ?_
          obtain ⟨T17, h17, k17, X17, e17, E17, A17, Q17, st17⟩ := newPE X16 hx hZ (own_w hw 29 rfl) e16 (g := (mkF m 49 #[.val (.ref ao0), .val (.int p1), .val (.int p2), .val (.int (1 : Int32)), .val (.int p2)] [(.int p2), (.int (1 : Int32)), (.ref ar)])) rfl (hb hby d3_49) rfl hs.1 (cap := 16383) hs.2 (by decide) (by decide) (by decide) (ad := "[B") (by decide)
          obtain ⟨b17, g17⟩ : ∃ z, z = h8.size := ⟨_, rfl⟩
          rw [← g17] at A17 st17
          rw [← g17] at Q17
          have ne_ao0_b17 : ao0 ≠ b17 := Nat.ne_of_lt (Nat.lt_of_lt_of_le F_ao0_bytes.lt (Nat.le_of_eq g17.symm))
          have ne_b0_b17 : b0 ≠ b17 := Nat.ne_of_lt (Nat.lt_of_lt_of_le V_b0.lt (Nat.le_of_eq g17.symm))
          have ne_b1_b17 : b1 ≠ b17 := Nat.ne_of_lt (Nat.lt_of_lt_of_le V_b1.lt (Nat.le_of_eq g17.symm))
          have ne_b2_b17 : b2 ≠ b17 := Nat.ne_of_lt (Nat.lt_of_lt_of_le V_b2.lt (Nat.le_of_eq g17.symm))
          have ne_b3_b17 : b3 ≠ b17 := Nat.ne_of_lt (Nat.lt_of_lt_of_le V_b3.lt (Nat.le_of_eq g17.symm))
          have ne_b7_b17 : b7 ≠ b17 := Nat.ne_of_lt (Nat.lt_of_lt_of_le E_b7.lt (Nat.le_of_eq g17.symm))
          have ne_ar_b17 : ar ≠ b17 := Nat.ne_of_lt (Nat.lt_of_lt_of_le V_ar.lt (Nat.le_of_eq g17.symm))
          have g_b17 : n0 ≤ b17 := Nat.le_trans Zs (Nat.le_of_eq g17.symm)
          have sz_b17 : h0.size ≤ b17 := Nat.le_trans Kp.1 (Nat.le_of_eq g17.symm)
          replace F_ao0_bytes := Fld.ext E17 F_ao0_bytes
          replace V_b0 := V_b0.ext E17
          replace V_b1 := V_b1.ext E17
          replace V_b2 := V_b2.ext E17
          replace V_b3 := V_b3.ext E17
          replace E_b7 := Exa.ext E17 E_b7
          replace V_b7 := V_b7.ext E17
          replace V_ar := V_ar.ext E17
          replace Zs := Nat.le_trans Zs E17.1
          replace Kp := Kp.ext E17
          have E_b17 := Q17
          have V_b17 : Arv Z h17 b17 k17 .byte p2 [] (.int (0 : Int32)) := Arv.new A17 hs.1
          refine own_go (x' := T17.setTop (mkF m 51 #[.val (.ref ao0), .val (.int p1), .val (.int p2), .val (.int (1 : Int32)), .val (.int p2)] [(.ref b17), (.int (1 : Int32)), (.ref ar)])) st17 ?_
          obtain ⟨cl18, Ar18, q18, Sz18, Nn18, Hh18, Gg18⟩ := V_ar
          have hin18 : ¬ ((1 : Int32) < 0 ∨ cl18.slots.size ≤ ((1 : Int32)).toNatClampNeg) := inb_of Sz18 ⟨by decide, by decide⟩
          obtain ⟨T18, h18, X18, e18, W18, st18⟩ := stR X17 hx hZ e17 Ar18 (j := (1 : Int32)) hin18 rfl (Sto.ofVA Ar18 q18 O_ar (Ins.self E_b17)) (g := (mkF m 51 #[.val (.ref ao0), .val (.int p1), .val (.int p2), .val (.int (1 : Int32)), .val (.int p2)] [(.ref b17), (.int (1 : Int32)), (.ref ar)])) rfl rfl (hb hby d3_51)
          refine own_go (x' := T18.setTop (mkF m 52 #[.val (.ref ao0), .val (.int p1), .val (.int p2), .val (.int (1 : Int32)), .val (.int p2)] [])) st18 ?_
          replace F_ao0_bytes := Fld.other W18 F_ao0_bytes (Or.inl ne_ao0_ar)
          replace V_b0 := V_b0.other W18 ne_b0_ar
          replace V_b1 := V_b1.other W18 ne_b1_ar
          replace V_b2 := V_b2.other W18 ne_b2_ar
          replace V_b3 := V_b3.other W18 ne_b3_ar
          replace E_b7 := Exa.wr W18 E_b7
          replace V_b7 := V_b7.other W18 (Ne.symm ne_ar_b7)
          replace E_b17 := Exa.wr W18 E_b17
          replace V_b17 := V_b17.other W18 (Ne.symm ne_ar_b17)
          replace Zs := Nat.le_trans Zs (Keep.of_wr W18).1
          replace Nf := Fr.snoc X18 Nf g_ar
          replace Kp := Kp.wr W18 (Or.inl (by simp))
          have V_ar : Arv Z h18 ar kc (.array .byte) (4 : Int32) [(.ref b7), (.ref b17), (.ref b2), (.ref b3)] .null := Arv.set Ar18 q18 Sz18 Nn18 Hh18 Gg18 rfl W18 1 rfl (Nat.le_of_ble_eq_true rfl)
          refine own_go (x' := T18.setTop (mkF m 2 #[.val (.ref ao0), .val (.int p1), .val (.int p2), .val (.int ((1 : Int32) + (1 : Int32))), .val (.int p2)] [])) (fun _ k => XS.iinc X18.here hx rfl (hb hby d3_52) rfl (l' := #[.val (.ref ao0), .val (.int p1), .val (.int p2), .val (.int ((1 : Int32) + (1 : Int32))), .val (.int p2)]) rfl (XS.goto X18.here hx rfl (pc0 := 55) (pc' := 2) rfl (hb hby d3_55) (by decide) (by decide) k)) ?_
          rw [show ((1 : Int32) + (1 : Int32)) = (2 : Int32) from by decide +kernel]
          refine own_go (x' := T18.setTop (mkF m 4 #[.val (.ref ao0), .val (.int p1), .val (.int p2), .val (.int (2 : Int32)), .val (.int p2)] [(.int p1), (.int (2 : Int32))])) (fun _ k => XS.iloadN X18.here hx rfl (hb hby d3_2) rfl (XS.iloadN X18.here hx rfl (hb hby d3_3) rfl k)) ?_
          by_cases hc4_19 : (2 : Int32) < p1
          · refine own_go (x' := T18.setTop (mkF m 22 #[.val (.ref ao0), .val (.int p1), .val (.int p2), .val (.int (2 : Int32)), .val (.int p2)] [(.ref ao0)])) (fun _ k => XS.icmpNo X18.here hx rfl (hb hby d3_4) rfl (tlt hc4_19).2.1 (XS.iloadN X18.here hx rfl (hb hby d3_7) rfl (XS.ifYes X18.here hx rfl (pc0 := 8) (pc' := 18) rfl (hb hby d3_8) rfl ((if0 _ _).trans (feq (by decide +kernel : ¬ ((2 : Int32) = (0 : Int32)))).2) (by decide) (by decide) (XS.iloadN X18.here hx rfl (hb hby d3_18) rfl (XS.istore X18.here hx rfl (hb hby d3_19) rfl (l' := #[.val (.ref ao0), .val (.int p1), .val (.int p2), .val (.int (2 : Int32)), .val (.int p2)]) rfl (XS.aloadN X18.here hx rfl (hb hby d3_21) rfl rfl k)))))) ?_
            obtain ⟨T20, X20, e20, st20⟩ := getF X18 hx hZ hown (host := "") (Or.inl (own_w hw 11 rfl)) Via.refl e18 F_ao0_bytes (g := (mkF m 22 #[.val (.ref ao0), .val (.int p1), .val (.int p2), .val (.int (2 : Int32)), .val (.int p2)] [(.ref ao0)])) rfl rfl (hb hby d3_22)
            refine own_go (x' := T20.setTop (mkF m 25 #[.val (.ref ao0), .val (.int p1), .val (.int p2), .val (.int (2 : Int32)), .val (.int p2)] [(.ref ar)])) st20 ?_
            refine own_go (x' := T20.setTop (mkF m 26 #[.val (.ref ao0), .val (.int p1), .val (.int p2), .val (.int (2 : Int32)), .val (.int p2)] [(.int (2 : Int32)), (.ref ar)])) (fun _ k => XS.iloadN X20.here hx rfl (hb hby d3_25) rfl k) ?_
            obtain ⟨cl21, Ar21, q21, Sz21, Nn21, Hh21, Gg21⟩ := id V_ar
            have hin21 : ¬ ((2 : Int32) < 0 ∨ cl21.slots.size ≤ ((2 : Int32)).toNatClampNeg) := inb_of Sz21 ⟨by decide, by decide⟩
            refine own_go (x' := T20.setTop (mkF m 27 #[.val (.ref ao0), .val (.int p1), .val (.int p2), .val (.int (2 : Int32)), .val (.int p2)] [(.ref b2)])) (X20.aaload hx (j := (2 : Int32)) (v := (.ref b2)) (Eq.trans (congrArg (fun h_ => h_[_]?) e20) Ar21.1) (State.isArrayOf_alike hZ.alike Ar21.2.1) rfl Ar21.2.2 hin21 (Hh21.at hin21 rfl) (g := (mkF m 26 #[.val (.ref ao0), .val (.int p1), .val (.int p2), .val (.int (2 : Int32)), .val (.int p2)] [(.int (2 : Int32)), (.ref ar)])) rfl rfl (hb hby d3_26)) ?_
            refine own_go (x' := T20.setTop (mkF m 31 #[.val (.ref ao0), .val (.int p1), .val (.int p2), .val (.int (2 : Int32)), .val (.int p2)] [(.ref ao0)])) (fun _ k => XS.ifnullNo X20.here hx rfl (hb hby d3_27) rfl (XS.aloadN X20.here hx rfl (hb hby d3_30) rfl rfl k)) ?_
            obtain ⟨T22, X22, e22, st22⟩ := getF X20 hx hZ hown (host := "") (Or.inl (own_w hw 11 rfl)) Via.refl e20 F_ao0_bytes (g := (mkF m 31 #[.val (.ref ao0), .val (.int p1), .val (.int p2), .val (.int (2 : Int32)), .val (.int p2)] [(.ref ao0)])) rfl rfl (hb hby d3_31)
            refine own_go (x' := T22.setTop (mkF m 34 #[.val (.ref ao0), .val (.int p1), .val (.int p2), .val (.int (2 : Int32)), .val (.int p2)] [(.ref ar)])) st22 ?_
            refine own_go (x' := T22.setTop (mkF m 35 #[.val (.ref ao0), .val (.int p1), .val (.int p2), .val (.int (2 : Int32)), .val (.int p2)] [(.int (2 : Int32)), (.ref ar)])) (fun _ k => XS.iloadN X22.here hx rfl (hb hby d3_34) rfl k) ?_
            obtain ⟨cl23, Ar23, q23, Sz23, Nn23, Hh23, Gg23⟩ := id V_ar
            have hin23 : ¬ ((2 : Int32) < 0 ∨ cl23.slots.size ≤ ((2 : Int32)).toNatClampNeg) := inb_of Sz23 ⟨by decide, by decide⟩
            refine own_go (x' := T22.setTop (mkF m 36 #[.val (.ref ao0), .val (.int p1), .val (.int p2), .val (.int (2 : Int32)), .val (.int p2)] [(.ref b2)])) (X22.aaload hx (j := (2 : Int32)) (v := (.ref b2)) (Eq.trans (congrArg (fun h_ => h_[_]?) e22) Ar23.1) (State.isArrayOf_alike hZ.alike Ar23.2.1) rfl Ar23.2.2 hin23 (Hh23.at hin23 rfl) (g := (mkF m 35 #[.val (.ref ao0), .val (.int p1), .val (.int p2), .val (.int (2 : Int32)), .val (.int p2)] [(.int (2 : Int32)), (.ref ar)])) rfl rfl (hb hby d3_35)) ?_
            obtain ⟨cl24, Ar24, -, Sz24, Nn24, -, -⟩ := id V_b2
            refine own_go (x' := T22.setTop (mkF m 37 #[.val (.ref ao0), .val (.int p1), .val (.int p2), .val (.int (2 : Int32)), .val (.int p2)] [(.int n1)])) (fun t k => X22.arraylength hx (Eq.trans (congrArg (fun h_ => h_[_]?) e22) Ar24.1) (State.isArrayOf_alike hZ.alike Ar24.2.1) (g := (mkF m 36 #[.val (.ref ao0), .val (.int p1), .val (.int p2), .val (.int (2 : Int32)), .val (.int p2)] [(.ref b2)])) rfl rfl (hb hby d3_36) t (by rw [len_of Sz24 Nn24]; exact k)) ?_
            refine own_go (x' := T22.setTop (mkF m 43 #[.val (.ref ao0), .val (.int p1), .val (.int p2), .val (.int (2 : Int32)), .val (.int p2)] [(.ref ao0)])) (fun _ k => XS.iload X22.here hx rfl (hb hby d3_37) rfl (XS.icmpNo X22.here hx rfl (hb hby d3_39) rfl (tlt hc39_15).2.1 (XS.aloadN X22.here hx rfl (hb hby d3_42) rfl rfl k))) ?_
            obtain ⟨T25, X25, e25, st25⟩ := getF X22 hx hZ hown (host := "") (Or.inl (own_w hw 11 rfl)) Via.refl e22 F_ao0_bytes (g := (mkF m 43 #[.val (.ref ao0), .val (.int p1), .val (.int p2), .val (.int (2 : Int32)), .val (.int p2)] [(.ref ao0)])) rfl rfl (hb hby d3_43)
            refine own_go (x' := T25.setTop (mkF m 46 #[.val (.ref ao0), .val (.int p1), .val (.int p2), .val (.int (2 : Int32)), .val (.int p2)] [(.ref ar)])) st25 ?_
            refine own_go (x' := T25.setTop (mkF m 49 #[.val (.ref ao0), .val (.int p1), .val (.int p2), .val (.int (2 : Int32)), .val (.int p2)] [(.int p2), (.int (2 : Int32)), (.ref ar)])) (fun _ k => XS.iloadN X25.here hx rfl (hb hby d3_46) rfl (XS.iload X25.here hx rfl (hb hby d3_47) rfl k)) ?_
            obtain ⟨T26, h26, k26, X26, e26, E26, A26, Q26, st26⟩ := newPE X25 hx hZ (own_w hw 29 rfl) e25 (g := (mkF m 49 #[.val (.ref ao0), .val (.int p1), .val (.int p2), .val (.int (2 : Int32)), .val (.int p2)] [(.int p2), (.int (2 : Int32)), (.ref ar)])) rfl (hb hby d3_49) rfl hs.1 (cap := 16383) hs.2 (by decide) (by decide) (by decide) (ad := "[B") (by decide)
            obtain ⟨b26, g26⟩ : ∃ z, z = h18.size := ⟨_, rfl⟩
            rw [← g26] at A26 st26
            rw [← g26] at Q26
            have ne_ao0_b26 : ao0 ≠ b26 := Nat.ne_of_lt (Nat.lt_of_lt_of_le F_ao0_bytes.lt (Nat.le_of_eq g26.symm))
            have ne_b0_b26 : b0 ≠ b26 := Nat.ne_of_lt (Nat.lt_of_lt_of_le V_b0.lt (Nat.le_of_eq g26.symm))
            have ne_b1_b26 : b1 ≠ b26 := Nat.ne_of_lt (Nat.lt_of_lt_of_le V_b1.lt (Nat.le_of_eq g26.symm))
            have ne_b2_b26 : b2 ≠ b26 := Nat.ne_of_lt (Nat.lt_of_lt_of_le V_b2.lt (Nat.le_of_eq g26.symm))
            have ne_b3_b26 : b3 ≠ b26 := Nat.ne_of_lt (Nat.lt_of_lt_of_le V_b3.lt (Nat.le_of_eq g26.symm))
            have ne_b7_b26 : b7 ≠ b26 := Nat.ne_of_lt (Nat.lt_of_lt_of_le E_b7.lt (Nat.le_of_eq g26.symm))
            have ne_b17_b26 : b17 ≠ b26 := Nat.ne_of_lt (Nat.lt_of_lt_of_le E_b17.lt (Nat.le_of_eq g26.symm))
            have ne_ar_b26 : ar ≠ b26 := Nat.ne_of_lt (Nat.lt_of_lt_of_le V_ar.lt (Nat.le_of_eq g26.symm))
            have g_b26 : n0 ≤ b26 := Nat.le_trans Zs (Nat.le_of_eq g26.symm)
            have sz_b26 : h0.size ≤ b26 := Nat.le_trans Kp.1 (Nat.le_of_eq g26.symm)
            replace F_ao0_bytes := Fld.ext E26 F_ao0_bytes
            replace V_b0 := V_b0.ext E26
            replace V_b1 := V_b1.ext E26
            replace V_b2 := V_b2.ext E26
            replace V_b3 := V_b3.ext E26
            replace E_b7 := Exa.ext E26 E_b7
            replace V_b7 := V_b7.ext E26
            replace E_b17 := Exa.ext E26 E_b17
            replace V_b17 := V_b17.ext E26
            replace V_ar := V_ar.ext E26
            replace Zs := Nat.le_trans Zs E26.1
            replace Kp := Kp.ext E26
            have E_b26 := Q26
            have V_b26 : Arv Z h26 b26 k26 .byte p2 [] (.int (0 : Int32)) := Arv.new A26 hs.1
            refine own_go (x' := T26.setTop (mkF m 51 #[.val (.ref ao0), .val (.int p1), .val (.int p2), .val (.int (2 : Int32)), .val (.int p2)] [(.ref b26), (.int (2 : Int32)), (.ref ar)])) st26 ?_
            obtain ⟨cl27, Ar27, q27, Sz27, Nn27, Hh27, Gg27⟩ := V_ar
            have hin27 : ¬ ((2 : Int32) < 0 ∨ cl27.slots.size ≤ ((2 : Int32)).toNatClampNeg) := inb_of Sz27 ⟨by decide, by decide⟩
            obtain ⟨T27, h27, X27, e27, W27, st27⟩ := stR X26 hx hZ e26 Ar27 (j := (2 : Int32)) hin27 rfl (Sto.ofVA Ar27 q27 O_ar (Ins.self E_b26)) (g := (mkF m 51 #[.val (.ref ao0), .val (.int p1), .val (.int p2), .val (.int (2 : Int32)), .val (.int p2)] [(.ref b26), (.int (2 : Int32)), (.ref ar)])) rfl rfl (hb hby d3_51)
            refine own_go (x' := T27.setTop (mkF m 52 #[.val (.ref ao0), .val (.int p1), .val (.int p2), .val (.int (2 : Int32)), .val (.int p2)] [])) st27 ?_
            replace F_ao0_bytes := Fld.other W27 F_ao0_bytes (Or.inl ne_ao0_ar)
            replace V_b0 := V_b0.other W27 ne_b0_ar
            replace V_b1 := V_b1.other W27 ne_b1_ar
            replace V_b2 := V_b2.other W27 ne_b2_ar
            replace V_b3 := V_b3.other W27 ne_b3_ar
            replace E_b7 := Exa.wr W27 E_b7
            replace V_b7 := V_b7.other W27 (Ne.symm ne_ar_b7)
            replace E_b17 := Exa.wr W27 E_b17
            replace V_b17 := V_b17.other W27 (Ne.symm ne_ar_b17)
            replace E_b26 := Exa.wr W27 E_b26
            replace V_b26 := V_b26.other W27 (Ne.symm ne_ar_b26)
            replace Zs := Nat.le_trans Zs (Keep.of_wr W27).1
            replace Nf := Fr.snoc X27 Nf g_ar
            replace Kp := Kp.wr W27 (Or.inl (by simp))
            have V_ar : Arv Z h27 ar kc (.array .byte) (4 : Int32) [(.ref b7), (.ref b17), (.ref b26), (.ref b3)] .null := Arv.set Ar27 q27 Sz27 Nn27 Hh27 Gg27 rfl W27 2 rfl (Nat.le_of_ble_eq_true rfl)
            refine own_go (x' := T27.setTop (mkF m 2 #[.val (.ref ao0), .val (.int p1), .val (.int p2), .val (.int ((2 : Int32) + (1 : Int32))), .val (.int p2)] [])) (fun _ k => XS.iinc X27.here hx rfl (hb hby d3_52) rfl (l' := #[.val (.ref ao0), .val (.int p1), .val (.int p2), .val (.int ((2 : Int32) + (1 : Int32))), .val (.int p2)]) rfl (XS.goto X27.here hx rfl (pc0 := 55) (pc' := 2) rfl (hb hby d3_55) (by decide) (by decide) k)) ?_
            rw [show ((2 : Int32) + (1 : Int32)) = (3 : Int32) from by decide +kernel]
            refine own_go (x' := T27.setTop (mkF m 4 #[.val (.ref ao0), .val (.int p1), .val (.int p2), .val (.int (3 : Int32)), .val (.int p2)] [(.int p1), (.int (3 : Int32))])) (fun _ k => XS.iloadN X27.here hx rfl (hb hby d3_2) rfl (XS.iloadN X27.here hx rfl (hb hby d3_3) rfl k)) ?_
            by_cases hc4_28 : (3 : Int32) < p1
            · refine own_go (x' := T27.setTop (mkF m 22 #[.val (.ref ao0), .val (.int p1), .val (.int p2), .val (.int (3 : Int32)), .val (.int p2)] [(.ref ao0)])) (fun _ k => XS.icmpNo X27.here hx rfl (hb hby d3_4) rfl (tlt hc4_28).2.1 (XS.iloadN X27.here hx rfl (hb hby d3_7) rfl (XS.ifYes X27.here hx rfl (pc0 := 8) (pc' := 18) rfl (hb hby d3_8) rfl ((if0 _ _).trans (feq (by decide +kernel : ¬ ((3 : Int32) = (0 : Int32)))).2) (by decide) (by decide) (XS.iloadN X27.here hx rfl (hb hby d3_18) rfl (XS.istore X27.here hx rfl (hb hby d3_19) rfl (l' := #[.val (.ref ao0), .val (.int p1), .val (.int p2), .val (.int (3 : Int32)), .val (.int p2)]) rfl (XS.aloadN X27.here hx rfl (hb hby d3_21) rfl rfl k)))))) ?_
              obtain ⟨T29, X29, e29, st29⟩ := getF X27 hx hZ hown (host := "") (Or.inl (own_w hw 11 rfl)) Via.refl e27 F_ao0_bytes (g := (mkF m 22 #[.val (.ref ao0), .val (.int p1), .val (.int p2), .val (.int (3 : Int32)), .val (.int p2)] [(.ref ao0)])) rfl rfl (hb hby d3_22)
              refine own_go (x' := T29.setTop (mkF m 25 #[.val (.ref ao0), .val (.int p1), .val (.int p2), .val (.int (3 : Int32)), .val (.int p2)] [(.ref ar)])) st29 ?_
              refine own_go (x' := T29.setTop (mkF m 26 #[.val (.ref ao0), .val (.int p1), .val (.int p2), .val (.int (3 : Int32)), .val (.int p2)] [(.int (3 : Int32)), (.ref ar)])) (fun _ k => XS.iloadN X29.here hx rfl (hb hby d3_25) rfl k) ?_
              obtain ⟨cl30, Ar30, q30, Sz30, Nn30, Hh30, Gg30⟩ := id V_ar
              have hin30 : ¬ ((3 : Int32) < 0 ∨ cl30.slots.size ≤ ((3 : Int32)).toNatClampNeg) := inb_of Sz30 ⟨by decide, by decide⟩
              refine own_go (x' := T29.setTop (mkF m 27 #[.val (.ref ao0), .val (.int p1), .val (.int p2), .val (.int (3 : Int32)), .val (.int p2)] [(.ref b3)])) (X29.aaload hx (j := (3 : Int32)) (v := (.ref b3)) (Eq.trans (congrArg (fun h_ => h_[_]?) e29) Ar30.1) (State.isArrayOf_alike hZ.alike Ar30.2.1) rfl Ar30.2.2 hin30 (Hh30.at hin30 rfl) (g := (mkF m 26 #[.val (.ref ao0), .val (.int p1), .val (.int p2), .val (.int (3 : Int32)), .val (.int p2)] [(.int (3 : Int32)), (.ref ar)])) rfl rfl (hb hby d3_26)) ?_
              refine own_go (x' := T29.setTop (mkF m 31 #[.val (.ref ao0), .val (.int p1), .val (.int p2), .val (.int (3 : Int32)), .val (.int p2)] [(.ref ao0)])) (fun _ k => XS.ifnullNo X29.here hx rfl (hb hby d3_27) rfl (XS.aloadN X29.here hx rfl (hb hby d3_30) rfl rfl k)) ?_
              obtain ⟨T31, X31, e31, st31⟩ := getF X29 hx hZ hown (host := "") (Or.inl (own_w hw 11 rfl)) Via.refl e29 F_ao0_bytes (g := (mkF m 31 #[.val (.ref ao0), .val (.int p1), .val (.int p2), .val (.int (3 : Int32)), .val (.int p2)] [(.ref ao0)])) rfl rfl (hb hby d3_31)
              refine own_go (x' := T31.setTop (mkF m 34 #[.val (.ref ao0), .val (.int p1), .val (.int p2), .val (.int (3 : Int32)), .val (.int p2)] [(.ref ar)])) st31 ?_
              refine own_go (x' := T31.setTop (mkF m 35 #[.val (.ref ao0), .val (.int p1), .val (.int p2), .val (.int (3 : Int32)), .val (.int p2)] [(.int (3 : Int32)), (.ref ar)])) (fun _ k => XS.iloadN X31.here hx rfl (hb hby d3_34) rfl k) ?_
              obtain ⟨cl32, Ar32, q32, Sz32, Nn32, Hh32, Gg32⟩ := id V_ar
              have hin32 : ¬ ((3 : Int32) < 0 ∨ cl32.slots.size ≤ ((3 : Int32)).toNatClampNeg) := inb_of Sz32 ⟨by decide, by decide⟩
              refine own_go (x' := T31.setTop (mkF m 36 #[.val (.ref ao0), .val (.int p1), .val (.int p2), .val (.int (3 : Int32)), .val (.int p2)] [(.ref b3)])) (X31.aaload hx (j := (3 : Int32)) (v := (.ref b3)) (Eq.trans (congrArg (fun h_ => h_[_]?) e31) Ar32.1) (State.isArrayOf_alike hZ.alike Ar32.2.1) rfl Ar32.2.2 hin32 (Hh32.at hin32 rfl) (g := (mkF m 35 #[.val (.ref ao0), .val (.int p1), .val (.int p2), .val (.int (3 : Int32)), .val (.int p2)] [(.int (3 : Int32)), (.ref ar)])) rfl rfl (hb hby d3_35)) ?_
              obtain ⟨cl33, Ar33, -, Sz33, Nn33, -, -⟩ := id V_b3
              refine own_go (x' := T31.setTop (mkF m 37 #[.val (.ref ao0), .val (.int p1), .val (.int p2), .val (.int (3 : Int32)), .val (.int p2)] [(.int n1)])) (fun t k => X31.arraylength hx (Eq.trans (congrArg (fun h_ => h_[_]?) e31) Ar33.1) (State.isArrayOf_alike hZ.alike Ar33.2.1) (g := (mkF m 36 #[.val (.ref ao0), .val (.int p1), .val (.int p2), .val (.int (3 : Int32)), .val (.int p2)] [(.ref b3)])) rfl rfl (hb hby d3_36) t (by rw [len_of Sz33 Nn33]; exact k)) ?_
              refine own_go (x' := T31.setTop (mkF m 43 #[.val (.ref ao0), .val (.int p1), .val (.int p2), .val (.int (3 : Int32)), .val (.int p2)] [(.ref ao0)])) (fun _ k => XS.iload X31.here hx rfl (hb hby d3_37) rfl (XS.icmpNo X31.here hx rfl (hb hby d3_39) rfl (tlt hc39_15).2.1 (XS.aloadN X31.here hx rfl (hb hby d3_42) rfl rfl k))) ?_
              obtain ⟨T34, X34, e34, st34⟩ := getF X31 hx hZ hown (host := "") (Or.inl (own_w hw 11 rfl)) Via.refl e31 F_ao0_bytes (g := (mkF m 43 #[.val (.ref ao0), .val (.int p1), .val (.int p2), .val (.int (3 : Int32)), .val (.int p2)] [(.ref ao0)])) rfl rfl (hb hby d3_43)
              refine own_go (x' := T34.setTop (mkF m 46 #[.val (.ref ao0), .val (.int p1), .val (.int p2), .val (.int (3 : Int32)), .val (.int p2)] [(.ref ar)])) st34 ?_
              refine own_go (x' := T34.setTop (mkF m 49 #[.val (.ref ao0), .val (.int p1), .val (.int p2), .val (.int (3 : Int32)), .val (.int p2)] [(.int p2), (.int (3 : Int32)), (.ref ar)])) (fun _ k => XS.iloadN X34.here hx rfl (hb hby d3_46) rfl (XS.iload X34.here hx rfl (hb hby d3_47) rfl k)) ?_
              obtain ⟨T35, h35, k35, X35, e35, E35, A35, Q35, st35⟩ := newPE X34 hx hZ (own_w hw 29 rfl) e34 (g := (mkF m 49 #[.val (.ref ao0), .val (.int p1), .val (.int p2), .val (.int (3 : Int32)), .val (.int p2)] [(.int p2), (.int (3 : Int32)), (.ref ar)])) rfl (hb hby d3_49) rfl hs.1 (cap := 16383) hs.2 (by decide) (by decide) (by decide) (ad := "[B") (by decide)
              obtain ⟨b35, g35⟩ : ∃ z, z = h27.size := ⟨_, rfl⟩
              rw [← g35] at A35 st35
              rw [← g35] at Q35
              have ne_ao0_b35 : ao0 ≠ b35 := Nat.ne_of_lt (Nat.lt_of_lt_of_le F_ao0_bytes.lt (Nat.le_of_eq g35.symm))
              have ne_b0_b35 : b0 ≠ b35 := Nat.ne_of_lt (Nat.lt_of_lt_of_le V_b0.lt (Nat.le_of_eq g35.symm))
              have ne_b1_b35 : b1 ≠ b35 := Nat.ne_of_lt (Nat.lt_of_lt_of_le V_b1.lt (Nat.le_of_eq g35.symm))
              have ne_b2_b35 : b2 ≠ b35 := Nat.ne_of_lt (Nat.lt_of_lt_of_le V_b2.lt (Nat.le_of_eq g35.symm))
              have ne_b3_b35 : b3 ≠ b35 := Nat.ne_of_lt (Nat.lt_of_lt_of_le V_b3.lt (Nat.le_of_eq g35.symm))
              have ne_b7_b35 : b7 ≠ b35 := Nat.ne_of_lt (Nat.lt_of_lt_of_le E_b7.lt (Nat.le_of_eq g35.symm))
              have ne_b17_b35 : b17 ≠ b35 := Nat.ne_of_lt (Nat.lt_of_lt_of_le E_b17.lt (Nat.le_of_eq g35.symm))
              have ne_b26_b35 : b26 ≠ b35 := Nat.ne_of_lt (Nat.lt_of_lt_of_le E_b26.lt (Nat.le_of_eq g35.symm))
              have ne_ar_b35 : ar ≠ b35 := Nat.ne_of_lt (Nat.lt_of_lt_of_le V_ar.lt (Nat.le_of_eq g35.symm))
              have g_b35 : n0 ≤ b35 := Nat.le_trans Zs (Nat.le_of_eq g35.symm)
              have sz_b35 : h0.size ≤ b35 := Nat.le_trans Kp.1 (Nat.le_of_eq g35.symm)
              replace F_ao0_bytes := Fld.ext E35 F_ao0_bytes
              replace V_b0 := V_b0.ext E35
              replace V_b1 := V_b1.ext E35
              replace V_b2 := V_b2.ext E35
              replace V_b3 := V_b3.ext E35
              replace E_b7 := Exa.ext E35 E_b7
              replace V_b7 := V_b7.ext E35
              replace E_b17 := Exa.ext E35 E_b17
              replace V_b17 := V_b17.ext E35
              replace E_b26 := Exa.ext E35 E_b26
              replace V_b26 := V_b26.ext E35
              replace V_ar := V_ar.ext E35
              replace Zs := Nat.le_trans Zs E35.1
              replace Kp := Kp.ext E35
              have E_b35 := Q35
              have V_b35 : Arv Z h35 b35 k35 .byte p2 [] (.int (0 : Int32)) := Arv.new A35 hs.1
              refine own_go (x' := T35.setTop (mkF m 51 #[.val (.ref ao0), .val (.int p1), .val (.int p2), .val (.int (3 : Int32)), .val (.int p2)] [(.ref b35), (.int (3 : Int32)), (.ref ar)])) st35 ?_
              obtain ⟨cl36, Ar36, q36, Sz36, Nn36, Hh36, Gg36⟩ := V_ar
              have hin36 : ¬ ((3 : Int32) < 0 ∨ cl36.slots.size ≤ ((3 : Int32)).toNatClampNeg) := inb_of Sz36 ⟨by decide, by decide⟩
              obtain ⟨T36, h36, X36, e36, W36, st36⟩ := stR X35 hx hZ e35 Ar36 (j := (3 : Int32)) hin36 rfl (Sto.ofVA Ar36 q36 O_ar (Ins.self E_b35)) (g := (mkF m 51 #[.val (.ref ao0), .val (.int p1), .val (.int p2), .val (.int (3 : Int32)), .val (.int p2)] [(.ref b35), (.int (3 : Int32)), (.ref ar)])) rfl rfl (hb hby d3_51)
              refine own_go (x' := T36.setTop (mkF m 52 #[.val (.ref ao0), .val (.int p1), .val (.int p2), .val (.int (3 : Int32)), .val (.int p2)] [])) st36 ?_
              replace F_ao0_bytes := Fld.other W36 F_ao0_bytes (Or.inl ne_ao0_ar)
              replace V_b0 := V_b0.other W36 ne_b0_ar
              replace V_b1 := V_b1.other W36 ne_b1_ar
              replace V_b2 := V_b2.other W36 ne_b2_ar
              replace V_b3 := V_b3.other W36 ne_b3_ar
              replace E_b7 := Exa.wr W36 E_b7
              replace V_b7 := V_b7.other W36 (Ne.symm ne_ar_b7)
              replace E_b17 := Exa.wr W36 E_b17
              replace V_b17 := V_b17.other W36 (Ne.symm ne_ar_b17)
              replace E_b26 := Exa.wr W36 E_b26
              replace V_b26 := V_b26.other W36 (Ne.symm ne_ar_b26)
              replace E_b35 := Exa.wr W36 E_b35
              replace V_b35 := V_b35.other W36 (Ne.symm ne_ar_b35)
              replace Zs := Nat.le_trans Zs (Keep.of_wr W36).1
              replace Nf := Fr.snoc X36 Nf g_ar
              replace Kp := Kp.wr W36 (Or.inl (by simp))
              have V_ar : Arv Z h36 ar kc (.array .byte) (4 : Int32) [(.ref b7), (.ref b17), (.ref b26), (.ref b35)] .null := Arv.set Ar36 q36 Sz36 Nn36 Hh36 Gg36 rfl W36 3 rfl (Nat.le_of_ble_eq_true rfl)
              refine own_go (x' := T36.setTop (mkF m 2 #[.val (.ref ao0), .val (.int p1), .val (.int p2), .val (.int ((3 : Int32) + (1 : Int32))), .val (.int p2)] [])) (fun _ k => XS.iinc X36.here hx rfl (hb hby d3_52) rfl (l' := #[.val (.ref ao0), .val (.int p1), .val (.int p2), .val (.int ((3 : Int32) + (1 : Int32))), .val (.int p2)]) rfl (XS.goto X36.here hx rfl (pc0 := 55) (pc' := 2) rfl (hb hby d3_55) (by decide) (by decide) k)) ?_
              rw [show ((3 : Int32) + (1 : Int32)) = (4 : Int32) from by decide +kernel]
              refine own_go (x' := T36.setTop (mkF m 59 #[.val (.ref ao0), .val (.int p1), .val (.int p2), .val (.int (4 : Int32)), .val (.int p2)] [(.ref ao0)])) (fun _ k => XS.iloadN X36.here hx rfl (hb hby d3_2) rfl (XS.iloadN X36.here hx rfl (hb hby d3_3) rfl (XS.icmpYes X36.here hx rfl (pc0 := 4) (pc' := 58) rfl (hb hby d3_4) rfl (flt hu).2.1 (by decide) (by decide) (XS.aloadN X36.here hx rfl (hb hby d3_58) rfl rfl k)))) ?_
              obtain ⟨T37, X37, e37, st37⟩ := getF X36 hx hZ hown (host := "") (Or.inl (own_w hw 11 rfl)) Via.refl e36 F_ao0_bytes (g := (mkF m 59 #[.val (.ref ao0), .val (.int p1), .val (.int p2), .val (.int (4 : Int32)), .val (.int p2)] [(.ref ao0)])) rfl rfl (hb hby d3_59)
              refine own_go (x' := T37.setTop (mkF m 62 #[.val (.ref ao0), .val (.int p1), .val (.int p2), .val (.int (4 : Int32)), .val (.int p2)] [(.ref ar)])) st37 ?_
              refine own_retR X37 hx hlk hret rfl rfl (hb hby d3_62) ?_ (by decide) (by decide)
              rw [e37]
              exact ⟨(.ref b7), (.ref b17), (.ref b26), (.ref b35), rfl, Nf, Kp, V_ar, Or.inr ⟨b7, k7, rfl, sz_b7, V_b7, hc4, hc39⟩, Or.inr ⟨b17, k17, rfl, sz_b17, V_b17, hc4_9, hc39_15⟩, Or.inr ⟨b26, k26, rfl, sz_b26, V_b26, hc4_19, hc39_15⟩, Or.inr ⟨b35, k35, rfl, sz_b35, V_b35, hc4_28, hc39_15⟩⟩
            · refine own_go (x' := T27.setTop (mkF m 59 #[.val (.ref ao0), .val (.int p1), .val (.int p2), .val (.int (3 : Int32)), .val (.int p2)] [(.ref ao0)])) (fun _ k => XS.icmpYes X27.here hx rfl (pc0 := 4) (pc' := 58) rfl (hb hby d3_4) rfl (flt hc4_28).2.1 (by decide) (by decide) (XS.aloadN X27.here hx rfl (hb hby d3_58) rfl rfl k)) ?_
              obtain ⟨T38, X38, e38, st38⟩ := getF X27 hx hZ hown (host := "") (Or.inl (own_w hw 11 rfl)) Via.refl e27 F_ao0_bytes (g := (mkF m 59 #[.val (.ref ao0), .val (.int p1), .val (.int p2), .val (.int (3 : Int32)), .val (.int p2)] [(.ref ao0)])) rfl rfl (hb hby d3_59)
              refine own_go (x' := T38.setTop (mkF m 62 #[.val (.ref ao0), .val (.int p1), .val (.int p2), .val (.int (3 : Int32)), .val (.int p2)] [(.ref ar)])) st38 ?_
              refine own_retR X38 hx hlk hret rfl rfl (hb hby d3_62) ?_ (by decide) (by decide)
              rw [e38]
              exact ⟨(.ref b7), (.ref b17), (.ref b26), (.ref b3), rfl, Nf, Kp, V_ar, Or.inr ⟨b7, k7, rfl, sz_b7, V_b7, hc4, hc39⟩, Or.inr ⟨b17, k17, rfl, sz_b17, V_b17, hc4_9, hc39_15⟩, Or.inr ⟨b26, k26, rfl, sz_b26, V_b26, hc4_19, hc39_15⟩, Or.inl ⟨rfl, Or.inl hc4_28⟩⟩
          · refine own_go (x' := T18.setTop (mkF m 59 #[.val (.ref ao0), .val (.int p1), .val (.int p2), .val (.int (2 : Int32)), .val (.int p2)] [(.ref ao0)])) (fun _ k => XS.icmpYes X18.here hx rfl (pc0 := 4) (pc' := 58) rfl (hb hby d3_4) rfl (flt hc4_19).2.1 (by decide) (by decide) (XS.aloadN X18.here hx rfl (hb hby d3_58) rfl rfl k)) ?_
            obtain ⟨T39, X39, e39, st39⟩ := getF X18 hx hZ hown (host := "") (Or.inl (own_w hw 11 rfl)) Via.refl e18 F_ao0_bytes (g := (mkF m 59 #[.val (.ref ao0), .val (.int p1), .val (.int p2), .val (.int (2 : Int32)), .val (.int p2)] [(.ref ao0)])) rfl rfl (hb hby d3_59)
            refine own_go (x' := T39.setTop (mkF m 62 #[.val (.ref ao0), .val (.int p1), .val (.int p2), .val (.int (2 : Int32)), .val (.int p2)] [(.ref ar)])) st39 ?_
            refine own_retR X39 hx hlk hret rfl rfl (hb hby d3_62) ?_ (by decide) (by decide)
            rw [e39]
            exact ⟨(.ref b7), (.ref b17), (.ref b2), (.ref b3), rfl, Nf, Kp, V_ar, Or.inr ⟨b7, k7, rfl, sz_b7, V_b7, hc4, hc39⟩, Or.inr ⟨b17, k17, rfl, sz_b17, V_b17, hc4_9, hc39_15⟩, Or.inl ⟨rfl, Or.inl hc4_19⟩, Or.inl ⟨rfl, Or.inl (own_le hc4_19 (by decide))⟩⟩
        · refine own_go (x' := T12.setTop (mkF m 2 #[.val (.ref ao0), .val (.int p1), .val (.int p2), .val (.int ((1 : Int32) + (1 : Int32))), .val (.int p2)] [])) (fun _ k => XS.icmpYes X12.here hx rfl (pc0 := 39) (pc' := 52) rfl (hb hby d3_39) rfl (flt hc39_15).2.1 (by decide) (by decide) (XS.iinc X12.here hx rfl (hb hby d3_52) rfl (l' := #[.val (.ref ao0), .val (.int p1), .val (.int p2), .val (.int ((1 : Int32) + (1 : Int32))), .val (.int p2)]) rfl (XS.goto X12.here hx rfl (pc0 := 55) (pc' := 2) rfl (hb hby d3_55) (by decide) (by decide) k))) ?_
          rw [show ((1 : Int32) + (1 : Int32)) = (2 : Int32) from by decide +kernel]
          refine own_go (x' := T12.setTop (mkF m 4 #[.val (.ref ao0), .val (.int p1), .val (.int p2), .val (.int (2 : Int32)), .val (.int p2)] [(.int p1), (.int (2 : Int32))])) (fun _ k => XS.iloadN X12.here hx rfl (hb hby d3_2) rfl (XS.iloadN X12.here hx rfl (hb hby d3_3) rfl k)) ?_
          by_cases hc4_40 : (2 : Int32) < p1
          · refine own_go (x' := T12.setTop (mkF m 22 #[.val (.ref ao0), .val (.int p1), .val (.int p2), .val (.int (2 : Int32)), .val (.int p2)] [(.ref ao0)])) (fun _ k => XS.icmpNo X12.here hx rfl (hb hby d3_4) rfl (tlt hc4_40).2.1 (XS.iloadN X12.here hx rfl (hb hby d3_7) rfl (XS.ifYes X12.here hx rfl (pc0 := 8) (pc' := 18) rfl (hb hby d3_8) rfl ((if0 _ _).trans (feq (by decide +kernel : ¬ ((2 : Int32) = (0 : Int32)))).2) (by decide) (by decide) (XS.iloadN X12.here hx rfl (hb hby d3_18) rfl (XS.istore X12.here hx rfl (hb hby d3_19) rfl (l' := #[.val (.ref ao0), .val (.int p1), .val (.int p2), .val (.int (2 : Int32)), .val (.int p2)]) rfl (XS.aloadN X12.here hx rfl (hb hby d3_21) rfl rfl k)))))) ?_
            obtain ⟨T41, X41, e41, st41⟩ := getF X12 hx hZ hown (host := "") (Or.inl (own_w hw 11 rfl)) Via.refl e12 F_ao0_bytes (g := (mkF m 22 #[.val (.ref ao0), .val (.int p1), .val (.int p2), .val (.int (2 : Int32)), .val (.int p2)] [(.ref ao0)])) rfl rfl (hb hby d3_22)
            refine own_go (x' := T41.setTop (mkF m 25 #[.val (.ref ao0), .val (.int p1), .val (.int p2), .val (.int (2 : Int32)), .val (.int p2)] [(.ref ar)])) st41 ?_
            refine own_go (x' := T41.setTop (mkF m 26 #[.val (.ref ao0), .val (.int p1), .val (.int p2), .val (.int (2 : Int32)), .val (.int p2)] [(.int (2 : Int32)), (.ref ar)])) (fun _ k => XS.iloadN X41.here hx rfl (hb hby d3_25) rfl k) ?_
            obtain ⟨cl42, Ar42, q42, Sz42, Nn42, Hh42, Gg42⟩ := id V_ar
            have hin42 : ¬ ((2 : Int32) < 0 ∨ cl42.slots.size ≤ ((2 : Int32)).toNatClampNeg) := inb_of Sz42 ⟨by decide, by decide⟩
            refine own_go (x' := T41.setTop (mkF m 27 #[.val (.ref ao0), .val (.int p1), .val (.int p2), .val (.int (2 : Int32)), .val (.int p2)] [(.ref b2)])) (X41.aaload hx (j := (2 : Int32)) (v := (.ref b2)) (Eq.trans (congrArg (fun h_ => h_[_]?) e41) Ar42.1) (State.isArrayOf_alike hZ.alike Ar42.2.1) rfl Ar42.2.2 hin42 (Hh42.at hin42 rfl) (g := (mkF m 26 #[.val (.ref ao0), .val (.int p1), .val (.int p2), .val (.int (2 : Int32)), .val (.int p2)] [(.int (2 : Int32)), (.ref ar)])) rfl rfl (hb hby d3_26)) ?_
            refine own_go (x' := T41.setTop (mkF m 31 #[.val (.ref ao0), .val (.int p1), .val (.int p2), .val (.int (2 : Int32)), .val (.int p2)] [(.ref ao0)])) (fun _ k => XS.ifnullNo X41.here hx rfl (hb hby d3_27) rfl (XS.aloadN X41.here hx rfl (hb hby d3_30) rfl rfl k)) ?_
            obtain ⟨T43, X43, e43, st43⟩ := getF X41 hx hZ hown (host := "") (Or.inl (own_w hw 11 rfl)) Via.refl e41 F_ao0_bytes (g := (mkF m 31 #[.val (.ref ao0), .val (.int p1), .val (.int p2), .val (.int (2 : Int32)), .val (.int p2)] [(.ref ao0)])) rfl rfl (hb hby d3_31)
            refine own_go (x' := T43.setTop (mkF m 34 #[.val (.ref ao0), .val (.int p1), .val (.int p2), .val (.int (2 : Int32)), .val (.int p2)] [(.ref ar)])) st43 ?_
            refine own_go (x' := T43.setTop (mkF m 35 #[.val (.ref ao0), .val (.int p1), .val (.int p2), .val (.int (2 : Int32)), .val (.int p2)] [(.int (2 : Int32)), (.ref ar)])) (fun _ k => XS.iloadN X43.here hx rfl (hb hby d3_34) rfl k) ?_
            obtain ⟨cl44, Ar44, q44, Sz44, Nn44, Hh44, Gg44⟩ := id V_ar
            have hin44 : ¬ ((2 : Int32) < 0 ∨ cl44.slots.size ≤ ((2 : Int32)).toNatClampNeg) := inb_of Sz44 ⟨by decide, by decide⟩
            refine own_go (x' := T43.setTop (mkF m 36 #[.val (.ref ao0), .val (.int p1), .val (.int p2), .val (.int (2 : Int32)), .val (.int p2)] [(.ref b2)])) (X43.aaload hx (j := (2 : Int32)) (v := (.ref b2)) (Eq.trans (congrArg (fun h_ => h_[_]?) e43) Ar44.1) (State.isArrayOf_alike hZ.alike Ar44.2.1) rfl Ar44.2.2 hin44 (Hh44.at hin44 rfl) (g := (mkF m 35 #[.val (.ref ao0), .val (.int p1), .val (.int p2), .val (.int (2 : Int32)), .val (.int p2)] [(.int (2 : Int32)), (.ref ar)])) rfl rfl (hb hby d3_35)) ?_
            obtain ⟨cl45, Ar45, -, Sz45, Nn45, -, -⟩ := id V_b2
            refine own_go (x' := T43.setTop (mkF m 37 #[.val (.ref ao0), .val (.int p1), .val (.int p2), .val (.int (2 : Int32)), .val (.int p2)] [(.int n1)])) (fun t k => X43.arraylength hx (Eq.trans (congrArg (fun h_ => h_[_]?) e43) Ar45.1) (State.isArrayOf_alike hZ.alike Ar45.2.1) (g := (mkF m 36 #[.val (.ref ao0), .val (.int p1), .val (.int p2), .val (.int (2 : Int32)), .val (.int p2)] [(.ref b2)])) rfl rfl (hb hby d3_36) t (by rw [len_of Sz45 Nn45]; exact k)) ?_
            refine own_go (x' := T43.setTop (mkF m 2 #[.val (.ref ao0), .val (.int p1), .val (.int p2), .val (.int ((2 : Int32) + (1 : Int32))), .val (.int p2)] [])) (fun _ k => XS.iload X43.here hx rfl (hb hby d3_37) rfl (XS.icmpYes X43.here hx rfl (pc0 := 39) (pc' := 52) rfl (hb hby d3_39) rfl (flt hc39_15).2.1 (by decide) (by decide) (XS.iinc X43.here hx rfl (hb hby d3_52) rfl (l' := #[.val (.ref ao0), .val (.int p1), .val (.int p2), .val (.int ((2 : Int32) + (1 : Int32))), .val (.int p2)]) rfl (XS.goto X43.here hx rfl (pc0 := 55) (pc' := 2) rfl (hb hby d3_55) (by decide) (by decide) k)))) ?_
            rw [show ((2 : Int32) + (1 : Int32)) = (3 : Int32) from by decide +kernel]
            refine own_go (x' := T43.setTop (mkF m 4 #[.val (.ref ao0), .val (.int p1), .val (.int p2), .val (.int (3 : Int32)), .val (.int p2)] [(.int p1), (.int (3 : Int32))])) (fun _ k => XS.iloadN X43.here hx rfl (hb hby d3_2) rfl (XS.iloadN X43.here hx rfl (hb hby d3_3) rfl k)) ?_
            by_cases hc4_46 : (3 : Int32) < p1
            · refine own_go (x' := T43.setTop (mkF m 22 #[.val (.ref ao0), .val (.int p1), .val (.int p2), .val (.int (3 : Int32)), .val (.int p2)] [(.ref ao0)])) (fun _ k => XS.icmpNo X43.here hx rfl (hb hby d3_4) rfl (tlt hc4_46).2.1 (XS.iloadN X43.here hx rfl (hb hby d3_7) rfl (XS.ifYes X43.here hx rfl (pc0 := 8) (pc' := 18) rfl (hb hby d3_8) rfl ((if0 _ _).trans (feq (by decide +kernel : ¬ ((3 : Int32) = (0 : Int32)))).2) (by decide) (by decide) (XS.iloadN X43.here hx rfl (hb hby d3_18) rfl (XS.istore X43.here hx rfl (hb hby d3_19) rfl (l' := #[.val (.ref ao0), .val (.int p1), .val (.int p2), .val (.int (3 : Int32)), .val (.int p2)]) rfl (XS.aloadN X43.here hx rfl (hb hby d3_21) rfl rfl k)))))) ?_
              obtain ⟨T47, X47, e47, st47⟩ := getF X43 hx hZ hown (host := "") (Or.inl (own_w hw 11 rfl)) Via.refl e43 F_ao0_bytes (g := (mkF m 22 #[.val (.ref ao0), .val (.int p1), .val (.int p2), .val (.int (3 : Int32)), .val (.int p2)] [(.ref ao0)])) rfl rfl (hb hby d3_22)
              refine own_go (x' := T47.setTop (mkF m 25 #[.val (.ref ao0), .val (.int p1), .val (.int p2), .val (.int (3 : Int32)), .val (.int p2)] [(.ref ar)])) st47 ?_
              refine own_go (x' := T47.setTop (mkF m 26 #[.val (.ref ao0), .val (.int p1), .val (.int p2), .val (.int (3 : Int32)), .val (.int p2)] [(.int (3 : Int32)), (.ref ar)])) (fun _ k => XS.iloadN X47.here hx rfl (hb hby d3_25) rfl k) ?_
              obtain ⟨cl48, Ar48, q48, Sz48, Nn48, Hh48, Gg48⟩ := id V_ar
              have hin48 : ¬ ((3 : Int32) < 0 ∨ cl48.slots.size ≤ ((3 : Int32)).toNatClampNeg) := inb_of Sz48 ⟨by decide, by decide⟩
              refine own_go (x' := T47.setTop (mkF m 27 #[.val (.ref ao0), .val (.int p1), .val (.int p2), .val (.int (3 : Int32)), .val (.int p2)] [(.ref b3)])) (X47.aaload hx (j := (3 : Int32)) (v := (.ref b3)) (Eq.trans (congrArg (fun h_ => h_[_]?) e47) Ar48.1) (State.isArrayOf_alike hZ.alike Ar48.2.1) rfl Ar48.2.2 hin48 (Hh48.at hin48 rfl) (g := (mkF m 26 #[.val (.ref ao0), .val (.int p1), .val (.int p2), .val (.int (3 : Int32)), .val (.int p2)] [(.int (3 : Int32)), (.ref ar)])) rfl rfl (hb hby d3_26)) ?_
              refine own_go (x' := T47.setTop (mkF m 31 #[.val (.ref ao0), .val (.int p1), .val (.int p2), .val (.int (3 : Int32)), .val (.int p2)] [(.ref ao0)])) (fun _ k => XS.ifnullNo X47.here hx rfl (hb hby d3_27) rfl (XS.aloadN X47.here hx rfl (hb hby d3_30) rfl rfl k)) ?_
              obtain ⟨T49, X49, e49, st49⟩ := getF X47 hx hZ hown (host := "") (Or.inl (own_w hw 11 rfl)) Via.refl e47 F_ao0_bytes (g := (mkF m 31 #[.val (.ref ao0), .val (.int p1), .val (.int p2), .val (.int (3 : Int32)), .val (.int p2)] [(.ref ao0)])) rfl rfl (hb hby d3_31)
              refine own_go (x' := T49.setTop (mkF m 34 #[.val (.ref ao0), .val (.int p1), .val (.int p2), .val (.int (3 : Int32)), .val (.int p2)] [(.ref ar)])) st49 ?_
              refine own_go (x' := T49.setTop (mkF m 35 #[.val (.ref ao0), .val (.int p1), .val (.int p2), .val (.int (3 : Int32)), .val (.int p2)] [(.int (3 : Int32)), (.ref ar)])) (fun _ k => XS.iloadN X49.here hx rfl (hb hby d3_34) rfl k) ?_
              obtain ⟨cl50, Ar50, q50, Sz50, Nn50, Hh50, Gg50⟩ := id V_ar
              have hin50 : ¬ ((3 : Int32) < 0 ∨ cl50.slots.size ≤ ((3 : Int32)).toNatClampNeg) := inb_of Sz50 ⟨by decide, by decide⟩
              refine own_go (x' := T49.setTop (mkF m 36 #[.val (.ref ao0), .val (.int p1), .val (.int p2), .val (.int (3 : Int32)), .val (.int p2)] [(.ref b3)])) (X49.aaload hx (j := (3 : Int32)) (v := (.ref b3)) (Eq.trans (congrArg (fun h_ => h_[_]?) e49) Ar50.1) (State.isArrayOf_alike hZ.alike Ar50.2.1) rfl Ar50.2.2 hin50 (Hh50.at hin50 rfl) (g := (mkF m 35 #[.val (.ref ao0), .val (.int p1), .val (.int p2), .val (.int (3 : Int32)), .val (.int p2)] [(.int (3 : Int32)), (.ref ar)])) rfl rfl (hb hby d3_35)) ?_
              obtain ⟨cl51, Ar51, -, Sz51, Nn51, -, -⟩ := id V_b3
              refine own_go (x' := T49.setTop (mkF m 37 #[.val (.ref ao0), .val (.int p1), .val (.int p2), .val (.int (3 : Int32)), .val (.int p2)] [(.int n1)])) (fun t k => X49.arraylength hx (Eq.trans (congrArg (fun h_ => h_[_]?) e49) Ar51.1) (State.isArrayOf_alike hZ.alike Ar51.2.1) (g := (mkF m 36 #[.val (.ref ao0), .val (.int p1), .val (.int p2), .val (.int (3 : Int32)), .val (.int p2)] [(.ref b3)])) rfl rfl (hb hby d3_36) t (by rw [len_of Sz51 Nn51]; exact k)) ?_
              refine own_go (x' := T49.setTop (mkF m 2 #[.val (.ref ao0), .val (.int p1), .val (.int p2), .val (.int ((3 : Int32) + (1 : Int32))), .val (.int p2)] [])) (fun _ k => XS.iload X49.here hx rfl (hb hby d3_37) rfl (XS.icmpYes X49.here hx rfl (pc0 := 39) (pc' := 52) rfl (hb hby d3_39) rfl (flt hc39_15).2.1 (by decide) (by decide) (XS.iinc X49.here hx rfl (hb hby d3_52) rfl (l' := #[.val (.ref ao0), .val (.int p1), .val (.int p2), .val (.int ((3 : Int32) + (1 : Int32))), .val (.int p2)]) rfl (XS.goto X49.here hx rfl (pc0 := 55) (pc' := 2) rfl (hb hby d3_55) (by decide) (by decide) k)))) ?_
              rw [show ((3 : Int32) + (1 : Int32)) = (4 : Int32) from by decide +kernel]
              refine own_go (x' := T49.setTop (mkF m 59 #[.val (.ref ao0), .val (.int p1), .val (.int p2), .val (.int (4 : Int32)), .val (.int p2)] [(.ref ao0)])) (fun _ k => XS.iloadN X49.here hx rfl (hb hby d3_2) rfl (XS.iloadN X49.here hx rfl (hb hby d3_3) rfl (XS.icmpYes X49.here hx rfl (pc0 := 4) (pc' := 58) rfl (hb hby d3_4) rfl (flt hu).2.1 (by decide) (by decide) (XS.aloadN X49.here hx rfl (hb hby d3_58) rfl rfl k)))) ?_
              obtain ⟨T52, X52, e52, st52⟩ := getF X49 hx hZ hown (host := "") (Or.inl (own_w hw 11 rfl)) Via.refl e49 F_ao0_bytes (g := (mkF m 59 #[.val (.ref ao0), .val (.int p1), .val (.int p2), .val (.int (4 : Int32)), .val (.int p2)] [(.ref ao0)])) rfl rfl (hb hby d3_59)
              refine own_go (x' := T52.setTop (mkF m 62 #[.val (.ref ao0), .val (.int p1), .val (.int p2), .val (.int (4 : Int32)), .val (.int p2)] [(.ref ar)])) st52 ?_
              refine own_retR X52 hx hlk hret rfl rfl (hb hby d3_62) ?_ (by decide) (by decide)
              rw [e52]
              exact ⟨(.ref b7), (.ref b1), (.ref b2), (.ref b3), rfl, Nf, Kp, V_ar, Or.inr ⟨b7, k7, rfl, sz_b7, V_b7, hc4, hc39⟩, Or.inl ⟨rfl, Or.inr hc39_15⟩, Or.inl ⟨rfl, Or.inr hc39_15⟩, Or.inl ⟨rfl, Or.inr hc39_15⟩⟩
            · refine own_go (x' := T43.setTop (mkF m 59 #[.val (.ref ao0), .val (.int p1), .val (.int p2), .val (.int (3 : Int32)), .val (.int p2)] [(.ref ao0)])) (fun _ k => XS.icmpYes X43.here hx rfl (pc0 := 4) (pc' := 58) rfl (hb hby d3_4) rfl (flt hc4_46).2.1 (by decide) (by decide) (XS.aloadN X43.here hx rfl (hb hby d3_58) rfl rfl k)) ?_
              obtain ⟨T53, X53, e53, st53⟩ := getF X43 hx hZ hown (host := "") (Or.inl (own_w hw 11 rfl)) Via.refl e43 F_ao0_bytes (g := (mkF m 59 #[.val (.ref ao0), .val (.int p1), .val (.int p2), .val (.int (3 : Int32)), .val (.int p2)] [(.ref ao0)])) rfl rfl (hb hby d3_59)
              refine own_go (x' := T53.setTop (mkF m 62 #[.val (.ref ao0), .val (.int p1), .val (.int p2), .val (.int (3 : Int32)), .val (.int p2)] [(.ref ar)])) st53 ?_
              refine own_retR X53 hx hlk hret rfl rfl (hb hby d3_62) ?_ (by decide) (by decide)
              rw [e53]
              exact ⟨(.ref b7), (.ref b1), (.ref b2), (.ref b3), rfl, Nf, Kp, V_ar, Or.inr ⟨b7, k7, rfl, sz_b7, V_b7, hc4, hc39⟩, Or.inl ⟨rfl, Or.inr hc39_15⟩, Or.inl ⟨rfl, Or.inr hc39_15⟩, Or.inl ⟨rfl, Or.inl hc4_46⟩⟩
          · refine own_go (x' := T12.setTop (mkF m 59 #[.val (.ref ao0), .val (.int p1), .val (.int p2), .val (.int (2 : Int32)), .val (.int p2)] [(.ref ao0)])) (fun _ k => XS.icmpYes X12.here hx rfl (pc0 := 4) (pc' := 58) rfl (hb hby d3_4) rfl (flt hc4_40).2.1 (by decide) (by decide) (XS.aloadN X12.here hx rfl (hb hby d3_58) rfl rfl k)) ?_
            obtain ⟨T54, X54, e54, st54⟩ := getF X12 hx hZ hown (host := "") (Or.inl (own_w hw 11 rfl)) Via.refl e12 F_ao0_bytes (g := (mkF m 59 #[.val (.ref ao0), .val (.int p1), .val (.int p2), .val (.int (2 : Int32)), .val (.int p2)] [(.ref ao0)])) rfl rfl (hb hby d3_59)
            refine own_go (x' := T54.setTop (mkF m 62 #[.val (.ref ao0), .val (.int p1), .val (.int p2), .val (.int (2 : Int32)), .val (.int p2)] [(.ref ar)])) st54 ?_
            refine own_retR X54 hx hlk hret rfl rfl (hb hby d3_62) ?_ (by decide) (by decide)
            rw [e54]
            exact ⟨(.ref b7), (.ref b1), (.ref b2), (.ref b3), rfl, Nf, Kp, V_ar, Or.inr ⟨b7, k7, rfl, sz_b7, V_b7, hc4, hc39⟩, Or.inl ⟨rfl, Or.inr hc39_15⟩, Or.inl ⟨rfl, Or.inl hc4_40⟩, Or.inl ⟨rfl, Or.inl (own_le hc4_40 (by decide))⟩⟩
      · refine own_go (x' := T8.setTop (mkF m 59 #[.val (.ref ao0), .val (.int p1), .val (.int p2), .val (.int (1 : Int32)), .val (.int (p2 + (64 : Int32)))] [(.ref ao0)])) (fun _ k => XS.icmpYes X8.here hx rfl (pc0 := 4) (pc' := 58) rfl (hb hby d3_4) rfl (flt hc4_9).2.1 (by decide) (by decide) (XS.aloadN X8.here hx rfl (hb hby d3_58) rfl rfl k)) ?_
        obtain ⟨T55, X55, e55, st55⟩ := getF X8 hx hZ hown (host := "") (Or.inl (own_w hw 11 rfl)) Via.refl e8 F_ao0_bytes (g := (mkF m 59 #[.val (.ref ao0), .val (.int p1), .val (.int p2), .val (.int (1 : Int32)), .val (.int (p2 + (64 : Int32)))] [(.ref ao0)])) rfl rfl (hb hby d3_59)
        refine own_go (x' := T55.setTop (mkF m 62 #[.val (.ref ao0), .val (.int p1), .val (.int p2), .val (.int (1 : Int32)), .val (.int (p2 + (64 : Int32)))] [(.ref ar)])) st55 ?_
        refine own_retR X55 hx hlk hret rfl rfl (hb hby d3_62) ?_ (by decide) (by decide)
        rw [e55]
        exact ⟨(.ref b7), (.ref b1), (.ref b2), (.ref b3), rfl, Nf, Kp, V_ar, Or.inr ⟨b7, k7, rfl, sz_b7, V_b7, hc4, hc39⟩, Or.inl ⟨rfl, Or.inl hc4_9⟩, Or.inl ⟨rfl, Or.inl (own_le hc4_9 (by decide))⟩, Or.inl ⟨rfl, Or.inl (own_le hc4_9 (by decide))⟩⟩
    · refine own_go (x' := T3.setTop (mkF m 2 #[.val (.ref ao0), .val (.int p1), .val (.int p2), .val (.int ((0 : Int32) + (1 : Int32))), .val (.int (p2 + (64 : Int32)))] [])) (fun _ k => XS.icmpYes X3.here hx rfl (pc0 := 39) (pc' := 52) rfl (hb hby d3_39) rfl (flt hc39).2.1 (by decide) (by decide) (XS.iinc X3.here hx rfl (hb hby d3_52) rfl (l' := #[.val (.ref ao0), .val (.int p1), .val (.int p2), .val (.int ((0 : Int32) + (1 : Int32))), .val (.int (p2 + (64 : Int32)))]) rfl (XS.goto X3.here hx rfl (pc0 := 55) (pc' := 2) rfl (hb hby d3_55) (by decide) (by decide) k))) ?_
      rw [show ((0 : Int32) + (1 : Int32)) = (1 : Int32) from by decide +kernel]
      refine own_go (x' := T3.setTop (mkF m 4 #[.val (.ref ao0), .val (.int p1), .val (.int p2), .val (.int (1 : Int32)), .val (.int (p2 + (64 : Int32)))] [(.int p1), (.int (1 : Int32))])) (fun _ k => XS.iloadN X3.here hx rfl (hb hby d3_2) rfl (XS.iloadN X3.here hx rfl (hb hby d3_3) rfl k)) ?_
      by_cases hc4_56 : (1 : Int32) < p1
      · refine own_go (x' := T3.setTop (mkF m 22 #[.val (.ref ao0), .val (.int p1), .val (.int p2), .val (.int (1 : Int32)), .val (.int p2)] [(.ref ao0)])) (fun _ k => XS.icmpNo X3.here hx rfl (hb hby d3_4) rfl (tlt hc4_56).2.1 (XS.iloadN X3.here hx rfl (hb hby d3_7) rfl (XS.ifYes X3.here hx rfl (pc0 := 8) (pc' := 18) rfl (hb hby d3_8) rfl ((if0 _ _).trans (feq (by decide +kernel : ¬ ((1 : Int32) = (0 : Int32)))).2) (by decide) (by decide) (XS.iloadN X3.here hx rfl (hb hby d3_18) rfl (XS.istore X3.here hx rfl (hb hby d3_19) rfl (l' := #[.val (.ref ao0), .val (.int p1), .val (.int p2), .val (.int (1 : Int32)), .val (.int p2)]) rfl (XS.aloadN X3.here hx rfl (hb hby d3_21) rfl rfl k)))))) ?_
        obtain ⟨T57, X57, e57, st57⟩ := getF X3 hx hZ hown (host := "") (Or.inl (own_w hw 11 rfl)) Via.refl e3 F_ao0_bytes (g := (mkF m 22 #[.val (.ref ao0), .val (.int p1), .val (.int p2), .val (.int (1 : Int32)), .val (.int p2)] [(.ref ao0)])) rfl rfl (hb hby d3_22)
        refine own_go (x' := T57.setTop (mkF m 25 #[.val (.ref ao0), .val (.int p1), .val (.int p2), .val (.int (1 : Int32)), .val (.int p2)] [(.ref ar)])) st57 ?_
        refine own_go (x' := T57.setTop (mkF m 26 #[.val (.ref ao0), .val (.int p1), .val (.int p2), .val (.int (1 : Int32)), .val (.int p2)] [(.int (1 : Int32)), (.ref ar)])) (fun _ k => XS.iloadN X57.here hx rfl (hb hby d3_25) rfl k) ?_
        obtain ⟨cl58, Ar58, q58, Sz58, Nn58, Hh58, Gg58⟩ := id V_ar
        have hin58 : ¬ ((1 : Int32) < 0 ∨ cl58.slots.size ≤ ((1 : Int32)).toNatClampNeg) := inb_of Sz58 ⟨by decide, by decide⟩
        refine own_go (x' := T57.setTop (mkF m 27 #[.val (.ref ao0), .val (.int p1), .val (.int p2), .val (.int (1 : Int32)), .val (.int p2)] [(.ref b1)])) (X57.aaload hx (j := (1 : Int32)) (v := (.ref b1)) (Eq.trans (congrArg (fun h_ => h_[_]?) e57) Ar58.1) (State.isArrayOf_alike hZ.alike Ar58.2.1) rfl Ar58.2.2 hin58 (Hh58.at hin58 rfl) (g := (mkF m 26 #[.val (.ref ao0), .val (.int p1), .val (.int p2), .val (.int (1 : Int32)), .val (.int p2)] [(.int (1 : Int32)), (.ref ar)])) rfl rfl (hb hby d3_26)) ?_
        refine own_go (x' := T57.setTop (mkF m 31 #[.val (.ref ao0), .val (.int p1), .val (.int p2), .val (.int (1 : Int32)), .val (.int p2)] [(.ref ao0)])) (fun _ k => XS.ifnullNo X57.here hx rfl (hb hby d3_27) rfl (XS.aloadN X57.here hx rfl (hb hby d3_30) rfl rfl k)) ?_
        obtain ⟨T59, X59, e59, st59⟩ := getF X57 hx hZ hown (host := "") (Or.inl (own_w hw 11 rfl)) Via.refl e57 F_ao0_bytes (g := (mkF m 31 #[.val (.ref ao0), .val (.int p1), .val (.int p2), .val (.int (1 : Int32)), .val (.int p2)] [(.ref ao0)])) rfl rfl (hb hby d3_31)
        refine own_go (x' := T59.setTop (mkF m 34 #[.val (.ref ao0), .val (.int p1), .val (.int p2), .val (.int (1 : Int32)), .val (.int p2)] [(.ref ar)])) st59 ?_
        refine own_go (x' := T59.setTop (mkF m 35 #[.val (.ref ao0), .val (.int p1), .val (.int p2), .val (.int (1 : Int32)), .val (.int p2)] [(.int (1 : Int32)), (.ref ar)])) (fun _ k => XS.iloadN X59.here hx rfl (hb hby d3_34) rfl k) ?_
        obtain ⟨cl60, Ar60, q60, Sz60, Nn60, Hh60, Gg60⟩ := id V_ar
        have hin60 : ¬ ((1 : Int32) < 0 ∨ cl60.slots.size ≤ ((1 : Int32)).toNatClampNeg) := inb_of Sz60 ⟨by decide, by decide⟩
        refine own_go (x' := T59.setTop (mkF m 36 #[.val (.ref ao0), .val (.int p1), .val (.int p2), .val (.int (1 : Int32)), .val (.int p2)] [(.ref b1)])) (X59.aaload hx (j := (1 : Int32)) (v := (.ref b1)) (Eq.trans (congrArg (fun h_ => h_[_]?) e59) Ar60.1) (State.isArrayOf_alike hZ.alike Ar60.2.1) rfl Ar60.2.2 hin60 (Hh60.at hin60 rfl) (g := (mkF m 35 #[.val (.ref ao0), .val (.int p1), .val (.int p2), .val (.int (1 : Int32)), .val (.int p2)] [(.int (1 : Int32)), (.ref ar)])) rfl rfl (hb hby d3_35)) ?_
        obtain ⟨cl61, Ar61, -, Sz61, Nn61, -, -⟩ := id V_b1
        refine own_go (x' := T59.setTop (mkF m 37 #[.val (.ref ao0), .val (.int p1), .val (.int p2), .val (.int (1 : Int32)), .val (.int p2)] [(.int n1)])) (fun t k => X59.arraylength hx (Eq.trans (congrArg (fun h_ => h_[_]?) e59) Ar61.1) (State.isArrayOf_alike hZ.alike Ar61.2.1) (g := (mkF m 36 #[.val (.ref ao0), .val (.int p1), .val (.int p2), .val (.int (1 : Int32)), .val (.int p2)] [(.ref b1)])) rfl rfl (hb hby d3_36) t (by rw [len_of Sz61 Nn61]; exact k)) ?_
        refine own_go (x' := T59.setTop (mkF m 39 #[.val (.ref ao0), .val (.int p1), .val (.int p2), .val (.int (1 : Int32)), .val (.int p2)] [(.int p2), (.int n1)])) (fun _ k => XS.iload X59.here hx rfl (hb hby d3_37) rfl k) ?_
        by_cases hc39_62 : n1 < p2
        · refine own_go (x' := T59.setTop (mkF m 43 #[.val (.ref ao0), .val (.int p1), .val (.int p2), .val (.int (1 : Int32)), .val (.int p2)] [(.ref ao0)])) (fun _ k => XS.icmpNo X59.here hx rfl (hb hby d3_39) rfl (tlt hc39_62).2.1 (XS.aloadN X59.here hx rfl (hb hby d3_42) rfl rfl k)) ?_
          obtain ⟨T63, X63, e63, st63⟩ := getF X59 hx hZ hown (host := "") (Or.inl (own_w hw 11 rfl)) Via.refl e59 F_ao0_bytes (g := (mkF m 43 #[.val (.ref ao0), .val (.int p1), .val (.int p2), .val (.int (1 : Int32)), .val (.int p2)] [(.ref ao0)])) rfl rfl (hb hby d3_43)
          refine own_go (x' := T63.setTop (mkF m 46 #[.val (.ref ao0), .val (.int p1), .val (.int p2), .val (.int (1 : Int32)), .val (.int p2)] [(.ref ar)])) st63 ?_
          refine own_go (x' := T63.setTop (mkF m 49 #[.val (.ref ao0), .val (.int p1), .val (.int p2), .val (.int (1 : Int32)), .val (.int p2)] [(.int p2), (.int (1 : Int32)), (.ref ar)])) (fun _ k => XS.iloadN X63.here hx rfl (hb hby d3_46) rfl (XS.iload X63.here hx rfl (hb hby d3_47) rfl k)) ?_
          obtain ⟨T64, h64, k64, X64, e64, E64, A64, Q64, st64⟩ := newPE X63 hx hZ (own_w hw 29 rfl) e63 (g := (mkF m 49 #[.val (.ref ao0), .val (.int p1), .val (.int p2), .val (.int (1 : Int32)), .val (.int p2)] [(.int p2), (.int (1 : Int32)), (.ref ar)])) rfl (hb hby d3_49) rfl hs.1 (cap := 16383) hs.2 (by decide) (by decide) (by decide) (ad := "[B") (by decide)
          obtain ⟨b64, g64⟩ : ∃ z, z = h0.size := ⟨_, rfl⟩
          rw [← g64] at A64 st64
          rw [← g64] at Q64
          have ne_ao0_b64 : ao0 ≠ b64 := Nat.ne_of_lt (Nat.lt_of_lt_of_le F_ao0_bytes.lt (Nat.le_of_eq g64.symm))
          have ne_ar_b64 : ar ≠ b64 := Nat.ne_of_lt (Nat.lt_of_lt_of_le V_ar.lt (Nat.le_of_eq g64.symm))
          have ne_b0_b64 : b0 ≠ b64 := Nat.ne_of_lt (Nat.lt_of_lt_of_le V_b0.lt (Nat.le_of_eq g64.symm))
          have ne_b1_b64 : b1 ≠ b64 := Nat.ne_of_lt (Nat.lt_of_lt_of_le V_b1.lt (Nat.le_of_eq g64.symm))
          have ne_b2_b64 : b2 ≠ b64 := Nat.ne_of_lt (Nat.lt_of_lt_of_le V_b2.lt (Nat.le_of_eq g64.symm))
          have ne_b3_b64 : b3 ≠ b64 := Nat.ne_of_lt (Nat.lt_of_lt_of_le V_b3.lt (Nat.le_of_eq g64.symm))
          have g_b64 : n0 ≤ b64 := Nat.le_trans Zs (Nat.le_of_eq g64.symm)
          have sz_b64 : h0.size ≤ b64 := Nat.le_trans Kp.1 (Nat.le_of_eq g64.symm)
          replace F_ao0_bytes := Fld.ext E64 F_ao0_bytes
          replace V_ar := V_ar.ext E64
          replace V_b0 := V_b0.ext E64
          replace V_b1 := V_b1.ext E64
          replace V_b2 := V_b2.ext E64
          replace V_b3 := V_b3.ext E64
          replace Zs := Nat.le_trans Zs E64.1
          replace Kp := Kp.ext E64
          have E_b64 := Q64
          have V_b64 : Arv Z h64 b64 k64 .byte p2 [] (.int (0 : Int32)) := Arv.new A64 hs.1
          refine own_go (x' := T64.setTop (mkF m 51 #[.val (.ref ao0), .val (.int p1), .val (.int p2), .val (.int (1 : Int32)), .val (.int p2)] [(.ref b64), (.int (1 : Int32)), (.ref ar)])) st64 ?_
          obtain ⟨cl65, Ar65, q65, Sz65, Nn65, Hh65, Gg65⟩ := V_ar
          have hin65 : ¬ ((1 : Int32) < 0 ∨ cl65.slots.size ≤ ((1 : Int32)).toNatClampNeg) := inb_of Sz65 ⟨by decide, by decide⟩
          obtain ⟨T65, h65, X65, e65, W65, st65⟩ := stR X64 hx hZ e64 Ar65 (j := (1 : Int32)) hin65 rfl (Sto.ofVA Ar65 q65 O_ar (Ins.self E_b64)) (g := (mkF m 51 #[.val (.ref ao0), .val (.int p1), .val (.int p2), .val (.int (1 : Int32)), .val (.int p2)] [(.ref b64), (.int (1 : Int32)), (.ref ar)])) rfl rfl (hb hby d3_51)
          refine own_go (x' := T65.setTop (mkF m 52 #[.val (.ref ao0), .val (.int p1), .val (.int p2), .val (.int (1 : Int32)), .val (.int p2)] [])) st65 ?_
          replace F_ao0_bytes := Fld.other W65 F_ao0_bytes (Or.inl ne_ao0_ar)
          replace V_b0 := V_b0.other W65 ne_b0_ar
          replace V_b1 := V_b1.other W65 ne_b1_ar
          replace V_b2 := V_b2.other W65 ne_b2_ar
          replace V_b3 := V_b3.other W65 ne_b3_ar
          replace E_b64 := Exa.wr W65 E_b64
          replace V_b64 := V_b64.other W65 (Ne.symm ne_ar_b64)
          replace Zs := Nat.le_trans Zs (Keep.of_wr W65).1
          replace Nf := Fr.snoc X65 Nf g_ar
          replace Kp := Kp.wr W65 (Or.inl (by simp))
          have V_ar : Arv Z h65 ar kc (.array .byte) (4 : Int32) [(.ref b0), (.ref b64), (.ref b2), (.ref b3)] .null := Arv.set Ar65 q65 Sz65 Nn65 Hh65 Gg65 rfl W65 1 rfl (Nat.le_of_ble_eq_true rfl)
          refine own_go (x' := T65.setTop (mkF m 2 #[.val (.ref ao0), .val (.int p1), .val (.int p2), .val (.int ((1 : Int32) + (1 : Int32))), .val (.int p2)] [])) (fun _ k => XS.iinc X65.here hx rfl (hb hby d3_52) rfl (l' := #[.val (.ref ao0), .val (.int p1), .val (.int p2), .val (.int ((1 : Int32) + (1 : Int32))), .val (.int p2)]) rfl (XS.goto X65.here hx rfl (pc0 := 55) (pc' := 2) rfl (hb hby d3_55) (by decide) (by decide) k)) ?_
          rw [show ((1 : Int32) + (1 : Int32)) = (2 : Int32) from by decide +kernel]
          refine own_go (x' := T65.setTop (mkF m 4 #[.val (.ref ao0), .val (.int p1), .val (.int p2), .val (.int (2 : Int32)), .val (.int p2)] [(.int p1), (.int (2 : Int32))])) (fun _ k => XS.iloadN X65.here hx rfl (hb hby d3_2) rfl (XS.iloadN X65.here hx rfl (hb hby d3_3) rfl k)) ?_
          by_cases hc4_66 : (2 : Int32) < p1
          · refine own_go (x' := T65.setTop (mkF m 22 #[.val (.ref ao0), .val (.int p1), .val (.int p2), .val (.int (2 : Int32)), .val (.int p2)] [(.ref ao0)])) (fun _ k => XS.icmpNo X65.here hx rfl (hb hby d3_4) rfl (tlt hc4_66).2.1 (XS.iloadN X65.here hx rfl (hb hby d3_7) rfl (XS.ifYes X65.here hx rfl (pc0 := 8) (pc' := 18) rfl (hb hby d3_8) rfl ((if0 _ _).trans (feq (by decide +kernel : ¬ ((2 : Int32) = (0 : Int32)))).2) (by decide) (by decide) (XS.iloadN X65.here hx rfl (hb hby d3_18) rfl (XS.istore X65.here hx rfl (hb hby d3_19) rfl (l' := #[.val (.ref ao0), .val (.int p1), .val (.int p2), .val (.int (2 : Int32)), .val (.int p2)]) rfl (XS.aloadN X65.here hx rfl (hb hby d3_21) rfl rfl k)))))) ?_
            obtain ⟨T67, X67, e67, st67⟩ := getF X65 hx hZ hown (host := "") (Or.inl (own_w hw 11 rfl)) Via.refl e65 F_ao0_bytes (g := (mkF m 22 #[.val (.ref ao0), .val (.int p1), .val (.int p2), .val (.int (2 : Int32)), .val (.int p2)] [(.ref ao0)])) rfl rfl (hb hby d3_22)
            refine own_go (x' := T67.setTop (mkF m 25 #[.val (.ref ao0), .val (.int p1), .val (.int p2), .val (.int (2 : Int32)), .val (.int p2)] [(.ref ar)])) st67 ?_
            refine own_go (x' := T67.setTop (mkF m 26 #[.val (.ref ao0), .val (.int p1), .val (.int p2), .val (.int (2 : Int32)), .val (.int p2)] [(.int (2 : Int32)), (.ref ar)])) (fun _ k => XS.iloadN X67.here hx rfl (hb hby d3_25) rfl k) ?_
            obtain ⟨cl68, Ar68, q68, Sz68, Nn68, Hh68, Gg68⟩ := id V_ar
            have hin68 : ¬ ((2 : Int32) < 0 ∨ cl68.slots.size ≤ ((2 : Int32)).toNatClampNeg) := inb_of Sz68 ⟨by decide, by decide⟩
            refine own_go (x' := T67.setTop (mkF m 27 #[.val (.ref ao0), .val (.int p1), .val (.int p2), .val (.int (2 : Int32)), .val (.int p2)] [(.ref b2)])) (X67.aaload hx (j := (2 : Int32)) (v := (.ref b2)) (Eq.trans (congrArg (fun h_ => h_[_]?) e67) Ar68.1) (State.isArrayOf_alike hZ.alike Ar68.2.1) rfl Ar68.2.2 hin68 (Hh68.at hin68 rfl) (g := (mkF m 26 #[.val (.ref ao0), .val (.int p1), .val (.int p2), .val (.int (2 : Int32)), .val (.int p2)] [(.int (2 : Int32)), (.ref ar)])) rfl rfl (hb hby d3_26)) ?_
            refine own_go (x' := T67.setTop (mkF m 31 #[.val (.ref ao0), .val (.int p1), .val (.int p2), .val (.int (2 : Int32)), .val (.int p2)] [(.ref ao0)])) (fun _ k => XS.ifnullNo X67.here hx rfl (hb hby d3_27) rfl (XS.aloadN X67.here hx rfl (hb hby d3_30) rfl rfl k)) ?_
            obtain ⟨T69, X69, e69, st69⟩ := getF X67 hx hZ hown (host := "") (Or.inl (own_w hw 11 rfl)) Via.refl e67 F_ao0_bytes (g := (mkF m 31 #[.val (.ref ao0), .val (.int p1), .val (.int p2), .val (.int (2 : Int32)), .val (.int p2)] [(.ref ao0)])) rfl rfl (hb hby d3_31)
            refine own_go (x' := T69.setTop (mkF m 34 #[.val (.ref ao0), .val (.int p1), .val (.int p2), .val (.int (2 : Int32)), .val (.int p2)] [(.ref ar)])) st69 ?_
            refine own_go (x' := T69.setTop (mkF m 35 #[.val (.ref ao0), .val (.int p1), .val (.int p2), .val (.int (2 : Int32)), .val (.int p2)] [(.int (2 : Int32)), (.ref ar)])) (fun _ k => XS.iloadN X69.here hx rfl (hb hby d3_34) rfl k) ?_
            obtain ⟨cl70, Ar70, q70, Sz70, Nn70, Hh70, Gg70⟩ := id V_ar
            have hin70 : ¬ ((2 : Int32) < 0 ∨ cl70.slots.size ≤ ((2 : Int32)).toNatClampNeg) := inb_of Sz70 ⟨by decide, by decide⟩
            refine own_go (x' := T69.setTop (mkF m 36 #[.val (.ref ao0), .val (.int p1), .val (.int p2), .val (.int (2 : Int32)), .val (.int p2)] [(.ref b2)])) (X69.aaload hx (j := (2 : Int32)) (v := (.ref b2)) (Eq.trans (congrArg (fun h_ => h_[_]?) e69) Ar70.1) (State.isArrayOf_alike hZ.alike Ar70.2.1) rfl Ar70.2.2 hin70 (Hh70.at hin70 rfl) (g := (mkF m 35 #[.val (.ref ao0), .val (.int p1), .val (.int p2), .val (.int (2 : Int32)), .val (.int p2)] [(.int (2 : Int32)), (.ref ar)])) rfl rfl (hb hby d3_35)) ?_
            obtain ⟨cl71, Ar71, -, Sz71, Nn71, -, -⟩ := id V_b2
            refine own_go (x' := T69.setTop (mkF m 37 #[.val (.ref ao0), .val (.int p1), .val (.int p2), .val (.int (2 : Int32)), .val (.int p2)] [(.int n1)])) (fun t k => X69.arraylength hx (Eq.trans (congrArg (fun h_ => h_[_]?) e69) Ar71.1) (State.isArrayOf_alike hZ.alike Ar71.2.1) (g := (mkF m 36 #[.val (.ref ao0), .val (.int p1), .val (.int p2), .val (.int (2 : Int32)), .val (.int p2)] [(.ref b2)])) rfl rfl (hb hby d3_36) t (by rw [len_of Sz71 Nn71]; exact k)) ?_
            refine own_go (x' := T69.setTop (mkF m 43 #[.val (.ref ao0), .val (.int p1), .val (.int p2), .val (.int (2 : Int32)), .val (.int p2)] [(.ref ao0)])) (fun _ k => XS.iload X69.here hx rfl (hb hby d3_37) rfl (XS.icmpNo X69.here hx rfl (hb hby d3_39) rfl (tlt hc39_62).2.1 (XS.aloadN X69.here hx rfl (hb hby d3_42) rfl rfl k))) ?_
            obtain ⟨T72, X72, e72, st72⟩ := getF X69 hx hZ hown (host := "") (Or.inl (own_w hw 11 rfl)) Via.refl e69 F_ao0_bytes (g := (mkF m 43 #[.val (.ref ao0), .val (.int p1), .val (.int p2), .val (.int (2 : Int32)), .val (.int p2)] [(.ref ao0)])) rfl rfl (hb hby d3_43)
            refine own_go (x' := T72.setTop (mkF m 46 #[.val (.ref ao0), .val (.int p1), .val (.int p2), .val (.int (2 : Int32)), .val (.int p2)] [(.ref ar)])) st72 ?_
            refine own_go (x' := T72.setTop (mkF m 49 #[.val (.ref ao0), .val (.int p1), .val (.int p2), .val (.int (2 : Int32)), .val (.int p2)] [(.int p2), (.int (2 : Int32)), (.ref ar)])) (fun _ k => XS.iloadN X72.here hx rfl (hb hby d3_46) rfl (XS.iload X72.here hx rfl (hb hby d3_47) rfl k)) ?_
            obtain ⟨T73, h73, k73, X73, e73, E73, A73, Q73, st73⟩ := newPE X72 hx hZ (own_w hw 29 rfl) e72 (g := (mkF m 49 #[.val (.ref ao0), .val (.int p1), .val (.int p2), .val (.int (2 : Int32)), .val (.int p2)] [(.int p2), (.int (2 : Int32)), (.ref ar)])) rfl (hb hby d3_49) rfl hs.1 (cap := 16383) hs.2 (by decide) (by decide) (by decide) (ad := "[B") (by decide)
            obtain ⟨b73, g73⟩ : ∃ z, z = h65.size := ⟨_, rfl⟩
            rw [← g73] at A73 st73
            rw [← g73] at Q73
            have ne_ao0_b73 : ao0 ≠ b73 := Nat.ne_of_lt (Nat.lt_of_lt_of_le F_ao0_bytes.lt (Nat.le_of_eq g73.symm))
            have ne_b0_b73 : b0 ≠ b73 := Nat.ne_of_lt (Nat.lt_of_lt_of_le V_b0.lt (Nat.le_of_eq g73.symm))
            have ne_b1_b73 : b1 ≠ b73 := Nat.ne_of_lt (Nat.lt_of_lt_of_le V_b1.lt (Nat.le_of_eq g73.symm))
            have ne_b2_b73 : b2 ≠ b73 := Nat.ne_of_lt (Nat.lt_of_lt_of_le V_b2.lt (Nat.le_of_eq g73.symm))
            have ne_b3_b73 : b3 ≠ b73 := Nat.ne_of_lt (Nat.lt_of_lt_of_le V_b3.lt (Nat.le_of_eq g73.symm))
            have ne_b64_b73 : b64 ≠ b73 := Nat.ne_of_lt (Nat.lt_of_lt_of_le E_b64.lt (Nat.le_of_eq g73.symm))
            have ne_ar_b73 : ar ≠ b73 := Nat.ne_of_lt (Nat.lt_of_lt_of_le V_ar.lt (Nat.le_of_eq g73.symm))
            have g_b73 : n0 ≤ b73 := Nat.le_trans Zs (Nat.le_of_eq g73.symm)
            have sz_b73 : h0.size ≤ b73 := Nat.le_trans Kp.1 (Nat.le_of_eq g73.symm)
            replace F_ao0_bytes := Fld.ext E73 F_ao0_bytes
            replace V_b0 := V_b0.ext E73
            replace V_b1 := V_b1.ext E73
            replace V_b2 := V_b2.ext E73
            replace V_b3 := V_b3.ext E73
            replace E_b64 := Exa.ext E73 E_b64
            replace V_b64 := V_b64.ext E73
            replace V_ar := V_ar.ext E73
            replace Zs := Nat.le_trans Zs E73.1
            replace Kp := Kp.ext E73
            have E_b73 := Q73
            have V_b73 : Arv Z h73 b73 k73 .byte p2 [] (.int (0 : Int32)) := Arv.new A73 hs.1
            refine own_go (x' := T73.setTop (mkF m 51 #[.val (.ref ao0), .val (.int p1), .val (.int p2), .val (.int (2 : Int32)), .val (.int p2)] [(.ref b73), (.int (2 : Int32)), (.ref ar)])) st73 ?_
            obtain ⟨cl74, Ar74, q74, Sz74, Nn74, Hh74, Gg74⟩ := V_ar
            have hin74 : ¬ ((2 : Int32) < 0 ∨ cl74.slots.size ≤ ((2 : Int32)).toNatClampNeg) := inb_of Sz74 ⟨by decide, by decide⟩
            obtain ⟨T74, h74, X74, e74, W74, st74⟩ := stR X73 hx hZ e73 Ar74 (j := (2 : Int32)) hin74 rfl (Sto.ofVA Ar74 q74 O_ar (Ins.self E_b73)) (g := (mkF m 51 #[.val (.ref ao0), .val (.int p1), .val (.int p2), .val (.int (2 : Int32)), .val (.int p2)] [(.ref b73), (.int (2 : Int32)), (.ref ar)])) rfl rfl (hb hby d3_51)
            refine own_go (x' := T74.setTop (mkF m 52 #[.val (.ref ao0), .val (.int p1), .val (.int p2), .val (.int (2 : Int32)), .val (.int p2)] [])) st74 ?_
            replace F_ao0_bytes := Fld.other W74 F_ao0_bytes (Or.inl ne_ao0_ar)
            replace V_b0 := V_b0.other W74 ne_b0_ar
            replace V_b1 := V_b1.other W74 ne_b1_ar
            replace V_b2 := V_b2.other W74 ne_b2_ar
            replace V_b3 := V_b3.other W74 ne_b3_ar
            replace E_b64 := Exa.wr W74 E_b64
            replace V_b64 := V_b64.other W74 (Ne.symm ne_ar_b64)
            replace E_b73 := Exa.wr W74 E_b73
            replace V_b73 := V_b73.other W74 (Ne.symm ne_ar_b73)
            replace Zs := Nat.le_trans Zs (Keep.of_wr W74).1
            replace Nf := Fr.snoc X74 Nf g_ar
            replace Kp := Kp.wr W74 (Or.inl (by simp))
            have V_ar : Arv Z h74 ar kc (.array .byte) (4 : Int32) [(.ref b0), (.ref b64), (.ref b73), (.ref b3)] .null := Arv.set Ar74 q74 Sz74 Nn74 Hh74 Gg74 rfl W74 2 rfl (Nat.le_of_ble_eq_true rfl)
            refine own_go (x' := T74.setTop (mkF m 2 #[.val (.ref ao0), .val (.int p1), .val (.int p2), .val (.int ((2 : Int32) + (1 : Int32))), .val (.int p2)] [])) (fun _ k => XS.iinc X74.here hx rfl (hb hby d3_52) rfl (l' := #[.val (.ref ao0), .val (.int p1), .val (.int p2), .val (.int ((2 : Int32) + (1 : Int32))), .val (.int p2)]) rfl (XS.goto X74.here hx rfl (pc0 := 55) (pc' := 2) rfl (hb hby d3_55) (by decide) (by decide) k)) ?_
            rw [show ((2 : Int32) + (1 : Int32)) = (3 : Int32) from by decide +kernel]
            refine own_go (x' := T74.setTop (mkF m 4 #[.val (.ref ao0), .val (.int p1), .val (.int p2), .val (.int (3 : Int32)), .val (.int p2)] [(.int p1), (.int (3 : Int32))])) (fun _ k => XS.iloadN X74.here hx rfl (hb hby d3_2) rfl (XS.iloadN X74.here hx rfl (hb hby d3_3) rfl k)) ?_
            by_cases hc4_75 : (3 : Int32) < p1
            · refine own_go (x' := T74.setTop (mkF m 22 #[.val (.ref ao0), .val (.int p1), .val (.int p2), .val (.int (3 : Int32)), .val (.int p2)] [(.ref ao0)])) (fun _ k => XS.icmpNo X74.here hx rfl (hb hby d3_4) rfl (tlt hc4_75).2.1 (XS.iloadN X74.here hx rfl (hb hby d3_7) rfl (XS.ifYes X74.here hx rfl (pc0 := 8) (pc' := 18) rfl (hb hby d3_8) rfl ((if0 _ _).trans (feq (by decide +kernel : ¬ ((3 : Int32) = (0 : Int32)))).2) (by decide) (by decide) (XS.iloadN X74.here hx rfl (hb hby d3_18) rfl (XS.istore X74.here hx rfl (hb hby d3_19) rfl (l' := #[.val (.ref ao0), .val (.int p1), .val (.int p2), .val (.int (3 : Int32)), .val (.int p2)]) rfl (XS.aloadN X74.here hx rfl (hb hby d3_21) rfl rfl k)))))) ?_
              obtain ⟨T76, X76, e76, st76⟩ := getF X74 hx hZ hown (host := "") (Or.inl (own_w hw 11 rfl)) Via.refl e74 F_ao0_bytes (g := (mkF m 22 #[.val (.ref ao0), .val (.int p1), .val (.int p2), .val (.int (3 : Int32)), .val (.int p2)] [(.ref ao0)])) rfl rfl (hb hby d3_22)
              refine own_go (x' := T76.setTop (mkF m 25 #[.val (.ref ao0), .val (.int p1), .val (.int p2), .val (.int (3 : Int32)), .val (.int p2)] [(.ref ar)])) st76 ?_
              refine own_go (x' := T76.setTop (mkF m 26 #[.val (.ref ao0), .val (.int p1), .val (.int p2), .val (.int (3 : Int32)), .val (.int p2)] [(.int (3 : Int32)), (.ref ar)])) (fun _ k => XS.iloadN X76.here hx rfl (hb hby d3_25) rfl k) ?_
              obtain ⟨cl77, Ar77, q77, Sz77, Nn77, Hh77, Gg77⟩ := id V_ar
              have hin77 : ¬ ((3 : Int32) < 0 ∨ cl77.slots.size ≤ ((3 : Int32)).toNatClampNeg) := inb_of Sz77 ⟨by decide, by decide⟩
              refine own_go (x' := T76.setTop (mkF m 27 #[.val (.ref ao0), .val (.int p1), .val (.int p2), .val (.int (3 : Int32)), .val (.int p2)] [(.ref b3)])) (X76.aaload hx (j := (3 : Int32)) (v := (.ref b3)) (Eq.trans (congrArg (fun h_ => h_[_]?) e76) Ar77.1) (State.isArrayOf_alike hZ.alike Ar77.2.1) rfl Ar77.2.2 hin77 (Hh77.at hin77 rfl) (g := (mkF m 26 #[.val (.ref ao0), .val (.int p1), .val (.int p2), .val (.int (3 : Int32)), .val (.int p2)] [(.int (3 : Int32)), (.ref ar)])) rfl rfl (hb hby d3_26)) ?_
              refine own_go (x' := T76.setTop (mkF m 31 #[.val (.ref ao0), .val (.int p1), .val (.int p2), .val (.int (3 : Int32)), .val (.int p2)] [(.ref ao0)])) (fun _ k => XS.ifnullNo X76.here hx rfl (hb hby d3_27) rfl (XS.aloadN X76.here hx rfl (hb hby d3_30) rfl rfl k)) ?_
              obtain ⟨T78, X78, e78, st78⟩ := getF X76 hx hZ hown (host := "") (Or.inl (own_w hw 11 rfl)) Via.refl e76 F_ao0_bytes (g := (mkF m 31 #[.val (.ref ao0), .val (.int p1), .val (.int p2), .val (.int (3 : Int32)), .val (.int p2)] [(.ref ao0)])) rfl rfl (hb hby d3_31)
              refine own_go (x' := T78.setTop (mkF m 34 #[.val (.ref ao0), .val (.int p1), .val (.int p2), .val (.int (3 : Int32)), .val (.int p2)] [(.ref ar)])) st78 ?_
              refine own_go (x' := T78.setTop (mkF m 35 #[.val (.ref ao0), .val (.int p1), .val (.int p2), .val (.int (3 : Int32)), .val (.int p2)] [(.int (3 : Int32)), (.ref ar)])) (fun _ k => XS.iloadN X78.here hx rfl (hb hby d3_34) rfl k) ?_
              obtain ⟨cl79, Ar79, q79, Sz79, Nn79, Hh79, Gg79⟩ := id V_ar
              have hin79 : ¬ ((3 : Int32) < 0 ∨ cl79.slots.size ≤ ((3 : Int32)).toNatClampNeg) := inb_of Sz79 ⟨by decide, by decide⟩
              refine own_go (x' := T78.setTop (mkF m 36 #[.val (.ref ao0), .val (.int p1), .val (.int p2), .val (.int (3 : Int32)), .val (.int p2)] [(.ref b3)])) (X78.aaload hx (j := (3 : Int32)) (v := (.ref b3)) (Eq.trans (congrArg (fun h_ => h_[_]?) e78) Ar79.1) (State.isArrayOf_alike hZ.alike Ar79.2.1) rfl Ar79.2.2 hin79 (Hh79.at hin79 rfl) (g := (mkF m 35 #[.val (.ref ao0), .val (.int p1), .val (.int p2), .val (.int (3 : Int32)), .val (.int p2)] [(.int (3 : Int32)), (.ref ar)])) rfl rfl (hb hby d3_35)) ?_
              obtain ⟨cl80, Ar80, -, Sz80, Nn80, -, -⟩ := id V_b3
              refine own_go (x' := T78.setTop (mkF m 37 #[.val (.ref ao0), .val (.int p1), .val (.int p2), .val (.int (3 : Int32)), .val (.int p2)] [(.int n1)])) (fun t k => X78.arraylength hx (Eq.trans (congrArg (fun h_ => h_[_]?) e78) Ar80.1) (State.isArrayOf_alike hZ.alike Ar80.2.1) (g := (mkF m 36 #[.val (.ref ao0), .val (.int p1), .val (.int p2), .val (.int (3 : Int32)), .val (.int p2)] [(.ref b3)])) rfl rfl (hb hby d3_36) t (by rw [len_of Sz80 Nn80]; exact k)) ?_
              refine own_go (x' := T78.setTop (mkF m 43 #[.val (.ref ao0), .val (.int p1), .val (.int p2), .val (.int (3 : Int32)), .val (.int p2)] [(.ref ao0)])) (fun _ k => XS.iload X78.here hx rfl (hb hby d3_37) rfl (XS.icmpNo X78.here hx rfl (hb hby d3_39) rfl (tlt hc39_62).2.1 (XS.aloadN X78.here hx rfl (hb hby d3_42) rfl rfl k))) ?_
              obtain ⟨T81, X81, e81, st81⟩ := getF X78 hx hZ hown (host := "") (Or.inl (own_w hw 11 rfl)) Via.refl e78 F_ao0_bytes (g := (mkF m 43 #[.val (.ref ao0), .val (.int p1), .val (.int p2), .val (.int (3 : Int32)), .val (.int p2)] [(.ref ao0)])) rfl rfl (hb hby d3_43)
              refine own_go (x' := T81.setTop (mkF m 46 #[.val (.ref ao0), .val (.int p1), .val (.int p2), .val (.int (3 : Int32)), .val (.int p2)] [(.ref ar)])) st81 ?_
              refine own_go (x' := T81.setTop (mkF m 49 #[.val (.ref ao0), .val (.int p1), .val (.int p2), .val (.int (3 : Int32)), .val (.int p2)] [(.int p2), (.int (3 : Int32)), (.ref ar)])) (fun _ k => XS.iloadN X81.here hx rfl (hb hby d3_46) rfl (XS.iload X81.here hx rfl (hb hby d3_47) rfl k)) ?_
              obtain ⟨T82, h82, k82, X82, e82, E82, A82, Q82, st82⟩ := newPE X81 hx hZ (own_w hw 29 rfl) e81 (g := (mkF m 49 #[.val (.ref ao0), .val (.int p1), .val (.int p2), .val (.int (3 : Int32)), .val (.int p2)] [(.int p2), (.int (3 : Int32)), (.ref ar)])) rfl (hb hby d3_49) rfl hs.1 (cap := 16383) hs.2 (by decide) (by decide) (by decide) (ad := "[B") (by decide)
              obtain ⟨b82, g82⟩ : ∃ z, z = h74.size := ⟨_, rfl⟩
              rw [← g82] at A82 st82
              rw [← g82] at Q82
              have ne_ao0_b82 : ao0 ≠ b82 := Nat.ne_of_lt (Nat.lt_of_lt_of_le F_ao0_bytes.lt (Nat.le_of_eq g82.symm))
              have ne_b0_b82 : b0 ≠ b82 := Nat.ne_of_lt (Nat.lt_of_lt_of_le V_b0.lt (Nat.le_of_eq g82.symm))
              have ne_b1_b82 : b1 ≠ b82 := Nat.ne_of_lt (Nat.lt_of_lt_of_le V_b1.lt (Nat.le_of_eq g82.symm))
              have ne_b2_b82 : b2 ≠ b82 := Nat.ne_of_lt (Nat.lt_of_lt_of_le V_b2.lt (Nat.le_of_eq g82.symm))
              have ne_b3_b82 : b3 ≠ b82 := Nat.ne_of_lt (Nat.lt_of_lt_of_le V_b3.lt (Nat.le_of_eq g82.symm))
              have ne_b64_b82 : b64 ≠ b82 := Nat.ne_of_lt (Nat.lt_of_lt_of_le E_b64.lt (Nat.le_of_eq g82.symm))
              have ne_b73_b82 : b73 ≠ b82 := Nat.ne_of_lt (Nat.lt_of_lt_of_le E_b73.lt (Nat.le_of_eq g82.symm))
              have ne_ar_b82 : ar ≠ b82 := Nat.ne_of_lt (Nat.lt_of_lt_of_le V_ar.lt (Nat.le_of_eq g82.symm))
              have g_b82 : n0 ≤ b82 := Nat.le_trans Zs (Nat.le_of_eq g82.symm)
              have sz_b82 : h0.size ≤ b82 := Nat.le_trans Kp.1 (Nat.le_of_eq g82.symm)
              replace F_ao0_bytes := Fld.ext E82 F_ao0_bytes
              replace V_b0 := V_b0.ext E82
              replace V_b1 := V_b1.ext E82
              replace V_b2 := V_b2.ext E82
              replace V_b3 := V_b3.ext E82
              replace E_b64 := Exa.ext E82 E_b64
              replace V_b64 := V_b64.ext E82
              replace E_b73 := Exa.ext E82 E_b73
              replace V_b73 := V_b73.ext E82
              replace V_ar := V_ar.ext E82
              replace Zs := Nat.le_trans Zs E82.1
              replace Kp := Kp.ext E82
              have E_b82 := Q82
              have V_b82 : Arv Z h82 b82 k82 .byte p2 [] (.int (0 : Int32)) := Arv.new A82 hs.1
              refine own_go (x' := T82.setTop (mkF m 51 #[.val (.ref ao0), .val (.int p1), .val (.int p2), .val (.int (3 : Int32)), .val (.int p2)] [(.ref b82), (.int (3 : Int32)), (.ref ar)])) st82 ?_
              obtain ⟨cl83, Ar83, q83, Sz83, Nn83, Hh83, Gg83⟩ := V_ar
              have hin83 : ¬ ((3 : Int32) < 0 ∨ cl83.slots.size ≤ ((3 : Int32)).toNatClampNeg) := inb_of Sz83 ⟨by decide, by decide⟩
              obtain ⟨T83, h83, X83, e83, W83, st83⟩ := stR X82 hx hZ e82 Ar83 (j := (3 : Int32)) hin83 rfl (Sto.ofVA Ar83 q83 O_ar (Ins.self E_b82)) (g := (mkF m 51 #[.val (.ref ao0), .val (.int p1), .val (.int p2), .val (.int (3 : Int32)), .val (.int p2)] [(.ref b82), (.int (3 : Int32)), (.ref ar)])) rfl rfl (hb hby d3_51)
              refine own_go (x' := T83.setTop (mkF m 52 #[.val (.ref ao0), .val (.int p1), .val (.int p2), .val (.int (3 : Int32)), .val (.int p2)] [])) st83 ?_
              replace F_ao0_bytes := Fld.other W83 F_ao0_bytes (Or.inl ne_ao0_ar)
              replace V_b0 := V_b0.other W83 ne_b0_ar
              replace V_b1 := V_b1.other W83 ne_b1_ar
              replace V_b2 := V_b2.other W83 ne_b2_ar
              replace V_b3 := V_b3.other W83 ne_b3_ar
              replace E_b64 := Exa.wr W83 E_b64
              replace V_b64 := V_b64.other W83 (Ne.symm ne_ar_b64)
              replace E_b73 := Exa.wr W83 E_b73
              replace V_b73 := V_b73.other W83 (Ne.symm ne_ar_b73)
              replace E_b82 := Exa.wr W83 E_b82
              replace V_b82 := V_b82.other W83 (Ne.symm ne_ar_b82)
              replace Zs := Nat.le_trans Zs (Keep.of_wr W83).1
              replace Nf := Fr.snoc X83 Nf g_ar
              replace Kp := Kp.wr W83 (Or.inl (by simp))
              have V_ar : Arv Z h83 ar kc (.array .byte) (4 : Int32) [(.ref b0), (.ref b64), (.ref b73), (.ref b82)] .null := Arv.set Ar83 q83 Sz83 Nn83 Hh83 Gg83 rfl W83 3 rfl (Nat.le_of_ble_eq_true rfl)
              refine own_go (x' := T83.setTop (mkF m 2 #[.val (.ref ao0), .val (.int p1), .val (.int p2), .val (.int ((3 : Int32) + (1 : Int32))), .val (.int p2)] [])) (fun _ k => XS.iinc X83.here hx rfl (hb hby d3_52) rfl (l' := #[.val (.ref ao0), .val (.int p1), .val (.int p2), .val (.int ((3 : Int32) + (1 : Int32))), .val (.int p2)]) rfl (XS.goto X83.here hx rfl (pc0 := 55) (pc' := 2) rfl (hb hby d3_55) (by decide) (by decide) k)) ?_
              rw [show ((3 : Int32) + (1 : Int32)) = (4 : Int32) from by decide +kernel]
              refine own_go (x' := T83.setTop (mkF m 59 #[.val (.ref ao0), .val (.int p1), .val (.int p2), .val (.int (4 : Int32)), .val (.int p2)] [(.ref ao0)])) (fun _ k => XS.iloadN X83.here hx rfl (hb hby d3_2) rfl (XS.iloadN X83.here hx rfl (hb hby d3_3) rfl (XS.icmpYes X83.here hx rfl (pc0 := 4) (pc' := 58) rfl (hb hby d3_4) rfl (flt hu).2.1 (by decide) (by decide) (XS.aloadN X83.here hx rfl (hb hby d3_58) rfl rfl k)))) ?_
              obtain ⟨T84, X84, e84, st84⟩ := getF X83 hx hZ hown (host := "") (Or.inl (own_w hw 11 rfl)) Via.refl e83 F_ao0_bytes (g := (mkF m 59 #[.val (.ref ao0), .val (.int p1), .val (.int p2), .val (.int (4 : Int32)), .val (.int p2)] [(.ref ao0)])) rfl rfl (hb hby d3_59)
              refine own_go (x' := T84.setTop (mkF m 62 #[.val (.ref ao0), .val (.int p1), .val (.int p2), .val (.int (4 : Int32)), .val (.int p2)] [(.ref ar)])) st84 ?_
              refine own_retR X84 hx hlk hret rfl rfl (hb hby d3_62) ?_ (by decide) (by decide)
              rw [e84]
              exact ⟨(.ref b0), (.ref b64), (.ref b73), (.ref b82), rfl, Nf, Kp, V_ar, Or.inl ⟨rfl, Or.inr hc39⟩, Or.inr ⟨b64, k64, rfl, sz_b64, V_b64, hc4_56, hc39_62⟩, Or.inr ⟨b73, k73, rfl, sz_b73, V_b73, hc4_66, hc39_62⟩, Or.inr ⟨b82, k82, rfl, sz_b82, V_b82, hc4_75, hc39_62⟩⟩
            · refine own_go (x' := T74.setTop (mkF m 59 #[.val (.ref ao0), .val (.int p1), .val (.int p2), .val (.int (3 : Int32)), .val (.int p2)] [(.ref ao0)])) (fun _ k => XS.icmpYes X74.here hx rfl (pc0 := 4) (pc' := 58) rfl (hb hby d3_4) rfl (flt hc4_75).2.1 (by decide) (by decide) (XS.aloadN X74.here hx rfl (hb hby d3_58) rfl rfl k)) ?_
              obtain ⟨T85, X85, e85, st85⟩ := getF X74 hx hZ hown (host := "") (Or.inl (own_w hw 11 rfl)) Via.refl e74 F_ao0_bytes (g := (mkF m 59 #[.val (.ref ao0), .val (.int p1), .val (.int p2), .val (.int (3 : Int32)), .val (.int p2)] [(.ref ao0)])) rfl rfl (hb hby d3_59)
              refine own_go (x' := T85.setTop (mkF m 62 #[.val (.ref ao0), .val (.int p1), .val (.int p2), .val (.int (3 : Int32)), .val (.int p2)] [(.ref ar)])) st85 ?_
              refine own_retR X85 hx hlk hret rfl rfl (hb hby d3_62) ?_ (by decide) (by decide)
              rw [e85]
              exact ⟨(.ref b0), (.ref b64), (.ref b73), (.ref b3), rfl, Nf, Kp, V_ar, Or.inl ⟨rfl, Or.inr hc39⟩, Or.inr ⟨b64, k64, rfl, sz_b64, V_b64, hc4_56, hc39_62⟩, Or.inr ⟨b73, k73, rfl, sz_b73, V_b73, hc4_66, hc39_62⟩, Or.inl ⟨rfl, Or.inl hc4_75⟩⟩
          · refine own_go (x' := T65.setTop (mkF m 59 #[.val (.ref ao0), .val (.int p1), .val (.int p2), .val (.int (2 : Int32)), .val (.int p2)] [(.ref ao0)])) (fun _ k => XS.icmpYes X65.here hx rfl (pc0 := 4) (pc' := 58) rfl (hb hby d3_4) rfl (flt hc4_66).2.1 (by decide) (by decide) (XS.aloadN X65.here hx rfl (hb hby d3_58) rfl rfl k)) ?_
            obtain ⟨T86, X86, e86, st86⟩ := getF X65 hx hZ hown (host := "") (Or.inl (own_w hw 11 rfl)) Via.refl e65 F_ao0_bytes (g := (mkF m 59 #[.val (.ref ao0), .val (.int p1), .val (.int p2), .val (.int (2 : Int32)), .val (.int p2)] [(.ref ao0)])) rfl rfl (hb hby d3_59)
            refine own_go (x' := T86.setTop (mkF m 62 #[.val (.ref ao0), .val (.int p1), .val (.int p2), .val (.int (2 : Int32)), .val (.int p2)] [(.ref ar)])) st86 ?_
            refine own_retR X86 hx hlk hret rfl rfl (hb hby d3_62) ?_ (by decide) (by decide)
            rw [e86]
            exact ⟨(.ref b0), (.ref b64), (.ref b2), (.ref b3), rfl, Nf, Kp, V_ar, Or.inl ⟨rfl, Or.inr hc39⟩, Or.inr ⟨b64, k64, rfl, sz_b64, V_b64, hc4_56, hc39_62⟩, Or.inl ⟨rfl, Or.inl hc4_66⟩, Or.inl ⟨rfl, Or.inl (own_le hc4_66 (by decide))⟩⟩
        · refine own_go (x' := T59.setTop (mkF m 2 #[.val (.ref ao0), .val (.int p1), .val (.int p2), .val (.int ((1 : Int32) + (1 : Int32))), .val (.int p2)] [])) (fun _ k => XS.icmpYes X59.here hx rfl (pc0 := 39) (pc' := 52) rfl (hb hby d3_39) rfl (flt hc39_62).2.1 (by decide) (by decide) (XS.iinc X59.here hx rfl (hb hby d3_52) rfl (l' := #[.val (.ref ao0), .val (.int p1), .val (.int p2), .val (.int ((1 : Int32) + (1 : Int32))), .val (.int p2)]) rfl (XS.goto X59.here hx rfl (pc0 := 55) (pc' := 2) rfl (hb hby d3_55) (by decide) (by decide) k))) ?_
          rw [show ((1 : Int32) + (1 : Int32)) = (2 : Int32) from by decide +kernel]
          refine own_go (x' := T59.setTop (mkF m 4 #[.val (.ref ao0), .val (.int p1), .val (.int p2), .val (.int (2 : Int32)), .val (.int p2)] [(.int p1), (.int (2 : Int32))])) (fun _ k => XS.iloadN X59.here hx rfl (hb hby d3_2) rfl (XS.iloadN X59.here hx rfl (hb hby d3_3) rfl k)) ?_
          by_cases hc4_87 : (2 : Int32) < p1
          · refine own_go (x' := T59.setTop (mkF m 22 #[.val (.ref ao0), .val (.int p1), .val (.int p2), .val (.int (2 : Int32)), .val (.int p2)] [(.ref ao0)])) (fun _ k => XS.icmpNo X59.here hx rfl (hb hby d3_4) rfl (tlt hc4_87).2.1 (XS.iloadN X59.here hx rfl (hb hby d3_7) rfl (XS.ifYes X59.here hx rfl (pc0 := 8) (pc' := 18) rfl (hb hby d3_8) rfl ((if0 _ _).trans (feq (by decide +kernel : ¬ ((2 : Int32) = (0 : Int32)))).2) (by decide) (by decide) (XS.iloadN X59.here hx rfl (hb hby d3_18) rfl (XS.istore X59.here hx rfl (hb hby d3_19) rfl (l' := #[.val (.ref ao0), .val (.int p1), .val (.int p2), .val (.int (2 : Int32)), .val (.int p2)]) rfl (XS.aloadN X59.here hx rfl (hb hby d3_21) rfl rfl k)))))) ?_
            obtain ⟨T88, X88, e88, st88⟩ := getF X59 hx hZ hown (host := "") (Or.inl (own_w hw 11 rfl)) Via.refl e59 F_ao0_bytes (g := (mkF m 22 #[.val (.ref ao0), .val (.int p1), .val (.int p2), .val (.int (2 : Int32)), .val (.int p2)] [(.ref ao0)])) rfl rfl (hb hby d3_22)
            refine own_go (x' := T88.setTop (mkF m 25 #[.val (.ref ao0), .val (.int p1), .val (.int p2), .val (.int (2 : Int32)), .val (.int p2)] [(.ref ar)])) st88 ?_
            refine own_go (x' := T88.setTop (mkF m 26 #[.val (.ref ao0), .val (.int p1), .val (.int p2), .val (.int (2 : Int32)), .val (.int p2)] [(.int (2 : Int32)), (.ref ar)])) (fun _ k => XS.iloadN X88.here hx rfl (hb hby d3_25) rfl k) ?_
            obtain ⟨cl89, Ar89, q89, Sz89, Nn89, Hh89, Gg89⟩ := id V_ar
            have hin89 : ¬ ((2 : Int32) < 0 ∨ cl89.slots.size ≤ ((2 : Int32)).toNatClampNeg) := inb_of Sz89 ⟨by decide, by decide⟩
            refine own_go (x' := T88.setTop (mkF m 27 #[.val (.ref ao0), .val (.int p1), .val (.int p2), .val (.int (2 : Int32)), .val (.int p2)] [(.ref b2)])) (X88.aaload hx (j := (2 : Int32)) (v := (.ref b2)) (Eq.trans (congrArg (fun h_ => h_[_]?) e88) Ar89.1) (State.isArrayOf_alike hZ.alike Ar89.2.1) rfl Ar89.2.2 hin89 (Hh89.at hin89 rfl) (g := (mkF m 26 #[.val (.ref ao0), .val (.int p1), .val (.int p2), .val (.int (2 : Int32)), .val (.int p2)] [(.int (2 : Int32)), (.ref ar)])) rfl rfl (hb hby d3_26)) ?_
            refine own_go (x' := T88.setTop (mkF m 31 #[.val (.ref ao0), .val (.int p1), .val (.int p2), .val (.int (2 : Int32)), .val (.int p2)] [(.ref ao0)])) (fun _ k => XS.ifnullNo X88.here hx rfl (hb hby d3_27) rfl (XS.aloadN X88.here hx rfl (hb hby d3_30) rfl rfl k)) ?_
            obtain ⟨T90, X90, e90, st90⟩ := getF X88 hx hZ hown (host := "") (Or.inl (own_w hw 11 rfl)) Via.refl e88 F_ao0_bytes (g := (mkF m 31 #[.val (.ref ao0), .val (.int p1), .val (.int p2), .val (.int (2 : Int32)), .val (.int p2)] [(.ref ao0)])) rfl rfl (hb hby d3_31)
            refine own_go (x' := T90.setTop (mkF m 34 #[.val (.ref ao0), .val (.int p1), .val (.int p2), .val (.int (2 : Int32)), .val (.int p2)] [(.ref ar)])) st90 ?_
            refine own_go (x' := T90.setTop (mkF m 35 #[.val (.ref ao0), .val (.int p1), .val (.int p2), .val (.int (2 : Int32)), .val (.int p2)] [(.int (2 : Int32)), (.ref ar)])) (fun _ k => XS.iloadN X90.here hx rfl (hb hby d3_34) rfl k) ?_
            obtain ⟨cl91, Ar91, q91, Sz91, Nn91, Hh91, Gg91⟩ := id V_ar
            have hin91 : ¬ ((2 : Int32) < 0 ∨ cl91.slots.size ≤ ((2 : Int32)).toNatClampNeg) := inb_of Sz91 ⟨by decide, by decide⟩
            refine own_go (x' := T90.setTop (mkF m 36 #[.val (.ref ao0), .val (.int p1), .val (.int p2), .val (.int (2 : Int32)), .val (.int p2)] [(.ref b2)])) (X90.aaload hx (j := (2 : Int32)) (v := (.ref b2)) (Eq.trans (congrArg (fun h_ => h_[_]?) e90) Ar91.1) (State.isArrayOf_alike hZ.alike Ar91.2.1) rfl Ar91.2.2 hin91 (Hh91.at hin91 rfl) (g := (mkF m 35 #[.val (.ref ao0), .val (.int p1), .val (.int p2), .val (.int (2 : Int32)), .val (.int p2)] [(.int (2 : Int32)), (.ref ar)])) rfl rfl (hb hby d3_35)) ?_
            obtain ⟨cl92, Ar92, -, Sz92, Nn92, -, -⟩ := id V_b2
            refine own_go (x' := T90.setTop (mkF m 37 #[.val (.ref ao0), .val (.int p1), .val (.int p2), .val (.int (2 : Int32)), .val (.int p2)] [(.int n1)])) (fun t k => X90.arraylength hx (Eq.trans (congrArg (fun h_ => h_[_]?) e90) Ar92.1) (State.isArrayOf_alike hZ.alike Ar92.2.1) (g := (mkF m 36 #[.val (.ref ao0), .val (.int p1), .val (.int p2), .val (.int (2 : Int32)), .val (.int p2)] [(.ref b2)])) rfl rfl (hb hby d3_36) t (by rw [len_of Sz92 Nn92]; exact k)) ?_
            refine own_go (x' := T90.setTop (mkF m 2 #[.val (.ref ao0), .val (.int p1), .val (.int p2), .val (.int ((2 : Int32) + (1 : Int32))), .val (.int p2)] [])) (fun _ k => XS.iload X90.here hx rfl (hb hby d3_37) rfl (XS.icmpYes X90.here hx rfl (pc0 := 39) (pc' := 52) rfl (hb hby d3_39) rfl (flt hc39_62).2.1 (by decide) (by decide) (XS.iinc X90.here hx rfl (hb hby d3_52) rfl (l' := #[.val (.ref ao0), .val (.int p1), .val (.int p2), .val (.int ((2 : Int32) + (1 : Int32))), .val (.int p2)]) rfl (XS.goto X90.here hx rfl (pc0 := 55) (pc' := 2) rfl (hb hby d3_55) (by decide) (by decide) k)))) ?_
            rw [show ((2 : Int32) + (1 : Int32)) = (3 : Int32) from by decide +kernel]
            refine own_go (x' := T90.setTop (mkF m 4 #[.val (.ref ao0), .val (.int p1), .val (.int p2), .val (.int (3 : Int32)), .val (.int p2)] [(.int p1), (.int (3 : Int32))])) (fun _ k => XS.iloadN X90.here hx rfl (hb hby d3_2) rfl (XS.iloadN X90.here hx rfl (hb hby d3_3) rfl k)) ?_
            by_cases hc4_93 : (3 : Int32) < p1
            · refine own_go (x' := T90.setTop (mkF m 22 #[.val (.ref ao0), .val (.int p1), .val (.int p2), .val (.int (3 : Int32)), .val (.int p2)] [(.ref ao0)])) (fun _ k => XS.icmpNo X90.here hx rfl (hb hby d3_4) rfl (tlt hc4_93).2.1 (XS.iloadN X90.here hx rfl (hb hby d3_7) rfl (XS.ifYes X90.here hx rfl (pc0 := 8) (pc' := 18) rfl (hb hby d3_8) rfl ((if0 _ _).trans (feq (by decide +kernel : ¬ ((3 : Int32) = (0 : Int32)))).2) (by decide) (by decide) (XS.iloadN X90.here hx rfl (hb hby d3_18) rfl (XS.istore X90.here hx rfl (hb hby d3_19) rfl (l' := #[.val (.ref ao0), .val (.int p1), .val (.int p2), .val (.int (3 : Int32)), .val (.int p2)]) rfl (XS.aloadN X90.here hx rfl (hb hby d3_21) rfl rfl k)))))) ?_
              obtain ⟨T94, X94, e94, st94⟩ := getF X90 hx hZ hown (host := "") (Or.inl (own_w hw 11 rfl)) Via.refl e90 F_ao0_bytes (g := (mkF m 22 #[.val (.ref ao0), .val (.int p1), .val (.int p2), .val (.int (3 : Int32)), .val (.int p2)] [(.ref ao0)])) rfl rfl (hb hby d3_22)
              refine own_go (x' := T94.setTop (mkF m 25 #[.val (.ref ao0), .val (.int p1), .val (.int p2), .val (.int (3 : Int32)), .val (.int p2)] [(.ref ar)])) st94 ?_
              refine own_go (x' := T94.setTop (mkF m 26 #[.val (.ref ao0), .val (.int p1), .val (.int p2), .val (.int (3 : Int32)), .val (.int p2)] [(.int (3 : Int32)), (.ref ar)])) (fun _ k => XS.iloadN X94.here hx rfl (hb hby d3_25) rfl k) ?_
              obtain ⟨cl95, Ar95, q95, Sz95, Nn95, Hh95, Gg95⟩ := id V_ar
              have hin95 : ¬ ((3 : Int32) < 0 ∨ cl95.slots.size ≤ ((3 : Int32)).toNatClampNeg) := inb_of Sz95 ⟨by decide, by decide⟩
              refine own_go (x' := T94.setTop (mkF m 27 #[.val (.ref ao0), .val (.int p1), .val (.int p2), .val (.int (3 : Int32)), .val (.int p2)] [(.ref b3)])) (X94.aaload hx (j := (3 : Int32)) (v := (.ref b3)) (Eq.trans (congrArg (fun h_ => h_[_]?) e94) Ar95.1) (State.isArrayOf_alike hZ.alike Ar95.2.1) rfl Ar95.2.2 hin95 (Hh95.at hin95 rfl) (g := (mkF m 26 #[.val (.ref ao0), .val (.int p1), .val (.int p2), .val (.int (3 : Int32)), .val (.int p2)] [(.int (3 : Int32)), (.ref ar)])) rfl rfl (hb hby d3_26)) ?_
              refine own_go (x' := T94.setTop (mkF m 31 #[.val (.ref ao0), .val (.int p1), .val (.int p2), .val (.int (3 : Int32)), .val (.int p2)] [(.ref ao0)])) (fun _ k => XS.ifnullNo X94.here hx rfl (hb hby d3_27) rfl (XS.aloadN X94.here hx rfl (hb hby d3_30) rfl rfl k)) ?_
              obtain ⟨T96, X96, e96, st96⟩ := getF X94 hx hZ hown (host := "") (Or.inl (own_w hw 11 rfl)) Via.refl e94 F_ao0_bytes (g := (mkF m 31 #[.val (.ref ao0), .val (.int p1), .val (.int p2), .val (.int (3 : Int32)), .val (.int p2)] [(.ref ao0)])) rfl rfl (hb hby d3_31)
              refine own_go (x' := T96.setTop (mkF m 34 #[.val (.ref ao0), .val (.int p1), .val (.int p2), .val (.int (3 : Int32)), .val (.int p2)] [(.ref ar)])) st96 ?_
              refine own_go (x' := T96.setTop (mkF m 35 #[.val (.ref ao0), .val (.int p1), .val (.int p2), .val (.int (3 : Int32)), .val (.int p2)] [(.int (3 : Int32)), (.ref ar)])) (fun _ k => XS.iloadN X96.here hx rfl (hb hby d3_34) rfl k) ?_
              obtain ⟨cl97, Ar97, q97, Sz97, Nn97, Hh97, Gg97⟩ := id V_ar
              have hin97 : ¬ ((3 : Int32) < 0 ∨ cl97.slots.size ≤ ((3 : Int32)).toNatClampNeg) := inb_of Sz97 ⟨by decide, by decide⟩
              refine own_go (x' := T96.setTop (mkF m 36 #[.val (.ref ao0), .val (.int p1), .val (.int p2), .val (.int (3 : Int32)), .val (.int p2)] [(.ref b3)])) (X96.aaload hx (j := (3 : Int32)) (v := (.ref b3)) (Eq.trans (congrArg (fun h_ => h_[_]?) e96) Ar97.1) (State.isArrayOf_alike hZ.alike Ar97.2.1) rfl Ar97.2.2 hin97 (Hh97.at hin97 rfl) (g := (mkF m 35 #[.val (.ref ao0), .val (.int p1), .val (.int p2), .val (.int (3 : Int32)), .val (.int p2)] [(.int (3 : Int32)), (.ref ar)])) rfl rfl (hb hby d3_35)) ?_
              obtain ⟨cl98, Ar98, -, Sz98, Nn98, -, -⟩ := id V_b3
              refine own_go (x' := T96.setTop (mkF m 37 #[.val (.ref ao0), .val (.int p1), .val (.int p2), .val (.int (3 : Int32)), .val (.int p2)] [(.int n1)])) (fun t k => X96.arraylength hx (Eq.trans (congrArg (fun h_ => h_[_]?) e96) Ar98.1) (State.isArrayOf_alike hZ.alike Ar98.2.1) (g := (mkF m 36 #[.val (.ref ao0), .val (.int p1), .val (.int p2), .val (.int (3 : Int32)), .val (.int p2)] [(.ref b3)])) rfl rfl (hb hby d3_36) t (by rw [len_of Sz98 Nn98]; exact k)) ?_
              refine own_go (x' := T96.setTop (mkF m 2 #[.val (.ref ao0), .val (.int p1), .val (.int p2), .val (.int ((3 : Int32) + (1 : Int32))), .val (.int p2)] [])) (fun _ k => XS.iload X96.here hx rfl (hb hby d3_37) rfl (XS.icmpYes X96.here hx rfl (pc0 := 39) (pc' := 52) rfl (hb hby d3_39) rfl (flt hc39_62).2.1 (by decide) (by decide) (XS.iinc X96.here hx rfl (hb hby d3_52) rfl (l' := #[.val (.ref ao0), .val (.int p1), .val (.int p2), .val (.int ((3 : Int32) + (1 : Int32))), .val (.int p2)]) rfl (XS.goto X96.here hx rfl (pc0 := 55) (pc' := 2) rfl (hb hby d3_55) (by decide) (by decide) k)))) ?_
              rw [show ((3 : Int32) + (1 : Int32)) = (4 : Int32) from by decide +kernel]
              refine own_go (x' := T96.setTop (mkF m 59 #[.val (.ref ao0), .val (.int p1), .val (.int p2), .val (.int (4 : Int32)), .val (.int p2)] [(.ref ao0)])) (fun _ k => XS.iloadN X96.here hx rfl (hb hby d3_2) rfl (XS.iloadN X96.here hx rfl (hb hby d3_3) rfl (XS.icmpYes X96.here hx rfl (pc0 := 4) (pc' := 58) rfl (hb hby d3_4) rfl (flt hu).2.1 (by decide) (by decide) (XS.aloadN X96.here hx rfl (hb hby d3_58) rfl rfl k)))) ?_
              obtain ⟨T99, X99, e99, st99⟩ := getF X96 hx hZ hown (host := "") (Or.inl (own_w hw 11 rfl)) Via.refl e96 F_ao0_bytes (g := (mkF m 59 #[.val (.ref ao0), .val (.int p1), .val (.int p2), .val (.int (4 : Int32)), .val (.int p2)] [(.ref ao0)])) rfl rfl (hb hby d3_59)
              refine own_go (x' := T99.setTop (mkF m 62 #[.val (.ref ao0), .val (.int p1), .val (.int p2), .val (.int (4 : Int32)), .val (.int p2)] [(.ref ar)])) st99 ?_
              refine own_retR X99 hx hlk hret rfl rfl (hb hby d3_62) ?_ (by decide) (by decide)
              rw [e99]
              exact ⟨(.ref b0), (.ref b1), (.ref b2), (.ref b3), rfl, Nf, Kp, V_ar, Or.inl ⟨rfl, Or.inr hc39⟩, Or.inl ⟨rfl, Or.inr hc39_62⟩, Or.inl ⟨rfl, Or.inr hc39_62⟩, Or.inl ⟨rfl, Or.inr hc39_62⟩⟩
            · refine own_go (x' := T90.setTop (mkF m 59 #[.val (.ref ao0), .val (.int p1), .val (.int p2), .val (.int (3 : Int32)), .val (.int p2)] [(.ref ao0)])) (fun _ k => XS.icmpYes X90.here hx rfl (pc0 := 4) (pc' := 58) rfl (hb hby d3_4) rfl (flt hc4_93).2.1 (by decide) (by decide) (XS.aloadN X90.here hx rfl (hb hby d3_58) rfl rfl k)) ?_
              obtain ⟨T100, X100, e100, st100⟩ := getF X90 hx hZ hown (host := "") (Or.inl (own_w hw 11 rfl)) Via.refl e90 F_ao0_bytes (g := (mkF m 59 #[.val (.ref ao0), .val (.int p1), .val (.int p2), .val (.int (3 : Int32)), .val (.int p2)] [(.ref ao0)])) rfl rfl (hb hby d3_59)
              refine own_go (x' := T100.setTop (mkF m 62 #[.val (.ref ao0), .val (.int p1), .val (.int p2), .val (.int (3 : Int32)), .val (.int p2)] [(.ref ar)])) st100 ?_
              refine own_retR X100 hx hlk hret rfl rfl (hb hby d3_62) ?_ (by decide) (by decide)
              rw [e100]
              exact ⟨(.ref b0), (.ref b1), (.ref b2), (.ref b3), rfl, Nf, Kp, V_ar, Or.inl ⟨rfl, Or.inr hc39⟩, Or.inl ⟨rfl, Or.inr hc39_62⟩, Or.inl ⟨rfl, Or.inr hc39_62⟩, Or.inl ⟨rfl, Or.inl hc4_93⟩⟩
          · refine own_go (x' := T59.setTop (mkF m 59 #[.val (.ref ao0), .val (.int p1), .val (.int p2), .val (.int (2 : Int32)), .val (.int p2)] [(.ref ao0)])) (fun _ k => XS.icmpYes X59.here hx rfl (pc0 := 4) (pc' := 58) rfl (hb hby d3_4) rfl (flt hc4_87).2.1 (by decide) (by decide) (XS.aloadN X59.here hx rfl (hb hby d3_58) rfl rfl k)) ?_
            obtain ⟨T101, X101, e101, st101⟩ := getF X59 hx hZ hown (host := "") (Or.inl (own_w hw 11 rfl)) Via.refl e59 F_ao0_bytes (g := (mkF m 59 #[.val (.ref ao0), .val (.int p1), .val (.int p2), .val (.int (2 : Int32)), .val (.int p2)] [(.ref ao0)])) rfl rfl (hb hby d3_59)
            refine own_go (x' := T101.setTop (mkF m 62 #[.val (.ref ao0), .val (.int p1), .val (.int p2), .val (.int (2 : Int32)), .val (.int p2)] [(.ref ar)])) st101 ?_
            refine own_retR X101 hx hlk hret rfl rfl (hb hby d3_62) ?_ (by decide) (by decide)
            rw [e101]
            exact ⟨(.ref b0), (.ref b1), (.ref b2), (.ref b3), rfl, Nf, Kp, V_ar, Or.inl ⟨rfl, Or.inr hc39⟩, Or.inl ⟨rfl, Or.inr hc39_62⟩, Or.inl ⟨rfl, Or.inl hc4_87⟩, Or.inl ⟨rfl, Or.inl (own_le hc4_87 (by decide))⟩⟩
      · refine own_go (x' := T3.setTop (mkF m 59 #[.val (.ref ao0), .val (.int p1), .val (.int p2), .val (.int (1 : Int32)), .val (.int (p2 + (64 : Int32)))] [(.ref ao0)])) (fun _ k => XS.icmpYes X3.here hx rfl (pc0 := 4) (pc' := 58) rfl (hb hby d3_4) rfl (flt hc4_56).2.1 (by decide) (by decide) (XS.aloadN X3.here hx rfl (hb hby d3_58) rfl rfl k)) ?_
        obtain ⟨T102, X102, e102, st102⟩ := getF X3 hx hZ hown (host := "") (Or.inl (own_w hw 11 rfl)) Via.refl e3 F_ao0_bytes (g := (mkF m 59 #[.val (.ref ao0), .val (.int p1), .val (.int p2), .val (.int (1 : Int32)), .val (.int (p2 + (64 : Int32)))] [(.ref ao0)])) rfl rfl (hb hby d3_59)
        refine own_go (x' := T102.setTop (mkF m 62 #[.val (.ref ao0), .val (.int p1), .val (.int p2), .val (.int (1 : Int32)), .val (.int (p2 + (64 : Int32)))] [(.ref ar)])) st102 ?_
        refine own_retR X102 hx hlk hret rfl rfl (hb hby d3_62) ?_ (by decide) (by decide)
        rw [e102]
        exact ⟨(.ref b0), (.ref b1), (.ref b2), (.ref b3), rfl, Nf, Kp, V_ar, Or.inl ⟨rfl, Or.inr hc39⟩, Or.inl ⟨rfl, Or.inl hc4_56⟩, Or.inl ⟨rfl, Or.inl (own_le hc4_56 (by decide))⟩, Or.inl ⟨rfl, Or.inl (own_le hc4_56 (by decide))⟩⟩
  · refine own_go (x' := s₁.setTop (mkF m 59 #[.val (.ref ao0), .val (.int p1), .val (.int p2), .val (.int (0 : Int32)), .unset] [(.ref ao0)])) (fun _ k => XS.icmpYes X0.here hx rfl (pc0 := 4) (pc' := 58) rfl (hb hby d3_4) rfl (flt hc4).2.1 (by decide) (by decide) (XS.aloadN X0.here hx rfl (hb hby d3_58) rfl rfl k)) ?_
    obtain ⟨T103, X103, e103, st103⟩ := getF X0 hx hZ hown (host := "") (Or.inl (own_w hw 11 rfl)) Via.refl e0 F_ao0_bytes (g := (mkF m 59 #[.val (.ref ao0), .val (.int p1), .val (.int p2), .val (.int (0 : Int32)), .unset] [(.ref ao0)])) rfl rfl (hb hby d3_59)
    refine own_go (x' := T103.setTop (mkF m 62 #[.val (.ref ao0), .val (.int p1), .val (.int p2), .val (.int (0 : Int32)), .unset] [(.ref ar)])) st103 ?_
    refine own_retR X103 hx hlk hret rfl rfl (hb hby d3_62) ?_ (by decide) (by decide)
    rw [e103]
    exact ⟨(.ref b0), (.ref b1), (.ref b2), (.ref b3), rfl, Nf, Kp, V_ar, Or.inl ⟨rfl, Or.inl hc4⟩, Or.inl ⟨rfl, Or.inl (own_le hc4 (by decide))⟩, Or.inl ⟨rfl, Or.inl (own_le hc4 (by decide))⟩, Or.inl ⟨rfl, Or.inl (own_le hc4 (by decide))⟩⟩
theorem d4_0 : decode method_2_code 0 = .ok (.iload_n 2, 1) := by decide +kernel
theorem d4_1 : decode method_2_code 1 = .ok (.ifCond .ne 11, 3) := by decide +kernel
theorem d4_4 : decode method_2_code 4 = .ok (.iload 4, 2) := by decide +kernel
theorem d4_6 : decode method_2_code 6 = .ok (.bipush 64, 2) := by decide +kernel
theorem d4_8 : decode method_2_code 8 = .ok (.iadd, 1) := by decide +kernel
theorem d4_9 : decode method_2_code 9 = .ok (.goto 5, 3) := by decide +kernel
theorem d4_14 : decode method_2_code 14 = .ok (.istore 5, 2) := by decide +kernel
theorem d4_16 : decode method_2_code 16 = .ok (.iload_n 2, 1) := by decide +kernel
theorem d4_17 : decode method_2_code 17 = .ok (.iload_n 3, 1) := by decide +kernel
theorem d4_18 : decode method_2_code 18 = .ok (.if_icmp .ge 42, 3) := by decide +kernel
theorem d4_21 : decode method_2_code 21 = .ok (.aload_n 0, 1) := by decide +kernel
theorem d4_22 : decode method_2_code 22 = .ok (.ifnonnull 5, 3) := by decide +kernel
theorem d4_27 : decode method_2_code 27 = .ok (.aload_n 0, 1) := by decide +kernel
theorem d4_28 : decode method_2_code 28 = .ok (.arraylength, 1) := by decide +kernel
theorem d4_29 : decode method_2_code 29 = .ok (.iload 5, 2) := by decide +kernel
theorem d4_31 : decode method_2_code 31 = .ok (.if_icmp .ge 5, 3) := by decide +kernel
theorem d4_36 : decode method_2_code 36 = .ok (.aload_n 1, 1) := by decide +kernel
theorem d4_37 : decode method_2_code 37 = .ok (.ifnull 21, 3) := by decide +kernel
theorem d4_40 : decode method_2_code 40 = .ok (.aload_n 1, 1) := by decide +kernel
theorem d4_41 : decode method_2_code 41 = .ok (.arraylength, 1) := by decide +kernel
theorem d4_42 : decode method_2_code 42 = .ok (.iload 5, 2) := by decide +kernel
theorem d4_44 : decode method_2_code 44 = .ok (.if_icmp .lt 14, 3) := by decide +kernel
theorem d4_47 : decode method_2_code 47 = .ok (.aload_n 0, 1) := by decide +kernel
theorem d4_48 : decode method_2_code 48 = .ok (.aload_n 1, 1) := by decide +kernel
theorem d4_49 : decode method_2_code 49 = .ok (.if_acmp .ne 7, 3) := by decide +kernel
theorem d4_52 : decode method_2_code 52 = .ok (.iconst 1, 1) := by decide +kernel
theorem d4_53 : decode method_2_code 53 = .ok (.goto 4, 3) := by decide +kernel
theorem d4_57 : decode method_2_code 57 = .ok (.ireturn, 1) := by decide +kernel
theorem d4_60 : decode method_2_code 60 = .ok (.aload_n 0, 1) := by decide +kernel
theorem d4_61 : decode method_2_code 61 = .ok (.aload_n 1, 1) := by decide +kernel
theorem d4_62 : decode method_2_code 62 = .ok (.if_acmp .ne 7, 3) := by decide +kernel
theorem d4_65 : decode method_2_code 65 = .ok (.iconst 1, 1) := by decide +kernel
theorem d4_66 : decode method_2_code 66 = .ok (.goto 4, 3) := by decide +kernel
theorem d4_70 : decode method_2_code 70 = .ok (.ireturn, 1) := by decide +kernel
def Q_rm4az (Z : State) (bo : Addr) (jj u nz sz : Int32) (kbo : ClassId) (h0 : Heap) (n0 : Nat) (v : Option Value) (h : Heap) (L : List Loc) : Prop := v = some (.int 1) ∧ Fr n0 L ∧ h = h0
theorem pn_rm4az : plainName "com/example/wee_match/weematch/WindowsBytesPinLaw" = true := by first | (simp [plainName, overriddenIn]; done) | decide +kernel
theorem ef_rm4az (m : MethodId) (x0 : Addr) (x1 : Addr) (x2 : Int32) (x3 : Int32) (x4 : Int32) : entryFrame m #[(.ref x0), (.ref x1), (.int x2), (.int x3), (.int x4)] 6 = mkF m 0 #[.val (.ref x0), .val (.ref x1), .val (.int x2), .val (.int x3), .val (.int x4), .unset] [] := by first | (simp [entryFrame, mkF, argsToLocals, Value.category]; done) | rfl
set_option maxRecDepth 65536 in
set_option maxHeartbeats 40000000 in
theorem rm4az (l : Launch) (Z : State) (a0 : Array Value) (hw : ∀ d ∈ tables_1, d.before a0 Z = true) (ws : List Jvm.Cond) (bo : Addr) (jj u nz sz : Int32) (kbo : ClassId) (h0 : Heap) (n0 : Nat) (Z0 : n0 ≤ h0.size) (V_bo : Arv Z h0 bo kbo .byte nz [] (.int (0 : Int32))) (hor : ¬ jj < u ∨ ¬ nz < (sz + (64 : Int32))) (hz : (jj = (0 : Int32))) :
    MetFree l (⟨"com/example/wee_match/weematch/WindowsBytesPinLaw", "slot", "([B[BIII)Z"⟩ : MethodName) (head1 (Jvm.Cond.code (⟨"com/example/wee_match/weematch/WindowsBytesPinLaw", "slot", "([B[BIII)Z"⟩ : MethodName) method_2_code 6 (some .boolean) :: ws) ({ frames := 0, cells := 0, slots := 0, locals := 0 } : Room)) (fun a U => a = #[(.ref bo), (.ref bo), (.int jj), (.int u), (.int sz)] ∧ Z.Warmed39 U.vm ∧ U.heap = h0) (fun _ _ _ _ _ => True) (fun _ U o U' => ∃ v L, o = .returned v ∧ (Q_rm4az Z bo jj u nz sz kbo h0 n0) v U'.heap L ∧ FrameEnd U o U' L ({ frames := 0, cells := 0, slots := 0, locals := 0 } : Room).cells ({ frames := 0, cells := 0, slots := 0, locals := 0 } : Room).slots) := by
  refine MetFree.of_bodySF (plainFor_of_name pn_rm4az) hisR ?_
  intro p e s m args below meth c s₁ Bd hml0 hP hK
  obtain ⟨rfl, hZ, hh⟩ := hP
  have hx := Bd.exec
  have hby := Bd.bytes
  have hlk := BodyLoose.notSynchronized Bd
  have hret := Bd.returns
  have hml : c.maxLocals = 6 := hml0
  have hown : s.vm.findClass "com/example/wee_match/weematch/WindowsBytesPinLaw" = some m.cls := findClass_of_methodNamed Bd.named
  have hnm := (name_of_methodNamed Bd.named Bd.method).1
  have X0 : Stand p l e ({ frames := 0, cells := 0, slots := 0, locals := 0 } : Room) s m #[(.ref bo), (.ref bo), (.int jj), (.int u), (.int sz)] below meth c s₁ [] 0 0 := Stand.of_body Bd
  have e0 : s₁.heap = h0 := by rw [← hh, Bd.state]; rfl
  have Nf := Fr.nil n0
  have Zs := Z0
  have Kp : Keep h0 h0 [] := Keep.refl _ _
  show own_End p e below s (Q_rm4az Z bo jj u nz sz kbo h0 n0) ({ frames := 0, cells := 0, slots := 0, locals := 0 } : Room).cells ({ frames := 0, cells := 0, slots := 0, locals := 0 } : Room).slots (s₁.setTop (entryFrame m #[(.ref bo), (.ref bo), (.int jj), (.int u), (.int sz)] 6))
  refine own_go (x' := s₁.setTop (mkF m 0 #[.val (.ref bo), .val (.ref bo), .val (.int jj), .val (.int u), .val (.int sz), .unset] [])) (fun t k => castTop (ef_rm4az m bo bo jj u sz) k) ?_
  refine own_go (x' := s₁.setTop (mkF m 14 #[.val (.ref bo), .val (.ref bo), .val (.int jj), .val (.int u), .val (.int sz), .unset] [(.int (sz + (64 : Int32)))])) (fun _ k => XS.iloadN X0.here hx rfl (hb hby d4_0) rfl (XS.ifNo X0.here hx rfl (hb hby d4_1) rfl ((if0 _ _).trans (teq hz).2) (XS.iload X0.here hx rfl (hb hby d4_4) rfl (XS.bipush X0.here hx rfl (hb hby d4_6) (XS.iadd X0.here hx rfl (hb hby d4_8) rfl (XS.goto X0.here hx rfl (pc0 := 9) (pc' := 14) rfl (hb hby d4_9) (by decide) (by decide) k)))))) ?_
  refine own_go (x' := s₁.setTop (mkF m 18 #[.val (.ref bo), .val (.ref bo), .val (.int jj), .val (.int u), .val (.int sz), .val (.int (sz + (64 : Int32)))] [(.int u), (.int jj)])) (fun _ k => XS.istore X0.here hx rfl (hb hby d4_14) rfl (l' := #[.val (.ref bo), .val (.ref bo), .val (.int jj), .val (.int u), .val (.int sz), .val (.int (sz + (64 : Int32)))]) rfl (XS.iloadN X0.here hx rfl (hb hby d4_16) rfl (XS.iloadN X0.here hx rfl (hb hby d4_17) rfl k))) ?_
  by_cases hc18 : jj < u
  · refine own_go (x' := s₁.setTop (mkF m 28 #[.val (.ref bo), .val (.ref bo), .val (.int jj), .val (.int u), .val (.int sz), .val (.int (sz + (64 : Int32)))] [(.ref bo)])) (fun _ k => XS.icmpNo X0.here hx rfl (hb hby d4_18) rfl (tlt hc18).2.1 (XS.aloadN X0.here hx rfl (hb hby d4_21) rfl rfl (XS.ifnonnullYes X0.here hx rfl (pc0 := 22) (pc' := 27) rfl (hb hby d4_22) rfl (by decide) (by decide) (XS.aloadN X0.here hx rfl (hb hby d4_27) rfl rfl k)))) ?_
    obtain ⟨cl1, Ar1, -, Sz1, Nn1, -, -⟩ := id V_bo
    refine own_go (x' := s₁.setTop (mkF m 29 #[.val (.ref bo), .val (.ref bo), .val (.int jj), .val (.int u), .val (.int sz), .val (.int (sz + (64 : Int32)))] [(.int nz)])) (fun t k => X0.arraylength hx (Eq.trans (congrArg (fun h_ => h_[_]?) e0) Ar1.1) (State.isArrayOf_alike hZ.alike Ar1.2.1) (g := (mkF m 28 #[.val (.ref bo), .val (.ref bo), .val (.int jj), .val (.int u), .val (.int sz), .val (.int (sz + (64 : Int32)))] [(.ref bo)])) rfl rfl (hb hby d4_28) t (by rw [len_of Sz1 Nn1]; exact k)) ?_
    refine own_go (x' := s₁.setTop (mkF m 41 #[.val (.ref bo), .val (.ref bo), .val (.int jj), .val (.int u), .val (.int sz), .val (.int (sz + (64 : Int32)))] [(.ref bo)])) (fun _ k => XS.iload X0.here hx rfl (hb hby d4_29) rfl (XS.icmpYes X0.here hx rfl (pc0 := 31) (pc' := 36) rfl (hb hby d4_31) rfl (flt (hor.resolve_left fun q => q hc18)).2.1 (by decide) (by decide) (XS.aloadN X0.here hx rfl (hb hby d4_36) rfl rfl (XS.ifnullNo X0.here hx rfl (hb hby d4_37) rfl (XS.aloadN X0.here hx rfl (hb hby d4_40) rfl rfl k))))) ?_
    obtain ⟨cl2, Ar2, -, Sz2, Nn2, -, -⟩ := id V_bo
    refine own_go (x' := s₁.setTop (mkF m 42 #[.val (.ref bo), .val (.ref bo), .val (.int jj), .val (.int u), .val (.int sz), .val (.int (sz + (64 : Int32)))] [(.int nz)])) (fun t k => X0.arraylength hx (Eq.trans (congrArg (fun h_ => h_[_]?) e0) Ar2.1) (State.isArrayOf_alike hZ.alike Ar2.2.1) (g := (mkF m 41 #[.val (.ref bo), .val (.ref bo), .val (.int jj), .val (.int u), .val (.int sz), .val (.int (sz + (64 : Int32)))] [(.ref bo)])) rfl rfl (hb hby d4_41) t (by rw [len_of Sz2 Nn2]; exact k)) ?_
    refine own_go (x' := s₁.setTop (mkF m 49 #[.val (.ref bo), .val (.ref bo), .val (.int jj), .val (.int u), .val (.int sz), .val (.int (sz + (64 : Int32)))] [(.ref bo), (.ref bo)])) (fun _ k => XS.iload X0.here hx rfl (hb hby d4_42) rfl (XS.icmpNo X0.here hx rfl (hb hby d4_44) rfl (flt (hor.resolve_left fun q => q hc18)).1 (XS.aloadN X0.here hx rfl (hb hby d4_47) rfl rfl (XS.aloadN X0.here hx rfl (hb hby d4_48) rfl rfl k)))) ?_
    refine own_go (x' := s₁.setTop (mkF m 52 #[.val (.ref bo), .val (.ref bo), .val (.int jj), .val (.int u), .val (.int sz), .val (.int (sz + (64 : Int32)))] [])) (fun _ k => Jvm.RoadKit.acmp (g := (mkF m 49 #[.val (.ref bo), .val (.ref bo), .val (.int jj), .val (.int u), .val (.int sz), .val (.int (sz + (64 : Int32)))] [(.ref bo), (.ref bo)])) X0 hx rfl rfl rfl (pc0 := 49) (pc' := 52) (same := true) rfl (hb hby d4_49) rfl (decide_eq_true rfl) (by decide) (by decide) k) ?_
    refine own_go (x' := s₁.setTop (mkF m 57 #[.val (.ref bo), .val (.ref bo), .val (.int jj), .val (.int u), .val (.int sz), .val (.int (sz + (64 : Int32)))] [(.int (1 : Int32))])) (fun _ k => XS.iconst X0.here hx rfl (hb hby d4_52) (XS.goto X0.here hx rfl (pc0 := 53) (pc' := 57) rfl (hb hby d4_53) (by decide) (by decide) k)) ?_
    refine own_retN X0 hx hlk (t := .boolean) hret (by simp) (hb hby d4_57) (w := (1 : Int32)) rfl ?_ (by decide) (by decide)
    rw [e0]
    exact ⟨rfl, Nf, rfl⟩
  · refine own_go (x' := s₁.setTop (mkF m 62 #[.val (.ref bo), .val (.ref bo), .val (.int jj), .val (.int u), .val (.int sz), .val (.int (sz + (64 : Int32)))] [(.ref bo), (.ref bo)])) (fun _ k => XS.icmpYes X0.here hx rfl (pc0 := 18) (pc' := 60) rfl (hb hby d4_18) rfl (flt hc18).2.1 (by decide) (by decide) (XS.aloadN X0.here hx rfl (hb hby d4_60) rfl rfl (XS.aloadN X0.here hx rfl (hb hby d4_61) rfl rfl k))) ?_
    refine own_go (x' := s₁.setTop (mkF m 65 #[.val (.ref bo), .val (.ref bo), .val (.int jj), .val (.int u), .val (.int sz), .val (.int (sz + (64 : Int32)))] [])) (fun _ k => Jvm.RoadKit.acmp (g := (mkF m 62 #[.val (.ref bo), .val (.ref bo), .val (.int jj), .val (.int u), .val (.int sz), .val (.int (sz + (64 : Int32)))] [(.ref bo), (.ref bo)])) X0 hx rfl rfl rfl (pc0 := 62) (pc' := 65) (same := true) rfl (hb hby d4_62) rfl (decide_eq_true rfl) (by decide) (by decide) k) ?_
    refine own_go (x' := s₁.setTop (mkF m 70 #[.val (.ref bo), .val (.ref bo), .val (.int jj), .val (.int u), .val (.int sz), .val (.int (sz + (64 : Int32)))] [(.int (1 : Int32))])) (fun _ k => XS.iconst X0.here hx rfl (hb hby d4_65) (XS.goto X0.here hx rfl (pc0 := 66) (pc' := 70) rfl (hb hby d4_66) (by decide) (by decide) k)) ?_
    refine own_retN X0 hx hlk (t := .boolean) hret (by simp) (hb hby d4_70) (w := (1 : Int32)) rfl ?_ (by decide) (by decide)
    rw [e0]
    exact ⟨rfl, Nf, rfl⟩
theorem d4_58 : decode method_2_code 58 = .ok (.iconst 1, 1) := by decide +kernel
theorem d4_59 : decode method_2_code 59 = .ok (.ireturn, 1) := by decide +kernel
def Q_rm4bz (Z : State) (bo co : Addr) (jj u nz sz : Int32) (kbo kco : ClassId) (h0 : Heap) (n0 : Nat) (v : Option Value) (h : Heap) (L : List Loc) : Prop := v = some (.int 1) ∧ Fr n0 L ∧ h = h0
theorem pn_rm4bz : plainName "com/example/wee_match/weematch/WindowsBytesPinLaw" = true := by first | (simp [plainName, overriddenIn]; done) | decide +kernel
theorem ef_rm4bz (m : MethodId) (x0 : Addr) (x1 : Addr) (x2 : Int32) (x3 : Int32) (x4 : Int32) : entryFrame m #[(.ref x0), (.ref x1), (.int x2), (.int x3), (.int x4)] 6 = mkF m 0 #[.val (.ref x0), .val (.ref x1), .val (.int x2), .val (.int x3), .val (.int x4), .unset] [] := by first | (simp [entryFrame, mkF, argsToLocals, Value.category]; done) | rfl
set_option maxRecDepth 65536 in
set_option maxHeartbeats 40000000 in
theorem rm4bz (l : Launch) (Z : State) (a0 : Array Value) (hw : ∀ d ∈ tables_1, d.before a0 Z = true) (ws : List Jvm.Cond) (bo co : Addr) (jj u nz sz : Int32) (kbo kco : ClassId) (h0 : Heap) (n0 : Nat) (Z0 : n0 ≤ h0.size) (V_bo : Arv Z h0 bo kbo .byte nz [] (.int (0 : Int32))) (V_co : Arv Z h0 co kco .byte (sz + (64 : Int32)) [] (.int (0 : Int32))) (h1 : jj < u) (h2 : nz < (sz + (64 : Int32))) (hz : (jj = (0 : Int32))) :
    MetFree l (⟨"com/example/wee_match/weematch/WindowsBytesPinLaw", "slot", "([B[BIII)Z"⟩ : MethodName) (head1 (Jvm.Cond.code (⟨"com/example/wee_match/weematch/WindowsBytesPinLaw", "slot", "([B[BIII)Z"⟩ : MethodName) method_2_code 6 (some .boolean) :: ws) ({ frames := 0, cells := 0, slots := 0, locals := 0 } : Room)) (fun a U => a = #[(.ref co), (.ref bo), (.int jj), (.int u), (.int sz)] ∧ Z.Warmed39 U.vm ∧ U.heap = h0) (fun _ _ _ _ _ => True) (fun _ U o U' => ∃ v L, o = .returned v ∧ (Q_rm4bz Z bo co jj u nz sz kbo kco h0 n0) v U'.heap L ∧ FrameEnd U o U' L ({ frames := 0, cells := 0, slots := 0, locals := 0 } : Room).cells ({ frames := 0, cells := 0, slots := 0, locals := 0 } : Room).slots) := by
  refine MetFree.of_bodySF (plainFor_of_name pn_rm4bz) hisR ?_
  intro p e s m args below meth c s₁ Bd hml0 hP hK
  obtain ⟨rfl, hZ, hh⟩ := hP
  have hx := Bd.exec
  have hby := Bd.bytes
  have hlk := BodyLoose.notSynchronized Bd
  have hret := Bd.returns
  have hml : c.maxLocals = 6 := hml0
  have hown : s.vm.findClass "com/example/wee_match/weematch/WindowsBytesPinLaw" = some m.cls := findClass_of_methodNamed Bd.named
  have hnm := (name_of_methodNamed Bd.named Bd.method).1
  have X0 : Stand p l e ({ frames := 0, cells := 0, slots := 0, locals := 0 } : Room) s m #[(.ref co), (.ref bo), (.int jj), (.int u), (.int sz)] below meth c s₁ [] 0 0 := Stand.of_body Bd
  have e0 : s₁.heap = h0 := by rw [← hh, Bd.state]; rfl
  have Nf := Fr.nil n0
  have Zs := Z0
  have Kp : Keep h0 h0 [] := Keep.refl _ _
  show own_End p e below s (Q_rm4bz Z bo co jj u nz sz kbo kco h0 n0) ({ frames := 0, cells := 0, slots := 0, locals := 0 } : Room).cells ({ frames := 0, cells := 0, slots := 0, locals := 0 } : Room).slots (s₁.setTop (entryFrame m #[(.ref co), (.ref bo), (.int jj), (.int u), (.int sz)] 6))
  refine own_go (x' := s₁.setTop (mkF m 0 #[.val (.ref co), .val (.ref bo), .val (.int jj), .val (.int u), .val (.int sz), .unset] [])) (fun t k => castTop (ef_rm4bz m co bo jj u sz) k) ?_
  refine own_go (x' := s₁.setTop (mkF m 14 #[.val (.ref co), .val (.ref bo), .val (.int jj), .val (.int u), .val (.int sz), .unset] [(.int (sz + (64 : Int32)))])) (fun _ k => XS.iloadN X0.here hx rfl (hb hby d4_0) rfl (XS.ifNo X0.here hx rfl (hb hby d4_1) rfl ((if0 _ _).trans (teq hz).2) (XS.iload X0.here hx rfl (hb hby d4_4) rfl (XS.bipush X0.here hx rfl (hb hby d4_6) (XS.iadd X0.here hx rfl (hb hby d4_8) rfl (XS.goto X0.here hx rfl (pc0 := 9) (pc' := 14) rfl (hb hby d4_9) (by decide) (by decide) k)))))) ?_
  refine own_go (x' := s₁.setTop (mkF m 27 #[.val (.ref co), .val (.ref bo), .val (.int jj), .val (.int u), .val (.int sz), .val (.int (sz + (64 : Int32)))] [])) (fun _ k => XS.istore X0.here hx rfl (hb hby d4_14) rfl (l' := #[.val (.ref co), .val (.ref bo), .val (.int jj), .val (.int u), .val (.int sz), .val (.int (sz + (64 : Int32)))]) rfl (XS.iloadN X0.here hx rfl (hb hby d4_16) rfl (XS.iloadN X0.here hx rfl (hb hby d4_17) rfl (XS.icmpNo X0.here hx rfl (hb hby d4_18) rfl (tlt h1).2.1 (XS.aloadN X0.here hx rfl (hb hby d4_21) rfl rfl (XS.ifnonnullYes X0.here hx rfl (pc0 := 22) (pc' := 27) rfl (hb hby d4_22) rfl (by decide) (by decide) k)))))) ?_
  refine own_go (x' := s₁.setTop (mkF m 28 #[.val (.ref co), .val (.ref bo), .val (.int jj), .val (.int u), .val (.int sz), .val (.int (sz + (64 : Int32)))] [(.ref co)])) (fun _ k => XS.aloadN X0.here hx rfl (hb hby d4_27) rfl rfl k) ?_
  obtain ⟨cl1, Ar1, -, Sz1, Nn1, -, -⟩ := id V_co
  refine own_go (x' := s₁.setTop (mkF m 29 #[.val (.ref co), .val (.ref bo), .val (.int jj), .val (.int u), .val (.int sz), .val (.int (sz + (64 : Int32)))] [(.int (sz + (64 : Int32)))])) (fun t k => X0.arraylength hx (Eq.trans (congrArg (fun h_ => h_[_]?) e0) Ar1.1) (State.isArrayOf_alike hZ.alike Ar1.2.1) (g := (mkF m 28 #[.val (.ref co), .val (.ref bo), .val (.int jj), .val (.int u), .val (.int sz), .val (.int (sz + (64 : Int32)))] [(.ref co)])) rfl rfl (hb hby d4_28) t (by rw [len_of Sz1 Nn1]; exact k)) ?_
  refine own_go (x' := s₁.setTop (mkF m 41 #[.val (.ref co), .val (.ref bo), .val (.int jj), .val (.int u), .val (.int sz), .val (.int (sz + (64 : Int32)))] [(.ref bo)])) (fun _ k => XS.iload X0.here hx rfl (hb hby d4_29) rfl (XS.icmpYes X0.here hx rfl (pc0 := 31) (pc' := 36) rfl (hb hby d4_31) rfl (flt (Int32.lt_irrefl)).2.1 (by decide) (by decide) (XS.aloadN X0.here hx rfl (hb hby d4_36) rfl rfl (XS.ifnullNo X0.here hx rfl (hb hby d4_37) rfl (XS.aloadN X0.here hx rfl (hb hby d4_40) rfl rfl k))))) ?_
  obtain ⟨cl2, Ar2, -, Sz2, Nn2, -, -⟩ := id V_bo
  refine own_go (x' := s₁.setTop (mkF m 42 #[.val (.ref co), .val (.ref bo), .val (.int jj), .val (.int u), .val (.int sz), .val (.int (sz + (64 : Int32)))] [(.int nz)])) (fun t k => X0.arraylength hx (Eq.trans (congrArg (fun h_ => h_[_]?) e0) Ar2.1) (State.isArrayOf_alike hZ.alike Ar2.2.1) (g := (mkF m 41 #[.val (.ref co), .val (.ref bo), .val (.int jj), .val (.int u), .val (.int sz), .val (.int (sz + (64 : Int32)))] [(.ref bo)])) rfl rfl (hb hby d4_41) t (by rw [len_of Sz2 Nn2]; exact k)) ?_
  refine own_go (x' := s₁.setTop (mkF m 59 #[.val (.ref co), .val (.ref bo), .val (.int jj), .val (.int u), .val (.int sz), .val (.int (sz + (64 : Int32)))] [(.int (1 : Int32))])) (fun _ k => XS.iload X0.here hx rfl (hb hby d4_42) rfl (XS.icmpYes X0.here hx rfl (pc0 := 44) (pc' := 58) rfl (hb hby d4_44) rfl (tlt h2).1 (by decide) (by decide) (XS.iconst X0.here hx rfl (hb hby d4_58) k))) ?_
  refine own_retN X0 hx hlk (t := .boolean) hret (by simp) (hb hby d4_59) (w := (1 : Int32)) rfl ?_ (by decide) (by decide)
  rw [e0]
  exact ⟨rfl, Nf, rfl⟩
def Q_rm4cz (Z : State) (jj u sz : Int32) (h0 : Heap) (n0 : Nat) (v : Option Value) (h : Heap) (L : List Loc) : Prop := v = some (.int 1) ∧ Fr n0 L ∧ h = h0
theorem pn_rm4cz : plainName "com/example/wee_match/weematch/WindowsBytesPinLaw" = true := by first | (simp [plainName, overriddenIn]; done) | decide +kernel
theorem ef_rm4cz (m : MethodId) (x2 : Int32) (x3 : Int32) (x4 : Int32) : entryFrame m #[.null, .null, (.int x2), (.int x3), (.int x4)] 6 = mkF m 0 #[.val .null, .val .null, .val (.int x2), .val (.int x3), .val (.int x4), .unset] [] := by first | (simp [entryFrame, mkF, argsToLocals, Value.category]; done) | rfl
set_option maxRecDepth 65536 in
set_option maxHeartbeats 40000000 in
theorem rm4cz (l : Launch) (Z : State) (a0 : Array Value) (hw : ∀ d ∈ tables_1, d.before a0 Z = true) (ws : List Jvm.Cond) (jj u sz : Int32) (h0 : Heap) (n0 : Nat) (Z0 : n0 ≤ h0.size) (h1 : ¬ jj < u) (hz : (jj = (0 : Int32))) :
    MetFree l (⟨"com/example/wee_match/weematch/WindowsBytesPinLaw", "slot", "([B[BIII)Z"⟩ : MethodName) (head1 (Jvm.Cond.code (⟨"com/example/wee_match/weematch/WindowsBytesPinLaw", "slot", "([B[BIII)Z"⟩ : MethodName) method_2_code 6 (some .boolean) :: ws) ({ frames := 0, cells := 0, slots := 0, locals := 0 } : Room)) (fun a U => a = #[.null, .null, (.int jj), (.int u), (.int sz)] ∧ Z.Warmed39 U.vm ∧ U.heap = h0) (fun _ _ _ _ _ => True) (fun _ U o U' => ∃ v L, o = .returned v ∧ (Q_rm4cz Z jj u sz h0 n0) v U'.heap L ∧ FrameEnd U o U' L ({ frames := 0, cells := 0, slots := 0, locals := 0 } : Room).cells ({ frames := 0, cells := 0, slots := 0, locals := 0 } : Room).slots) := by
  refine MetFree.of_bodySF (plainFor_of_name pn_rm4cz) hisR ?_
  intro p e s m args below meth c s₁ Bd hml0 hP hK
  obtain ⟨rfl, hZ, hh⟩ := hP
  have hx := Bd.exec
  have hby := Bd.bytes
  have hlk := BodyLoose.notSynchronized Bd
  have hret := Bd.returns
  have hml : c.maxLocals = 6 := hml0
  have hown : s.vm.findClass "com/example/wee_match/weematch/WindowsBytesPinLaw" = some m.cls := findClass_of_methodNamed Bd.named
  have hnm := (name_of_methodNamed Bd.named Bd.method).1
  have X0 : Stand p l e ({ frames := 0, cells := 0, slots := 0, locals := 0 } : Room) s m #[.null, .null, (.int jj), (.int u), (.int sz)] below meth c s₁ [] 0 0 := Stand.of_body Bd
  have e0 : s₁.heap = h0 := by rw [← hh, Bd.state]; rfl
  have Nf := Fr.nil n0
  have Zs := Z0
  have Kp : Keep h0 h0 [] := Keep.refl _ _
  show own_End p e below s (Q_rm4cz Z jj u sz h0 n0) ({ frames := 0, cells := 0, slots := 0, locals := 0 } : Room).cells ({ frames := 0, cells := 0, slots := 0, locals := 0 } : Room).slots (s₁.setTop (entryFrame m #[.null, .null, (.int jj), (.int u), (.int sz)] 6))
  refine own_go (x' := s₁.setTop (mkF m 0 #[.val .null, .val .null, .val (.int jj), .val (.int u), .val (.int sz), .unset] [])) (fun t k => castTop (ef_rm4cz m jj u sz) k) ?_
  refine own_go (x' := s₁.setTop (mkF m 14 #[.val .null, .val .null, .val (.int jj), .val (.int u), .val (.int sz), .unset] [(.int (sz + (64 : Int32)))])) (fun _ k => XS.iloadN X0.here hx rfl (hb hby d4_0) rfl (XS.ifNo X0.here hx rfl (hb hby d4_1) rfl ((if0 _ _).trans (teq hz).2) (XS.iload X0.here hx rfl (hb hby d4_4) rfl (XS.bipush X0.here hx rfl (hb hby d4_6) (XS.iadd X0.here hx rfl (hb hby d4_8) rfl (XS.goto X0.here hx rfl (pc0 := 9) (pc' := 14) rfl (hb hby d4_9) (by decide) (by decide) k)))))) ?_
  refine own_go (x' := s₁.setTop (mkF m 62 #[.val .null, .val .null, .val (.int jj), .val (.int u), .val (.int sz), .val (.int (sz + (64 : Int32)))] [.null, .null])) (fun _ k => XS.istore X0.here hx rfl (hb hby d4_14) rfl (l' := #[.val .null, .val .null, .val (.int jj), .val (.int u), .val (.int sz), .val (.int (sz + (64 : Int32)))]) rfl (XS.iloadN X0.here hx rfl (hb hby d4_16) rfl (XS.iloadN X0.here hx rfl (hb hby d4_17) rfl (XS.icmpYes X0.here hx rfl (pc0 := 18) (pc' := 60) rfl (hb hby d4_18) rfl (flt h1).2.1 (by decide) (by decide) (XS.aloadN X0.here hx rfl (hb hby d4_60) rfl rfl (XS.aloadN X0.here hx rfl (hb hby d4_61) rfl rfl k)))))) ?_
  refine own_go (x' := s₁.setTop (mkF m 65 #[.val .null, .val .null, .val (.int jj), .val (.int u), .val (.int sz), .val (.int (sz + (64 : Int32)))] [])) (fun _ k => Jvm.RoadKit.acmp (g := (mkF m 62 #[.val .null, .val .null, .val (.int jj), .val (.int u), .val (.int sz), .val (.int (sz + (64 : Int32)))] [.null, .null])) X0 hx rfl rfl rfl (pc0 := 62) (pc' := 65) (same := true) rfl (hb hby d4_62) rfl (decide_eq_true rfl) (by decide) (by decide) k) ?_
  refine own_go (x' := s₁.setTop (mkF m 70 #[.val .null, .val .null, .val (.int jj), .val (.int u), .val (.int sz), .val (.int (sz + (64 : Int32)))] [(.int (1 : Int32))])) (fun _ k => XS.iconst X0.here hx rfl (hb hby d4_65) (XS.goto X0.here hx rfl (pc0 := 66) (pc' := 70) rfl (hb hby d4_66) (by decide) (by decide) k)) ?_
  refine own_retN X0 hx hlk (t := .boolean) hret (by simp) (hb hby d4_70) (w := (1 : Int32)) rfl ?_ (by decide) (by decide)
  rw [e0]
  exact ⟨rfl, Nf, rfl⟩
def Q_rm4dz (Z : State) (co : Addr) (jj u sz : Int32) (kco : ClassId) (h0 : Heap) (n0 : Nat) (v : Option Value) (h : Heap) (L : List Loc) : Prop := v = some (.int 1) ∧ Fr n0 L ∧ h = h0
theorem pn_rm4dz : plainName "com/example/wee_match/weematch/WindowsBytesPinLaw" = true := by first | (simp [plainName, overriddenIn]; done) | decide +kernel
theorem ef_rm4dz (m : MethodId) (x0 : Addr) (x2 : Int32) (x3 : Int32) (x4 : Int32) : entryFrame m #[(.ref x0), .null, (.int x2), (.int x3), (.int x4)] 6 = mkF m 0 #[.val (.ref x0), .val .null, .val (.int x2), .val (.int x3), .val (.int x4), .unset] [] := by first | (simp [entryFrame, mkF, argsToLocals, Value.category]; done) | rfl
set_option maxRecDepth 65536 in
set_option maxHeartbeats 40000000 in
theorem rm4dz (l : Launch) (Z : State) (a0 : Array Value) (hw : ∀ d ∈ tables_1, d.before a0 Z = true) (ws : List Jvm.Cond) (co : Addr) (jj u sz : Int32) (kco : ClassId) (h0 : Heap) (n0 : Nat) (Z0 : n0 ≤ h0.size) (V_co : Arv Z h0 co kco .byte (sz + (64 : Int32)) [] (.int (0 : Int32))) (h1 : jj < u) (hz : (jj = (0 : Int32))) :
    MetFree l (⟨"com/example/wee_match/weematch/WindowsBytesPinLaw", "slot", "([B[BIII)Z"⟩ : MethodName) (head1 (Jvm.Cond.code (⟨"com/example/wee_match/weematch/WindowsBytesPinLaw", "slot", "([B[BIII)Z"⟩ : MethodName) method_2_code 6 (some .boolean) :: ws) ({ frames := 0, cells := 0, slots := 0, locals := 0 } : Room)) (fun a U => a = #[(.ref co), .null, (.int jj), (.int u), (.int sz)] ∧ Z.Warmed39 U.vm ∧ U.heap = h0) (fun _ _ _ _ _ => True) (fun _ U o U' => ∃ v L, o = .returned v ∧ (Q_rm4dz Z co jj u sz kco h0 n0) v U'.heap L ∧ FrameEnd U o U' L ({ frames := 0, cells := 0, slots := 0, locals := 0 } : Room).cells ({ frames := 0, cells := 0, slots := 0, locals := 0 } : Room).slots) := by
  refine MetFree.of_bodySF (plainFor_of_name pn_rm4dz) hisR ?_
  intro p e s m args below meth c s₁ Bd hml0 hP hK
  obtain ⟨rfl, hZ, hh⟩ := hP
  have hx := Bd.exec
  have hby := Bd.bytes
  have hlk := BodyLoose.notSynchronized Bd
  have hret := Bd.returns
  have hml : c.maxLocals = 6 := hml0
  have hown : s.vm.findClass "com/example/wee_match/weematch/WindowsBytesPinLaw" = some m.cls := findClass_of_methodNamed Bd.named
  have hnm := (name_of_methodNamed Bd.named Bd.method).1
  have X0 : Stand p l e ({ frames := 0, cells := 0, slots := 0, locals := 0 } : Room) s m #[(.ref co), .null, (.int jj), (.int u), (.int sz)] below meth c s₁ [] 0 0 := Stand.of_body Bd
  have e0 : s₁.heap = h0 := by rw [← hh, Bd.state]; rfl
  have Nf := Fr.nil n0
  have Zs := Z0
  have Kp : Keep h0 h0 [] := Keep.refl _ _
  show own_End p e below s (Q_rm4dz Z co jj u sz kco h0 n0) ({ frames := 0, cells := 0, slots := 0, locals := 0 } : Room).cells ({ frames := 0, cells := 0, slots := 0, locals := 0 } : Room).slots (s₁.setTop (entryFrame m #[(.ref co), .null, (.int jj), (.int u), (.int sz)] 6))
  refine own_go (x' := s₁.setTop (mkF m 0 #[.val (.ref co), .val .null, .val (.int jj), .val (.int u), .val (.int sz), .unset] [])) (fun t k => castTop (ef_rm4dz m co jj u sz) k) ?_
  refine own_go (x' := s₁.setTop (mkF m 14 #[.val (.ref co), .val .null, .val (.int jj), .val (.int u), .val (.int sz), .unset] [(.int (sz + (64 : Int32)))])) (fun _ k => XS.iloadN X0.here hx rfl (hb hby d4_0) rfl (XS.ifNo X0.here hx rfl (hb hby d4_1) rfl ((if0 _ _).trans (teq hz).2) (XS.iload X0.here hx rfl (hb hby d4_4) rfl (XS.bipush X0.here hx rfl (hb hby d4_6) (XS.iadd X0.here hx rfl (hb hby d4_8) rfl (XS.goto X0.here hx rfl (pc0 := 9) (pc' := 14) rfl (hb hby d4_9) (by decide) (by decide) k)))))) ?_
  refine own_go (x' := s₁.setTop (mkF m 27 #[.val (.ref co), .val .null, .val (.int jj), .val (.int u), .val (.int sz), .val (.int (sz + (64 : Int32)))] [])) (fun _ k => XS.istore X0.here hx rfl (hb hby d4_14) rfl (l' := #[.val (.ref co), .val .null, .val (.int jj), .val (.int u), .val (.int sz), .val (.int (sz + (64 : Int32)))]) rfl (XS.iloadN X0.here hx rfl (hb hby d4_16) rfl (XS.iloadN X0.here hx rfl (hb hby d4_17) rfl (XS.icmpNo X0.here hx rfl (hb hby d4_18) rfl (tlt h1).2.1 (XS.aloadN X0.here hx rfl (hb hby d4_21) rfl rfl (XS.ifnonnullYes X0.here hx rfl (pc0 := 22) (pc' := 27) rfl (hb hby d4_22) rfl (by decide) (by decide) k)))))) ?_
  refine own_go (x' := s₁.setTop (mkF m 28 #[.val (.ref co), .val .null, .val (.int jj), .val (.int u), .val (.int sz), .val (.int (sz + (64 : Int32)))] [(.ref co)])) (fun _ k => XS.aloadN X0.here hx rfl (hb hby d4_27) rfl rfl k) ?_
  obtain ⟨cl1, Ar1, -, Sz1, Nn1, -, -⟩ := id V_co
  refine own_go (x' := s₁.setTop (mkF m 29 #[.val (.ref co), .val .null, .val (.int jj), .val (.int u), .val (.int sz), .val (.int (sz + (64 : Int32)))] [(.int (sz + (64 : Int32)))])) (fun t k => X0.arraylength hx (Eq.trans (congrArg (fun h_ => h_[_]?) e0) Ar1.1) (State.isArrayOf_alike hZ.alike Ar1.2.1) (g := (mkF m 28 #[.val (.ref co), .val .null, .val (.int jj), .val (.int u), .val (.int sz), .val (.int (sz + (64 : Int32)))] [(.ref co)])) rfl rfl (hb hby d4_28) t (by rw [len_of Sz1 Nn1]; exact k)) ?_
  refine own_go (x' := s₁.setTop (mkF m 59 #[.val (.ref co), .val .null, .val (.int jj), .val (.int u), .val (.int sz), .val (.int (sz + (64 : Int32)))] [(.int (1 : Int32))])) (fun _ k => XS.iload X0.here hx rfl (hb hby d4_29) rfl (XS.icmpYes X0.here hx rfl (pc0 := 31) (pc' := 36) rfl (hb hby d4_31) rfl (flt (Int32.lt_irrefl)).2.1 (by decide) (by decide) (XS.aloadN X0.here hx rfl (hb hby d4_36) rfl rfl (XS.ifnullYes X0.here hx rfl (pc0 := 37) (pc' := 58) rfl (hb hby d4_37) rfl (by decide) (by decide) (XS.iconst X0.here hx rfl (hb hby d4_58) k))))) ?_
  refine own_retN X0 hx hlk (t := .boolean) hret (by simp) (hb hby d4_59) (w := (1 : Int32)) rfl ?_ (by decide) (by decide)
  rw [e0]
  exact ⟨rfl, Nf, rfl⟩
def own_one (h0 : Heap) (n0 : Nat) (v : Option Value) (h : Heap) (L : List Loc) : Prop := v = some (.int 1) ∧ Fr n0 L ∧ h = h0
theorem rm4pz (l : Launch) (Z : State) (a0 : Array Value) (hw : ∀ d ∈ tables_1, d.before a0 Z = true) (ws : List Jvm.Cond) (w : Value) (bo : Addr) (jj u nz sz : Int32) (kbo : ClassId) (z0 : Nat) (h0 : Heap) (n0 : Nat) (Z0 : n0 ≤ h0.size) (V_bo : Arv Z h0 bo kbo .byte nz [] (.int (0 : Int32))) (R : own_Rp Z h0 z0 w bo jj u nz (sz + (64 : Int32))) (hz : (jj = (0 : Int32))) :
    MetFree l (⟨"com/example/wee_match/weematch/WindowsBytesPinLaw", "slot", "([B[BIII)Z"⟩ : MethodName) (head1 (Jvm.Cond.code (⟨"com/example/wee_match/weematch/WindowsBytesPinLaw", "slot", "([B[BIII)Z"⟩ : MethodName) method_2_code 6 (some .boolean) :: ws) ({ frames := 0, cells := 0, slots := 0, locals := 0 } : Room)) (fun a U => a = #[w, (.ref bo), (.int jj), (.int u), (.int sz)] ∧ Z.Warmed39 U.vm ∧ U.heap = h0) (fun _ _ _ _ _ => True) (fun _ U o U' => ∃ v L, o = .returned v ∧ own_one h0 n0 v U'.heap L ∧ FrameEnd U o U' L ({ frames := 0, cells := 0, slots := 0, locals := 0 } : Room).cells ({ frames := 0, cells := 0, slots := 0, locals := 0 } : Room).slots) := by
  rcases R with ⟨rfl, h⟩ | ⟨co, kco, rfl, hq, V_co, h1, h2⟩
  · exact rm4az l Z a0 hw ws bo jj u nz sz kbo h0 n0 Z0 V_bo h hz
  · exact rm4bz l Z a0 hw ws bo co jj u nz sz kbo kco h0 n0 Z0 V_bo V_co h1 h2 hz
theorem rm4nz (l : Launch) (Z : State) (a0 : Array Value) (hw : ∀ d ∈ tables_1, d.before a0 Z = true) (ws : List Jvm.Cond) (w : Value) (jj u sz : Int32) (h0 : Heap) (n0 : Nat) (Z0 : n0 ≤ h0.size) (R : own_Rn Z h0 w jj u (sz + (64 : Int32))) (hz : (jj = (0 : Int32))) :
    MetFree l (⟨"com/example/wee_match/weematch/WindowsBytesPinLaw", "slot", "([B[BIII)Z"⟩ : MethodName) (head1 (Jvm.Cond.code (⟨"com/example/wee_match/weematch/WindowsBytesPinLaw", "slot", "([B[BIII)Z"⟩ : MethodName) method_2_code 6 (some .boolean) :: ws) ({ frames := 0, cells := 0, slots := 0, locals := 0 } : Room)) (fun a U => a = #[w, .null, (.int jj), (.int u), (.int sz)] ∧ Z.Warmed39 U.vm ∧ U.heap = h0) (fun _ _ _ _ _ => True) (fun _ U o U' => ∃ v L, o = .returned v ∧ own_one h0 n0 v U'.heap L ∧ FrameEnd U o U' L ({ frames := 0, cells := 0, slots := 0, locals := 0 } : Room).cells ({ frames := 0, cells := 0, slots := 0, locals := 0 } : Room).slots) := by
  rcases R with ⟨rfl, h⟩ | ⟨co, kco, rfl, V_co, h1⟩
  · exact rm4cz l Z a0 hw ws jj u sz h0 n0 Z0 h hz
  · exact rm4dz l Z a0 hw ws co jj u sz kco h0 n0 Z0 V_co h1 hz
theorem d4_12 : decode method_2_code 12 = .ok (.iload 4, 2) := by decide +kernel
def Q_rm4ao (Z : State) (bo : Addr) (jj u nz sz : Int32) (kbo : ClassId) (h0 : Heap) (n0 : Nat) (v : Option Value) (h : Heap) (L : List Loc) : Prop := v = some (.int 1) ∧ Fr n0 L ∧ h = h0
theorem pn_rm4ao : plainName "com/example/wee_match/weematch/WindowsBytesPinLaw" = true := by first | (simp [plainName, overriddenIn]; done) | decide +kernel
theorem ef_rm4ao (m : MethodId) (x0 : Addr) (x1 : Addr) (x2 : Int32) (x3 : Int32) (x4 : Int32) : entryFrame m #[(.ref x0), (.ref x1), (.int x2), (.int x3), (.int x4)] 6 = mkF m 0 #[.val (.ref x0), .val (.ref x1), .val (.int x2), .val (.int x3), .val (.int x4), .unset] [] := by first | (simp [entryFrame, mkF, argsToLocals, Value.category]; done) | rfl
set_option maxRecDepth 65536 in
set_option maxHeartbeats 40000000 in
theorem rm4ao (l : Launch) (Z : State) (a0 : Array Value) (hw : ∀ d ∈ tables_1, d.before a0 Z = true) (ws : List Jvm.Cond) (bo : Addr) (jj u nz sz : Int32) (kbo : ClassId) (h0 : Heap) (n0 : Nat) (Z0 : n0 ≤ h0.size) (V_bo : Arv Z h0 bo kbo .byte nz [] (.int (0 : Int32))) (hor : ¬ jj < u ∨ ¬ nz < sz) (hz : ¬ (jj = (0 : Int32))) :
    MetFree l (⟨"com/example/wee_match/weematch/WindowsBytesPinLaw", "slot", "([B[BIII)Z"⟩ : MethodName) (head1 (Jvm.Cond.code (⟨"com/example/wee_match/weematch/WindowsBytesPinLaw", "slot", "([B[BIII)Z"⟩ : MethodName) method_2_code 6 (some .boolean) :: ws) ({ frames := 0, cells := 0, slots := 0, locals := 0 } : Room)) (fun a U => a = #[(.ref bo), (.ref bo), (.int jj), (.int u), (.int sz)] ∧ Z.Warmed39 U.vm ∧ U.heap = h0) (fun _ _ _ _ _ => True) (fun _ U o U' => ∃ v L, o = .returned v ∧ (Q_rm4ao Z bo jj u nz sz kbo h0 n0) v U'.heap L ∧ FrameEnd U o U' L ({ frames := 0, cells := 0, slots := 0, locals := 0 } : Room).cells ({ frames := 0, cells := 0, slots := 0, locals := 0 } : Room).slots) := by
  refine MetFree.of_bodySF (plainFor_of_name pn_rm4ao) hisR ?_
  intro p e s m args below meth c s₁ Bd hml0 hP hK
  obtain ⟨rfl, hZ, hh⟩ := hP
  have hx := Bd.exec
  have hby := Bd.bytes
  have hlk := BodyLoose.notSynchronized Bd
  have hret := Bd.returns
  have hml : c.maxLocals = 6 := hml0
  have hown : s.vm.findClass "com/example/wee_match/weematch/WindowsBytesPinLaw" = some m.cls := findClass_of_methodNamed Bd.named
  have hnm := (name_of_methodNamed Bd.named Bd.method).1
  have X0 : Stand p l e ({ frames := 0, cells := 0, slots := 0, locals := 0 } : Room) s m #[(.ref bo), (.ref bo), (.int jj), (.int u), (.int sz)] below meth c s₁ [] 0 0 := Stand.of_body Bd
  have e0 : s₁.heap = h0 := by rw [← hh, Bd.state]; rfl
  have Nf := Fr.nil n0
  have Zs := Z0
  have Kp : Keep h0 h0 [] := Keep.refl _ _
  show own_End p e below s (Q_rm4ao Z bo jj u nz sz kbo h0 n0) ({ frames := 0, cells := 0, slots := 0, locals := 0 } : Room).cells ({ frames := 0, cells := 0, slots := 0, locals := 0 } : Room).slots (s₁.setTop (entryFrame m #[(.ref bo), (.ref bo), (.int jj), (.int u), (.int sz)] 6))
  refine own_go (x' := s₁.setTop (mkF m 0 #[.val (.ref bo), .val (.ref bo), .val (.int jj), .val (.int u), .val (.int sz), .unset] [])) (fun t k => castTop (ef_rm4ao m bo bo jj u sz) k) ?_
  refine own_go (x' := s₁.setTop (mkF m 18 #[.val (.ref bo), .val (.ref bo), .val (.int jj), .val (.int u), .val (.int sz), .val (.int sz)] [(.int u), (.int jj)])) (fun _ k => XS.iloadN X0.here hx rfl (hb hby d4_0) rfl (XS.ifYes X0.here hx rfl (pc0 := 1) (pc' := 12) rfl (hb hby d4_1) rfl ((if0 _ _).trans (feq hz).2) (by decide) (by decide) (XS.iload X0.here hx rfl (hb hby d4_12) rfl (XS.istore X0.here hx rfl (hb hby d4_14) rfl (l' := #[.val (.ref bo), .val (.ref bo), .val (.int jj), .val (.int u), .val (.int sz), .val (.int sz)]) rfl (XS.iloadN X0.here hx rfl (hb hby d4_16) rfl (XS.iloadN X0.here hx rfl (hb hby d4_17) rfl k)))))) ?_
  by_cases hc18 : jj < u
  · refine own_go (x' := s₁.setTop (mkF m 28 #[.val (.ref bo), .val (.ref bo), .val (.int jj), .val (.int u), .val (.int sz), .val (.int sz)] [(.ref bo)])) (fun _ k => XS.icmpNo X0.here hx rfl (hb hby d4_18) rfl (tlt hc18).2.1 (XS.aloadN X0.here hx rfl (hb hby d4_21) rfl rfl (XS.ifnonnullYes X0.here hx rfl (pc0 := 22) (pc' := 27) rfl (hb hby d4_22) rfl (by decide) (by decide) (XS.aloadN X0.here hx rfl (hb hby d4_27) rfl rfl k)))) ?_
    obtain ⟨cl1, Ar1, -, Sz1, Nn1, -, -⟩ := id V_bo
    refine own_go (x' := s₁.setTop (mkF m 29 #[.val (.ref bo), .val (.ref bo), .val (.int jj), .val (.int u), .val (.int sz), .val (.int sz)] [(.int nz)])) (fun t k => X0.arraylength hx (Eq.trans (congrArg (fun h_ => h_[_]?) e0) Ar1.1) (State.isArrayOf_alike hZ.alike Ar1.2.1) (g := (mkF m 28 #[.val (.ref bo), .val (.ref bo), .val (.int jj), .val (.int u), .val (.int sz), .val (.int sz)] [(.ref bo)])) rfl rfl (hb hby d4_28) t (by rw [len_of Sz1 Nn1]; exact k)) ?_
    refine own_go (x' := s₁.setTop (mkF m 41 #[.val (.ref bo), .val (.ref bo), .val (.int jj), .val (.int u), .val (.int sz), .val (.int sz)] [(.ref bo)])) (fun _ k => XS.iload X0.here hx rfl (hb hby d4_29) rfl (XS.icmpYes X0.here hx rfl (pc0 := 31) (pc' := 36) rfl (hb hby d4_31) rfl (flt (hor.resolve_left fun q => q hc18)).2.1 (by decide) (by decide) (XS.aloadN X0.here hx rfl (hb hby d4_36) rfl rfl (XS.ifnullNo X0.here hx rfl (hb hby d4_37) rfl (XS.aloadN X0.here hx rfl (hb hby d4_40) rfl rfl k))))) ?_
    obtain ⟨cl2, Ar2, -, Sz2, Nn2, -, -⟩ := id V_bo
    refine own_go (x' := s₁.setTop (mkF m 42 #[.val (.ref bo), .val (.ref bo), .val (.int jj), .val (.int u), .val (.int sz), .val (.int sz)] [(.int nz)])) (fun t k => X0.arraylength hx (Eq.trans (congrArg (fun h_ => h_[_]?) e0) Ar2.1) (State.isArrayOf_alike hZ.alike Ar2.2.1) (g := (mkF m 41 #[.val (.ref bo), .val (.ref bo), .val (.int jj), .val (.int u), .val (.int sz), .val (.int sz)] [(.ref bo)])) rfl rfl (hb hby d4_41) t (by rw [len_of Sz2 Nn2]; exact k)) ?_
    refine own_go (x' := s₁.setTop (mkF m 49 #[.val (.ref bo), .val (.ref bo), .val (.int jj), .val (.int u), .val (.int sz), .val (.int sz)] [(.ref bo), (.ref bo)])) (fun _ k => XS.iload X0.here hx rfl (hb hby d4_42) rfl (XS.icmpNo X0.here hx rfl (hb hby d4_44) rfl (flt (hor.resolve_left fun q => q hc18)).1 (XS.aloadN X0.here hx rfl (hb hby d4_47) rfl rfl (XS.aloadN X0.here hx rfl (hb hby d4_48) rfl rfl k)))) ?_
    refine own_go (x' := s₁.setTop (mkF m 52 #[.val (.ref bo), .val (.ref bo), .val (.int jj), .val (.int u), .val (.int sz), .val (.int sz)] [])) (fun _ k => Jvm.RoadKit.acmp (g := (mkF m 49 #[.val (.ref bo), .val (.ref bo), .val (.int jj), .val (.int u), .val (.int sz), .val (.int sz)] [(.ref bo), (.ref bo)])) X0 hx rfl rfl rfl (pc0 := 49) (pc' := 52) (same := true) rfl (hb hby d4_49) rfl (decide_eq_true rfl) (by decide) (by decide) k) ?_
    refine own_go (x' := s₁.setTop (mkF m 57 #[.val (.ref bo), .val (.ref bo), .val (.int jj), .val (.int u), .val (.int sz), .val (.int sz)] [(.int (1 : Int32))])) (fun _ k => XS.iconst X0.here hx rfl (hb hby d4_52) (XS.goto X0.here hx rfl (pc0 := 53) (pc' := 57) rfl (hb hby d4_53) (by decide) (by decide) k)) ?_
    refine own_retN X0 hx hlk (t := .boolean) hret (by simp) (hb hby d4_57) (w := (1 : Int32)) rfl ?_ (by decide) (by decide)
    rw [e0]
    exact ⟨rfl, Nf, rfl⟩
  · refine own_go (x' := s₁.setTop (mkF m 62 #[.val (.ref bo), .val (.ref bo), .val (.int jj), .val (.int u), .val (.int sz), .val (.int sz)] [(.ref bo), (.ref bo)])) (fun _ k => XS.icmpYes X0.here hx rfl (pc0 := 18) (pc' := 60) rfl (hb hby d4_18) rfl (flt hc18).2.1 (by decide) (by decide) (XS.aloadN X0.here hx rfl (hb hby d4_60) rfl rfl (XS.aloadN X0.here hx rfl (hb hby d4_61) rfl rfl k))) ?_
    refine own_go (x' := s₁.setTop (mkF m 65 #[.val (.ref bo), .val (.ref bo), .val (.int jj), .val (.int u), .val (.int sz), .val (.int sz)] [])) (fun _ k => Jvm.RoadKit.acmp (g := (mkF m 62 #[.val (.ref bo), .val (.ref bo), .val (.int jj), .val (.int u), .val (.int sz), .val (.int sz)] [(.ref bo), (.ref bo)])) X0 hx rfl rfl rfl (pc0 := 62) (pc' := 65) (same := true) rfl (hb hby d4_62) rfl (decide_eq_true rfl) (by decide) (by decide) k) ?_
    refine own_go (x' := s₁.setTop (mkF m 70 #[.val (.ref bo), .val (.ref bo), .val (.int jj), .val (.int u), .val (.int sz), .val (.int sz)] [(.int (1 : Int32))])) (fun _ k => XS.iconst X0.here hx rfl (hb hby d4_65) (XS.goto X0.here hx rfl (pc0 := 66) (pc' := 70) rfl (hb hby d4_66) (by decide) (by decide) k)) ?_
    refine own_retN X0 hx hlk (t := .boolean) hret (by simp) (hb hby d4_70) (w := (1 : Int32)) rfl ?_ (by decide) (by decide)
    rw [e0]
    exact ⟨rfl, Nf, rfl⟩
def Q_rm4bo (Z : State) (bo co : Addr) (jj u nz sz : Int32) (kbo kco : ClassId) (h0 : Heap) (n0 : Nat) (v : Option Value) (h : Heap) (L : List Loc) : Prop := v = some (.int 1) ∧ Fr n0 L ∧ h = h0
theorem pn_rm4bo : plainName "com/example/wee_match/weematch/WindowsBytesPinLaw" = true := by first | (simp [plainName, overriddenIn]; done) | decide +kernel
theorem ef_rm4bo (m : MethodId) (x0 : Addr) (x1 : Addr) (x2 : Int32) (x3 : Int32) (x4 : Int32) : entryFrame m #[(.ref x0), (.ref x1), (.int x2), (.int x3), (.int x4)] 6 = mkF m 0 #[.val (.ref x0), .val (.ref x1), .val (.int x2), .val (.int x3), .val (.int x4), .unset] [] := by first | (simp [entryFrame, mkF, argsToLocals, Value.category]; done) | rfl
set_option maxRecDepth 65536 in
set_option maxHeartbeats 40000000 in
theorem rm4bo (l : Launch) (Z : State) (a0 : Array Value) (hw : ∀ d ∈ tables_1, d.before a0 Z = true) (ws : List Jvm.Cond) (bo co : Addr) (jj u nz sz : Int32) (kbo kco : ClassId) (h0 : Heap) (n0 : Nat) (Z0 : n0 ≤ h0.size) (V_bo : Arv Z h0 bo kbo .byte nz [] (.int (0 : Int32))) (V_co : Arv Z h0 co kco .byte sz [] (.int (0 : Int32))) (h1 : jj < u) (h2 : nz < sz) (hz : ¬ (jj = (0 : Int32))) :
    MetFree l (⟨"com/example/wee_match/weematch/WindowsBytesPinLaw", "slot", "([B[BIII)Z"⟩ : MethodName) (head1 (Jvm.Cond.code (⟨"com/example/wee_match/weematch/WindowsBytesPinLaw", "slot", "([B[BIII)Z"⟩ : MethodName) method_2_code 6 (some .boolean) :: ws) ({ frames := 0, cells := 0, slots := 0, locals := 0 } : Room)) (fun a U => a = #[(.ref co), (.ref bo), (.int jj), (.int u), (.int sz)] ∧ Z.Warmed39 U.vm ∧ U.heap = h0) (fun _ _ _ _ _ => True) (fun _ U o U' => ∃ v L, o = .returned v ∧ (Q_rm4bo Z bo co jj u nz sz kbo kco h0 n0) v U'.heap L ∧ FrameEnd U o U' L ({ frames := 0, cells := 0, slots := 0, locals := 0 } : Room).cells ({ frames := 0, cells := 0, slots := 0, locals := 0 } : Room).slots) := by
  refine MetFree.of_bodySF (plainFor_of_name pn_rm4bo) hisR ?_
  intro p e s m args below meth c s₁ Bd hml0 hP hK
  obtain ⟨rfl, hZ, hh⟩ := hP
  have hx := Bd.exec
  have hby := Bd.bytes
  have hlk := BodyLoose.notSynchronized Bd
  have hret := Bd.returns
  have hml : c.maxLocals = 6 := hml0
  have hown : s.vm.findClass "com/example/wee_match/weematch/WindowsBytesPinLaw" = some m.cls := findClass_of_methodNamed Bd.named
  have hnm := (name_of_methodNamed Bd.named Bd.method).1
  have X0 : Stand p l e ({ frames := 0, cells := 0, slots := 0, locals := 0 } : Room) s m #[(.ref co), (.ref bo), (.int jj), (.int u), (.int sz)] below meth c s₁ [] 0 0 := Stand.of_body Bd
  have e0 : s₁.heap = h0 := by rw [← hh, Bd.state]; rfl
  have Nf := Fr.nil n0
  have Zs := Z0
  have Kp : Keep h0 h0 [] := Keep.refl _ _
  show own_End p e below s (Q_rm4bo Z bo co jj u nz sz kbo kco h0 n0) ({ frames := 0, cells := 0, slots := 0, locals := 0 } : Room).cells ({ frames := 0, cells := 0, slots := 0, locals := 0 } : Room).slots (s₁.setTop (entryFrame m #[(.ref co), (.ref bo), (.int jj), (.int u), (.int sz)] 6))
  refine own_go (x' := s₁.setTop (mkF m 0 #[.val (.ref co), .val (.ref bo), .val (.int jj), .val (.int u), .val (.int sz), .unset] [])) (fun t k => castTop (ef_rm4bo m co bo jj u sz) k) ?_
  refine own_go (x' := s₁.setTop (mkF m 18 #[.val (.ref co), .val (.ref bo), .val (.int jj), .val (.int u), .val (.int sz), .val (.int sz)] [(.int u), (.int jj)])) (fun _ k => XS.iloadN X0.here hx rfl (hb hby d4_0) rfl (XS.ifYes X0.here hx rfl (pc0 := 1) (pc' := 12) rfl (hb hby d4_1) rfl ((if0 _ _).trans (feq hz).2) (by decide) (by decide) (XS.iload X0.here hx rfl (hb hby d4_12) rfl (XS.istore X0.here hx rfl (hb hby d4_14) rfl (l' := #[.val (.ref co), .val (.ref bo), .val (.int jj), .val (.int u), .val (.int sz), .val (.int sz)]) rfl (XS.iloadN X0.here hx rfl (hb hby d4_16) rfl (XS.iloadN X0.here hx rfl (hb hby d4_17) rfl k)))))) ?_
  refine own_go (x' := s₁.setTop (mkF m 28 #[.val (.ref co), .val (.ref bo), .val (.int jj), .val (.int u), .val (.int sz), .val (.int sz)] [(.ref co)])) (fun _ k => XS.icmpNo X0.here hx rfl (hb hby d4_18) rfl (tlt h1).2.1 (XS.aloadN X0.here hx rfl (hb hby d4_21) rfl rfl (XS.ifnonnullYes X0.here hx rfl (pc0 := 22) (pc' := 27) rfl (hb hby d4_22) rfl (by decide) (by decide) (XS.aloadN X0.here hx rfl (hb hby d4_27) rfl rfl k)))) ?_
  obtain ⟨cl1, Ar1, -, Sz1, Nn1, -, -⟩ := id V_co
  refine own_go (x' := s₁.setTop (mkF m 29 #[.val (.ref co), .val (.ref bo), .val (.int jj), .val (.int u), .val (.int sz), .val (.int sz)] [(.int sz)])) (fun t k => X0.arraylength hx (Eq.trans (congrArg (fun h_ => h_[_]?) e0) Ar1.1) (State.isArrayOf_alike hZ.alike Ar1.2.1) (g := (mkF m 28 #[.val (.ref co), .val (.ref bo), .val (.int jj), .val (.int u), .val (.int sz), .val (.int sz)] [(.ref co)])) rfl rfl (hb hby d4_28) t (by rw [len_of Sz1 Nn1]; exact k)) ?_
  refine own_go (x' := s₁.setTop (mkF m 41 #[.val (.ref co), .val (.ref bo), .val (.int jj), .val (.int u), .val (.int sz), .val (.int sz)] [(.ref bo)])) (fun _ k => XS.iload X0.here hx rfl (hb hby d4_29) rfl (XS.icmpYes X0.here hx rfl (pc0 := 31) (pc' := 36) rfl (hb hby d4_31) rfl (flt (Int32.lt_irrefl)).2.1 (by decide) (by decide) (XS.aloadN X0.here hx rfl (hb hby d4_36) rfl rfl (XS.ifnullNo X0.here hx rfl (hb hby d4_37) rfl (XS.aloadN X0.here hx rfl (hb hby d4_40) rfl rfl k))))) ?_
  obtain ⟨cl2, Ar2, -, Sz2, Nn2, -, -⟩ := id V_bo
  refine own_go (x' := s₁.setTop (mkF m 42 #[.val (.ref co), .val (.ref bo), .val (.int jj), .val (.int u), .val (.int sz), .val (.int sz)] [(.int nz)])) (fun t k => X0.arraylength hx (Eq.trans (congrArg (fun h_ => h_[_]?) e0) Ar2.1) (State.isArrayOf_alike hZ.alike Ar2.2.1) (g := (mkF m 41 #[.val (.ref co), .val (.ref bo), .val (.int jj), .val (.int u), .val (.int sz), .val (.int sz)] [(.ref bo)])) rfl rfl (hb hby d4_41) t (by rw [len_of Sz2 Nn2]; exact k)) ?_
  refine own_go (x' := s₁.setTop (mkF m 59 #[.val (.ref co), .val (.ref bo), .val (.int jj), .val (.int u), .val (.int sz), .val (.int sz)] [(.int (1 : Int32))])) (fun _ k => XS.iload X0.here hx rfl (hb hby d4_42) rfl (XS.icmpYes X0.here hx rfl (pc0 := 44) (pc' := 58) rfl (hb hby d4_44) rfl (tlt h2).1 (by decide) (by decide) (XS.iconst X0.here hx rfl (hb hby d4_58) k))) ?_
  refine own_retN X0 hx hlk (t := .boolean) hret (by simp) (hb hby d4_59) (w := (1 : Int32)) rfl ?_ (by decide) (by decide)
  rw [e0]
  exact ⟨rfl, Nf, rfl⟩
def Q_rm4co (Z : State) (jj u sz : Int32) (h0 : Heap) (n0 : Nat) (v : Option Value) (h : Heap) (L : List Loc) : Prop := v = some (.int 1) ∧ Fr n0 L ∧ h = h0
theorem pn_rm4co : plainName "com/example/wee_match/weematch/WindowsBytesPinLaw" = true := by first | (simp [plainName, overriddenIn]; done) | decide +kernel
theorem ef_rm4co (m : MethodId) (x2 : Int32) (x3 : Int32) (x4 : Int32) : entryFrame m #[.null, .null, (.int x2), (.int x3), (.int x4)] 6 = mkF m 0 #[.val .null, .val .null, .val (.int x2), .val (.int x3), .val (.int x4), .unset] [] := by first | (simp [entryFrame, mkF, argsToLocals, Value.category]; done) | rfl
set_option maxRecDepth 65536 in
set_option maxHeartbeats 40000000 in
theorem rm4co (l : Launch) (Z : State) (a0 : Array Value) (hw : ∀ d ∈ tables_1, d.before a0 Z = true) (ws : List Jvm.Cond) (jj u sz : Int32) (h0 : Heap) (n0 : Nat) (Z0 : n0 ≤ h0.size) (h1 : ¬ jj < u) (hz : ¬ (jj = (0 : Int32))) :
    MetFree l (⟨"com/example/wee_match/weematch/WindowsBytesPinLaw", "slot", "([B[BIII)Z"⟩ : MethodName) (head1 (Jvm.Cond.code (⟨"com/example/wee_match/weematch/WindowsBytesPinLaw", "slot", "([B[BIII)Z"⟩ : MethodName) method_2_code 6 (some .boolean) :: ws) ({ frames := 0, cells := 0, slots := 0, locals := 0 } : Room)) (fun a U => a = #[.null, .null, (.int jj), (.int u), (.int sz)] ∧ Z.Warmed39 U.vm ∧ U.heap = h0) (fun _ _ _ _ _ => True) (fun _ U o U' => ∃ v L, o = .returned v ∧ (Q_rm4co Z jj u sz h0 n0) v U'.heap L ∧ FrameEnd U o U' L ({ frames := 0, cells := 0, slots := 0, locals := 0 } : Room).cells ({ frames := 0, cells := 0, slots := 0, locals := 0 } : Room).slots) := by
  refine MetFree.of_bodySF (plainFor_of_name pn_rm4co) hisR ?_
  intro p e s m args below meth c s₁ Bd hml0 hP hK
  obtain ⟨rfl, hZ, hh⟩ := hP
  have hx := Bd.exec
  have hby := Bd.bytes
  have hlk := BodyLoose.notSynchronized Bd
  have hret := Bd.returns
  have hml : c.maxLocals = 6 := hml0
  have hown : s.vm.findClass "com/example/wee_match/weematch/WindowsBytesPinLaw" = some m.cls := findClass_of_methodNamed Bd.named
  have hnm := (name_of_methodNamed Bd.named Bd.method).1
  have X0 : Stand p l e ({ frames := 0, cells := 0, slots := 0, locals := 0 } : Room) s m #[.null, .null, (.int jj), (.int u), (.int sz)] below meth c s₁ [] 0 0 := Stand.of_body Bd
  have e0 : s₁.heap = h0 := by rw [← hh, Bd.state]; rfl
  have Nf := Fr.nil n0
  have Zs := Z0
  have Kp : Keep h0 h0 [] := Keep.refl _ _
  show own_End p e below s (Q_rm4co Z jj u sz h0 n0) ({ frames := 0, cells := 0, slots := 0, locals := 0 } : Room).cells ({ frames := 0, cells := 0, slots := 0, locals := 0 } : Room).slots (s₁.setTop (entryFrame m #[.null, .null, (.int jj), (.int u), (.int sz)] 6))
  refine own_go (x' := s₁.setTop (mkF m 0 #[.val .null, .val .null, .val (.int jj), .val (.int u), .val (.int sz), .unset] [])) (fun t k => castTop (ef_rm4co m jj u sz) k) ?_
  refine own_go (x' := s₁.setTop (mkF m 18 #[.val .null, .val .null, .val (.int jj), .val (.int u), .val (.int sz), .val (.int sz)] [(.int u), (.int jj)])) (fun _ k => XS.iloadN X0.here hx rfl (hb hby d4_0) rfl (XS.ifYes X0.here hx rfl (pc0 := 1) (pc' := 12) rfl (hb hby d4_1) rfl ((if0 _ _).trans (feq hz).2) (by decide) (by decide) (XS.iload X0.here hx rfl (hb hby d4_12) rfl (XS.istore X0.here hx rfl (hb hby d4_14) rfl (l' := #[.val .null, .val .null, .val (.int jj), .val (.int u), .val (.int sz), .val (.int sz)]) rfl (XS.iloadN X0.here hx rfl (hb hby d4_16) rfl (XS.iloadN X0.here hx rfl (hb hby d4_17) rfl k)))))) ?_
  refine own_go (x' := s₁.setTop (mkF m 62 #[.val .null, .val .null, .val (.int jj), .val (.int u), .val (.int sz), .val (.int sz)] [.null, .null])) (fun _ k => XS.icmpYes X0.here hx rfl (pc0 := 18) (pc' := 60) rfl (hb hby d4_18) rfl (flt h1).2.1 (by decide) (by decide) (XS.aloadN X0.here hx rfl (hb hby d4_60) rfl rfl (XS.aloadN X0.here hx rfl (hb hby d4_61) rfl rfl k))) ?_
  refine own_go (x' := s₁.setTop (mkF m 65 #[.val .null, .val .null, .val (.int jj), .val (.int u), .val (.int sz), .val (.int sz)] [])) (fun _ k => Jvm.RoadKit.acmp (g := (mkF m 62 #[.val .null, .val .null, .val (.int jj), .val (.int u), .val (.int sz), .val (.int sz)] [.null, .null])) X0 hx rfl rfl rfl (pc0 := 62) (pc' := 65) (same := true) rfl (hb hby d4_62) rfl (decide_eq_true rfl) (by decide) (by decide) k) ?_
  refine own_go (x' := s₁.setTop (mkF m 70 #[.val .null, .val .null, .val (.int jj), .val (.int u), .val (.int sz), .val (.int sz)] [(.int (1 : Int32))])) (fun _ k => XS.iconst X0.here hx rfl (hb hby d4_65) (XS.goto X0.here hx rfl (pc0 := 66) (pc' := 70) rfl (hb hby d4_66) (by decide) (by decide) k)) ?_
  refine own_retN X0 hx hlk (t := .boolean) hret (by simp) (hb hby d4_70) (w := (1 : Int32)) rfl ?_ (by decide) (by decide)
  rw [e0]
  exact ⟨rfl, Nf, rfl⟩
def Q_rm4do (Z : State) (co : Addr) (jj u sz : Int32) (kco : ClassId) (h0 : Heap) (n0 : Nat) (v : Option Value) (h : Heap) (L : List Loc) : Prop := v = some (.int 1) ∧ Fr n0 L ∧ h = h0
theorem pn_rm4do : plainName "com/example/wee_match/weematch/WindowsBytesPinLaw" = true := by first | (simp [plainName, overriddenIn]; done) | decide +kernel
theorem ef_rm4do (m : MethodId) (x0 : Addr) (x2 : Int32) (x3 : Int32) (x4 : Int32) : entryFrame m #[(.ref x0), .null, (.int x2), (.int x3), (.int x4)] 6 = mkF m 0 #[.val (.ref x0), .val .null, .val (.int x2), .val (.int x3), .val (.int x4), .unset] [] := by first | (simp [entryFrame, mkF, argsToLocals, Value.category]; done) | rfl
set_option maxRecDepth 65536 in
set_option maxHeartbeats 40000000 in
theorem rm4do (l : Launch) (Z : State) (a0 : Array Value) (hw : ∀ d ∈ tables_1, d.before a0 Z = true) (ws : List Jvm.Cond) (co : Addr) (jj u sz : Int32) (kco : ClassId) (h0 : Heap) (n0 : Nat) (Z0 : n0 ≤ h0.size) (V_co : Arv Z h0 co kco .byte sz [] (.int (0 : Int32))) (h1 : jj < u) (hz : ¬ (jj = (0 : Int32))) :
    MetFree l (⟨"com/example/wee_match/weematch/WindowsBytesPinLaw", "slot", "([B[BIII)Z"⟩ : MethodName) (head1 (Jvm.Cond.code (⟨"com/example/wee_match/weematch/WindowsBytesPinLaw", "slot", "([B[BIII)Z"⟩ : MethodName) method_2_code 6 (some .boolean) :: ws) ({ frames := 0, cells := 0, slots := 0, locals := 0 } : Room)) (fun a U => a = #[(.ref co), .null, (.int jj), (.int u), (.int sz)] ∧ Z.Warmed39 U.vm ∧ U.heap = h0) (fun _ _ _ _ _ => True) (fun _ U o U' => ∃ v L, o = .returned v ∧ (Q_rm4do Z co jj u sz kco h0 n0) v U'.heap L ∧ FrameEnd U o U' L ({ frames := 0, cells := 0, slots := 0, locals := 0 } : Room).cells ({ frames := 0, cells := 0, slots := 0, locals := 0 } : Room).slots) := by
  refine MetFree.of_bodySF (plainFor_of_name pn_rm4do) hisR ?_
  intro p e s m args below meth c s₁ Bd hml0 hP hK
  obtain ⟨rfl, hZ, hh⟩ := hP
  have hx := Bd.exec
  have hby := Bd.bytes
  have hlk := BodyLoose.notSynchronized Bd
  have hret := Bd.returns
  have hml : c.maxLocals = 6 := hml0
  have hown : s.vm.findClass "com/example/wee_match/weematch/WindowsBytesPinLaw" = some m.cls := findClass_of_methodNamed Bd.named
  have hnm := (name_of_methodNamed Bd.named Bd.method).1
  have X0 : Stand p l e ({ frames := 0, cells := 0, slots := 0, locals := 0 } : Room) s m #[(.ref co), .null, (.int jj), (.int u), (.int sz)] below meth c s₁ [] 0 0 := Stand.of_body Bd
  have e0 : s₁.heap = h0 := by rw [← hh, Bd.state]; rfl
  have Nf := Fr.nil n0
  have Zs := Z0
  have Kp : Keep h0 h0 [] := Keep.refl _ _
  show own_End p e below s (Q_rm4do Z co jj u sz kco h0 n0) ({ frames := 0, cells := 0, slots := 0, locals := 0 } : Room).cells ({ frames := 0, cells := 0, slots := 0, locals := 0 } : Room).slots (s₁.setTop (entryFrame m #[(.ref co), .null, (.int jj), (.int u), (.int sz)] 6))
  refine own_go (x' := s₁.setTop (mkF m 0 #[.val (.ref co), .val .null, .val (.int jj), .val (.int u), .val (.int sz), .unset] [])) (fun t k => castTop (ef_rm4do m co jj u sz) k) ?_
  refine own_go (x' := s₁.setTop (mkF m 18 #[.val (.ref co), .val .null, .val (.int jj), .val (.int u), .val (.int sz), .val (.int sz)] [(.int u), (.int jj)])) (fun _ k => XS.iloadN X0.here hx rfl (hb hby d4_0) rfl (XS.ifYes X0.here hx rfl (pc0 := 1) (pc' := 12) rfl (hb hby d4_1) rfl ((if0 _ _).trans (feq hz).2) (by decide) (by decide) (XS.iload X0.here hx rfl (hb hby d4_12) rfl (XS.istore X0.here hx rfl (hb hby d4_14) rfl (l' := #[.val (.ref co), .val .null, .val (.int jj), .val (.int u), .val (.int sz), .val (.int sz)]) rfl (XS.iloadN X0.here hx rfl (hb hby d4_16) rfl (XS.iloadN X0.here hx rfl (hb hby d4_17) rfl k)))))) ?_
  refine own_go (x' := s₁.setTop (mkF m 28 #[.val (.ref co), .val .null, .val (.int jj), .val (.int u), .val (.int sz), .val (.int sz)] [(.ref co)])) (fun _ k => XS.icmpNo X0.here hx rfl (hb hby d4_18) rfl (tlt h1).2.1 (XS.aloadN X0.here hx rfl (hb hby d4_21) rfl rfl (XS.ifnonnullYes X0.here hx rfl (pc0 := 22) (pc' := 27) rfl (hb hby d4_22) rfl (by decide) (by decide) (XS.aloadN X0.here hx rfl (hb hby d4_27) rfl rfl k)))) ?_
  obtain ⟨cl1, Ar1, -, Sz1, Nn1, -, -⟩ := id V_co
  refine own_go (x' := s₁.setTop (mkF m 29 #[.val (.ref co), .val .null, .val (.int jj), .val (.int u), .val (.int sz), .val (.int sz)] [(.int sz)])) (fun t k => X0.arraylength hx (Eq.trans (congrArg (fun h_ => h_[_]?) e0) Ar1.1) (State.isArrayOf_alike hZ.alike Ar1.2.1) (g := (mkF m 28 #[.val (.ref co), .val .null, .val (.int jj), .val (.int u), .val (.int sz), .val (.int sz)] [(.ref co)])) rfl rfl (hb hby d4_28) t (by rw [len_of Sz1 Nn1]; exact k)) ?_
  refine own_go (x' := s₁.setTop (mkF m 59 #[.val (.ref co), .val .null, .val (.int jj), .val (.int u), .val (.int sz), .val (.int sz)] [(.int (1 : Int32))])) (fun _ k => XS.iload X0.here hx rfl (hb hby d4_29) rfl (XS.icmpYes X0.here hx rfl (pc0 := 31) (pc' := 36) rfl (hb hby d4_31) rfl (flt (Int32.lt_irrefl)).2.1 (by decide) (by decide) (XS.aloadN X0.here hx rfl (hb hby d4_36) rfl rfl (XS.ifnullYes X0.here hx rfl (pc0 := 37) (pc' := 58) rfl (hb hby d4_37) rfl (by decide) (by decide) (XS.iconst X0.here hx rfl (hb hby d4_58) k))))) ?_
  refine own_retN X0 hx hlk (t := .boolean) hret (by simp) (hb hby d4_59) (w := (1 : Int32)) rfl ?_ (by decide) (by decide)
  rw [e0]
  exact ⟨rfl, Nf, rfl⟩
theorem rm4po (l : Launch) (Z : State) (a0 : Array Value) (hw : ∀ d ∈ tables_1, d.before a0 Z = true) (ws : List Jvm.Cond) (w : Value) (bo : Addr) (jj u nz sz : Int32) (kbo : ClassId) (z0 : Nat) (h0 : Heap) (n0 : Nat) (Z0 : n0 ≤ h0.size) (V_bo : Arv Z h0 bo kbo .byte nz [] (.int (0 : Int32))) (R : own_Rp Z h0 z0 w bo jj u nz sz) (hz : ¬ (jj = (0 : Int32))) :
    MetFree l (⟨"com/example/wee_match/weematch/WindowsBytesPinLaw", "slot", "([B[BIII)Z"⟩ : MethodName) (head1 (Jvm.Cond.code (⟨"com/example/wee_match/weematch/WindowsBytesPinLaw", "slot", "([B[BIII)Z"⟩ : MethodName) method_2_code 6 (some .boolean) :: ws) ({ frames := 0, cells := 0, slots := 0, locals := 0 } : Room)) (fun a U => a = #[w, (.ref bo), (.int jj), (.int u), (.int sz)] ∧ Z.Warmed39 U.vm ∧ U.heap = h0) (fun _ _ _ _ _ => True) (fun _ U o U' => ∃ v L, o = .returned v ∧ own_one h0 n0 v U'.heap L ∧ FrameEnd U o U' L ({ frames := 0, cells := 0, slots := 0, locals := 0 } : Room).cells ({ frames := 0, cells := 0, slots := 0, locals := 0 } : Room).slots) := by
  rcases R with ⟨rfl, h⟩ | ⟨co, kco, rfl, hq, V_co, h1, h2⟩
  · exact rm4ao l Z a0 hw ws bo jj u nz sz kbo h0 n0 Z0 V_bo h hz
  · exact rm4bo l Z a0 hw ws bo co jj u nz sz kbo kco h0 n0 Z0 V_bo V_co h1 h2 hz
theorem rm4no (l : Launch) (Z : State) (a0 : Array Value) (hw : ∀ d ∈ tables_1, d.before a0 Z = true) (ws : List Jvm.Cond) (w : Value) (jj u sz : Int32) (h0 : Heap) (n0 : Nat) (Z0 : n0 ≤ h0.size) (R : own_Rn Z h0 w jj u sz) (hz : ¬ (jj = (0 : Int32))) :
    MetFree l (⟨"com/example/wee_match/weematch/WindowsBytesPinLaw", "slot", "([B[BIII)Z"⟩ : MethodName) (head1 (Jvm.Cond.code (⟨"com/example/wee_match/weematch/WindowsBytesPinLaw", "slot", "([B[BIII)Z"⟩ : MethodName) method_2_code 6 (some .boolean) :: ws) ({ frames := 0, cells := 0, slots := 0, locals := 0 } : Room)) (fun a U => a = #[w, .null, (.int jj), (.int u), (.int sz)] ∧ Z.Warmed39 U.vm ∧ U.heap = h0) (fun _ _ _ _ _ => True) (fun _ U o U' => ∃ v L, o = .returned v ∧ own_one h0 n0 v U'.heap L ∧ FrameEnd U o U' L ({ frames := 0, cells := 0, slots := 0, locals := 0 } : Room).cells ({ frames := 0, cells := 0, slots := 0, locals := 0 } : Room).slots) := by
  rcases R with ⟨rfl, h⟩ | ⟨co, kco, rfl, V_co, h1⟩
  · exact rm4co l Z a0 hw ws jj u sz h0 n0 Z0 h hz
  · exact rm4do l Z a0 hw ws co jj u sz kco h0 n0 Z0 V_co h1 hz
theorem pd_0 : parseMethodDescriptor "()V" = some ⟨[], none⟩ := by decide +kernel
theorem pd_1 : parseMethodDescriptor "(II)[[B" = some ⟨[.int, .int], some (.array (.array .byte))⟩ := by decide +kernel
theorem pd_2 : parseMethodDescriptor "([B[BIII)Z" = some ⟨[(.array .byte), (.array .byte), .int, .int, .int], some .boolean⟩ := by decide +kernel
def Q_rm0 (Z : State) (p0 : Int32) (p1 : Int32) (p2 : Int32) (p3 : Int32) (h0 : Heap) (n0 : Nat) (v : Option Value) (h : Heap) (L : List Loc) : Prop := v = some (.int 1) ∧ Fr n0 L
theorem pn_rm0 : plainName "com/example/wee_match/weematch/WindowsBytesPinLaw" = true := by first | (simp [plainName, overriddenIn]; done) | decide +kernel
theorem ef_rm0 (m : MethodId) (x0 : Int32) (x1 : Int32) (x2 : Int32) (x3 : Int32) : entryFrame m #[(.int x0), (.int x1), (.int x2), (.int x3)] maxLocals = mkF m 0 #[.val (.int x0), .val (.int x1), .val (.int x2), .val (.int x3), .unset, .unset, .unset, .unset, .unset, .unset, .unset, .unset, .unset, .unset, .unset, .unset, .unset] [] := by first | (simp [entryFrame, mkF, argsToLocals, Value.category, maxLocals]; done) | rfl
set_option maxRecDepth 65536 in
set_option maxHeartbeats 40000000 in
theorem rm0 (l : Launch) (Z : State) (a0 : Array Value) (hw : ∀ d ∈ tables_1, d.before a0 Z = true) (ws : List Jvm.Cond) (p0 : Int32) (p1 : Int32) (p2 : Int32) (p3 : Int32) (h0 : Heap) (n0 : Nat) (Z0 : n0 ≤ h0.size) :
    MetFree l x (head1 (Jvm.Cond.code x code maxLocals ret :: ws) room_1) (fun a U => a = #[(.int p0), (.int p1), (.int p2), (.int p3)] ∧ Z.Warmed39 U.vm ∧ U.heap = h0) (fun _ _ _ _ _ => True) (fun _ U o U' => ∃ v L, o = .returned v ∧ (Q_rm0 Z p0 p1 p2 p3 h0 n0) v U'.heap L ∧ FrameEnd U o U' L room_1.cells room_1.slots) := by
  refine MetFree.of_bodySF (plainFor_of_name pn_rm0) hisR ?_
  intro p e s m args below meth c s₁ Bd hml0 hP hK
  obtain ⟨rfl, hZ, hh⟩ := hP
  have hx := Bd.exec
  have hby := Bd.bytes
  have hlk := BodyLoose.notSynchronized Bd
  have hret := Bd.returns
  have hml : c.maxLocals = 17 := hml0
  have hown : s.vm.findClass "com/example/wee_match/weematch/WindowsBytesPinLaw" = some m.cls := findClass_of_methodNamed Bd.named
  have hnm := (name_of_methodNamed Bd.named Bd.method).1
  have X0 : Stand p l e room_1 s m #[(.int p0), (.int p1), (.int p2), (.int p3)] below meth c s₁ [] 0 0 := Stand.of_body Bd
  have e0 : s₁.heap = h0 := by rw [← hh, Bd.state]; rfl
  have Nf := Fr.nil n0
  have Zs := Z0
  have Kp : Keep h0 h0 [] := Keep.refl _ _
  show own_End p e below s (Q_rm0 Z p0 p1 p2 p3 h0 n0) room_1.cells room_1.slots (s₁.setTop (entryFrame m #[(.int p0), (.int p1), (.int p2), (.int p3)] maxLocals))
  refine own_go (x' := s₁.setTop (mkF m 0 #[.val (.int p0), .val (.int p1), .val (.int p2), .val (.int p3), .unset, .unset, .unset, .unset, .unset, .unset, .unset, .unset, .unset, .unset, .unset, .unset, .unset] [])) (fun t k => castTop (ef_rm0 m p0 p1 p2 p3) k) ?_
  refine own_go (x' := s₁.setTop (mkF m 8 #[.val (.int p0), .val (.int p1), .val (.int p2), .val (.int p3), .val (.int ((p0 &&& (7 : Int32)) % (5 : Int32))), .unset, .unset, .unset, .unset, .unset, .unset, .unset, .unset, .unset, .unset, .unset, .unset] [])) (fun _ k => XS.iloadN X0.here hx rfl (hb hby at_0) rfl (XS.bipush X0.here hx rfl (hb hby at_1) (XS.iand X0.here hx rfl (hb hby at_3) rfl (XS.iconst X0.here hx rfl (hb hby at_4) (iremM X0 hx rfl (hb hby at_5) rfl (by decide) (XS.istore X0.here hx rfl (hb hby at_6) rfl (l' := #[.val (.int p0), .val (.int p1), .val (.int p2), .val (.int p3), .val (.int ((p0 &&& (7 : Int32)) % (5 : Int32))), .unset, .unset, .unset, .unset, .unset, .unset, .unset, .unset, .unset, .unset, .unset, .unset]) rfl k)))))) ?_
  refine own_go (x' := s₁.setTop (mkF m 18 #[.val (.int p0), .val (.int p1), .val (.int p2), .val (.int p3), .val (.int ((p0 &&& (7 : Int32)) % (5 : Int32))), .val (.int (p1 &&& (16383 : Int32))), .unset, .unset, .unset, .unset, .unset, .unset, .unset, .unset, .unset, .unset, .unset] [(.int (7 : Int32)), (.int p2)])) (fun _ k => XS.iloadN X0.here hx rfl (hb hby at_8) rfl (XS.sipush X0.here hx rfl (hb hby at_9) (XS.iand X0.here hx rfl (hb hby at_12) rfl (XS.istore X0.here hx rfl (hb hby at_13) rfl (l' := #[.val (.int p0), .val (.int p1), .val (.int p2), .val (.int p3), .val (.int ((p0 &&& (7 : Int32)) % (5 : Int32))), .val (.int (p1 &&& (16383 : Int32))), .unset, .unset, .unset, .unset, .unset, .unset, .unset, .unset, .unset, .unset, .unset]) rfl (XS.iloadN X0.here hx rfl (hb hby at_15) rfl (XS.bipush X0.here hx rfl (hb hby at_16) k)))))) ?_
  refine own_go (x' := s₁.setTop (mkF m 27 #[.val (.int p0), .val (.int p1), .val (.int p2), .val (.int p3), .val (.int ((p0 &&& (7 : Int32)) % (5 : Int32))), .val (.int (p1 &&& (16383 : Int32))), .val (.int ((p2 &&& (7 : Int32)) % (5 : Int32))), .unset, .unset, .unset, .unset, .unset, .unset, .unset, .unset, .unset, .unset] [(.int (16383 : Int32)), (.int p3)])) (fun _ k => XS.iand X0.here hx rfl (hb hby at_18) rfl (XS.iconst X0.here hx rfl (hb hby at_19) (iremM X0 hx rfl (hb hby at_20) rfl (by decide) (XS.istore X0.here hx rfl (hb hby at_21) rfl (l' := #[.val (.int p0), .val (.int p1), .val (.int p2), .val (.int p3), .val (.int ((p0 &&& (7 : Int32)) % (5 : Int32))), .val (.int (p1 &&& (16383 : Int32))), .val (.int ((p2 &&& (7 : Int32)) % (5 : Int32))), .unset, .unset, .unset, .unset, .unset, .unset, .unset, .unset, .unset, .unset]) rfl (XS.iloadN X0.here hx rfl (hb hby at_23) rfl (XS.sipush X0.here hx rfl (hb hby at_24) k)))))) ?_
  refine own_go (x' := s₁.setTop (mkF m 30 #[.val (.int p0), .val (.int p1), .val (.int p2), .val (.int p3), .val (.int ((p0 &&& (7 : Int32)) % (5 : Int32))), .val (.int (p1 &&& (16383 : Int32))), .val (.int ((p2 &&& (7 : Int32)) % (5 : Int32))), .val (.int (p3 &&& (16383 : Int32))), .unset, .unset, .unset, .unset, .unset, .unset, .unset, .unset, .unset] [])) (fun _ k => XS.iand X0.here hx rfl (hb hby at_27) rfl (XS.istore X0.here hx rfl (hb hby at_28) rfl (l' := #[.val (.int p0), .val (.int p1), .val (.int p2), .val (.int p3), .val (.int ((p0 &&& (7 : Int32)) % (5 : Int32))), .val (.int (p1 &&& (16383 : Int32))), .val (.int ((p2 &&& (7 : Int32)) % (5 : Int32))), .val (.int (p3 &&& (16383 : Int32))), .unset, .unset, .unset, .unset, .unset, .unset, .unset, .unset, .unset]) rfl k)) ?_
  have hs1 := own_l p1
  have ht1 := own_l64 p1
  generalize (p1 &&& (16383 : Int32)) = s1 at hs1 ht1 ⊢
  have hs2 := own_l p3
  have ht2 := own_l64 p3
  generalize (p3 &&& (16383 : Int32)) = s2 at hs2 ht2 ⊢
  have hu2 := own_u4 p2
  generalize ((p2 &&& (7 : Int32)) % (5 : Int32)) = u2 at hu2 ⊢
  rcases own_m5 p0 with hq | hq | hq | hq | hq
  · rw [hq]
    obtain ⟨T1, h1, X1, e1, E1, A1, D1, -, st1⟩ := newO X0 hx hZ hown (own_w hw 0 rfl) (own_w hw 1 rfl) (own_w hw 2 rfl) e0 (g := (mkF m 30 #[.val (.int p0), .val (.int p1), .val (.int p2), .val (.int p3), .val (.int (0 : Int32)), .val (.int s1), .val (.int u2), .val (.int s2), .unset, .unset, .unset, .unset, .unset, .unset, .unset, .unset, .unset] [])) rfl (hb hby at_30) (by decide) (by decide)
    obtain ⟨b1, g1⟩ : ∃ z, z = h0.size := ⟨_, rfl⟩
    rw [← g1] at A1 D1 st1
    have g_b1 : n0 ≤ b1 := Nat.le_trans Zs (Nat.le_of_eq g1.symm)
    replace Zs := Nat.le_trans Zs E1.1
    have E_b1 := A1
    have F_b1_bytes : Fld Z h1 b1 "com/example/wee_match/weematch/Sieve$Windows" "bytes" "[[B" .null := D1 (Or.inr (own_w hw 12 rfl)) (ty := (.array (.array .byte))) (by decide)
    have F_b1_chars : Fld Z h1 b1 "com/example/wee_match/weematch/Sieve$Windows" "chars" "[[C" .null := D1 (Or.inr (own_w hw 16 rfl)) (ty := (.array (.array .char))) (by decide)
    have F_b1_starts : Fld Z h1 b1 "com/example/wee_match/weematch/Sieve$Windows" "starts" "[I" .null := D1 (Or.inl (own_w hw 19 rfl)) (ty := (.array .int)) (by decide)
    refine own_go (x' := T1.setTop (mkF m 33 #[.val (.int p0), .val (.int p1), .val (.int p2), .val (.int p3), .val (.int (0 : Int32)), .val (.int s1), .val (.int u2), .val (.int s2), .unset, .unset, .unset, .unset, .unset, .unset, .unset, .unset, .unset] [(.ref b1)])) st1 ?_
    refine own_go (x' := T1.setTop (mkF m 34 #[.val (.int p0), .val (.int p1), .val (.int p2), .val (.int p3), .val (.int (0 : Int32)), .val (.int s1), .val (.int u2), .val (.int s2), .unset, .unset, .unset, .unset, .unset, .unset, .unset, .unset, .unset] [(.ref b1), (.ref b1)])) (fun _ k => XS.dup X1.here hx rfl (hb hby at_33) rfl rfl k) ?_
    obtain ⟨_, _, ⟨T2, L2, k2, n2⟩, -, X2, ⟨Lc2, hQ2, l2, y2, z2⟩, st2⟩ := X1.specialBack hx (y := (⟨"com/example/wee_match/weematch/Sieve$Windows", "<init>", "()V"⟩ : MethodName)) rfl hown (mvT hZ (own_w hw 3 rfl)) (mvT hZ (own_w hw 4 rfl)) (mvT hZ (own_w hw 5 rfl)) (by decide) (backOf (W := 1) (rm1 l Z a0 hw [] b1 h1 n0 Zs E_b1 F_b1_bytes F_b1_chars F_b1_starts g_b1) hZ (own_w hw 5 rfl) (own_w hw 2 rfl) (by decide) (by decide)) (g := (mkF m 34 #[.val (.int p0), .val (.int p1), .val (.int p2), .val (.int p3), .val (.int (0 : Int32)), .val (.int s1), .val (.int u2), .val (.int s2), .unset, .unset, .unset, .unset, .unset, .unset, .unset, .unset, .unset] [(.ref b1), (.ref b1)])) rfl (by rw [hml]; rfl) (Steps.refl _) (a := b1) (argsL := []) (rest := [(.ref b1)]) (lenOf pd_0 rfl) rfl (by show 2 * 0 + _ ≤ _; exact Nat.le_of_eq rfl) (hb hby at_34) (fun _ _ => ⟨rfl, e1, (by decide : 1 + 3 ≤ _), (by decide : 7 + 144 ≤ _)⟩)
    dsimp only [Pt.U, Pt.locs, Pt.cells, Pt.slots] at X2 l2 y2 z2 st2 hQ2
    subst l2 y2 z2
    obtain ⟨b2, kc2, hv2, Nq2, K2, sq2, g_b2, Eo2, Fs2, V_b2, O_b2⟩ := hQ2
    subst hv2
    replace Nf := Fr.app Nf Nq2
    have ne_b1_b2 : b1 ≠ b2 := Nat.ne_of_lt (Nat.lt_of_lt_of_le E_b1.lt sq2)
    replace Zs := Nat.le_trans Zs K2.1
    replace E_b1 := Eo2
    replace F_b1_bytes := Fs2
    refine own_go (x' := T2.setTop (mkF m 37 #[.val (.int p0), .val (.int p1), .val (.int p2), .val (.int p3), .val (.int (0 : Int32)), .val (.int s1), .val (.int u2), .val (.int s2), .unset, .unset, .unset, .unset, .unset, .unset, .unset, .unset, .unset] [(.ref b1)])) (fun _ k => st2.trans k) ?_
    refine own_go (x' := T2.setTop (mkF m 45 #[.val (.int p0), .val (.int p1), .val (.int p2), .val (.int p3), .val (.int (0 : Int32)), .val (.int s1), .val (.int u2), .val (.int s2), .val (.ref b1), .unset, .unset, .unset, .unset, .unset, .unset, .unset, .unset] [(.int s1), (.int (0 : Int32)), (.ref b1)])) (fun _ k => XS.astore X2.here hx rfl (hb hby at_37) rfl rfl (l' := #[.val (.int p0), .val (.int p1), .val (.int p2), .val (.int p3), .val (.int (0 : Int32)), .val (.int s1), .val (.int u2), .val (.int s2), .val (.ref b1), .unset, .unset, .unset, .unset, .unset, .unset, .unset, .unset]) rfl (XS.aload X2.here hx rfl (hb hby at_39) rfl rfl (XS.iload X2.here hx rfl (hb hby at_41) rfl (XS.iload X2.here hx rfl (hb hby at_43) rfl k)))) ?_
    have q3b_lt := E_b1.lt
    obtain ⟨cq3, kq3, q3a, q3b, q3c⟩ := isOf hZ rfl E_b1
    obtain ⟨_, _, ⟨T3, L3, k3, n3⟩, -, X3, ⟨Lc3, hQ3, l3, y3, z3⟩, st3⟩ := X2.virtualBack hx (y := (⟨"com/example/wee_match/weematch/Sieve$Windows", "bytes", "(II)[[B"⟩ : MethodName)) (z := (⟨"com/example/wee_match/weematch/Sieve$Windows", "bytes", "(II)[[B"⟩ : MethodName)) hown (mvT hZ (own_w hw 20 rfl)) (mvT hZ (own_w hw 21 rfl)) (notFace_of_selects (args := #[]) (mvT hZ (own_w hw 23 rfl))) (mvT hZ (own_w hw 23 rfl)) (mvT hZ (own_w hw 22 rfl)) (by decide) (backOf (W := 0) (rmF_0 l Z a0 hw [] b1 s1 b2 kc2 T2.heap n0 Zs F_b1_bytes V_b2 O_b2 ne_b1_b2 g_b2 hs1 ht1) hZ (own_w hw 24 rfl) (own_w hw 2 rfl) (by decide) (by decide)) q3a q3c (g := (mkF m 45 #[.val (.int p0), .val (.int p1), .val (.int p2), .val (.int p3), .val (.int (0 : Int32)), .val (.int s1), .val (.int u2), .val (.int s2), .val (.ref b1), .unset, .unset, .unset, .unset, .unset, .unset, .unset, .unset] [(.int s1), (.int (0 : Int32)), (.ref b1)])) rfl (by rw [hml]; rfl) (Steps.refl _) (argsL := [(.int (0 : Int32)), (.int s1)]) (rest := []) (lenOf pd_1 rfl) rfl (by show 2 * 0 + _ ≤ _; exact Nat.le_of_eq rfl) (hb hby at_45) (fun _ _ => ⟨rfl, rfl, (by decide : 4 + 0 ≤ _), (by decide : 151 + 0 ≤ _)⟩)
    dsimp only [Pt.U, Pt.locs, Pt.cells, Pt.slots] at X3 l3 y3 z3 st3 hQ3
    subst l3 y3 z3
    obtain ⟨hv3, Nq3, K3, Fs3, Vn3⟩ := hQ3
    subst hv3
    replace Nf := Fr.app Nf Nq3
    replace E_b1 := E_b1.keep K3
    replace Zs := Nat.le_trans Zs K3.1
    replace V_b2 := Vn3
    replace F_b1_bytes := Fs3
    refine own_go (x' := T3.setTop (mkF m 48 #[.val (.int p0), .val (.int p1), .val (.int p2), .val (.int p3), .val (.int (0 : Int32)), .val (.int s1), .val (.int u2), .val (.int s2), .val (.ref b1), .unset, .unset, .unset, .unset, .unset, .unset, .unset, .unset] [(.ref b2)])) (fun _ k => st3.trans k) ?_
    refine own_go (x' := T3.setTop (mkF m 57 #[.val (.int p0), .val (.int p1), .val (.int p2), .val (.int p3), .val (.int (0 : Int32)), .val (.int s1), .val (.int u2), .val (.int s2), .val (.ref b1), .val (.ref b2), .unset, .unset, .unset, .unset, .unset, .unset, .unset] [(.ref b2)])) (fun _ k => XS.astore X3.here hx rfl (hb hby at_48) rfl rfl (l' := #[.val (.int p0), .val (.int p1), .val (.int p2), .val (.int p3), .val (.int (0 : Int32)), .val (.int s1), .val (.int u2), .val (.int s2), .val (.ref b1), .val (.ref b2), .unset, .unset, .unset, .unset, .unset, .unset, .unset]) rfl (XS.aload X3.here hx rfl (hb hby at_50) rfl rfl (XS.ifnullNo X3.here hx rfl (hb hby at_52) rfl (XS.aload X3.here hx rfl (hb hby at_55) rfl rfl k)))) ?_
    obtain ⟨cl4, Ar4, -, Sz4, Nn4, -, -⟩ := id V_b2
    refine own_go (x' := T3.setTop (mkF m 58 #[.val (.int p0), .val (.int p1), .val (.int p2), .val (.int p3), .val (.int (0 : Int32)), .val (.int s1), .val (.int u2), .val (.int s2), .val (.ref b1), .val (.ref b2), .unset, .unset, .unset, .unset, .unset, .unset, .unset] [(.int (4 : Int32))])) (fun t k => X3.arraylength hx (Eq.trans (congrArg (fun h_ => h_[_]?) rfl) Ar4.1) (State.isArrayOf_alike hZ.alike Ar4.2.1) (g := (mkF m 57 #[.val (.int p0), .val (.int p1), .val (.int p2), .val (.int p3), .val (.int (0 : Int32)), .val (.int s1), .val (.int u2), .val (.int s2), .val (.ref b1), .val (.ref b2), .unset, .unset, .unset, .unset, .unset, .unset, .unset] [(.ref b2)])) rfl rfl (hb hby at_57) t (by rw [len_of Sz4 Nn4]; exact k)) ?_
    refine own_go (x' := T3.setTop (mkF m 67 #[.val (.int p0), .val (.int p1), .val (.int p2), .val (.int p3), .val (.int (0 : Int32)), .val (.int s1), .val (.int u2), .val (.int s2), .val (.ref b1), .val (.ref b2), .unset, .unset, .unset, .unset, .unset, .unset, .unset] [(.int (0 : Int32)), (.ref b2)])) (fun _ k => XS.iconst X3.here hx rfl (hb hby at_58) (XS.icmpYes X3.here hx rfl (pc0 := 59) (pc' := 64) rfl (hb hby at_59) rfl (teq rfl).1 (by decide) (by decide) (XS.aload X3.here hx rfl (hb hby at_64) rfl rfl (XS.iconst X3.here hx rfl (hb hby at_66) k)))) ?_
    obtain ⟨cl5, Ar5, q5, Sz5, Nn5, Hh5, Gg5⟩ := id V_b2
    have hin5 : ¬ ((0 : Int32) < 0 ∨ cl5.slots.size ≤ ((0 : Int32)).toNatClampNeg) := inb_of Sz5 ⟨by decide, by decide⟩
    refine own_go (x' := T3.setTop (mkF m 68 #[.val (.int p0), .val (.int p1), .val (.int p2), .val (.int p3), .val (.int (0 : Int32)), .val (.int s1), .val (.int u2), .val (.int s2), .val (.ref b1), .val (.ref b2), .unset, .unset, .unset, .unset, .unset, .unset, .unset] [.null])) (X3.aaload hx (j := (0 : Int32)) (v := .null) (Eq.trans (congrArg (fun h_ => h_[_]?) rfl) Ar5.1) (State.isArrayOf_alike hZ.alike Ar5.2.1) rfl Ar5.2.2 hin5 (Hh5.at hin5 rfl) (g := (mkF m 67 #[.val (.int p0), .val (.int p1), .val (.int p2), .val (.int p3), .val (.int (0 : Int32)), .val (.int s1), .val (.int u2), .val (.int s2), .val (.ref b1), .val (.ref b2), .unset, .unset, .unset, .unset, .unset, .unset, .unset] [(.int (0 : Int32)), (.ref b2)])) rfl rfl (hb hby at_67)) ?_
    refine own_go (x' := T3.setTop (mkF m 73 #[.val (.int p0), .val (.int p1), .val (.int p2), .val (.int p3), .val (.int (0 : Int32)), .val (.int s1), .val (.int u2), .val (.int s2), .val (.ref b1), .val (.ref b2), .val .null, .unset, .unset, .unset, .unset, .unset, .unset] [(.int (1 : Int32)), (.ref b2)])) (fun _ k => XS.astore X3.here hx rfl (hb hby at_68) rfl rfl (l' := #[.val (.int p0), .val (.int p1), .val (.int p2), .val (.int p3), .val (.int (0 : Int32)), .val (.int s1), .val (.int u2), .val (.int s2), .val (.ref b1), .val (.ref b2), .val .null, .unset, .unset, .unset, .unset, .unset, .unset]) rfl (XS.aload X3.here hx rfl (hb hby at_70) rfl rfl (XS.iconst X3.here hx rfl (hb hby at_72) k))) ?_
    obtain ⟨cl6, Ar6, q6, Sz6, Nn6, Hh6, Gg6⟩ := id V_b2
    have hin6 : ¬ ((1 : Int32) < 0 ∨ cl6.slots.size ≤ ((1 : Int32)).toNatClampNeg) := inb_of Sz6 ⟨by decide, by decide⟩
    refine own_go (x' := T3.setTop (mkF m 74 #[.val (.int p0), .val (.int p1), .val (.int p2), .val (.int p3), .val (.int (0 : Int32)), .val (.int s1), .val (.int u2), .val (.int s2), .val (.ref b1), .val (.ref b2), .val .null, .unset, .unset, .unset, .unset, .unset, .unset] [.null])) (X3.aaload hx (j := (1 : Int32)) (v := .null) (Eq.trans (congrArg (fun h_ => h_[_]?) rfl) Ar6.1) (State.isArrayOf_alike hZ.alike Ar6.2.1) rfl Ar6.2.2 hin6 (Hh6.at hin6 rfl) (g := (mkF m 73 #[.val (.int p0), .val (.int p1), .val (.int p2), .val (.int p3), .val (.int (0 : Int32)), .val (.int s1), .val (.int u2), .val (.int s2), .val (.ref b1), .val (.ref b2), .val .null, .unset, .unset, .unset, .unset, .unset, .unset] [(.int (1 : Int32)), (.ref b2)])) rfl rfl (hb hby at_73)) ?_
    refine own_go (x' := T3.setTop (mkF m 79 #[.val (.int p0), .val (.int p1), .val (.int p2), .val (.int p3), .val (.int (0 : Int32)), .val (.int s1), .val (.int u2), .val (.int s2), .val (.ref b1), .val (.ref b2), .val .null, .val .null, .unset, .unset, .unset, .unset, .unset] [(.int (2 : Int32)), (.ref b2)])) (fun _ k => XS.astore X3.here hx rfl (hb hby at_74) rfl rfl (l' := #[.val (.int p0), .val (.int p1), .val (.int p2), .val (.int p3), .val (.int (0 : Int32)), .val (.int s1), .val (.int u2), .val (.int s2), .val (.ref b1), .val (.ref b2), .val .null, .val .null, .unset, .unset, .unset, .unset, .unset]) rfl (XS.aload X3.here hx rfl (hb hby at_76) rfl rfl (XS.iconst X3.here hx rfl (hb hby at_78) k))) ?_
    obtain ⟨cl7, Ar7, q7, Sz7, Nn7, Hh7, Gg7⟩ := id V_b2
    have hin7 : ¬ ((2 : Int32) < 0 ∨ cl7.slots.size ≤ ((2 : Int32)).toNatClampNeg) := inb_of Sz7 ⟨by decide, by decide⟩
    refine own_go (x' := T3.setTop (mkF m 80 #[.val (.int p0), .val (.int p1), .val (.int p2), .val (.int p3), .val (.int (0 : Int32)), .val (.int s1), .val (.int u2), .val (.int s2), .val (.ref b1), .val (.ref b2), .val .null, .val .null, .unset, .unset, .unset, .unset, .unset] [.null])) (X3.aaload hx (j := (2 : Int32)) (v := .null) (Eq.trans (congrArg (fun h_ => h_[_]?) rfl) Ar7.1) (State.isArrayOf_alike hZ.alike Ar7.2.1) rfl Ar7.2.2 hin7 (Hh7.at hin7 rfl) (g := (mkF m 79 #[.val (.int p0), .val (.int p1), .val (.int p2), .val (.int p3), .val (.int (0 : Int32)), .val (.int s1), .val (.int u2), .val (.int s2), .val (.ref b1), .val (.ref b2), .val .null, .val .null, .unset, .unset, .unset, .unset, .unset] [(.int (2 : Int32)), (.ref b2)])) rfl rfl (hb hby at_79)) ?_
    refine own_go (x' := T3.setTop (mkF m 85 #[.val (.int p0), .val (.int p1), .val (.int p2), .val (.int p3), .val (.int (0 : Int32)), .val (.int s1), .val (.int u2), .val (.int s2), .val (.ref b1), .val (.ref b2), .val .null, .val .null, .val .null, .unset, .unset, .unset, .unset] [(.int (3 : Int32)), (.ref b2)])) (fun _ k => XS.astore X3.here hx rfl (hb hby at_80) rfl rfl (l' := #[.val (.int p0), .val (.int p1), .val (.int p2), .val (.int p3), .val (.int (0 : Int32)), .val (.int s1), .val (.int u2), .val (.int s2), .val (.ref b1), .val (.ref b2), .val .null, .val .null, .val .null, .unset, .unset, .unset, .unset]) rfl (XS.aload X3.here hx rfl (hb hby at_82) rfl rfl (XS.iconst X3.here hx rfl (hb hby at_84) k))) ?_
    obtain ⟨cl8, Ar8, q8, Sz8, Nn8, Hh8, Gg8⟩ := id V_b2
    have hin8 : ¬ ((3 : Int32) < 0 ∨ cl8.slots.size ≤ ((3 : Int32)).toNatClampNeg) := inb_of Sz8 ⟨by decide, by decide⟩
    refine own_go (x' := T3.setTop (mkF m 86 #[.val (.int p0), .val (.int p1), .val (.int p2), .val (.int p3), .val (.int (0 : Int32)), .val (.int s1), .val (.int u2), .val (.int s2), .val (.ref b1), .val (.ref b2), .val .null, .val .null, .val .null, .unset, .unset, .unset, .unset] [.null])) (X3.aaload hx (j := (3 : Int32)) (v := .null) (Eq.trans (congrArg (fun h_ => h_[_]?) rfl) Ar8.1) (State.isArrayOf_alike hZ.alike Ar8.2.1) rfl Ar8.2.2 hin8 (Hh8.at hin8 rfl) (g := (mkF m 85 #[.val (.int p0), .val (.int p1), .val (.int p2), .val (.int p3), .val (.int (0 : Int32)), .val (.int s1), .val (.int u2), .val (.int s2), .val (.ref b1), .val (.ref b2), .val .null, .val .null, .val .null, .unset, .unset, .unset, .unset] [(.int (3 : Int32)), (.ref b2)])) rfl rfl (hb hby at_85)) ?_
    refine own_go (x' := T3.setTop (mkF m 96 #[.val (.int p0), .val (.int p1), .val (.int p2), .val (.int p3), .val (.int (0 : Int32)), .val (.int s1), .val (.int u2), .val (.int s2), .val (.ref b1), .val (.ref b2), .val .null, .val .null, .val .null, .val .null, .unset, .unset, .unset] [(.int s1), (.int (0 : Int32)), (.int (0 : Int32)), .null, .null])) (fun _ k => XS.astore X3.here hx rfl (hb hby at_86) rfl rfl (l' := #[.val (.int p0), .val (.int p1), .val (.int p2), .val (.int p3), .val (.int (0 : Int32)), .val (.int s1), .val (.int u2), .val (.int s2), .val (.ref b1), .val (.ref b2), .val .null, .val .null, .val .null, .val .null, .unset, .unset, .unset]) rfl (XS.aload X3.here hx rfl (hb hby at_88) rfl rfl (XS.aconstNull X3.here hx rfl (hb hby at_90) (XS.iconst X3.here hx rfl (hb hby at_91) (XS.iload X3.here hx rfl (hb hby at_92) rfl (XS.iload X3.here hx rfl (hb hby at_94) rfl k)))))) ?_
    obtain ⟨_, _, ⟨T9, L9, k9, n9⟩, -, X9, ⟨Lc9, hQ9, l9, y9, z9⟩, st9⟩ := Jvm.LawKit.callS X3 hx (y := (⟨"com/example/wee_match/weematch/WindowsBytesPinLaw", "slot", "([B[BIII)Z"⟩ : MethodName)) hown (mvT hZ (own_w hw 25 rfl)) (mvT hZ (own_w hw 26 rfl)) (mvT hZ (own_w hw 27 rfl)) (mvT hZ (own_w hw 28 rfl)) (by decide) (backOf (W := 0) (rm4cz l Z a0 hw [] (0 : Int32) (0 : Int32) s1 T3.heap n0 Zs (by decide) (by decide)) hZ (own_w hw 28 rfl) (own_w hw 27 rfl) (by decide) (by decide)) (g := (mkF m 96 #[.val (.int p0), .val (.int p1), .val (.int p2), .val (.int p3), .val (.int (0 : Int32)), .val (.int s1), .val (.int u2), .val (.int s2), .val (.ref b1), .val (.ref b2), .val .null, .val .null, .val .null, .val .null, .unset, .unset, .unset] [(.int s1), (.int (0 : Int32)), (.int (0 : Int32)), .null, .null])) rfl (by rw [hml]; rfl) (argsL := [.null, .null, (.int (0 : Int32)), (.int (0 : Int32)), (.int s1)]) (rest := []) (lenOf pd_2 rfl) rfl (by show 2 * 0 + _ ≤ _; exact Nat.le_of_eq rfl) (hb hby at_96) (fun _ _ => ⟨rfl, rfl, (by decide : 4 + 0 ≤ _), (by decide : 151 + 0 ≤ _)⟩)
    dsimp only [Pt.U, Pt.locs, Pt.cells, Pt.slots] at X9 l9 y9 z9 st9 hQ9
    subst l9 y9 z9
    obtain ⟨hv9, Nq9, eq9⟩ := hQ9
    subst hv9
    replace Nf := Fr.app Nf Nq9
    refine own_go (x' := T9.setTop (mkF m 99 #[.val (.int p0), .val (.int p1), .val (.int p2), .val (.int p3), .val (.int (0 : Int32)), .val (.int s1), .val (.int u2), .val (.int s2), .val (.ref b1), .val (.ref b2), .val .null, .val .null, .val .null, .val .null, .unset, .unset, .unset] [(.int (1 : Int32))])) st9 ?_
    refine own_go (x' := T9.setTop (mkF m 110 #[.val (.int p0), .val (.int p1), .val (.int p2), .val (.int p3), .val (.int (0 : Int32)), .val (.int s1), .val (.int u2), .val (.int s2), .val (.ref b1), .val (.ref b2), .val .null, .val .null, .val .null, .val .null, .unset, .unset, .unset] [(.int s1), (.int (0 : Int32)), (.int (1 : Int32)), .null, .null])) (fun _ k => XS.ifNo X9.here hx rfl (hb hby at_99) rfl ((if0 _ _).trans (feq (by decide +kernel : ¬ ((1 : Int32) = (0 : Int32)))).1) (XS.aload X9.here hx rfl (hb hby at_102) rfl rfl (XS.aconstNull X9.here hx rfl (hb hby at_104) (XS.iconst X9.here hx rfl (hb hby at_105) (XS.iload X9.here hx rfl (hb hby at_106) rfl (XS.iload X9.here hx rfl (hb hby at_108) rfl k)))))) ?_
    obtain ⟨_, _, ⟨T10, L10, k10, n10⟩, -, X10, ⟨Lc10, hQ10, l10, y10, z10⟩, st10⟩ := Jvm.LawKit.callS X9 hx (y := (⟨"com/example/wee_match/weematch/WindowsBytesPinLaw", "slot", "([B[BIII)Z"⟩ : MethodName)) hown (mvT hZ (own_w hw 25 rfl)) (mvT hZ (own_w hw 26 rfl)) (mvT hZ (own_w hw 27 rfl)) (mvT hZ (own_w hw 28 rfl)) (by decide) (backOf (W := 0) (rm4co l Z a0 hw [] (1 : Int32) (0 : Int32) s1 T3.heap n0 Zs (by decide) (by decide)) hZ (own_w hw 28 rfl) (own_w hw 27 rfl) (by decide) (by decide)) (g := (mkF m 110 #[.val (.int p0), .val (.int p1), .val (.int p2), .val (.int p3), .val (.int (0 : Int32)), .val (.int s1), .val (.int u2), .val (.int s2), .val (.ref b1), .val (.ref b2), .val .null, .val .null, .val .null, .val .null, .unset, .unset, .unset] [(.int s1), (.int (0 : Int32)), (.int (1 : Int32)), .null, .null])) rfl (by rw [hml]; rfl) (argsL := [.null, .null, (.int (1 : Int32)), (.int (0 : Int32)), (.int s1)]) (rest := []) (lenOf pd_2 rfl) rfl (by show 2 * 0 + _ ≤ _; exact Nat.le_of_eq rfl) (hb hby at_110) (fun _ _ => ⟨rfl, eq9, (by decide : 4 + 0 ≤ _), (by decide : 151 + 0 ≤ _)⟩)
    dsimp only [Pt.U, Pt.locs, Pt.cells, Pt.slots] at X10 l10 y10 z10 st10 hQ10
    subst l10 y10 z10
    obtain ⟨hv10, Nq10, eq10⟩ := hQ10
    subst hv10
    replace Nf := Fr.app Nf Nq10
    refine own_go (x' := T10.setTop (mkF m 113 #[.val (.int p0), .val (.int p1), .val (.int p2), .val (.int p3), .val (.int (0 : Int32)), .val (.int s1), .val (.int u2), .val (.int s2), .val (.ref b1), .val (.ref b2), .val .null, .val .null, .val .null, .val .null, .unset, .unset, .unset] [(.int (1 : Int32))])) st10 ?_
    refine own_go (x' := T10.setTop (mkF m 124 #[.val (.int p0), .val (.int p1), .val (.int p2), .val (.int p3), .val (.int (0 : Int32)), .val (.int s1), .val (.int u2), .val (.int s2), .val (.ref b1), .val (.ref b2), .val .null, .val .null, .val .null, .val .null, .unset, .unset, .unset] [(.int s1), (.int (0 : Int32)), (.int (2 : Int32)), .null, .null])) (fun _ k => XS.ifNo X10.here hx rfl (hb hby at_113) rfl ((if0 _ _).trans (feq (by decide +kernel : ¬ ((1 : Int32) = (0 : Int32)))).1) (XS.aload X10.here hx rfl (hb hby at_116) rfl rfl (XS.aconstNull X10.here hx rfl (hb hby at_118) (XS.iconst X10.here hx rfl (hb hby at_119) (XS.iload X10.here hx rfl (hb hby at_120) rfl (XS.iload X10.here hx rfl (hb hby at_122) rfl k)))))) ?_
    obtain ⟨_, _, ⟨T11, L11, k11, n11⟩, -, X11, ⟨Lc11, hQ11, l11, y11, z11⟩, st11⟩ := Jvm.LawKit.callS X10 hx (y := (⟨"com/example/wee_match/weematch/WindowsBytesPinLaw", "slot", "([B[BIII)Z"⟩ : MethodName)) hown (mvT hZ (own_w hw 25 rfl)) (mvT hZ (own_w hw 26 rfl)) (mvT hZ (own_w hw 27 rfl)) (mvT hZ (own_w hw 28 rfl)) (by decide) (backOf (W := 0) (rm4co l Z a0 hw [] (2 : Int32) (0 : Int32) s1 T3.heap n0 Zs (by decide) (by decide)) hZ (own_w hw 28 rfl) (own_w hw 27 rfl) (by decide) (by decide)) (g := (mkF m 124 #[.val (.int p0), .val (.int p1), .val (.int p2), .val (.int p3), .val (.int (0 : Int32)), .val (.int s1), .val (.int u2), .val (.int s2), .val (.ref b1), .val (.ref b2), .val .null, .val .null, .val .null, .val .null, .unset, .unset, .unset] [(.int s1), (.int (0 : Int32)), (.int (2 : Int32)), .null, .null])) rfl (by rw [hml]; rfl) (argsL := [.null, .null, (.int (2 : Int32)), (.int (0 : Int32)), (.int s1)]) (rest := []) (lenOf pd_2 rfl) rfl (by show 2 * 0 + _ ≤ _; exact Nat.le_of_eq rfl) (hb hby at_124) (fun _ _ => ⟨rfl, eq10, (by decide : 4 + 0 ≤ _), (by decide : 151 + 0 ≤ _)⟩)
    dsimp only [Pt.U, Pt.locs, Pt.cells, Pt.slots] at X11 l11 y11 z11 st11 hQ11
    subst l11 y11 z11
    obtain ⟨hv11, Nq11, eq11⟩ := hQ11
    subst hv11
    replace Nf := Fr.app Nf Nq11
    refine own_go (x' := T11.setTop (mkF m 127 #[.val (.int p0), .val (.int p1), .val (.int p2), .val (.int p3), .val (.int (0 : Int32)), .val (.int s1), .val (.int u2), .val (.int s2), .val (.ref b1), .val (.ref b2), .val .null, .val .null, .val .null, .val .null, .unset, .unset, .unset] [(.int (1 : Int32))])) st11 ?_
    refine own_go (x' := T11.setTop (mkF m 138 #[.val (.int p0), .val (.int p1), .val (.int p2), .val (.int p3), .val (.int (0 : Int32)), .val (.int s1), .val (.int u2), .val (.int s2), .val (.ref b1), .val (.ref b2), .val .null, .val .null, .val .null, .val .null, .unset, .unset, .unset] [(.int s1), (.int (0 : Int32)), (.int (3 : Int32)), .null, .null])) (fun _ k => XS.ifNo X11.here hx rfl (hb hby at_127) rfl ((if0 _ _).trans (feq (by decide +kernel : ¬ ((1 : Int32) = (0 : Int32)))).1) (XS.aload X11.here hx rfl (hb hby at_130) rfl rfl (XS.aconstNull X11.here hx rfl (hb hby at_132) (XS.iconst X11.here hx rfl (hb hby at_133) (XS.iload X11.here hx rfl (hb hby at_134) rfl (XS.iload X11.here hx rfl (hb hby at_136) rfl k)))))) ?_
    obtain ⟨_, _, ⟨T12, L12, k12, n12⟩, -, X12, ⟨Lc12, hQ12, l12, y12, z12⟩, st12⟩ := Jvm.LawKit.callS X11 hx (y := (⟨"com/example/wee_match/weematch/WindowsBytesPinLaw", "slot", "([B[BIII)Z"⟩ : MethodName)) hown (mvT hZ (own_w hw 25 rfl)) (mvT hZ (own_w hw 26 rfl)) (mvT hZ (own_w hw 27 rfl)) (mvT hZ (own_w hw 28 rfl)) (by decide) (backOf (W := 0) (rm4co l Z a0 hw [] (3 : Int32) (0 : Int32) s1 T3.heap n0 Zs (by decide) (by decide)) hZ (own_w hw 28 rfl) (own_w hw 27 rfl) (by decide) (by decide)) (g := (mkF m 138 #[.val (.int p0), .val (.int p1), .val (.int p2), .val (.int p3), .val (.int (0 : Int32)), .val (.int s1), .val (.int u2), .val (.int s2), .val (.ref b1), .val (.ref b2), .val .null, .val .null, .val .null, .val .null, .unset, .unset, .unset] [(.int s1), (.int (0 : Int32)), (.int (3 : Int32)), .null, .null])) rfl (by rw [hml]; rfl) (argsL := [.null, .null, (.int (3 : Int32)), (.int (0 : Int32)), (.int s1)]) (rest := []) (lenOf pd_2 rfl) rfl (by show 2 * 0 + _ ≤ _; exact Nat.le_of_eq rfl) (hb hby at_138) (fun _ _ => ⟨rfl, eq11, (by decide : 4 + 0 ≤ _), (by decide : 151 + 0 ≤ _)⟩)
    dsimp only [Pt.U, Pt.locs, Pt.cells, Pt.slots] at X12 l12 y12 z12 st12 hQ12
    subst l12 y12 z12
    obtain ⟨hv12, Nq12, eq12⟩ := hQ12
    subst hv12
    replace Nf := Fr.app Nf Nq12
    refine own_go (x' := T12.setTop (mkF m 141 #[.val (.int p0), .val (.int p1), .val (.int p2), .val (.int p3), .val (.int (0 : Int32)), .val (.int s1), .val (.int u2), .val (.int s2), .val (.ref b1), .val (.ref b2), .val .null, .val .null, .val .null, .val .null, .unset, .unset, .unset] [(.int (1 : Int32))])) st12 ?_
    refine own_go (x' := T12.setTop (mkF m 155 #[.val (.int p0), .val (.int p1), .val (.int p2), .val (.int p3), .val (.int (0 : Int32)), .val (.int s1), .val (.int u2), .val (.int s2), .val (.ref b1), .val (.ref b2), .val .null, .val .null, .val .null, .val .null, .val (.int (1 : Int32)), .unset, .unset] [(.int u2), (.ref b1)])) (fun _ k => XS.ifNo X12.here hx rfl (hb hby at_141) rfl ((if0 _ _).trans (feq (by decide +kernel : ¬ ((1 : Int32) = (0 : Int32)))).1) (XS.iconst X12.here hx rfl (hb hby at_144) (XS.goto X12.here hx rfl (pc0 := 145) (pc' := 149) rfl (hb hby at_145) (by decide) (by decide) (XS.istore X12.here hx rfl (hb hby at_149) rfl (l' := #[.val (.int p0), .val (.int p1), .val (.int p2), .val (.int p3), .val (.int (0 : Int32)), .val (.int s1), .val (.int u2), .val (.int s2), .val (.ref b1), .val (.ref b2), .val .null, .val .null, .val .null, .val .null, .val (.int (1 : Int32)), .unset, .unset]) rfl (XS.aload X12.here hx rfl (hb hby at_151) rfl rfl (XS.iload X12.here hx rfl (hb hby at_153) rfl k)))))) ?_
    refine own_go (x' := T12.setTop (mkF m 157 #[.val (.int p0), .val (.int p1), .val (.int p2), .val (.int p3), .val (.int (0 : Int32)), .val (.int s1), .val (.int u2), .val (.int s2), .val (.ref b1), .val (.ref b2), .val .null, .val .null, .val .null, .val .null, .val (.int (1 : Int32)), .unset, .unset] [(.int s2), (.int u2), (.ref b1)])) (fun _ k => XS.iload X12.here hx rfl (hb hby at_155) rfl k) ?_
    obtain ⟨cq13, kq13, q13a, q13b, q13c⟩ := isOf hZ eq12 E_b1
    obtain ⟨_, _, ⟨T13, L13, k13, n13⟩, -, X13, ⟨Lc13, hQ13, l13, y13, z13⟩, st13⟩ := X12.virtualBack hx (y := (⟨"com/example/wee_match/weematch/Sieve$Windows", "bytes", "(II)[[B"⟩ : MethodName)) (z := (⟨"com/example/wee_match/weematch/Sieve$Windows", "bytes", "(II)[[B"⟩ : MethodName)) hown (mvT hZ (own_w hw 20 rfl)) (mvT hZ (own_w hw 21 rfl)) (notFace_of_selects (args := #[]) (mvT hZ (own_w hw 23 rfl))) (mvT hZ (own_w hw 23 rfl)) (mvT hZ (own_w hw 22 rfl)) (by decide) (backOf (W := 0) (rmS_0 l Z a0 hw [] b1 u2 s2 b2 kc2 (s1 + (64 : Int32)) s1  T3.heap n0 Zs F_b1_bytes V_b2 O_b2 ne_b1_b2 g_b2 hs2 ht2 hu2  ) hZ (own_w hw 24 rfl) (own_w hw 2 rfl) (by decide) (by decide)) q13a q13c (g := (mkF m 157 #[.val (.int p0), .val (.int p1), .val (.int p2), .val (.int p3), .val (.int (0 : Int32)), .val (.int s1), .val (.int u2), .val (.int s2), .val (.ref b1), .val (.ref b2), .val .null, .val .null, .val .null, .val .null, .val (.int (1 : Int32)), .unset, .unset] [(.int s2), (.int u2), (.ref b1)])) rfl (by rw [hml]; rfl) (Steps.refl _) (argsL := [(.int u2), (.int s2)]) (rest := []) (lenOf pd_1 rfl) rfl (by show 2 * 0 + _ ≤ _; exact Nat.le_of_eq rfl) (hb hby at_157) (fun _ _ => ⟨rfl, eq12, (by decide : 4 + 4 ≤ _), (by decide : 151 + 65596 ≤ _)⟩)
    dsimp only [Pt.U, Pt.locs, Pt.cells, Pt.slots] at X13 l13 y13 z13 st13 hQ13
    subst l13 y13 z13
    obtain ⟨w0, w1, w2, w3, hv13, Nq13, K13, Vn13, R0, R1, R2, R3⟩ := hQ13
    subst hv13
    replace Nf := Fr.app Nf Nq13
    have r_w0 := R0.ref.1
    have c_w0 := R0.ref.2
    have r_w1 := R1.ref.1
    have c_w1 := R1.ref.2
    have r_w2 := R2.ref.1
    have c_w2 := R2.ref.2
    have r_w3 := R3.ref.1
    have c_w3 := R3.ref.2
    replace E_b1 := E_b1.keep K13
    replace Zs := Nat.le_trans Zs K13.1
    replace V_b2 := Vn13
    refine own_go (x' := T13.setTop (mkF m 160 #[.val (.int p0), .val (.int p1), .val (.int p2), .val (.int p3), .val (.int (0 : Int32)), .val (.int s1), .val (.int u2), .val (.int s2), .val (.ref b1), .val (.ref b2), .val .null, .val .null, .val .null, .val .null, .val (.int (1 : Int32)), .unset, .unset] [(.ref b2)])) (fun _ k => st13.trans k) ?_
    refine own_go (x' := T13.setTop (mkF m 169 #[.val (.int p0), .val (.int p1), .val (.int p2), .val (.int p3), .val (.int (0 : Int32)), .val (.int s1), .val (.int u2), .val (.int s2), .val (.ref b1), .val (.ref b2), .val .null, .val .null, .val .null, .val .null, .val (.int (1 : Int32)), .val (.ref b2), .unset] [(.ref b2)])) (fun _ k => XS.astore X13.here hx rfl (hb hby at_160) rfl rfl (l' := #[.val (.int p0), .val (.int p1), .val (.int p2), .val (.int p3), .val (.int (0 : Int32)), .val (.int s1), .val (.int u2), .val (.int s2), .val (.ref b1), .val (.ref b2), .val .null, .val .null, .val .null, .val .null, .val (.int (1 : Int32)), .val (.ref b2), .unset]) rfl (XS.aload X13.here hx rfl (hb hby at_162) rfl rfl (XS.ifnullNo X13.here hx rfl (hb hby at_164) rfl (XS.aload X13.here hx rfl (hb hby at_167) rfl rfl k)))) ?_
    obtain ⟨cl14, Ar14, -, Sz14, Nn14, -, -⟩ := id V_b2
    refine own_go (x' := T13.setTop (mkF m 170 #[.val (.int p0), .val (.int p1), .val (.int p2), .val (.int p3), .val (.int (0 : Int32)), .val (.int s1), .val (.int u2), .val (.int s2), .val (.ref b1), .val (.ref b2), .val .null, .val .null, .val .null, .val .null, .val (.int (1 : Int32)), .val (.ref b2), .unset] [(.int (4 : Int32))])) (fun t k => X13.arraylength hx (Eq.trans (congrArg (fun h_ => h_[_]?) rfl) Ar14.1) (State.isArrayOf_alike hZ.alike Ar14.2.1) (g := (mkF m 169 #[.val (.int p0), .val (.int p1), .val (.int p2), .val (.int p3), .val (.int (0 : Int32)), .val (.int s1), .val (.int u2), .val (.int s2), .val (.ref b1), .val (.ref b2), .val .null, .val .null, .val .null, .val .null, .val (.int (1 : Int32)), .val (.ref b2), .unset] [(.ref b2)])) rfl rfl (hb hby at_169) t (by rw [len_of Sz14 Nn14]; exact k)) ?_
    refine own_go (x' := T13.setTop (mkF m 179 #[.val (.int p0), .val (.int p1), .val (.int p2), .val (.int p3), .val (.int (0 : Int32)), .val (.int s1), .val (.int u2), .val (.int s2), .val (.ref b1), .val (.ref b2), .val .null, .val .null, .val .null, .val .null, .val (.int (1 : Int32)), .val (.ref b2), .unset] [(.int (0 : Int32)), (.ref b2)])) (fun _ k => XS.iconst X13.here hx rfl (hb hby at_170) (XS.icmpYes X13.here hx rfl (pc0 := 171) (pc' := 176) rfl (hb hby at_171) rfl (teq rfl).1 (by decide) (by decide) (XS.aload X13.here hx rfl (hb hby at_176) rfl rfl (XS.iconst X13.here hx rfl (hb hby at_178) k)))) ?_
    obtain ⟨cl15, Ar15, q15, Sz15, Nn15, Hh15, Gg15⟩ := id V_b2
    have hin15 : ¬ ((0 : Int32) < 0 ∨ cl15.slots.size ≤ ((0 : Int32)).toNatClampNeg) := inb_of Sz15 ⟨by decide, by decide⟩
    refine own_go (x' := T13.setTop (mkF m 180 #[.val (.int p0), .val (.int p1), .val (.int p2), .val (.int p3), .val (.int (0 : Int32)), .val (.int s1), .val (.int u2), .val (.int s2), .val (.ref b1), .val (.ref b2), .val .null, .val .null, .val .null, .val .null, .val (.int (1 : Int32)), .val (.ref b2), .unset] [w0])) (X13.aaload hx (j := (0 : Int32)) (v := w0) (Eq.trans (congrArg (fun h_ => h_[_]?) rfl) Ar15.1) (State.isArrayOf_alike hZ.alike Ar15.2.1) rfl Ar15.2.2 hin15 (Hh15.at hin15 rfl) (g := (mkF m 179 #[.val (.int p0), .val (.int p1), .val (.int p2), .val (.int p3), .val (.int (0 : Int32)), .val (.int s1), .val (.int u2), .val (.int s2), .val (.ref b1), .val (.ref b2), .val .null, .val .null, .val .null, .val .null, .val (.int (1 : Int32)), .val (.ref b2), .unset] [(.int (0 : Int32)), (.ref b2)])) rfl rfl (hb hby at_179)) ?_
    refine own_go (x' := T13.setTop (mkF m 187 #[.val (.int p0), .val (.int p1), .val (.int p2), .val (.int p3), .val (.int (0 : Int32)), .val (.int s1), .val (.int u2), .val (.int s2), .val (.ref b1), .val (.ref b2), .val .null, .val .null, .val .null, .val .null, .val (.int (1 : Int32)), .val (.ref b2), .unset] [(.int s2), (.int u2), (.int (0 : Int32)), .null, w0])) (fun _ k => XS.aload X13.here hx rfl (hb hby at_180) rfl rfl (XS.iconst X13.here hx rfl (hb hby at_182) (XS.iload X13.here hx rfl (hb hby at_183) rfl (XS.iload X13.here hx rfl (hb hby at_185) rfl k)))) ?_
    obtain ⟨_, _, ⟨T16, L16, k16, n16⟩, -, X16, ⟨Lc16, hQ16, l16, y16, z16⟩, st16⟩ := Jvm.LawKit.callS X13 hx (y := (⟨"com/example/wee_match/weematch/WindowsBytesPinLaw", "slot", "([B[BIII)Z"⟩ : MethodName)) hown (mvT hZ (own_w hw 25 rfl)) (mvT hZ (own_w hw 26 rfl)) (mvT hZ (own_w hw 27 rfl)) (mvT hZ (own_w hw 28 rfl)) (by decide) (backOf (W := 0) (rm4nz l Z a0 hw [] w0 (0 : Int32) u2 s2 T13.heap n0 Zs R0 (by decide)) hZ (own_w hw 28 rfl) (own_w hw 27 rfl) (by decide) (by decide)) (g := (mkF m 187 #[.val (.int p0), .val (.int p1), .val (.int p2), .val (.int p3), .val (.int (0 : Int32)), .val (.int s1), .val (.int u2), .val (.int s2), .val (.ref b1), .val (.ref b2), .val .null, .val .null, .val .null, .val .null, .val (.int (1 : Int32)), .val (.ref b2), .unset] [(.int s2), (.int u2), (.int (0 : Int32)), .null, w0])) rfl (by rw [hml]; rfl) (argsL := [w0, .null, (.int (0 : Int32)), (.int u2), (.int s2)]) (rest := []) (lenOf pd_2 rfl) rfl (by show 2 * 0 + _ ≤ _; exact Nat.le_of_eq rfl) (hb hby at_187) (fun _ _ => ⟨rfl, rfl, (by decide : 8 + 0 ≤ _), (by decide : 65747 + 0 ≤ _)⟩)
    dsimp only [Pt.U, Pt.locs, Pt.cells, Pt.slots] at X16 l16 y16 z16 st16 hQ16
    subst l16 y16 z16
    obtain ⟨hv16, Nq16, eq16⟩ := hQ16
    subst hv16
    replace Nf := Fr.app Nf Nq16
    refine own_go (x' := T16.setTop (mkF m 190 #[.val (.int p0), .val (.int p1), .val (.int p2), .val (.int p3), .val (.int (0 : Int32)), .val (.int s1), .val (.int u2), .val (.int s2), .val (.ref b1), .val (.ref b2), .val .null, .val .null, .val .null, .val .null, .val (.int (1 : Int32)), .val (.ref b2), .unset] [(.int (1 : Int32))])) st16 ?_
    refine own_go (x' := T16.setTop (mkF m 196 #[.val (.int p0), .val (.int p1), .val (.int p2), .val (.int p3), .val (.int (0 : Int32)), .val (.int s1), .val (.int u2), .val (.int s2), .val (.ref b1), .val (.ref b2), .val .null, .val .null, .val .null, .val .null, .val (.int (1 : Int32)), .val (.ref b2), .unset] [(.int (1 : Int32)), (.ref b2)])) (fun _ k => XS.ifNo X16.here hx rfl (hb hby at_190) rfl ((if0 _ _).trans (feq (by decide +kernel : ¬ ((1 : Int32) = (0 : Int32)))).1) (XS.aload X16.here hx rfl (hb hby at_193) rfl rfl (XS.iconst X16.here hx rfl (hb hby at_195) k))) ?_
    obtain ⟨cl17, Ar17, q17, Sz17, Nn17, Hh17, Gg17⟩ := id V_b2
    have hin17 : ¬ ((1 : Int32) < 0 ∨ cl17.slots.size ≤ ((1 : Int32)).toNatClampNeg) := inb_of Sz17 ⟨by decide, by decide⟩
    refine own_go (x' := T16.setTop (mkF m 197 #[.val (.int p0), .val (.int p1), .val (.int p2), .val (.int p3), .val (.int (0 : Int32)), .val (.int s1), .val (.int u2), .val (.int s2), .val (.ref b1), .val (.ref b2), .val .null, .val .null, .val .null, .val .null, .val (.int (1 : Int32)), .val (.ref b2), .unset] [w1])) (X16.aaload hx (j := (1 : Int32)) (v := w1) (Eq.trans (congrArg (fun h_ => h_[_]?) eq16) Ar17.1) (State.isArrayOf_alike hZ.alike Ar17.2.1) rfl Ar17.2.2 hin17 (Hh17.at hin17 rfl) (g := (mkF m 196 #[.val (.int p0), .val (.int p1), .val (.int p2), .val (.int p3), .val (.int (0 : Int32)), .val (.int s1), .val (.int u2), .val (.int s2), .val (.ref b1), .val (.ref b2), .val .null, .val .null, .val .null, .val .null, .val (.int (1 : Int32)), .val (.ref b2), .unset] [(.int (1 : Int32)), (.ref b2)])) rfl rfl (hb hby at_196)) ?_
    refine own_go (x' := T16.setTop (mkF m 204 #[.val (.int p0), .val (.int p1), .val (.int p2), .val (.int p3), .val (.int (0 : Int32)), .val (.int s1), .val (.int u2), .val (.int s2), .val (.ref b1), .val (.ref b2), .val .null, .val .null, .val .null, .val .null, .val (.int (1 : Int32)), .val (.ref b2), .unset] [(.int s2), (.int u2), (.int (1 : Int32)), .null, w1])) (fun _ k => XS.aload X16.here hx rfl (hb hby at_197) rfl rfl (XS.iconst X16.here hx rfl (hb hby at_199) (XS.iload X16.here hx rfl (hb hby at_200) rfl (XS.iload X16.here hx rfl (hb hby at_202) rfl k)))) ?_
    obtain ⟨_, _, ⟨T18, L18, k18, n18⟩, -, X18, ⟨Lc18, hQ18, l18, y18, z18⟩, st18⟩ := Jvm.LawKit.callS X16 hx (y := (⟨"com/example/wee_match/weematch/WindowsBytesPinLaw", "slot", "([B[BIII)Z"⟩ : MethodName)) hown (mvT hZ (own_w hw 25 rfl)) (mvT hZ (own_w hw 26 rfl)) (mvT hZ (own_w hw 27 rfl)) (mvT hZ (own_w hw 28 rfl)) (by decide) (backOf (W := 0) (rm4no l Z a0 hw [] w1 (1 : Int32) u2 s2 T13.heap n0 Zs R1 (by decide)) hZ (own_w hw 28 rfl) (own_w hw 27 rfl) (by decide) (by decide)) (g := (mkF m 204 #[.val (.int p0), .val (.int p1), .val (.int p2), .val (.int p3), .val (.int (0 : Int32)), .val (.int s1), .val (.int u2), .val (.int s2), .val (.ref b1), .val (.ref b2), .val .null, .val .null, .val .null, .val .null, .val (.int (1 : Int32)), .val (.ref b2), .unset] [(.int s2), (.int u2), (.int (1 : Int32)), .null, w1])) rfl (by rw [hml]; rfl) (argsL := [w1, .null, (.int (1 : Int32)), (.int u2), (.int s2)]) (rest := []) (lenOf pd_2 rfl) rfl (by show 2 * 0 + _ ≤ _; exact Nat.le_of_eq rfl) (hb hby at_204) (fun _ _ => ⟨rfl, eq16, (by decide : 8 + 0 ≤ _), (by decide : 65747 + 0 ≤ _)⟩)
    dsimp only [Pt.U, Pt.locs, Pt.cells, Pt.slots] at X18 l18 y18 z18 st18 hQ18
    subst l18 y18 z18
    obtain ⟨hv18, Nq18, eq18⟩ := hQ18
    subst hv18
    replace Nf := Fr.app Nf Nq18
    refine own_go (x' := T18.setTop (mkF m 207 #[.val (.int p0), .val (.int p1), .val (.int p2), .val (.int p3), .val (.int (0 : Int32)), .val (.int s1), .val (.int u2), .val (.int s2), .val (.ref b1), .val (.ref b2), .val .null, .val .null, .val .null, .val .null, .val (.int (1 : Int32)), .val (.ref b2), .unset] [(.int (1 : Int32))])) st18 ?_
    refine own_go (x' := T18.setTop (mkF m 213 #[.val (.int p0), .val (.int p1), .val (.int p2), .val (.int p3), .val (.int (0 : Int32)), .val (.int s1), .val (.int u2), .val (.int s2), .val (.ref b1), .val (.ref b2), .val .null, .val .null, .val .null, .val .null, .val (.int (1 : Int32)), .val (.ref b2), .unset] [(.int (2 : Int32)), (.ref b2)])) (fun _ k => XS.ifNo X18.here hx rfl (hb hby at_207) rfl ((if0 _ _).trans (feq (by decide +kernel : ¬ ((1 : Int32) = (0 : Int32)))).1) (XS.aload X18.here hx rfl (hb hby at_210) rfl rfl (XS.iconst X18.here hx rfl (hb hby at_212) k))) ?_
    obtain ⟨cl19, Ar19, q19, Sz19, Nn19, Hh19, Gg19⟩ := id V_b2
    have hin19 : ¬ ((2 : Int32) < 0 ∨ cl19.slots.size ≤ ((2 : Int32)).toNatClampNeg) := inb_of Sz19 ⟨by decide, by decide⟩
    refine own_go (x' := T18.setTop (mkF m 214 #[.val (.int p0), .val (.int p1), .val (.int p2), .val (.int p3), .val (.int (0 : Int32)), .val (.int s1), .val (.int u2), .val (.int s2), .val (.ref b1), .val (.ref b2), .val .null, .val .null, .val .null, .val .null, .val (.int (1 : Int32)), .val (.ref b2), .unset] [w2])) (X18.aaload hx (j := (2 : Int32)) (v := w2) (Eq.trans (congrArg (fun h_ => h_[_]?) eq18) Ar19.1) (State.isArrayOf_alike hZ.alike Ar19.2.1) rfl Ar19.2.2 hin19 (Hh19.at hin19 rfl) (g := (mkF m 213 #[.val (.int p0), .val (.int p1), .val (.int p2), .val (.int p3), .val (.int (0 : Int32)), .val (.int s1), .val (.int u2), .val (.int s2), .val (.ref b1), .val (.ref b2), .val .null, .val .null, .val .null, .val .null, .val (.int (1 : Int32)), .val (.ref b2), .unset] [(.int (2 : Int32)), (.ref b2)])) rfl rfl (hb hby at_213)) ?_
    refine own_go (x' := T18.setTop (mkF m 221 #[.val (.int p0), .val (.int p1), .val (.int p2), .val (.int p3), .val (.int (0 : Int32)), .val (.int s1), .val (.int u2), .val (.int s2), .val (.ref b1), .val (.ref b2), .val .null, .val .null, .val .null, .val .null, .val (.int (1 : Int32)), .val (.ref b2), .unset] [(.int s2), (.int u2), (.int (2 : Int32)), .null, w2])) (fun _ k => XS.aload X18.here hx rfl (hb hby at_214) rfl rfl (XS.iconst X18.here hx rfl (hb hby at_216) (XS.iload X18.here hx rfl (hb hby at_217) rfl (XS.iload X18.here hx rfl (hb hby at_219) rfl k)))) ?_
    obtain ⟨_, _, ⟨T20, L20, k20, n20⟩, -, X20, ⟨Lc20, hQ20, l20, y20, z20⟩, st20⟩ := Jvm.LawKit.callS X18 hx (y := (⟨"com/example/wee_match/weematch/WindowsBytesPinLaw", "slot", "([B[BIII)Z"⟩ : MethodName)) hown (mvT hZ (own_w hw 25 rfl)) (mvT hZ (own_w hw 26 rfl)) (mvT hZ (own_w hw 27 rfl)) (mvT hZ (own_w hw 28 rfl)) (by decide) (backOf (W := 0) (rm4no l Z a0 hw [] w2 (2 : Int32) u2 s2 T13.heap n0 Zs R2 (by decide)) hZ (own_w hw 28 rfl) (own_w hw 27 rfl) (by decide) (by decide)) (g := (mkF m 221 #[.val (.int p0), .val (.int p1), .val (.int p2), .val (.int p3), .val (.int (0 : Int32)), .val (.int s1), .val (.int u2), .val (.int s2), .val (.ref b1), .val (.ref b2), .val .null, .val .null, .val .null, .val .null, .val (.int (1 : Int32)), .val (.ref b2), .unset] [(.int s2), (.int u2), (.int (2 : Int32)), .null, w2])) rfl (by rw [hml]; rfl) (argsL := [w2, .null, (.int (2 : Int32)), (.int u2), (.int s2)]) (rest := []) (lenOf pd_2 rfl) rfl (by show 2 * 0 + _ ≤ _; exact Nat.le_of_eq rfl) (hb hby at_221) (fun _ _ => ⟨rfl, eq18, (by decide : 8 + 0 ≤ _), (by decide : 65747 + 0 ≤ _)⟩)
    dsimp only [Pt.U, Pt.locs, Pt.cells, Pt.slots] at X20 l20 y20 z20 st20 hQ20
    subst l20 y20 z20
    obtain ⟨hv20, Nq20, eq20⟩ := hQ20
    subst hv20
    replace Nf := Fr.app Nf Nq20
    refine own_go (x' := T20.setTop (mkF m 224 #[.val (.int p0), .val (.int p1), .val (.int p2), .val (.int p3), .val (.int (0 : Int32)), .val (.int s1), .val (.int u2), .val (.int s2), .val (.ref b1), .val (.ref b2), .val .null, .val .null, .val .null, .val .null, .val (.int (1 : Int32)), .val (.ref b2), .unset] [(.int (1 : Int32))])) st20 ?_
    refine own_go (x' := T20.setTop (mkF m 230 #[.val (.int p0), .val (.int p1), .val (.int p2), .val (.int p3), .val (.int (0 : Int32)), .val (.int s1), .val (.int u2), .val (.int s2), .val (.ref b1), .val (.ref b2), .val .null, .val .null, .val .null, .val .null, .val (.int (1 : Int32)), .val (.ref b2), .unset] [(.int (3 : Int32)), (.ref b2)])) (fun _ k => XS.ifNo X20.here hx rfl (hb hby at_224) rfl ((if0 _ _).trans (feq (by decide +kernel : ¬ ((1 : Int32) = (0 : Int32)))).1) (XS.aload X20.here hx rfl (hb hby at_227) rfl rfl (XS.iconst X20.here hx rfl (hb hby at_229) k))) ?_
    obtain ⟨cl21, Ar21, q21, Sz21, Nn21, Hh21, Gg21⟩ := id V_b2
    have hin21 : ¬ ((3 : Int32) < 0 ∨ cl21.slots.size ≤ ((3 : Int32)).toNatClampNeg) := inb_of Sz21 ⟨by decide, by decide⟩
    refine own_go (x' := T20.setTop (mkF m 231 #[.val (.int p0), .val (.int p1), .val (.int p2), .val (.int p3), .val (.int (0 : Int32)), .val (.int s1), .val (.int u2), .val (.int s2), .val (.ref b1), .val (.ref b2), .val .null, .val .null, .val .null, .val .null, .val (.int (1 : Int32)), .val (.ref b2), .unset] [w3])) (X20.aaload hx (j := (3 : Int32)) (v := w3) (Eq.trans (congrArg (fun h_ => h_[_]?) eq20) Ar21.1) (State.isArrayOf_alike hZ.alike Ar21.2.1) rfl Ar21.2.2 hin21 (Hh21.at hin21 rfl) (g := (mkF m 230 #[.val (.int p0), .val (.int p1), .val (.int p2), .val (.int p3), .val (.int (0 : Int32)), .val (.int s1), .val (.int u2), .val (.int s2), .val (.ref b1), .val (.ref b2), .val .null, .val .null, .val .null, .val .null, .val (.int (1 : Int32)), .val (.ref b2), .unset] [(.int (3 : Int32)), (.ref b2)])) rfl rfl (hb hby at_230)) ?_
    refine own_go (x' := T20.setTop (mkF m 238 #[.val (.int p0), .val (.int p1), .val (.int p2), .val (.int p3), .val (.int (0 : Int32)), .val (.int s1), .val (.int u2), .val (.int s2), .val (.ref b1), .val (.ref b2), .val .null, .val .null, .val .null, .val .null, .val (.int (1 : Int32)), .val (.ref b2), .unset] [(.int s2), (.int u2), (.int (3 : Int32)), .null, w3])) (fun _ k => XS.aload X20.here hx rfl (hb hby at_231) rfl rfl (XS.iconst X20.here hx rfl (hb hby at_233) (XS.iload X20.here hx rfl (hb hby at_234) rfl (XS.iload X20.here hx rfl (hb hby at_236) rfl k)))) ?_
    obtain ⟨_, _, ⟨T22, L22, k22, n22⟩, -, X22, ⟨Lc22, hQ22, l22, y22, z22⟩, st22⟩ := Jvm.LawKit.callS X20 hx (y := (⟨"com/example/wee_match/weematch/WindowsBytesPinLaw", "slot", "([B[BIII)Z"⟩ : MethodName)) hown (mvT hZ (own_w hw 25 rfl)) (mvT hZ (own_w hw 26 rfl)) (mvT hZ (own_w hw 27 rfl)) (mvT hZ (own_w hw 28 rfl)) (by decide) (backOf (W := 0) (rm4no l Z a0 hw [] w3 (3 : Int32) u2 s2 T13.heap n0 Zs R3 (by decide)) hZ (own_w hw 28 rfl) (own_w hw 27 rfl) (by decide) (by decide)) (g := (mkF m 238 #[.val (.int p0), .val (.int p1), .val (.int p2), .val (.int p3), .val (.int (0 : Int32)), .val (.int s1), .val (.int u2), .val (.int s2), .val (.ref b1), .val (.ref b2), .val .null, .val .null, .val .null, .val .null, .val (.int (1 : Int32)), .val (.ref b2), .unset] [(.int s2), (.int u2), (.int (3 : Int32)), .null, w3])) rfl (by rw [hml]; rfl) (argsL := [w3, .null, (.int (3 : Int32)), (.int u2), (.int s2)]) (rest := []) (lenOf pd_2 rfl) rfl (by show 2 * 0 + _ ≤ _; exact Nat.le_of_eq rfl) (hb hby at_238) (fun _ _ => ⟨rfl, eq20, (by decide : 8 + 0 ≤ _), (by decide : 65747 + 0 ≤ _)⟩)
    dsimp only [Pt.U, Pt.locs, Pt.cells, Pt.slots] at X22 l22 y22 z22 st22 hQ22
    subst l22 y22 z22
    obtain ⟨hv22, Nq22, eq22⟩ := hQ22
    subst hv22
    replace Nf := Fr.app Nf Nq22
    refine own_go (x' := T22.setTop (mkF m 241 #[.val (.int p0), .val (.int p1), .val (.int p2), .val (.int p3), .val (.int (0 : Int32)), .val (.int s1), .val (.int u2), .val (.int s2), .val (.ref b1), .val (.ref b2), .val .null, .val .null, .val .null, .val .null, .val (.int (1 : Int32)), .val (.ref b2), .unset] [(.int (1 : Int32))])) st22 ?_
    refine own_go (x' := T22.setTop (mkF m 256 #[.val (.int p0), .val (.int p1), .val (.int p2), .val (.int p3), .val (.int (0 : Int32)), .val (.int s1), .val (.int u2), .val (.int s2), .val (.ref b1), .val (.ref b2), .val .null, .val .null, .val .null, .val .null, .val (.int (1 : Int32)), .val (.ref b2), .val (.int (1 : Int32))] [])) (fun _ k => XS.ifNo X22.here hx rfl (hb hby at_241) rfl ((if0 _ _).trans (feq (by decide +kernel : ¬ ((1 : Int32) = (0 : Int32)))).1) (XS.iconst X22.here hx rfl (hb hby at_244) (XS.goto X22.here hx rfl (pc0 := 245) (pc' := 249) rfl (hb hby at_245) (by decide) (by decide) (XS.istore X22.here hx rfl (hb hby at_249) rfl (l' := #[.val (.int p0), .val (.int p1), .val (.int p2), .val (.int p3), .val (.int (0 : Int32)), .val (.int s1), .val (.int u2), .val (.int s2), .val (.ref b1), .val (.ref b2), .val .null, .val .null, .val .null, .val .null, .val (.int (1 : Int32)), .val (.ref b2), .val (.int (1 : Int32))]) rfl (XS.iload X22.here hx rfl (hb hby at_251) rfl (XS.ifNo X22.here hx rfl (hb hby at_253) rfl ((if0 _ _).trans (feq (by decide +kernel : ¬ ((1 : Int32) = (0 : Int32)))).1) k)))))) ?_
    refine own_go (x' := T22.setTop (mkF m 266 #[.val (.int p0), .val (.int p1), .val (.int p2), .val (.int p3), .val (.int (0 : Int32)), .val (.int s1), .val (.int u2), .val (.int s2), .val (.ref b1), .val (.ref b2), .val .null, .val .null, .val .null, .val .null, .val (.int (1 : Int32)), .val (.ref b2), .val (.int (1 : Int32))] [(.int (1 : Int32))])) (fun _ k => XS.iload X22.here hx rfl (hb hby at_256) rfl (XS.ifNo X22.here hx rfl (hb hby at_258) rfl ((if0 _ _).trans (feq (by decide +kernel : ¬ ((1 : Int32) = (0 : Int32)))).1) (XS.iconst X22.here hx rfl (hb hby at_261) (XS.goto X22.here hx rfl (pc0 := 262) (pc' := 266) rfl (hb hby at_262) (by decide) (by decide) k)))) ?_
    refine own_retN X22 hx hlk (t := .boolean) hret (by simp) (hb hby at_266) (w := (1 : Int32)) rfl ?_ (by decide) (by decide)
    rw [eq22]
    exact ⟨rfl, Nf⟩
  · rw [hq]
    obtain ⟨T23, h23, X23, e23, E23, A23, D23, -, st23⟩ := newO X0 hx hZ hown (own_w hw 0 rfl) (own_w hw 1 rfl) (own_w hw 2 rfl) e0 (g := (mkF m 30 #[.val (.int p0), .val (.int p1), .val (.int p2), .val (.int p3), .val (.int (1 : Int32)), .val (.int s1), .val (.int u2), .val (.int s2), .unset, .unset, .unset, .unset, .unset, .unset, .unset, .unset, .unset] [])) rfl (hb hby at_30) (by decide) (by decide)
    obtain ⟨b23, g23⟩ : ∃ z, z = h0.size := ⟨_, rfl⟩
    rw [← g23] at A23 D23 st23
    have g_b23 : n0 ≤ b23 := Nat.le_trans Zs (Nat.le_of_eq g23.symm)
    replace Zs := Nat.le_trans Zs E23.1
    have E_b23 := A23
    have F_b23_bytes : Fld Z h23 b23 "com/example/wee_match/weematch/Sieve$Windows" "bytes" "[[B" .null := D23 (Or.inr (own_w hw 12 rfl)) (ty := (.array (.array .byte))) (by decide)
    have F_b23_chars : Fld Z h23 b23 "com/example/wee_match/weematch/Sieve$Windows" "chars" "[[C" .null := D23 (Or.inr (own_w hw 16 rfl)) (ty := (.array (.array .char))) (by decide)
    have F_b23_starts : Fld Z h23 b23 "com/example/wee_match/weematch/Sieve$Windows" "starts" "[I" .null := D23 (Or.inl (own_w hw 19 rfl)) (ty := (.array .int)) (by decide)
    refine own_go (x' := T23.setTop (mkF m 33 #[.val (.int p0), .val (.int p1), .val (.int p2), .val (.int p3), .val (.int (1 : Int32)), .val (.int s1), .val (.int u2), .val (.int s2), .unset, .unset, .unset, .unset, .unset, .unset, .unset, .unset, .unset] [(.ref b23)])) st23 ?_
    refine own_go (x' := T23.setTop (mkF m 34 #[.val (.int p0), .val (.int p1), .val (.int p2), .val (.int p3), .val (.int (1 : Int32)), .val (.int s1), .val (.int u2), .val (.int s2), .unset, .unset, .unset, .unset, .unset, .unset, .unset, .unset, .unset] [(.ref b23), (.ref b23)])) (fun _ k => XS.dup X23.here hx rfl (hb hby at_33) rfl rfl k) ?_
    obtain ⟨_, _, ⟨T24, L24, k24, n24⟩, -, X24, ⟨Lc24, hQ24, l24, y24, z24⟩, st24⟩ := X23.specialBack hx (y := (⟨"com/example/wee_match/weematch/Sieve$Windows", "<init>", "()V"⟩ : MethodName)) rfl hown (mvT hZ (own_w hw 3 rfl)) (mvT hZ (own_w hw 4 rfl)) (mvT hZ (own_w hw 5 rfl)) (by decide) (backOf (W := 1) (rm1 l Z a0 hw [] b23 h23 n0 Zs E_b23 F_b23_bytes F_b23_chars F_b23_starts g_b23) hZ (own_w hw 5 rfl) (own_w hw 2 rfl) (by decide) (by decide)) (g := (mkF m 34 #[.val (.int p0), .val (.int p1), .val (.int p2), .val (.int p3), .val (.int (1 : Int32)), .val (.int s1), .val (.int u2), .val (.int s2), .unset, .unset, .unset, .unset, .unset, .unset, .unset, .unset, .unset] [(.ref b23), (.ref b23)])) rfl (by rw [hml]; rfl) (Steps.refl _) (a := b23) (argsL := []) (rest := [(.ref b23)]) (lenOf pd_0 rfl) rfl (by show 2 * 0 + _ ≤ _; exact Nat.le_of_eq rfl) (hb hby at_34) (fun _ _ => ⟨rfl, e23, (by decide : 1 + 3 ≤ _), (by decide : 7 + 144 ≤ _)⟩)
    dsimp only [Pt.U, Pt.locs, Pt.cells, Pt.slots] at X24 l24 y24 z24 st24 hQ24
    subst l24 y24 z24
    obtain ⟨b24, kc24, hv24, Nq24, K24, sq24, g_b24, Eo24, Fs24, V_b24, O_b24⟩ := hQ24
    subst hv24
    replace Nf := Fr.app Nf Nq24
    have ne_b23_b24 : b23 ≠ b24 := Nat.ne_of_lt (Nat.lt_of_lt_of_le E_b23.lt sq24)
    replace Zs := Nat.le_trans Zs K24.1
    replace E_b23 := Eo24
    replace F_b23_bytes := Fs24
    refine own_go (x' := T24.setTop (mkF m 37 #[.val (.int p0), .val (.int p1), .val (.int p2), .val (.int p3), .val (.int (1 : Int32)), .val (.int s1), .val (.int u2), .val (.int s2), .unset, .unset, .unset, .unset, .unset, .unset, .unset, .unset, .unset] [(.ref b23)])) (fun _ k => st24.trans k) ?_
    refine own_go (x' := T24.setTop (mkF m 45 #[.val (.int p0), .val (.int p1), .val (.int p2), .val (.int p3), .val (.int (1 : Int32)), .val (.int s1), .val (.int u2), .val (.int s2), .val (.ref b23), .unset, .unset, .unset, .unset, .unset, .unset, .unset, .unset] [(.int s1), (.int (1 : Int32)), (.ref b23)])) (fun _ k => XS.astore X24.here hx rfl (hb hby at_37) rfl rfl (l' := #[.val (.int p0), .val (.int p1), .val (.int p2), .val (.int p3), .val (.int (1 : Int32)), .val (.int s1), .val (.int u2), .val (.int s2), .val (.ref b23), .unset, .unset, .unset, .unset, .unset, .unset, .unset, .unset]) rfl (XS.aload X24.here hx rfl (hb hby at_39) rfl rfl (XS.iload X24.here hx rfl (hb hby at_41) rfl (XS.iload X24.here hx rfl (hb hby at_43) rfl k)))) ?_
    have q25b_lt := E_b23.lt
    obtain ⟨cq25, kq25, q25a, q25b, q25c⟩ := isOf hZ rfl E_b23
    obtain ⟨_, _, ⟨T25, L25, k25, n25⟩, -, X25, ⟨Lc25, hQ25, l25, y25, z25⟩, st25⟩ := X24.virtualBack hx (y := (⟨"com/example/wee_match/weematch/Sieve$Windows", "bytes", "(II)[[B"⟩ : MethodName)) (z := (⟨"com/example/wee_match/weematch/Sieve$Windows", "bytes", "(II)[[B"⟩ : MethodName)) hown (mvT hZ (own_w hw 20 rfl)) (mvT hZ (own_w hw 21 rfl)) (notFace_of_selects (args := #[]) (mvT hZ (own_w hw 23 rfl))) (mvT hZ (own_w hw 23 rfl)) (mvT hZ (own_w hw 22 rfl)) (by decide) (backOf (W := 0) (rmF_1 l Z a0 hw [] b23 s1 b24 kc24 T24.heap n0 Zs F_b23_bytes V_b24 O_b24 ne_b23_b24 g_b24 hs1 ht1) hZ (own_w hw 24 rfl) (own_w hw 2 rfl) (by decide) (by decide)) q25a q25c (g := (mkF m 45 #[.val (.int p0), .val (.int p1), .val (.int p2), .val (.int p3), .val (.int (1 : Int32)), .val (.int s1), .val (.int u2), .val (.int s2), .val (.ref b23), .unset, .unset, .unset, .unset, .unset, .unset, .unset, .unset] [(.int s1), (.int (1 : Int32)), (.ref b23)])) rfl (by rw [hml]; rfl) (Steps.refl _) (argsL := [(.int (1 : Int32)), (.int s1)]) (rest := []) (lenOf pd_1 rfl) rfl (by show 2 * 0 + _ ≤ _; exact Nat.le_of_eq rfl) (hb hby at_45) (fun _ _ => ⟨rfl, rfl, (by decide : 4 + 1 ≤ _), (by decide : 151 + 16447 ≤ _)⟩)
    dsimp only [Pt.U, Pt.locs, Pt.cells, Pt.slots] at X25 l25 y25 z25 st25 hQ25
    subst l25 y25 z25
    obtain ⟨c0, kk0, hv25, Nq25, K25, Fs25, Vn25, sq_c0, g_c0, V_c0⟩ := hQ25
    subst hv25
    replace Nf := Fr.app Nf Nq25
    replace E_b23 := E_b23.keep K25
    replace Zs := Nat.le_trans Zs K25.1
    replace V_b24 := Vn25
    replace F_b23_bytes := Fs25
    have ne_c0_b24 : c0 ≠ b24 := own_two V_c0 V_b24 (by decide)
    have ne_b23_c0 : b23 ≠ c0 := Nat.ne_of_lt (Nat.lt_of_lt_of_le q25b_lt sq_c0)
    refine own_go (x' := T25.setTop (mkF m 48 #[.val (.int p0), .val (.int p1), .val (.int p2), .val (.int p3), .val (.int (1 : Int32)), .val (.int s1), .val (.int u2), .val (.int s2), .val (.ref b23), .unset, .unset, .unset, .unset, .unset, .unset, .unset, .unset] [(.ref b24)])) (fun _ k => st25.trans k) ?_
    refine own_go (x' := T25.setTop (mkF m 57 #[.val (.int p0), .val (.int p1), .val (.int p2), .val (.int p3), .val (.int (1 : Int32)), .val (.int s1), .val (.int u2), .val (.int s2), .val (.ref b23), .val (.ref b24), .unset, .unset, .unset, .unset, .unset, .unset, .unset] [(.ref b24)])) (fun _ k => XS.astore X25.here hx rfl (hb hby at_48) rfl rfl (l' := #[.val (.int p0), .val (.int p1), .val (.int p2), .val (.int p3), .val (.int (1 : Int32)), .val (.int s1), .val (.int u2), .val (.int s2), .val (.ref b23), .val (.ref b24), .unset, .unset, .unset, .unset, .unset, .unset, .unset]) rfl (XS.aload X25.here hx rfl (hb hby at_50) rfl rfl (XS.ifnullNo X25.here hx rfl (hb hby at_52) rfl (XS.aload X25.here hx rfl (hb hby at_55) rfl rfl k)))) ?_
    obtain ⟨cl26, Ar26, -, Sz26, Nn26, -, -⟩ := id V_b24
    refine own_go (x' := T25.setTop (mkF m 58 #[.val (.int p0), .val (.int p1), .val (.int p2), .val (.int p3), .val (.int (1 : Int32)), .val (.int s1), .val (.int u2), .val (.int s2), .val (.ref b23), .val (.ref b24), .unset, .unset, .unset, .unset, .unset, .unset, .unset] [(.int (4 : Int32))])) (fun t k => X25.arraylength hx (Eq.trans (congrArg (fun h_ => h_[_]?) rfl) Ar26.1) (State.isArrayOf_alike hZ.alike Ar26.2.1) (g := (mkF m 57 #[.val (.int p0), .val (.int p1), .val (.int p2), .val (.int p3), .val (.int (1 : Int32)), .val (.int s1), .val (.int u2), .val (.int s2), .val (.ref b23), .val (.ref b24), .unset, .unset, .unset, .unset, .unset, .unset, .unset] [(.ref b24)])) rfl rfl (hb hby at_57) t (by rw [len_of Sz26 Nn26]; exact k)) ?_
    refine own_go (x' := T25.setTop (mkF m 67 #[.val (.int p0), .val (.int p1), .val (.int p2), .val (.int p3), .val (.int (1 : Int32)), .val (.int s1), .val (.int u2), .val (.int s2), .val (.ref b23), .val (.ref b24), .unset, .unset, .unset, .unset, .unset, .unset, .unset] [(.int (0 : Int32)), (.ref b24)])) (fun _ k => XS.iconst X25.here hx rfl (hb hby at_58) (XS.icmpYes X25.here hx rfl (pc0 := 59) (pc' := 64) rfl (hb hby at_59) rfl (teq rfl).1 (by decide) (by decide) (XS.aload X25.here hx rfl (hb hby at_64) rfl rfl (XS.iconst X25.here hx rfl (hb hby at_66) k)))) ?_
    obtain ⟨cl27, Ar27, q27, Sz27, Nn27, Hh27, Gg27⟩ := id V_b24
    have hin27 : ¬ ((0 : Int32) < 0 ∨ cl27.slots.size ≤ ((0 : Int32)).toNatClampNeg) := inb_of Sz27 ⟨by decide, by decide⟩
    refine own_go (x' := T25.setTop (mkF m 68 #[.val (.int p0), .val (.int p1), .val (.int p2), .val (.int p3), .val (.int (1 : Int32)), .val (.int s1), .val (.int u2), .val (.int s2), .val (.ref b23), .val (.ref b24), .unset, .unset, .unset, .unset, .unset, .unset, .unset] [(.ref c0)])) (X25.aaload hx (j := (0 : Int32)) (v := (.ref c0)) (Eq.trans (congrArg (fun h_ => h_[_]?) rfl) Ar27.1) (State.isArrayOf_alike hZ.alike Ar27.2.1) rfl Ar27.2.2 hin27 (Hh27.at hin27 rfl) (g := (mkF m 67 #[.val (.int p0), .val (.int p1), .val (.int p2), .val (.int p3), .val (.int (1 : Int32)), .val (.int s1), .val (.int u2), .val (.int s2), .val (.ref b23), .val (.ref b24), .unset, .unset, .unset, .unset, .unset, .unset, .unset] [(.int (0 : Int32)), (.ref b24)])) rfl rfl (hb hby at_67)) ?_
    refine own_go (x' := T25.setTop (mkF m 73 #[.val (.int p0), .val (.int p1), .val (.int p2), .val (.int p3), .val (.int (1 : Int32)), .val (.int s1), .val (.int u2), .val (.int s2), .val (.ref b23), .val (.ref b24), .val (.ref c0), .unset, .unset, .unset, .unset, .unset, .unset] [(.int (1 : Int32)), (.ref b24)])) (fun _ k => XS.astore X25.here hx rfl (hb hby at_68) rfl rfl (l' := #[.val (.int p0), .val (.int p1), .val (.int p2), .val (.int p3), .val (.int (1 : Int32)), .val (.int s1), .val (.int u2), .val (.int s2), .val (.ref b23), .val (.ref b24), .val (.ref c0), .unset, .unset, .unset, .unset, .unset, .unset]) rfl (XS.aload X25.here hx rfl (hb hby at_70) rfl rfl (XS.iconst X25.here hx rfl (hb hby at_72) k))) ?_
    obtain ⟨cl28, Ar28, q28, Sz28, Nn28, Hh28, Gg28⟩ := id V_b24
    have hin28 : ¬ ((1 : Int32) < 0 ∨ cl28.slots.size ≤ ((1 : Int32)).toNatClampNeg) := inb_of Sz28 ⟨by decide, by decide⟩
    refine own_go (x' := T25.setTop (mkF m 74 #[.val (.int p0), .val (.int p1), .val (.int p2), .val (.int p3), .val (.int (1 : Int32)), .val (.int s1), .val (.int u2), .val (.int s2), .val (.ref b23), .val (.ref b24), .val (.ref c0), .unset, .unset, .unset, .unset, .unset, .unset] [.null])) (X25.aaload hx (j := (1 : Int32)) (v := .null) (Eq.trans (congrArg (fun h_ => h_[_]?) rfl) Ar28.1) (State.isArrayOf_alike hZ.alike Ar28.2.1) rfl Ar28.2.2 hin28 (Hh28.at hin28 rfl) (g := (mkF m 73 #[.val (.int p0), .val (.int p1), .val (.int p2), .val (.int p3), .val (.int (1 : Int32)), .val (.int s1), .val (.int u2), .val (.int s2), .val (.ref b23), .val (.ref b24), .val (.ref c0), .unset, .unset, .unset, .unset, .unset, .unset] [(.int (1 : Int32)), (.ref b24)])) rfl rfl (hb hby at_73)) ?_
    refine own_go (x' := T25.setTop (mkF m 79 #[.val (.int p0), .val (.int p1), .val (.int p2), .val (.int p3), .val (.int (1 : Int32)), .val (.int s1), .val (.int u2), .val (.int s2), .val (.ref b23), .val (.ref b24), .val (.ref c0), .val .null, .unset, .unset, .unset, .unset, .unset] [(.int (2 : Int32)), (.ref b24)])) (fun _ k => XS.astore X25.here hx rfl (hb hby at_74) rfl rfl (l' := #[.val (.int p0), .val (.int p1), .val (.int p2), .val (.int p3), .val (.int (1 : Int32)), .val (.int s1), .val (.int u2), .val (.int s2), .val (.ref b23), .val (.ref b24), .val (.ref c0), .val .null, .unset, .unset, .unset, .unset, .unset]) rfl (XS.aload X25.here hx rfl (hb hby at_76) rfl rfl (XS.iconst X25.here hx rfl (hb hby at_78) k))) ?_
    obtain ⟨cl29, Ar29, q29, Sz29, Nn29, Hh29, Gg29⟩ := id V_b24
    have hin29 : ¬ ((2 : Int32) < 0 ∨ cl29.slots.size ≤ ((2 : Int32)).toNatClampNeg) := inb_of Sz29 ⟨by decide, by decide⟩
    refine own_go (x' := T25.setTop (mkF m 80 #[.val (.int p0), .val (.int p1), .val (.int p2), .val (.int p3), .val (.int (1 : Int32)), .val (.int s1), .val (.int u2), .val (.int s2), .val (.ref b23), .val (.ref b24), .val (.ref c0), .val .null, .unset, .unset, .unset, .unset, .unset] [.null])) (X25.aaload hx (j := (2 : Int32)) (v := .null) (Eq.trans (congrArg (fun h_ => h_[_]?) rfl) Ar29.1) (State.isArrayOf_alike hZ.alike Ar29.2.1) rfl Ar29.2.2 hin29 (Hh29.at hin29 rfl) (g := (mkF m 79 #[.val (.int p0), .val (.int p1), .val (.int p2), .val (.int p3), .val (.int (1 : Int32)), .val (.int s1), .val (.int u2), .val (.int s2), .val (.ref b23), .val (.ref b24), .val (.ref c0), .val .null, .unset, .unset, .unset, .unset, .unset] [(.int (2 : Int32)), (.ref b24)])) rfl rfl (hb hby at_79)) ?_
    refine own_go (x' := T25.setTop (mkF m 85 #[.val (.int p0), .val (.int p1), .val (.int p2), .val (.int p3), .val (.int (1 : Int32)), .val (.int s1), .val (.int u2), .val (.int s2), .val (.ref b23), .val (.ref b24), .val (.ref c0), .val .null, .val .null, .unset, .unset, .unset, .unset] [(.int (3 : Int32)), (.ref b24)])) (fun _ k => XS.astore X25.here hx rfl (hb hby at_80) rfl rfl (l' := #[.val (.int p0), .val (.int p1), .val (.int p2), .val (.int p3), .val (.int (1 : Int32)), .val (.int s1), .val (.int u2), .val (.int s2), .val (.ref b23), .val (.ref b24), .val (.ref c0), .val .null, .val .null, .unset, .unset, .unset, .unset]) rfl (XS.aload X25.here hx rfl (hb hby at_82) rfl rfl (XS.iconst X25.here hx rfl (hb hby at_84) k))) ?_
    obtain ⟨cl30, Ar30, q30, Sz30, Nn30, Hh30, Gg30⟩ := id V_b24
    have hin30 : ¬ ((3 : Int32) < 0 ∨ cl30.slots.size ≤ ((3 : Int32)).toNatClampNeg) := inb_of Sz30 ⟨by decide, by decide⟩
    refine own_go (x' := T25.setTop (mkF m 86 #[.val (.int p0), .val (.int p1), .val (.int p2), .val (.int p3), .val (.int (1 : Int32)), .val (.int s1), .val (.int u2), .val (.int s2), .val (.ref b23), .val (.ref b24), .val (.ref c0), .val .null, .val .null, .unset, .unset, .unset, .unset] [.null])) (X25.aaload hx (j := (3 : Int32)) (v := .null) (Eq.trans (congrArg (fun h_ => h_[_]?) rfl) Ar30.1) (State.isArrayOf_alike hZ.alike Ar30.2.1) rfl Ar30.2.2 hin30 (Hh30.at hin30 rfl) (g := (mkF m 85 #[.val (.int p0), .val (.int p1), .val (.int p2), .val (.int p3), .val (.int (1 : Int32)), .val (.int s1), .val (.int u2), .val (.int s2), .val (.ref b23), .val (.ref b24), .val (.ref c0), .val .null, .val .null, .unset, .unset, .unset, .unset] [(.int (3 : Int32)), (.ref b24)])) rfl rfl (hb hby at_85)) ?_
    refine own_go (x' := T25.setTop (mkF m 96 #[.val (.int p0), .val (.int p1), .val (.int p2), .val (.int p3), .val (.int (1 : Int32)), .val (.int s1), .val (.int u2), .val (.int s2), .val (.ref b23), .val (.ref b24), .val (.ref c0), .val .null, .val .null, .val .null, .unset, .unset, .unset] [(.int s1), (.int (1 : Int32)), (.int (0 : Int32)), .null, (.ref c0)])) (fun _ k => XS.astore X25.here hx rfl (hb hby at_86) rfl rfl (l' := #[.val (.int p0), .val (.int p1), .val (.int p2), .val (.int p3), .val (.int (1 : Int32)), .val (.int s1), .val (.int u2), .val (.int s2), .val (.ref b23), .val (.ref b24), .val (.ref c0), .val .null, .val .null, .val .null, .unset, .unset, .unset]) rfl (XS.aload X25.here hx rfl (hb hby at_88) rfl rfl (XS.aconstNull X25.here hx rfl (hb hby at_90) (XS.iconst X25.here hx rfl (hb hby at_91) (XS.iload X25.here hx rfl (hb hby at_92) rfl (XS.iload X25.here hx rfl (hb hby at_94) rfl k)))))) ?_
    obtain ⟨_, _, ⟨T31, L31, k31, n31⟩, -, X31, ⟨Lc31, hQ31, l31, y31, z31⟩, st31⟩ := Jvm.LawKit.callS X25 hx (y := (⟨"com/example/wee_match/weematch/WindowsBytesPinLaw", "slot", "([B[BIII)Z"⟩ : MethodName)) hown (mvT hZ (own_w hw 25 rfl)) (mvT hZ (own_w hw 26 rfl)) (mvT hZ (own_w hw 27 rfl)) (mvT hZ (own_w hw 28 rfl)) (by decide) (backOf (W := 0) (rm4dz l Z a0 hw [] c0 (0 : Int32) (1 : Int32) s1 kk0 T25.heap n0 Zs V_c0 (by decide) (by decide)) hZ (own_w hw 28 rfl) (own_w hw 27 rfl) (by decide) (by decide)) (g := (mkF m 96 #[.val (.int p0), .val (.int p1), .val (.int p2), .val (.int p3), .val (.int (1 : Int32)), .val (.int s1), .val (.int u2), .val (.int s2), .val (.ref b23), .val (.ref b24), .val (.ref c0), .val .null, .val .null, .val .null, .unset, .unset, .unset] [(.int s1), (.int (1 : Int32)), (.int (0 : Int32)), .null, (.ref c0)])) rfl (by rw [hml]; rfl) (argsL := [(.ref c0), .null, (.int (0 : Int32)), (.int (1 : Int32)), (.int s1)]) (rest := []) (lenOf pd_2 rfl) rfl (by show 2 * 0 + _ ≤ _; exact Nat.le_of_eq rfl) (hb hby at_96) (fun _ _ => ⟨rfl, rfl, (by decide : 5 + 0 ≤ _), (by decide : 16598 + 0 ≤ _)⟩)
    dsimp only [Pt.U, Pt.locs, Pt.cells, Pt.slots] at X31 l31 y31 z31 st31 hQ31
    subst l31 y31 z31
    obtain ⟨hv31, Nq31, eq31⟩ := hQ31
    subst hv31
    replace Nf := Fr.app Nf Nq31
    refine own_go (x' := T31.setTop (mkF m 99 #[.val (.int p0), .val (.int p1), .val (.int p2), .val (.int p3), .val (.int (1 : Int32)), .val (.int s1), .val (.int u2), .val (.int s2), .val (.ref b23), .val (.ref b24), .val (.ref c0), .val .null, .val .null, .val .null, .unset, .unset, .unset] [(.int (1 : Int32))])) st31 ?_
    refine own_go (x' := T31.setTop (mkF m 110 #[.val (.int p0), .val (.int p1), .val (.int p2), .val (.int p3), .val (.int (1 : Int32)), .val (.int s1), .val (.int u2), .val (.int s2), .val (.ref b23), .val (.ref b24), .val (.ref c0), .val .null, .val .null, .val .null, .unset, .unset, .unset] [(.int s1), (.int (1 : Int32)), (.int (1 : Int32)), .null, .null])) (fun _ k => XS.ifNo X31.here hx rfl (hb hby at_99) rfl ((if0 _ _).trans (feq (by decide +kernel : ¬ ((1 : Int32) = (0 : Int32)))).1) (XS.aload X31.here hx rfl (hb hby at_102) rfl rfl (XS.aconstNull X31.here hx rfl (hb hby at_104) (XS.iconst X31.here hx rfl (hb hby at_105) (XS.iload X31.here hx rfl (hb hby at_106) rfl (XS.iload X31.here hx rfl (hb hby at_108) rfl k)))))) ?_
    obtain ⟨_, _, ⟨T32, L32, k32, n32⟩, -, X32, ⟨Lc32, hQ32, l32, y32, z32⟩, st32⟩ := Jvm.LawKit.callS X31 hx (y := (⟨"com/example/wee_match/weematch/WindowsBytesPinLaw", "slot", "([B[BIII)Z"⟩ : MethodName)) hown (mvT hZ (own_w hw 25 rfl)) (mvT hZ (own_w hw 26 rfl)) (mvT hZ (own_w hw 27 rfl)) (mvT hZ (own_w hw 28 rfl)) (by decide) (backOf (W := 0) (rm4co l Z a0 hw [] (1 : Int32) (1 : Int32) s1 T25.heap n0 Zs (by decide) (by decide)) hZ (own_w hw 28 rfl) (own_w hw 27 rfl) (by decide) (by decide)) (g := (mkF m 110 #[.val (.int p0), .val (.int p1), .val (.int p2), .val (.int p3), .val (.int (1 : Int32)), .val (.int s1), .val (.int u2), .val (.int s2), .val (.ref b23), .val (.ref b24), .val (.ref c0), .val .null, .val .null, .val .null, .unset, .unset, .unset] [(.int s1), (.int (1 : Int32)), (.int (1 : Int32)), .null, .null])) rfl (by rw [hml]; rfl) (argsL := [.null, .null, (.int (1 : Int32)), (.int (1 : Int32)), (.int s1)]) (rest := []) (lenOf pd_2 rfl) rfl (by show 2 * 0 + _ ≤ _; exact Nat.le_of_eq rfl) (hb hby at_110) (fun _ _ => ⟨rfl, eq31, (by decide : 5 + 0 ≤ _), (by decide : 16598 + 0 ≤ _)⟩)
    dsimp only [Pt.U, Pt.locs, Pt.cells, Pt.slots] at X32 l32 y32 z32 st32 hQ32
    subst l32 y32 z32
    obtain ⟨hv32, Nq32, eq32⟩ := hQ32
    subst hv32
    replace Nf := Fr.app Nf Nq32
    refine own_go (x' := T32.setTop (mkF m 113 #[.val (.int p0), .val (.int p1), .val (.int p2), .val (.int p3), .val (.int (1 : Int32)), .val (.int s1), .val (.int u2), .val (.int s2), .val (.ref b23), .val (.ref b24), .val (.ref c0), .val .null, .val .null, .val .null, .unset, .unset, .unset] [(.int (1 : Int32))])) st32 ?_
    refine own_go (x' := T32.setTop (mkF m 124 #[.val (.int p0), .val (.int p1), .val (.int p2), .val (.int p3), .val (.int (1 : Int32)), .val (.int s1), .val (.int u2), .val (.int s2), .val (.ref b23), .val (.ref b24), .val (.ref c0), .val .null, .val .null, .val .null, .unset, .unset, .unset] [(.int s1), (.int (1 : Int32)), (.int (2 : Int32)), .null, .null])) (fun _ k => XS.ifNo X32.here hx rfl (hb hby at_113) rfl ((if0 _ _).trans (feq (by decide +kernel : ¬ ((1 : Int32) = (0 : Int32)))).1) (XS.aload X32.here hx rfl (hb hby at_116) rfl rfl (XS.aconstNull X32.here hx rfl (hb hby at_118) (XS.iconst X32.here hx rfl (hb hby at_119) (XS.iload X32.here hx rfl (hb hby at_120) rfl (XS.iload X32.here hx rfl (hb hby at_122) rfl k)))))) ?_
    obtain ⟨_, _, ⟨T33, L33, k33, n33⟩, -, X33, ⟨Lc33, hQ33, l33, y33, z33⟩, st33⟩ := Jvm.LawKit.callS X32 hx (y := (⟨"com/example/wee_match/weematch/WindowsBytesPinLaw", "slot", "([B[BIII)Z"⟩ : MethodName)) hown (mvT hZ (own_w hw 25 rfl)) (mvT hZ (own_w hw 26 rfl)) (mvT hZ (own_w hw 27 rfl)) (mvT hZ (own_w hw 28 rfl)) (by decide) (backOf (W := 0) (rm4co l Z a0 hw [] (2 : Int32) (1 : Int32) s1 T25.heap n0 Zs (by decide) (by decide)) hZ (own_w hw 28 rfl) (own_w hw 27 rfl) (by decide) (by decide)) (g := (mkF m 124 #[.val (.int p0), .val (.int p1), .val (.int p2), .val (.int p3), .val (.int (1 : Int32)), .val (.int s1), .val (.int u2), .val (.int s2), .val (.ref b23), .val (.ref b24), .val (.ref c0), .val .null, .val .null, .val .null, .unset, .unset, .unset] [(.int s1), (.int (1 : Int32)), (.int (2 : Int32)), .null, .null])) rfl (by rw [hml]; rfl) (argsL := [.null, .null, (.int (2 : Int32)), (.int (1 : Int32)), (.int s1)]) (rest := []) (lenOf pd_2 rfl) rfl (by show 2 * 0 + _ ≤ _; exact Nat.le_of_eq rfl) (hb hby at_124) (fun _ _ => ⟨rfl, eq32, (by decide : 5 + 0 ≤ _), (by decide : 16598 + 0 ≤ _)⟩)
    dsimp only [Pt.U, Pt.locs, Pt.cells, Pt.slots] at X33 l33 y33 z33 st33 hQ33
    subst l33 y33 z33
    obtain ⟨hv33, Nq33, eq33⟩ := hQ33
    subst hv33
    replace Nf := Fr.app Nf Nq33
    refine own_go (x' := T33.setTop (mkF m 127 #[.val (.int p0), .val (.int p1), .val (.int p2), .val (.int p3), .val (.int (1 : Int32)), .val (.int s1), .val (.int u2), .val (.int s2), .val (.ref b23), .val (.ref b24), .val (.ref c0), .val .null, .val .null, .val .null, .unset, .unset, .unset] [(.int (1 : Int32))])) st33 ?_
    refine own_go (x' := T33.setTop (mkF m 138 #[.val (.int p0), .val (.int p1), .val (.int p2), .val (.int p3), .val (.int (1 : Int32)), .val (.int s1), .val (.int u2), .val (.int s2), .val (.ref b23), .val (.ref b24), .val (.ref c0), .val .null, .val .null, .val .null, .unset, .unset, .unset] [(.int s1), (.int (1 : Int32)), (.int (3 : Int32)), .null, .null])) (fun _ k => XS.ifNo X33.here hx rfl (hb hby at_127) rfl ((if0 _ _).trans (feq (by decide +kernel : ¬ ((1 : Int32) = (0 : Int32)))).1) (XS.aload X33.here hx rfl (hb hby at_130) rfl rfl (XS.aconstNull X33.here hx rfl (hb hby at_132) (XS.iconst X33.here hx rfl (hb hby at_133) (XS.iload X33.here hx rfl (hb hby at_134) rfl (XS.iload X33.here hx rfl (hb hby at_136) rfl k)))))) ?_
    obtain ⟨_, _, ⟨T34, L34, k34, n34⟩, -, X34, ⟨Lc34, hQ34, l34, y34, z34⟩, st34⟩ := Jvm.LawKit.callS X33 hx (y := (⟨"com/example/wee_match/weematch/WindowsBytesPinLaw", "slot", "([B[BIII)Z"⟩ : MethodName)) hown (mvT hZ (own_w hw 25 rfl)) (mvT hZ (own_w hw 26 rfl)) (mvT hZ (own_w hw 27 rfl)) (mvT hZ (own_w hw 28 rfl)) (by decide) (backOf (W := 0) (rm4co l Z a0 hw [] (3 : Int32) (1 : Int32) s1 T25.heap n0 Zs (by decide) (by decide)) hZ (own_w hw 28 rfl) (own_w hw 27 rfl) (by decide) (by decide)) (g := (mkF m 138 #[.val (.int p0), .val (.int p1), .val (.int p2), .val (.int p3), .val (.int (1 : Int32)), .val (.int s1), .val (.int u2), .val (.int s2), .val (.ref b23), .val (.ref b24), .val (.ref c0), .val .null, .val .null, .val .null, .unset, .unset, .unset] [(.int s1), (.int (1 : Int32)), (.int (3 : Int32)), .null, .null])) rfl (by rw [hml]; rfl) (argsL := [.null, .null, (.int (3 : Int32)), (.int (1 : Int32)), (.int s1)]) (rest := []) (lenOf pd_2 rfl) rfl (by show 2 * 0 + _ ≤ _; exact Nat.le_of_eq rfl) (hb hby at_138) (fun _ _ => ⟨rfl, eq33, (by decide : 5 + 0 ≤ _), (by decide : 16598 + 0 ≤ _)⟩)
    dsimp only [Pt.U, Pt.locs, Pt.cells, Pt.slots] at X34 l34 y34 z34 st34 hQ34
    subst l34 y34 z34
    obtain ⟨hv34, Nq34, eq34⟩ := hQ34
    subst hv34
    replace Nf := Fr.app Nf Nq34
    refine own_go (x' := T34.setTop (mkF m 141 #[.val (.int p0), .val (.int p1), .val (.int p2), .val (.int p3), .val (.int (1 : Int32)), .val (.int s1), .val (.int u2), .val (.int s2), .val (.ref b23), .val (.ref b24), .val (.ref c0), .val .null, .val .null, .val .null, .unset, .unset, .unset] [(.int (1 : Int32))])) st34 ?_
    refine own_go (x' := T34.setTop (mkF m 155 #[.val (.int p0), .val (.int p1), .val (.int p2), .val (.int p3), .val (.int (1 : Int32)), .val (.int s1), .val (.int u2), .val (.int s2), .val (.ref b23), .val (.ref b24), .val (.ref c0), .val .null, .val .null, .val .null, .val (.int (1 : Int32)), .unset, .unset] [(.int u2), (.ref b23)])) (fun _ k => XS.ifNo X34.here hx rfl (hb hby at_141) rfl ((if0 _ _).trans (feq (by decide +kernel : ¬ ((1 : Int32) = (0 : Int32)))).1) (XS.iconst X34.here hx rfl (hb hby at_144) (XS.goto X34.here hx rfl (pc0 := 145) (pc' := 149) rfl (hb hby at_145) (by decide) (by decide) (XS.istore X34.here hx rfl (hb hby at_149) rfl (l' := #[.val (.int p0), .val (.int p1), .val (.int p2), .val (.int p3), .val (.int (1 : Int32)), .val (.int s1), .val (.int u2), .val (.int s2), .val (.ref b23), .val (.ref b24), .val (.ref c0), .val .null, .val .null, .val .null, .val (.int (1 : Int32)), .unset, .unset]) rfl (XS.aload X34.here hx rfl (hb hby at_151) rfl rfl (XS.iload X34.here hx rfl (hb hby at_153) rfl k)))))) ?_
    refine own_go (x' := T34.setTop (mkF m 157 #[.val (.int p0), .val (.int p1), .val (.int p2), .val (.int p3), .val (.int (1 : Int32)), .val (.int s1), .val (.int u2), .val (.int s2), .val (.ref b23), .val (.ref b24), .val (.ref c0), .val .null, .val .null, .val .null, .val (.int (1 : Int32)), .unset, .unset] [(.int s2), (.int u2), (.ref b23)])) (fun _ k => XS.iload X34.here hx rfl (hb hby at_155) rfl k) ?_
    obtain ⟨cq35, kq35, q35a, q35b, q35c⟩ := isOf hZ eq34 E_b23
    obtain ⟨_, _, ⟨T35, L35, k35, n35⟩, -, X35, ⟨Lc35, hQ35, l35, y35, z35⟩, st35⟩ := X34.virtualBack hx (y := (⟨"com/example/wee_match/weematch/Sieve$Windows", "bytes", "(II)[[B"⟩ : MethodName)) (z := (⟨"com/example/wee_match/weematch/Sieve$Windows", "bytes", "(II)[[B"⟩ : MethodName)) hown (mvT hZ (own_w hw 20 rfl)) (mvT hZ (own_w hw 21 rfl)) (notFace_of_selects (args := #[]) (mvT hZ (own_w hw 23 rfl))) (mvT hZ (own_w hw 23 rfl)) (mvT hZ (own_w hw 22 rfl)) (by decide) (backOf (W := 0) (rmS_1 l Z a0 hw [] b23 u2 s2 b24 kc24 (s1 + (64 : Int32)) s1 c0 kk0 T25.heap n0 Zs F_b23_bytes V_b24 O_b24 ne_b23_b24 g_b24 hs2 ht2 hu2 V_c0 ne_c0_b24) hZ (own_w hw 24 rfl) (own_w hw 2 rfl) (by decide) (by decide)) q35a q35c (g := (mkF m 157 #[.val (.int p0), .val (.int p1), .val (.int p2), .val (.int p3), .val (.int (1 : Int32)), .val (.int s1), .val (.int u2), .val (.int s2), .val (.ref b23), .val (.ref b24), .val (.ref c0), .val .null, .val .null, .val .null, .val (.int (1 : Int32)), .unset, .unset] [(.int s2), (.int u2), (.ref b23)])) rfl (by rw [hml]; rfl) (Steps.refl _) (argsL := [(.int u2), (.int s2)]) (rest := []) (lenOf pd_1 rfl) rfl (by show 2 * 0 + _ ≤ _; exact Nat.le_of_eq rfl) (hb hby at_157) (fun _ _ => ⟨rfl, eq34, (by decide : 5 + 4 ≤ _), (by decide : 16598 + 65596 ≤ _)⟩)
    dsimp only [Pt.U, Pt.locs, Pt.cells, Pt.slots] at X35 l35 y35 z35 st35 hQ35
    subst l35 y35 z35
    obtain ⟨w0, w1, w2, w3, hv35, Nq35, K35, Vn35, R0, R1, R2, R3⟩ := hQ35
    subst hv35
    replace Nf := Fr.app Nf Nq35
    have lt_c0 := V_c0.lt
    have r_w0 := R0.ref.1
    have c_w0 := R0.ref.2
    have r_w1 := R1.ref.1
    have c_w1 := R1.ref.2
    have r_w2 := R2.ref.1
    have c_w2 := R2.ref.2
    have r_w3 := R3.ref.1
    have c_w3 := R3.ref.2
    replace E_b23 := E_b23.keep K35
    replace V_c0 := V_c0.keep K35 (ninS ne_c0_b24 nin0)
    replace Zs := Nat.le_trans Zs K35.1
    replace V_b24 := Vn35
    refine own_go (x' := T35.setTop (mkF m 160 #[.val (.int p0), .val (.int p1), .val (.int p2), .val (.int p3), .val (.int (1 : Int32)), .val (.int s1), .val (.int u2), .val (.int s2), .val (.ref b23), .val (.ref b24), .val (.ref c0), .val .null, .val .null, .val .null, .val (.int (1 : Int32)), .unset, .unset] [(.ref b24)])) (fun _ k => st35.trans k) ?_
    refine own_go (x' := T35.setTop (mkF m 169 #[.val (.int p0), .val (.int p1), .val (.int p2), .val (.int p3), .val (.int (1 : Int32)), .val (.int s1), .val (.int u2), .val (.int s2), .val (.ref b23), .val (.ref b24), .val (.ref c0), .val .null, .val .null, .val .null, .val (.int (1 : Int32)), .val (.ref b24), .unset] [(.ref b24)])) (fun _ k => XS.astore X35.here hx rfl (hb hby at_160) rfl rfl (l' := #[.val (.int p0), .val (.int p1), .val (.int p2), .val (.int p3), .val (.int (1 : Int32)), .val (.int s1), .val (.int u2), .val (.int s2), .val (.ref b23), .val (.ref b24), .val (.ref c0), .val .null, .val .null, .val .null, .val (.int (1 : Int32)), .val (.ref b24), .unset]) rfl (XS.aload X35.here hx rfl (hb hby at_162) rfl rfl (XS.ifnullNo X35.here hx rfl (hb hby at_164) rfl (XS.aload X35.here hx rfl (hb hby at_167) rfl rfl k)))) ?_
    obtain ⟨cl36, Ar36, -, Sz36, Nn36, -, -⟩ := id V_b24
    refine own_go (x' := T35.setTop (mkF m 170 #[.val (.int p0), .val (.int p1), .val (.int p2), .val (.int p3), .val (.int (1 : Int32)), .val (.int s1), .val (.int u2), .val (.int s2), .val (.ref b23), .val (.ref b24), .val (.ref c0), .val .null, .val .null, .val .null, .val (.int (1 : Int32)), .val (.ref b24), .unset] [(.int (4 : Int32))])) (fun t k => X35.arraylength hx (Eq.trans (congrArg (fun h_ => h_[_]?) rfl) Ar36.1) (State.isArrayOf_alike hZ.alike Ar36.2.1) (g := (mkF m 169 #[.val (.int p0), .val (.int p1), .val (.int p2), .val (.int p3), .val (.int (1 : Int32)), .val (.int s1), .val (.int u2), .val (.int s2), .val (.ref b23), .val (.ref b24), .val (.ref c0), .val .null, .val .null, .val .null, .val (.int (1 : Int32)), .val (.ref b24), .unset] [(.ref b24)])) rfl rfl (hb hby at_169) t (by rw [len_of Sz36 Nn36]; exact k)) ?_
    refine own_go (x' := T35.setTop (mkF m 179 #[.val (.int p0), .val (.int p1), .val (.int p2), .val (.int p3), .val (.int (1 : Int32)), .val (.int s1), .val (.int u2), .val (.int s2), .val (.ref b23), .val (.ref b24), .val (.ref c0), .val .null, .val .null, .val .null, .val (.int (1 : Int32)), .val (.ref b24), .unset] [(.int (0 : Int32)), (.ref b24)])) (fun _ k => XS.iconst X35.here hx rfl (hb hby at_170) (XS.icmpYes X35.here hx rfl (pc0 := 171) (pc' := 176) rfl (hb hby at_171) rfl (teq rfl).1 (by decide) (by decide) (XS.aload X35.here hx rfl (hb hby at_176) rfl rfl (XS.iconst X35.here hx rfl (hb hby at_178) k)))) ?_
    obtain ⟨cl37, Ar37, q37, Sz37, Nn37, Hh37, Gg37⟩ := id V_b24
    have hin37 : ¬ ((0 : Int32) < 0 ∨ cl37.slots.size ≤ ((0 : Int32)).toNatClampNeg) := inb_of Sz37 ⟨by decide, by decide⟩
    refine own_go (x' := T35.setTop (mkF m 180 #[.val (.int p0), .val (.int p1), .val (.int p2), .val (.int p3), .val (.int (1 : Int32)), .val (.int s1), .val (.int u2), .val (.int s2), .val (.ref b23), .val (.ref b24), .val (.ref c0), .val .null, .val .null, .val .null, .val (.int (1 : Int32)), .val (.ref b24), .unset] [w0])) (X35.aaload hx (j := (0 : Int32)) (v := w0) (Eq.trans (congrArg (fun h_ => h_[_]?) rfl) Ar37.1) (State.isArrayOf_alike hZ.alike Ar37.2.1) rfl Ar37.2.2 hin37 (Hh37.at hin37 rfl) (g := (mkF m 179 #[.val (.int p0), .val (.int p1), .val (.int p2), .val (.int p3), .val (.int (1 : Int32)), .val (.int s1), .val (.int u2), .val (.int s2), .val (.ref b23), .val (.ref b24), .val (.ref c0), .val .null, .val .null, .val .null, .val (.int (1 : Int32)), .val (.ref b24), .unset] [(.int (0 : Int32)), (.ref b24)])) rfl rfl (hb hby at_179)) ?_
    refine own_go (x' := T35.setTop (mkF m 187 #[.val (.int p0), .val (.int p1), .val (.int p2), .val (.int p3), .val (.int (1 : Int32)), .val (.int s1), .val (.int u2), .val (.int s2), .val (.ref b23), .val (.ref b24), .val (.ref c0), .val .null, .val .null, .val .null, .val (.int (1 : Int32)), .val (.ref b24), .unset] [(.int s2), (.int u2), (.int (0 : Int32)), (.ref c0), w0])) (fun _ k => XS.aload X35.here hx rfl (hb hby at_180) rfl rfl (XS.iconst X35.here hx rfl (hb hby at_182) (XS.iload X35.here hx rfl (hb hby at_183) rfl (XS.iload X35.here hx rfl (hb hby at_185) rfl k)))) ?_
    obtain ⟨_, _, ⟨T38, L38, k38, n38⟩, -, X38, ⟨Lc38, hQ38, l38, y38, z38⟩, st38⟩ := Jvm.LawKit.callS X35 hx (y := (⟨"com/example/wee_match/weematch/WindowsBytesPinLaw", "slot", "([B[BIII)Z"⟩ : MethodName)) hown (mvT hZ (own_w hw 25 rfl)) (mvT hZ (own_w hw 26 rfl)) (mvT hZ (own_w hw 27 rfl)) (mvT hZ (own_w hw 28 rfl)) (by decide) (backOf (W := 0) (rm4pz l Z a0 hw [] w0 c0 (0 : Int32) u2 (s1 + (64 : Int32)) s2 kk0 _ T35.heap n0 Zs V_c0 R0 (by decide)) hZ (own_w hw 28 rfl) (own_w hw 27 rfl) (by decide) (by decide)) (g := (mkF m 187 #[.val (.int p0), .val (.int p1), .val (.int p2), .val (.int p3), .val (.int (1 : Int32)), .val (.int s1), .val (.int u2), .val (.int s2), .val (.ref b23), .val (.ref b24), .val (.ref c0), .val .null, .val .null, .val .null, .val (.int (1 : Int32)), .val (.ref b24), .unset] [(.int s2), (.int u2), (.int (0 : Int32)), (.ref c0), w0])) rfl (by rw [hml]; rfl) (argsL := [w0, (.ref c0), (.int (0 : Int32)), (.int u2), (.int s2)]) (rest := []) (lenOf pd_2 rfl) rfl (by show 2 * 0 + _ ≤ _; exact Nat.le_of_eq rfl) (hb hby at_187) (fun _ _ => ⟨rfl, rfl, (by decide : 9 + 0 ≤ _), (by decide : 82194 + 0 ≤ _)⟩)
    dsimp only [Pt.U, Pt.locs, Pt.cells, Pt.slots] at X38 l38 y38 z38 st38 hQ38
    subst l38 y38 z38
    obtain ⟨hv38, Nq38, eq38⟩ := hQ38
    subst hv38
    replace Nf := Fr.app Nf Nq38
    refine own_go (x' := T38.setTop (mkF m 190 #[.val (.int p0), .val (.int p1), .val (.int p2), .val (.int p3), .val (.int (1 : Int32)), .val (.int s1), .val (.int u2), .val (.int s2), .val (.ref b23), .val (.ref b24), .val (.ref c0), .val .null, .val .null, .val .null, .val (.int (1 : Int32)), .val (.ref b24), .unset] [(.int (1 : Int32))])) st38 ?_
    refine own_go (x' := T38.setTop (mkF m 196 #[.val (.int p0), .val (.int p1), .val (.int p2), .val (.int p3), .val (.int (1 : Int32)), .val (.int s1), .val (.int u2), .val (.int s2), .val (.ref b23), .val (.ref b24), .val (.ref c0), .val .null, .val .null, .val .null, .val (.int (1 : Int32)), .val (.ref b24), .unset] [(.int (1 : Int32)), (.ref b24)])) (fun _ k => XS.ifNo X38.here hx rfl (hb hby at_190) rfl ((if0 _ _).trans (feq (by decide +kernel : ¬ ((1 : Int32) = (0 : Int32)))).1) (XS.aload X38.here hx rfl (hb hby at_193) rfl rfl (XS.iconst X38.here hx rfl (hb hby at_195) k))) ?_
    obtain ⟨cl39, Ar39, q39, Sz39, Nn39, Hh39, Gg39⟩ := id V_b24
    have hin39 : ¬ ((1 : Int32) < 0 ∨ cl39.slots.size ≤ ((1 : Int32)).toNatClampNeg) := inb_of Sz39 ⟨by decide, by decide⟩
    refine own_go (x' := T38.setTop (mkF m 197 #[.val (.int p0), .val (.int p1), .val (.int p2), .val (.int p3), .val (.int (1 : Int32)), .val (.int s1), .val (.int u2), .val (.int s2), .val (.ref b23), .val (.ref b24), .val (.ref c0), .val .null, .val .null, .val .null, .val (.int (1 : Int32)), .val (.ref b24), .unset] [w1])) (X38.aaload hx (j := (1 : Int32)) (v := w1) (Eq.trans (congrArg (fun h_ => h_[_]?) eq38) Ar39.1) (State.isArrayOf_alike hZ.alike Ar39.2.1) rfl Ar39.2.2 hin39 (Hh39.at hin39 rfl) (g := (mkF m 196 #[.val (.int p0), .val (.int p1), .val (.int p2), .val (.int p3), .val (.int (1 : Int32)), .val (.int s1), .val (.int u2), .val (.int s2), .val (.ref b23), .val (.ref b24), .val (.ref c0), .val .null, .val .null, .val .null, .val (.int (1 : Int32)), .val (.ref b24), .unset] [(.int (1 : Int32)), (.ref b24)])) rfl rfl (hb hby at_196)) ?_
    refine own_go (x' := T38.setTop (mkF m 204 #[.val (.int p0), .val (.int p1), .val (.int p2), .val (.int p3), .val (.int (1 : Int32)), .val (.int s1), .val (.int u2), .val (.int s2), .val (.ref b23), .val (.ref b24), .val (.ref c0), .val .null, .val .null, .val .null, .val (.int (1 : Int32)), .val (.ref b24), .unset] [(.int s2), (.int u2), (.int (1 : Int32)), .null, w1])) (fun _ k => XS.aload X38.here hx rfl (hb hby at_197) rfl rfl (XS.iconst X38.here hx rfl (hb hby at_199) (XS.iload X38.here hx rfl (hb hby at_200) rfl (XS.iload X38.here hx rfl (hb hby at_202) rfl k)))) ?_
    obtain ⟨_, _, ⟨T40, L40, k40, n40⟩, -, X40, ⟨Lc40, hQ40, l40, y40, z40⟩, st40⟩ := Jvm.LawKit.callS X38 hx (y := (⟨"com/example/wee_match/weematch/WindowsBytesPinLaw", "slot", "([B[BIII)Z"⟩ : MethodName)) hown (mvT hZ (own_w hw 25 rfl)) (mvT hZ (own_w hw 26 rfl)) (mvT hZ (own_w hw 27 rfl)) (mvT hZ (own_w hw 28 rfl)) (by decide) (backOf (W := 0) (rm4no l Z a0 hw [] w1 (1 : Int32) u2 s2 T35.heap n0 Zs R1 (by decide)) hZ (own_w hw 28 rfl) (own_w hw 27 rfl) (by decide) (by decide)) (g := (mkF m 204 #[.val (.int p0), .val (.int p1), .val (.int p2), .val (.int p3), .val (.int (1 : Int32)), .val (.int s1), .val (.int u2), .val (.int s2), .val (.ref b23), .val (.ref b24), .val (.ref c0), .val .null, .val .null, .val .null, .val (.int (1 : Int32)), .val (.ref b24), .unset] [(.int s2), (.int u2), (.int (1 : Int32)), .null, w1])) rfl (by rw [hml]; rfl) (argsL := [w1, .null, (.int (1 : Int32)), (.int u2), (.int s2)]) (rest := []) (lenOf pd_2 rfl) rfl (by show 2 * 0 + _ ≤ _; exact Nat.le_of_eq rfl) (hb hby at_204) (fun _ _ => ⟨rfl, eq38, (by decide : 9 + 0 ≤ _), (by decide : 82194 + 0 ≤ _)⟩)
    dsimp only [Pt.U, Pt.locs, Pt.cells, Pt.slots] at X40 l40 y40 z40 st40 hQ40
    subst l40 y40 z40
    obtain ⟨hv40, Nq40, eq40⟩ := hQ40
    subst hv40
    replace Nf := Fr.app Nf Nq40
    refine own_go (x' := T40.setTop (mkF m 207 #[.val (.int p0), .val (.int p1), .val (.int p2), .val (.int p3), .val (.int (1 : Int32)), .val (.int s1), .val (.int u2), .val (.int s2), .val (.ref b23), .val (.ref b24), .val (.ref c0), .val .null, .val .null, .val .null, .val (.int (1 : Int32)), .val (.ref b24), .unset] [(.int (1 : Int32))])) st40 ?_
    refine own_go (x' := T40.setTop (mkF m 213 #[.val (.int p0), .val (.int p1), .val (.int p2), .val (.int p3), .val (.int (1 : Int32)), .val (.int s1), .val (.int u2), .val (.int s2), .val (.ref b23), .val (.ref b24), .val (.ref c0), .val .null, .val .null, .val .null, .val (.int (1 : Int32)), .val (.ref b24), .unset] [(.int (2 : Int32)), (.ref b24)])) (fun _ k => XS.ifNo X40.here hx rfl (hb hby at_207) rfl ((if0 _ _).trans (feq (by decide +kernel : ¬ ((1 : Int32) = (0 : Int32)))).1) (XS.aload X40.here hx rfl (hb hby at_210) rfl rfl (XS.iconst X40.here hx rfl (hb hby at_212) k))) ?_
    obtain ⟨cl41, Ar41, q41, Sz41, Nn41, Hh41, Gg41⟩ := id V_b24
    have hin41 : ¬ ((2 : Int32) < 0 ∨ cl41.slots.size ≤ ((2 : Int32)).toNatClampNeg) := inb_of Sz41 ⟨by decide, by decide⟩
    refine own_go (x' := T40.setTop (mkF m 214 #[.val (.int p0), .val (.int p1), .val (.int p2), .val (.int p3), .val (.int (1 : Int32)), .val (.int s1), .val (.int u2), .val (.int s2), .val (.ref b23), .val (.ref b24), .val (.ref c0), .val .null, .val .null, .val .null, .val (.int (1 : Int32)), .val (.ref b24), .unset] [w2])) (X40.aaload hx (j := (2 : Int32)) (v := w2) (Eq.trans (congrArg (fun h_ => h_[_]?) eq40) Ar41.1) (State.isArrayOf_alike hZ.alike Ar41.2.1) rfl Ar41.2.2 hin41 (Hh41.at hin41 rfl) (g := (mkF m 213 #[.val (.int p0), .val (.int p1), .val (.int p2), .val (.int p3), .val (.int (1 : Int32)), .val (.int s1), .val (.int u2), .val (.int s2), .val (.ref b23), .val (.ref b24), .val (.ref c0), .val .null, .val .null, .val .null, .val (.int (1 : Int32)), .val (.ref b24), .unset] [(.int (2 : Int32)), (.ref b24)])) rfl rfl (hb hby at_213)) ?_
    refine own_go (x' := T40.setTop (mkF m 221 #[.val (.int p0), .val (.int p1), .val (.int p2), .val (.int p3), .val (.int (1 : Int32)), .val (.int s1), .val (.int u2), .val (.int s2), .val (.ref b23), .val (.ref b24), .val (.ref c0), .val .null, .val .null, .val .null, .val (.int (1 : Int32)), .val (.ref b24), .unset] [(.int s2), (.int u2), (.int (2 : Int32)), .null, w2])) (fun _ k => XS.aload X40.here hx rfl (hb hby at_214) rfl rfl (XS.iconst X40.here hx rfl (hb hby at_216) (XS.iload X40.here hx rfl (hb hby at_217) rfl (XS.iload X40.here hx rfl (hb hby at_219) rfl k)))) ?_
    obtain ⟨_, _, ⟨T42, L42, k42, n42⟩, -, X42, ⟨Lc42, hQ42, l42, y42, z42⟩, st42⟩ := Jvm.LawKit.callS X40 hx (y := (⟨"com/example/wee_match/weematch/WindowsBytesPinLaw", "slot", "([B[BIII)Z"⟩ : MethodName)) hown (mvT hZ (own_w hw 25 rfl)) (mvT hZ (own_w hw 26 rfl)) (mvT hZ (own_w hw 27 rfl)) (mvT hZ (own_w hw 28 rfl)) (by decide) (backOf (W := 0) (rm4no l Z a0 hw [] w2 (2 : Int32) u2 s2 T35.heap n0 Zs R2 (by decide)) hZ (own_w hw 28 rfl) (own_w hw 27 rfl) (by decide) (by decide)) (g := (mkF m 221 #[.val (.int p0), .val (.int p1), .val (.int p2), .val (.int p3), .val (.int (1 : Int32)), .val (.int s1), .val (.int u2), .val (.int s2), .val (.ref b23), .val (.ref b24), .val (.ref c0), .val .null, .val .null, .val .null, .val (.int (1 : Int32)), .val (.ref b24), .unset] [(.int s2), (.int u2), (.int (2 : Int32)), .null, w2])) rfl (by rw [hml]; rfl) (argsL := [w2, .null, (.int (2 : Int32)), (.int u2), (.int s2)]) (rest := []) (lenOf pd_2 rfl) rfl (by show 2 * 0 + _ ≤ _; exact Nat.le_of_eq rfl) (hb hby at_221) (fun _ _ => ⟨rfl, eq40, (by decide : 9 + 0 ≤ _), (by decide : 82194 + 0 ≤ _)⟩)
    dsimp only [Pt.U, Pt.locs, Pt.cells, Pt.slots] at X42 l42 y42 z42 st42 hQ42
    subst l42 y42 z42
    obtain ⟨hv42, Nq42, eq42⟩ := hQ42
    subst hv42
    replace Nf := Fr.app Nf Nq42
    refine own_go (x' := T42.setTop (mkF m 224 #[.val (.int p0), .val (.int p1), .val (.int p2), .val (.int p3), .val (.int (1 : Int32)), .val (.int s1), .val (.int u2), .val (.int s2), .val (.ref b23), .val (.ref b24), .val (.ref c0), .val .null, .val .null, .val .null, .val (.int (1 : Int32)), .val (.ref b24), .unset] [(.int (1 : Int32))])) st42 ?_
    refine own_go (x' := T42.setTop (mkF m 230 #[.val (.int p0), .val (.int p1), .val (.int p2), .val (.int p3), .val (.int (1 : Int32)), .val (.int s1), .val (.int u2), .val (.int s2), .val (.ref b23), .val (.ref b24), .val (.ref c0), .val .null, .val .null, .val .null, .val (.int (1 : Int32)), .val (.ref b24), .unset] [(.int (3 : Int32)), (.ref b24)])) (fun _ k => XS.ifNo X42.here hx rfl (hb hby at_224) rfl ((if0 _ _).trans (feq (by decide +kernel : ¬ ((1 : Int32) = (0 : Int32)))).1) (XS.aload X42.here hx rfl (hb hby at_227) rfl rfl (XS.iconst X42.here hx rfl (hb hby at_229) k))) ?_
    obtain ⟨cl43, Ar43, q43, Sz43, Nn43, Hh43, Gg43⟩ := id V_b24
    have hin43 : ¬ ((3 : Int32) < 0 ∨ cl43.slots.size ≤ ((3 : Int32)).toNatClampNeg) := inb_of Sz43 ⟨by decide, by decide⟩
    refine own_go (x' := T42.setTop (mkF m 231 #[.val (.int p0), .val (.int p1), .val (.int p2), .val (.int p3), .val (.int (1 : Int32)), .val (.int s1), .val (.int u2), .val (.int s2), .val (.ref b23), .val (.ref b24), .val (.ref c0), .val .null, .val .null, .val .null, .val (.int (1 : Int32)), .val (.ref b24), .unset] [w3])) (X42.aaload hx (j := (3 : Int32)) (v := w3) (Eq.trans (congrArg (fun h_ => h_[_]?) eq42) Ar43.1) (State.isArrayOf_alike hZ.alike Ar43.2.1) rfl Ar43.2.2 hin43 (Hh43.at hin43 rfl) (g := (mkF m 230 #[.val (.int p0), .val (.int p1), .val (.int p2), .val (.int p3), .val (.int (1 : Int32)), .val (.int s1), .val (.int u2), .val (.int s2), .val (.ref b23), .val (.ref b24), .val (.ref c0), .val .null, .val .null, .val .null, .val (.int (1 : Int32)), .val (.ref b24), .unset] [(.int (3 : Int32)), (.ref b24)])) rfl rfl (hb hby at_230)) ?_
    refine own_go (x' := T42.setTop (mkF m 238 #[.val (.int p0), .val (.int p1), .val (.int p2), .val (.int p3), .val (.int (1 : Int32)), .val (.int s1), .val (.int u2), .val (.int s2), .val (.ref b23), .val (.ref b24), .val (.ref c0), .val .null, .val .null, .val .null, .val (.int (1 : Int32)), .val (.ref b24), .unset] [(.int s2), (.int u2), (.int (3 : Int32)), .null, w3])) (fun _ k => XS.aload X42.here hx rfl (hb hby at_231) rfl rfl (XS.iconst X42.here hx rfl (hb hby at_233) (XS.iload X42.here hx rfl (hb hby at_234) rfl (XS.iload X42.here hx rfl (hb hby at_236) rfl k)))) ?_
    obtain ⟨_, _, ⟨T44, L44, k44, n44⟩, -, X44, ⟨Lc44, hQ44, l44, y44, z44⟩, st44⟩ := Jvm.LawKit.callS X42 hx (y := (⟨"com/example/wee_match/weematch/WindowsBytesPinLaw", "slot", "([B[BIII)Z"⟩ : MethodName)) hown (mvT hZ (own_w hw 25 rfl)) (mvT hZ (own_w hw 26 rfl)) (mvT hZ (own_w hw 27 rfl)) (mvT hZ (own_w hw 28 rfl)) (by decide) (backOf (W := 0) (rm4no l Z a0 hw [] w3 (3 : Int32) u2 s2 T35.heap n0 Zs R3 (by decide)) hZ (own_w hw 28 rfl) (own_w hw 27 rfl) (by decide) (by decide)) (g := (mkF m 238 #[.val (.int p0), .val (.int p1), .val (.int p2), .val (.int p3), .val (.int (1 : Int32)), .val (.int s1), .val (.int u2), .val (.int s2), .val (.ref b23), .val (.ref b24), .val (.ref c0), .val .null, .val .null, .val .null, .val (.int (1 : Int32)), .val (.ref b24), .unset] [(.int s2), (.int u2), (.int (3 : Int32)), .null, w3])) rfl (by rw [hml]; rfl) (argsL := [w3, .null, (.int (3 : Int32)), (.int u2), (.int s2)]) (rest := []) (lenOf pd_2 rfl) rfl (by show 2 * 0 + _ ≤ _; exact Nat.le_of_eq rfl) (hb hby at_238) (fun _ _ => ⟨rfl, eq42, (by decide : 9 + 0 ≤ _), (by decide : 82194 + 0 ≤ _)⟩)
    dsimp only [Pt.U, Pt.locs, Pt.cells, Pt.slots] at X44 l44 y44 z44 st44 hQ44
    subst l44 y44 z44
    obtain ⟨hv44, Nq44, eq44⟩ := hQ44
    subst hv44
    replace Nf := Fr.app Nf Nq44
    refine own_go (x' := T44.setTop (mkF m 241 #[.val (.int p0), .val (.int p1), .val (.int p2), .val (.int p3), .val (.int (1 : Int32)), .val (.int s1), .val (.int u2), .val (.int s2), .val (.ref b23), .val (.ref b24), .val (.ref c0), .val .null, .val .null, .val .null, .val (.int (1 : Int32)), .val (.ref b24), .unset] [(.int (1 : Int32))])) st44 ?_
    refine own_go (x' := T44.setTop (mkF m 256 #[.val (.int p0), .val (.int p1), .val (.int p2), .val (.int p3), .val (.int (1 : Int32)), .val (.int s1), .val (.int u2), .val (.int s2), .val (.ref b23), .val (.ref b24), .val (.ref c0), .val .null, .val .null, .val .null, .val (.int (1 : Int32)), .val (.ref b24), .val (.int (1 : Int32))] [])) (fun _ k => XS.ifNo X44.here hx rfl (hb hby at_241) rfl ((if0 _ _).trans (feq (by decide +kernel : ¬ ((1 : Int32) = (0 : Int32)))).1) (XS.iconst X44.here hx rfl (hb hby at_244) (XS.goto X44.here hx rfl (pc0 := 245) (pc' := 249) rfl (hb hby at_245) (by decide) (by decide) (XS.istore X44.here hx rfl (hb hby at_249) rfl (l' := #[.val (.int p0), .val (.int p1), .val (.int p2), .val (.int p3), .val (.int (1 : Int32)), .val (.int s1), .val (.int u2), .val (.int s2), .val (.ref b23), .val (.ref b24), .val (.ref c0), .val .null, .val .null, .val .null, .val (.int (1 : Int32)), .val (.ref b24), .val (.int (1 : Int32))]) rfl (XS.iload X44.here hx rfl (hb hby at_251) rfl (XS.ifNo X44.here hx rfl (hb hby at_253) rfl ((if0 _ _).trans (feq (by decide +kernel : ¬ ((1 : Int32) = (0 : Int32)))).1) k)))))) ?_
    refine own_go (x' := T44.setTop (mkF m 266 #[.val (.int p0), .val (.int p1), .val (.int p2), .val (.int p3), .val (.int (1 : Int32)), .val (.int s1), .val (.int u2), .val (.int s2), .val (.ref b23), .val (.ref b24), .val (.ref c0), .val .null, .val .null, .val .null, .val (.int (1 : Int32)), .val (.ref b24), .val (.int (1 : Int32))] [(.int (1 : Int32))])) (fun _ k => XS.iload X44.here hx rfl (hb hby at_256) rfl (XS.ifNo X44.here hx rfl (hb hby at_258) rfl ((if0 _ _).trans (feq (by decide +kernel : ¬ ((1 : Int32) = (0 : Int32)))).1) (XS.iconst X44.here hx rfl (hb hby at_261) (XS.goto X44.here hx rfl (pc0 := 262) (pc' := 266) rfl (hb hby at_262) (by decide) (by decide) k)))) ?_
    refine own_retN X44 hx hlk (t := .boolean) hret (by simp) (hb hby at_266) (w := (1 : Int32)) rfl ?_ (by decide) (by decide)
    rw [eq44]
    exact ⟨rfl, Nf⟩
  · rw [hq]
    obtain ⟨T45, h45, X45, e45, E45, A45, D45, -, st45⟩ := newO X0 hx hZ hown (own_w hw 0 rfl) (own_w hw 1 rfl) (own_w hw 2 rfl) e0 (g := (mkF m 30 #[.val (.int p0), .val (.int p1), .val (.int p2), .val (.int p3), .val (.int (2 : Int32)), .val (.int s1), .val (.int u2), .val (.int s2), .unset, .unset, .unset, .unset, .unset, .unset, .unset, .unset, .unset] [])) rfl (hb hby at_30) (by decide) (by decide)
    obtain ⟨b45, g45⟩ : ∃ z, z = h0.size := ⟨_, rfl⟩
    rw [← g45] at A45 D45 st45
    have g_b45 : n0 ≤ b45 := Nat.le_trans Zs (Nat.le_of_eq g45.symm)
    replace Zs := Nat.le_trans Zs E45.1
    have E_b45 := A45
    have F_b45_bytes : Fld Z h45 b45 "com/example/wee_match/weematch/Sieve$Windows" "bytes" "[[B" .null := D45 (Or.inr (own_w hw 12 rfl)) (ty := (.array (.array .byte))) (by decide)
    have F_b45_chars : Fld Z h45 b45 "com/example/wee_match/weematch/Sieve$Windows" "chars" "[[C" .null := D45 (Or.inr (own_w hw 16 rfl)) (ty := (.array (.array .char))) (by decide)
    have F_b45_starts : Fld Z h45 b45 "com/example/wee_match/weematch/Sieve$Windows" "starts" "[I" .null := D45 (Or.inl (own_w hw 19 rfl)) (ty := (.array .int)) (by decide)
    refine own_go (x' := T45.setTop (mkF m 33 #[.val (.int p0), .val (.int p1), .val (.int p2), .val (.int p3), .val (.int (2 : Int32)), .val (.int s1), .val (.int u2), .val (.int s2), .unset, .unset, .unset, .unset, .unset, .unset, .unset, .unset, .unset] [(.ref b45)])) st45 ?_
    refine own_go (x' := T45.setTop (mkF m 34 #[.val (.int p0), .val (.int p1), .val (.int p2), .val (.int p3), .val (.int (2 : Int32)), .val (.int s1), .val (.int u2), .val (.int s2), .unset, .unset, .unset, .unset, .unset, .unset, .unset, .unset, .unset] [(.ref b45), (.ref b45)])) (fun _ k => XS.dup X45.here hx rfl (hb hby at_33) rfl rfl k) ?_
    obtain ⟨_, _, ⟨T46, L46, k46, n46⟩, -, X46, ⟨Lc46, hQ46, l46, y46, z46⟩, st46⟩ := X45.specialBack hx (y := (⟨"com/example/wee_match/weematch/Sieve$Windows", "<init>", "()V"⟩ : MethodName)) rfl hown (mvT hZ (own_w hw 3 rfl)) (mvT hZ (own_w hw 4 rfl)) (mvT hZ (own_w hw 5 rfl)) (by decide) (backOf (W := 1) (rm1 l Z a0 hw [] b45 h45 n0 Zs E_b45 F_b45_bytes F_b45_chars F_b45_starts g_b45) hZ (own_w hw 5 rfl) (own_w hw 2 rfl) (by decide) (by decide)) (g := (mkF m 34 #[.val (.int p0), .val (.int p1), .val (.int p2), .val (.int p3), .val (.int (2 : Int32)), .val (.int s1), .val (.int u2), .val (.int s2), .unset, .unset, .unset, .unset, .unset, .unset, .unset, .unset, .unset] [(.ref b45), (.ref b45)])) rfl (by rw [hml]; rfl) (Steps.refl _) (a := b45) (argsL := []) (rest := [(.ref b45)]) (lenOf pd_0 rfl) rfl (by show 2 * 0 + _ ≤ _; exact Nat.le_of_eq rfl) (hb hby at_34) (fun _ _ => ⟨rfl, e45, (by decide : 1 + 3 ≤ _), (by decide : 7 + 144 ≤ _)⟩)
    dsimp only [Pt.U, Pt.locs, Pt.cells, Pt.slots] at X46 l46 y46 z46 st46 hQ46
    subst l46 y46 z46
    obtain ⟨b46, kc46, hv46, Nq46, K46, sq46, g_b46, Eo46, Fs46, V_b46, O_b46⟩ := hQ46
    subst hv46
    replace Nf := Fr.app Nf Nq46
    have ne_b45_b46 : b45 ≠ b46 := Nat.ne_of_lt (Nat.lt_of_lt_of_le E_b45.lt sq46)
    replace Zs := Nat.le_trans Zs K46.1
    replace E_b45 := Eo46
    replace F_b45_bytes := Fs46
    refine own_go (x' := T46.setTop (mkF m 37 #[.val (.int p0), .val (.int p1), .val (.int p2), .val (.int p3), .val (.int (2 : Int32)), .val (.int s1), .val (.int u2), .val (.int s2), .unset, .unset, .unset, .unset, .unset, .unset, .unset, .unset, .unset] [(.ref b45)])) (fun _ k => st46.trans k) ?_
    refine own_go (x' := T46.setTop (mkF m 45 #[.val (.int p0), .val (.int p1), .val (.int p2), .val (.int p3), .val (.int (2 : Int32)), .val (.int s1), .val (.int u2), .val (.int s2), .val (.ref b45), .unset, .unset, .unset, .unset, .unset, .unset, .unset, .unset] [(.int s1), (.int (2 : Int32)), (.ref b45)])) (fun _ k => XS.astore X46.here hx rfl (hb hby at_37) rfl rfl (l' := #[.val (.int p0), .val (.int p1), .val (.int p2), .val (.int p3), .val (.int (2 : Int32)), .val (.int s1), .val (.int u2), .val (.int s2), .val (.ref b45), .unset, .unset, .unset, .unset, .unset, .unset, .unset, .unset]) rfl (XS.aload X46.here hx rfl (hb hby at_39) rfl rfl (XS.iload X46.here hx rfl (hb hby at_41) rfl (XS.iload X46.here hx rfl (hb hby at_43) rfl k)))) ?_
    have q47b_lt := E_b45.lt
    obtain ⟨cq47, kq47, q47a, q47b, q47c⟩ := isOf hZ rfl E_b45
    obtain ⟨_, _, ⟨T47, L47, k47, n47⟩, -, X47, ⟨Lc47, hQ47, l47, y47, z47⟩, st47⟩ := X46.virtualBack hx (y := (⟨"com/example/wee_match/weematch/Sieve$Windows", "bytes", "(II)[[B"⟩ : MethodName)) (z := (⟨"com/example/wee_match/weematch/Sieve$Windows", "bytes", "(II)[[B"⟩ : MethodName)) hown (mvT hZ (own_w hw 20 rfl)) (mvT hZ (own_w hw 21 rfl)) (notFace_of_selects (args := #[]) (mvT hZ (own_w hw 23 rfl))) (mvT hZ (own_w hw 23 rfl)) (mvT hZ (own_w hw 22 rfl)) (by decide) (backOf (W := 0) (rmF_2 l Z a0 hw [] b45 s1 b46 kc46 T46.heap n0 Zs F_b45_bytes V_b46 O_b46 ne_b45_b46 g_b46 hs1 ht1) hZ (own_w hw 24 rfl) (own_w hw 2 rfl) (by decide) (by decide)) q47a q47c (g := (mkF m 45 #[.val (.int p0), .val (.int p1), .val (.int p2), .val (.int p3), .val (.int (2 : Int32)), .val (.int s1), .val (.int u2), .val (.int s2), .val (.ref b45), .unset, .unset, .unset, .unset, .unset, .unset, .unset, .unset] [(.int s1), (.int (2 : Int32)), (.ref b45)])) rfl (by rw [hml]; rfl) (Steps.refl _) (argsL := [(.int (2 : Int32)), (.int s1)]) (rest := []) (lenOf pd_1 rfl) rfl (by show 2 * 0 + _ ≤ _; exact Nat.le_of_eq rfl) (hb hby at_45) (fun _ _ => ⟨rfl, rfl, (by decide : 4 + 2 ≤ _), (by decide : 151 + 32830 ≤ _)⟩)
    dsimp only [Pt.U, Pt.locs, Pt.cells, Pt.slots] at X47 l47 y47 z47 st47 hQ47
    subst l47 y47 z47
    obtain ⟨c0, kk0, c1, kk1, hv47, Nq47, K47, Fs47, Vn47, sq_c0, g_c0, V_c0, sq_c1, g_c1, V_c1, ne_c0_c1⟩ := hQ47
    subst hv47
    replace Nf := Fr.app Nf Nq47
    replace E_b45 := E_b45.keep K47
    replace Zs := Nat.le_trans Zs K47.1
    replace V_b46 := Vn47
    replace F_b45_bytes := Fs47
    have ne_c0_b46 : c0 ≠ b46 := own_two V_c0 V_b46 (by decide)
    have ne_b45_c0 : b45 ≠ c0 := Nat.ne_of_lt (Nat.lt_of_lt_of_le q47b_lt sq_c0)
    have ne_c1_b46 : c1 ≠ b46 := own_two V_c1 V_b46 (by decide)
    have ne_b45_c1 : b45 ≠ c1 := Nat.ne_of_lt (Nat.lt_of_lt_of_le q47b_lt sq_c1)
    refine own_go (x' := T47.setTop (mkF m 48 #[.val (.int p0), .val (.int p1), .val (.int p2), .val (.int p3), .val (.int (2 : Int32)), .val (.int s1), .val (.int u2), .val (.int s2), .val (.ref b45), .unset, .unset, .unset, .unset, .unset, .unset, .unset, .unset] [(.ref b46)])) (fun _ k => st47.trans k) ?_
    refine own_go (x' := T47.setTop (mkF m 57 #[.val (.int p0), .val (.int p1), .val (.int p2), .val (.int p3), .val (.int (2 : Int32)), .val (.int s1), .val (.int u2), .val (.int s2), .val (.ref b45), .val (.ref b46), .unset, .unset, .unset, .unset, .unset, .unset, .unset] [(.ref b46)])) (fun _ k => XS.astore X47.here hx rfl (hb hby at_48) rfl rfl (l' := #[.val (.int p0), .val (.int p1), .val (.int p2), .val (.int p3), .val (.int (2 : Int32)), .val (.int s1), .val (.int u2), .val (.int s2), .val (.ref b45), .val (.ref b46), .unset, .unset, .unset, .unset, .unset, .unset, .unset]) rfl (XS.aload X47.here hx rfl (hb hby at_50) rfl rfl (XS.ifnullNo X47.here hx rfl (hb hby at_52) rfl (XS.aload X47.here hx rfl (hb hby at_55) rfl rfl k)))) ?_
    obtain ⟨cl48, Ar48, -, Sz48, Nn48, -, -⟩ := id V_b46
    refine own_go (x' := T47.setTop (mkF m 58 #[.val (.int p0), .val (.int p1), .val (.int p2), .val (.int p3), .val (.int (2 : Int32)), .val (.int s1), .val (.int u2), .val (.int s2), .val (.ref b45), .val (.ref b46), .unset, .unset, .unset, .unset, .unset, .unset, .unset] [(.int (4 : Int32))])) (fun t k => X47.arraylength hx (Eq.trans (congrArg (fun h_ => h_[_]?) rfl) Ar48.1) (State.isArrayOf_alike hZ.alike Ar48.2.1) (g := (mkF m 57 #[.val (.int p0), .val (.int p1), .val (.int p2), .val (.int p3), .val (.int (2 : Int32)), .val (.int s1), .val (.int u2), .val (.int s2), .val (.ref b45), .val (.ref b46), .unset, .unset, .unset, .unset, .unset, .unset, .unset] [(.ref b46)])) rfl rfl (hb hby at_57) t (by rw [len_of Sz48 Nn48]; exact k)) ?_
    refine own_go (x' := T47.setTop (mkF m 67 #[.val (.int p0), .val (.int p1), .val (.int p2), .val (.int p3), .val (.int (2 : Int32)), .val (.int s1), .val (.int u2), .val (.int s2), .val (.ref b45), .val (.ref b46), .unset, .unset, .unset, .unset, .unset, .unset, .unset] [(.int (0 : Int32)), (.ref b46)])) (fun _ k => XS.iconst X47.here hx rfl (hb hby at_58) (XS.icmpYes X47.here hx rfl (pc0 := 59) (pc' := 64) rfl (hb hby at_59) rfl (teq rfl).1 (by decide) (by decide) (XS.aload X47.here hx rfl (hb hby at_64) rfl rfl (XS.iconst X47.here hx rfl (hb hby at_66) k)))) ?_
    obtain ⟨cl49, Ar49, q49, Sz49, Nn49, Hh49, Gg49⟩ := id V_b46
    have hin49 : ¬ ((0 : Int32) < 0 ∨ cl49.slots.size ≤ ((0 : Int32)).toNatClampNeg) := inb_of Sz49 ⟨by decide, by decide⟩
    refine own_go (x' := T47.setTop (mkF m 68 #[.val (.int p0), .val (.int p1), .val (.int p2), .val (.int p3), .val (.int (2 : Int32)), .val (.int s1), .val (.int u2), .val (.int s2), .val (.ref b45), .val (.ref b46), .unset, .unset, .unset, .unset, .unset, .unset, .unset] [(.ref c0)])) (X47.aaload hx (j := (0 : Int32)) (v := (.ref c0)) (Eq.trans (congrArg (fun h_ => h_[_]?) rfl) Ar49.1) (State.isArrayOf_alike hZ.alike Ar49.2.1) rfl Ar49.2.2 hin49 (Hh49.at hin49 rfl) (g := (mkF m 67 #[.val (.int p0), .val (.int p1), .val (.int p2), .val (.int p3), .val (.int (2 : Int32)), .val (.int s1), .val (.int u2), .val (.int s2), .val (.ref b45), .val (.ref b46), .unset, .unset, .unset, .unset, .unset, .unset, .unset] [(.int (0 : Int32)), (.ref b46)])) rfl rfl (hb hby at_67)) ?_
    refine own_go (x' := T47.setTop (mkF m 73 #[.val (.int p0), .val (.int p1), .val (.int p2), .val (.int p3), .val (.int (2 : Int32)), .val (.int s1), .val (.int u2), .val (.int s2), .val (.ref b45), .val (.ref b46), .val (.ref c0), .unset, .unset, .unset, .unset, .unset, .unset] [(.int (1 : Int32)), (.ref b46)])) (fun _ k => XS.astore X47.here hx rfl (hb hby at_68) rfl rfl (l' := #[.val (.int p0), .val (.int p1), .val (.int p2), .val (.int p3), .val (.int (2 : Int32)), .val (.int s1), .val (.int u2), .val (.int s2), .val (.ref b45), .val (.ref b46), .val (.ref c0), .unset, .unset, .unset, .unset, .unset, .unset]) rfl (XS.aload X47.here hx rfl (hb hby at_70) rfl rfl (XS.iconst X47.here hx rfl (hb hby at_72) k))) ?_
    obtain ⟨cl50, Ar50, q50, Sz50, Nn50, Hh50, Gg50⟩ := id V_b46
    have hin50 : ¬ ((1 : Int32) < 0 ∨ cl50.slots.size ≤ ((1 : Int32)).toNatClampNeg) := inb_of Sz50 ⟨by decide, by decide⟩
    refine own_go (x' := T47.setTop (mkF m 74 #[.val (.int p0), .val (.int p1), .val (.int p2), .val (.int p3), .val (.int (2 : Int32)), .val (.int s1), .val (.int u2), .val (.int s2), .val (.ref b45), .val (.ref b46), .val (.ref c0), .unset, .unset, .unset, .unset, .unset, .unset] [(.ref c1)])) (X47.aaload hx (j := (1 : Int32)) (v := (.ref c1)) (Eq.trans (congrArg (fun h_ => h_[_]?) rfl) Ar50.1) (State.isArrayOf_alike hZ.alike Ar50.2.1) rfl Ar50.2.2 hin50 (Hh50.at hin50 rfl) (g := (mkF m 73 #[.val (.int p0), .val (.int p1), .val (.int p2), .val (.int p3), .val (.int (2 : Int32)), .val (.int s1), .val (.int u2), .val (.int s2), .val (.ref b45), .val (.ref b46), .val (.ref c0), .unset, .unset, .unset, .unset, .unset, .unset] [(.int (1 : Int32)), (.ref b46)])) rfl rfl (hb hby at_73)) ?_
    refine own_go (x' := T47.setTop (mkF m 79 #[.val (.int p0), .val (.int p1), .val (.int p2), .val (.int p3), .val (.int (2 : Int32)), .val (.int s1), .val (.int u2), .val (.int s2), .val (.ref b45), .val (.ref b46), .val (.ref c0), .val (.ref c1), .unset, .unset, .unset, .unset, .unset] [(.int (2 : Int32)), (.ref b46)])) (fun _ k => XS.astore X47.here hx rfl (hb hby at_74) rfl rfl (l' := #[.val (.int p0), .val (.int p1), .val (.int p2), .val (.int p3), .val (.int (2 : Int32)), .val (.int s1), .val (.int u2), .val (.int s2), .val (.ref b45), .val (.ref b46), .val (.ref c0), .val (.ref c1), .unset, .unset, .unset, .unset, .unset]) rfl (XS.aload X47.here hx rfl (hb hby at_76) rfl rfl (XS.iconst X47.here hx rfl (hb hby at_78) k))) ?_
    obtain ⟨cl51, Ar51, q51, Sz51, Nn51, Hh51, Gg51⟩ := id V_b46
    have hin51 : ¬ ((2 : Int32) < 0 ∨ cl51.slots.size ≤ ((2 : Int32)).toNatClampNeg) := inb_of Sz51 ⟨by decide, by decide⟩
    refine own_go (x' := T47.setTop (mkF m 80 #[.val (.int p0), .val (.int p1), .val (.int p2), .val (.int p3), .val (.int (2 : Int32)), .val (.int s1), .val (.int u2), .val (.int s2), .val (.ref b45), .val (.ref b46), .val (.ref c0), .val (.ref c1), .unset, .unset, .unset, .unset, .unset] [.null])) (X47.aaload hx (j := (2 : Int32)) (v := .null) (Eq.trans (congrArg (fun h_ => h_[_]?) rfl) Ar51.1) (State.isArrayOf_alike hZ.alike Ar51.2.1) rfl Ar51.2.2 hin51 (Hh51.at hin51 rfl) (g := (mkF m 79 #[.val (.int p0), .val (.int p1), .val (.int p2), .val (.int p3), .val (.int (2 : Int32)), .val (.int s1), .val (.int u2), .val (.int s2), .val (.ref b45), .val (.ref b46), .val (.ref c0), .val (.ref c1), .unset, .unset, .unset, .unset, .unset] [(.int (2 : Int32)), (.ref b46)])) rfl rfl (hb hby at_79)) ?_
    refine own_go (x' := T47.setTop (mkF m 85 #[.val (.int p0), .val (.int p1), .val (.int p2), .val (.int p3), .val (.int (2 : Int32)), .val (.int s1), .val (.int u2), .val (.int s2), .val (.ref b45), .val (.ref b46), .val (.ref c0), .val (.ref c1), .val .null, .unset, .unset, .unset, .unset] [(.int (3 : Int32)), (.ref b46)])) (fun _ k => XS.astore X47.here hx rfl (hb hby at_80) rfl rfl (l' := #[.val (.int p0), .val (.int p1), .val (.int p2), .val (.int p3), .val (.int (2 : Int32)), .val (.int s1), .val (.int u2), .val (.int s2), .val (.ref b45), .val (.ref b46), .val (.ref c0), .val (.ref c1), .val .null, .unset, .unset, .unset, .unset]) rfl (XS.aload X47.here hx rfl (hb hby at_82) rfl rfl (XS.iconst X47.here hx rfl (hb hby at_84) k))) ?_
    obtain ⟨cl52, Ar52, q52, Sz52, Nn52, Hh52, Gg52⟩ := id V_b46
    have hin52 : ¬ ((3 : Int32) < 0 ∨ cl52.slots.size ≤ ((3 : Int32)).toNatClampNeg) := inb_of Sz52 ⟨by decide, by decide⟩
    refine own_go (x' := T47.setTop (mkF m 86 #[.val (.int p0), .val (.int p1), .val (.int p2), .val (.int p3), .val (.int (2 : Int32)), .val (.int s1), .val (.int u2), .val (.int s2), .val (.ref b45), .val (.ref b46), .val (.ref c0), .val (.ref c1), .val .null, .unset, .unset, .unset, .unset] [.null])) (X47.aaload hx (j := (3 : Int32)) (v := .null) (Eq.trans (congrArg (fun h_ => h_[_]?) rfl) Ar52.1) (State.isArrayOf_alike hZ.alike Ar52.2.1) rfl Ar52.2.2 hin52 (Hh52.at hin52 rfl) (g := (mkF m 85 #[.val (.int p0), .val (.int p1), .val (.int p2), .val (.int p3), .val (.int (2 : Int32)), .val (.int s1), .val (.int u2), .val (.int s2), .val (.ref b45), .val (.ref b46), .val (.ref c0), .val (.ref c1), .val .null, .unset, .unset, .unset, .unset] [(.int (3 : Int32)), (.ref b46)])) rfl rfl (hb hby at_85)) ?_
    refine own_go (x' := T47.setTop (mkF m 96 #[.val (.int p0), .val (.int p1), .val (.int p2), .val (.int p3), .val (.int (2 : Int32)), .val (.int s1), .val (.int u2), .val (.int s2), .val (.ref b45), .val (.ref b46), .val (.ref c0), .val (.ref c1), .val .null, .val .null, .unset, .unset, .unset] [(.int s1), (.int (2 : Int32)), (.int (0 : Int32)), .null, (.ref c0)])) (fun _ k => XS.astore X47.here hx rfl (hb hby at_86) rfl rfl (l' := #[.val (.int p0), .val (.int p1), .val (.int p2), .val (.int p3), .val (.int (2 : Int32)), .val (.int s1), .val (.int u2), .val (.int s2), .val (.ref b45), .val (.ref b46), .val (.ref c0), .val (.ref c1), .val .null, .val .null, .unset, .unset, .unset]) rfl (XS.aload X47.here hx rfl (hb hby at_88) rfl rfl (XS.aconstNull X47.here hx rfl (hb hby at_90) (XS.iconst X47.here hx rfl (hb hby at_91) (XS.iload X47.here hx rfl (hb hby at_92) rfl (XS.iload X47.here hx rfl (hb hby at_94) rfl k)))))) ?_
    obtain ⟨_, _, ⟨T53, L53, k53, n53⟩, -, X53, ⟨Lc53, hQ53, l53, y53, z53⟩, st53⟩ := Jvm.LawKit.callS X47 hx (y := (⟨"com/example/wee_match/weematch/WindowsBytesPinLaw", "slot", "([B[BIII)Z"⟩ : MethodName)) hown (mvT hZ (own_w hw 25 rfl)) (mvT hZ (own_w hw 26 rfl)) (mvT hZ (own_w hw 27 rfl)) (mvT hZ (own_w hw 28 rfl)) (by decide) (backOf (W := 0) (rm4dz l Z a0 hw [] c0 (0 : Int32) (2 : Int32) s1 kk0 T47.heap n0 Zs V_c0 (by decide) (by decide)) hZ (own_w hw 28 rfl) (own_w hw 27 rfl) (by decide) (by decide)) (g := (mkF m 96 #[.val (.int p0), .val (.int p1), .val (.int p2), .val (.int p3), .val (.int (2 : Int32)), .val (.int s1), .val (.int u2), .val (.int s2), .val (.ref b45), .val (.ref b46), .val (.ref c0), .val (.ref c1), .val .null, .val .null, .unset, .unset, .unset] [(.int s1), (.int (2 : Int32)), (.int (0 : Int32)), .null, (.ref c0)])) rfl (by rw [hml]; rfl) (argsL := [(.ref c0), .null, (.int (0 : Int32)), (.int (2 : Int32)), (.int s1)]) (rest := []) (lenOf pd_2 rfl) rfl (by show 2 * 0 + _ ≤ _; exact Nat.le_of_eq rfl) (hb hby at_96) (fun _ _ => ⟨rfl, rfl, (by decide : 6 + 0 ≤ _), (by decide : 32981 + 0 ≤ _)⟩)
    dsimp only [Pt.U, Pt.locs, Pt.cells, Pt.slots] at X53 l53 y53 z53 st53 hQ53
    subst l53 y53 z53
    obtain ⟨hv53, Nq53, eq53⟩ := hQ53
    subst hv53
    replace Nf := Fr.app Nf Nq53
    refine own_go (x' := T53.setTop (mkF m 99 #[.val (.int p0), .val (.int p1), .val (.int p2), .val (.int p3), .val (.int (2 : Int32)), .val (.int s1), .val (.int u2), .val (.int s2), .val (.ref b45), .val (.ref b46), .val (.ref c0), .val (.ref c1), .val .null, .val .null, .unset, .unset, .unset] [(.int (1 : Int32))])) st53 ?_
    refine own_go (x' := T53.setTop (mkF m 110 #[.val (.int p0), .val (.int p1), .val (.int p2), .val (.int p3), .val (.int (2 : Int32)), .val (.int s1), .val (.int u2), .val (.int s2), .val (.ref b45), .val (.ref b46), .val (.ref c0), .val (.ref c1), .val .null, .val .null, .unset, .unset, .unset] [(.int s1), (.int (2 : Int32)), (.int (1 : Int32)), .null, (.ref c1)])) (fun _ k => XS.ifNo X53.here hx rfl (hb hby at_99) rfl ((if0 _ _).trans (feq (by decide +kernel : ¬ ((1 : Int32) = (0 : Int32)))).1) (XS.aload X53.here hx rfl (hb hby at_102) rfl rfl (XS.aconstNull X53.here hx rfl (hb hby at_104) (XS.iconst X53.here hx rfl (hb hby at_105) (XS.iload X53.here hx rfl (hb hby at_106) rfl (XS.iload X53.here hx rfl (hb hby at_108) rfl k)))))) ?_
    obtain ⟨_, _, ⟨T54, L54, k54, n54⟩, -, X54, ⟨Lc54, hQ54, l54, y54, z54⟩, st54⟩ := Jvm.LawKit.callS X53 hx (y := (⟨"com/example/wee_match/weematch/WindowsBytesPinLaw", "slot", "([B[BIII)Z"⟩ : MethodName)) hown (mvT hZ (own_w hw 25 rfl)) (mvT hZ (own_w hw 26 rfl)) (mvT hZ (own_w hw 27 rfl)) (mvT hZ (own_w hw 28 rfl)) (by decide) (backOf (W := 0) (rm4do l Z a0 hw [] c1 (1 : Int32) (2 : Int32) s1 kk1 T47.heap n0 Zs V_c1 (by decide) (by decide)) hZ (own_w hw 28 rfl) (own_w hw 27 rfl) (by decide) (by decide)) (g := (mkF m 110 #[.val (.int p0), .val (.int p1), .val (.int p2), .val (.int p3), .val (.int (2 : Int32)), .val (.int s1), .val (.int u2), .val (.int s2), .val (.ref b45), .val (.ref b46), .val (.ref c0), .val (.ref c1), .val .null, .val .null, .unset, .unset, .unset] [(.int s1), (.int (2 : Int32)), (.int (1 : Int32)), .null, (.ref c1)])) rfl (by rw [hml]; rfl) (argsL := [(.ref c1), .null, (.int (1 : Int32)), (.int (2 : Int32)), (.int s1)]) (rest := []) (lenOf pd_2 rfl) rfl (by show 2 * 0 + _ ≤ _; exact Nat.le_of_eq rfl) (hb hby at_110) (fun _ _ => ⟨rfl, eq53, (by decide : 6 + 0 ≤ _), (by decide : 32981 + 0 ≤ _)⟩)
    dsimp only [Pt.U, Pt.locs, Pt.cells, Pt.slots] at X54 l54 y54 z54 st54 hQ54
    subst l54 y54 z54
    obtain ⟨hv54, Nq54, eq54⟩ := hQ54
    subst hv54
    replace Nf := Fr.app Nf Nq54
    refine own_go (x' := T54.setTop (mkF m 113 #[.val (.int p0), .val (.int p1), .val (.int p2), .val (.int p3), .val (.int (2 : Int32)), .val (.int s1), .val (.int u2), .val (.int s2), .val (.ref b45), .val (.ref b46), .val (.ref c0), .val (.ref c1), .val .null, .val .null, .unset, .unset, .unset] [(.int (1 : Int32))])) st54 ?_
    refine own_go (x' := T54.setTop (mkF m 124 #[.val (.int p0), .val (.int p1), .val (.int p2), .val (.int p3), .val (.int (2 : Int32)), .val (.int s1), .val (.int u2), .val (.int s2), .val (.ref b45), .val (.ref b46), .val (.ref c0), .val (.ref c1), .val .null, .val .null, .unset, .unset, .unset] [(.int s1), (.int (2 : Int32)), (.int (2 : Int32)), .null, .null])) (fun _ k => XS.ifNo X54.here hx rfl (hb hby at_113) rfl ((if0 _ _).trans (feq (by decide +kernel : ¬ ((1 : Int32) = (0 : Int32)))).1) (XS.aload X54.here hx rfl (hb hby at_116) rfl rfl (XS.aconstNull X54.here hx rfl (hb hby at_118) (XS.iconst X54.here hx rfl (hb hby at_119) (XS.iload X54.here hx rfl (hb hby at_120) rfl (XS.iload X54.here hx rfl (hb hby at_122) rfl k)))))) ?_
    obtain ⟨_, _, ⟨T55, L55, k55, n55⟩, -, X55, ⟨Lc55, hQ55, l55, y55, z55⟩, st55⟩ := Jvm.LawKit.callS X54 hx (y := (⟨"com/example/wee_match/weematch/WindowsBytesPinLaw", "slot", "([B[BIII)Z"⟩ : MethodName)) hown (mvT hZ (own_w hw 25 rfl)) (mvT hZ (own_w hw 26 rfl)) (mvT hZ (own_w hw 27 rfl)) (mvT hZ (own_w hw 28 rfl)) (by decide) (backOf (W := 0) (rm4co l Z a0 hw [] (2 : Int32) (2 : Int32) s1 T47.heap n0 Zs (by decide) (by decide)) hZ (own_w hw 28 rfl) (own_w hw 27 rfl) (by decide) (by decide)) (g := (mkF m 124 #[.val (.int p0), .val (.int p1), .val (.int p2), .val (.int p3), .val (.int (2 : Int32)), .val (.int s1), .val (.int u2), .val (.int s2), .val (.ref b45), .val (.ref b46), .val (.ref c0), .val (.ref c1), .val .null, .val .null, .unset, .unset, .unset] [(.int s1), (.int (2 : Int32)), (.int (2 : Int32)), .null, .null])) rfl (by rw [hml]; rfl) (argsL := [.null, .null, (.int (2 : Int32)), (.int (2 : Int32)), (.int s1)]) (rest := []) (lenOf pd_2 rfl) rfl (by show 2 * 0 + _ ≤ _; exact Nat.le_of_eq rfl) (hb hby at_124) (fun _ _ => ⟨rfl, eq54, (by decide : 6 + 0 ≤ _), (by decide : 32981 + 0 ≤ _)⟩)
    dsimp only [Pt.U, Pt.locs, Pt.cells, Pt.slots] at X55 l55 y55 z55 st55 hQ55
    subst l55 y55 z55
    obtain ⟨hv55, Nq55, eq55⟩ := hQ55
    subst hv55
    replace Nf := Fr.app Nf Nq55
    refine own_go (x' := T55.setTop (mkF m 127 #[.val (.int p0), .val (.int p1), .val (.int p2), .val (.int p3), .val (.int (2 : Int32)), .val (.int s1), .val (.int u2), .val (.int s2), .val (.ref b45), .val (.ref b46), .val (.ref c0), .val (.ref c1), .val .null, .val .null, .unset, .unset, .unset] [(.int (1 : Int32))])) st55 ?_
    refine own_go (x' := T55.setTop (mkF m 138 #[.val (.int p0), .val (.int p1), .val (.int p2), .val (.int p3), .val (.int (2 : Int32)), .val (.int s1), .val (.int u2), .val (.int s2), .val (.ref b45), .val (.ref b46), .val (.ref c0), .val (.ref c1), .val .null, .val .null, .unset, .unset, .unset] [(.int s1), (.int (2 : Int32)), (.int (3 : Int32)), .null, .null])) (fun _ k => XS.ifNo X55.here hx rfl (hb hby at_127) rfl ((if0 _ _).trans (feq (by decide +kernel : ¬ ((1 : Int32) = (0 : Int32)))).1) (XS.aload X55.here hx rfl (hb hby at_130) rfl rfl (XS.aconstNull X55.here hx rfl (hb hby at_132) (XS.iconst X55.here hx rfl (hb hby at_133) (XS.iload X55.here hx rfl (hb hby at_134) rfl (XS.iload X55.here hx rfl (hb hby at_136) rfl k)))))) ?_
    obtain ⟨_, _, ⟨T56, L56, k56, n56⟩, -, X56, ⟨Lc56, hQ56, l56, y56, z56⟩, st56⟩ := Jvm.LawKit.callS X55 hx (y := (⟨"com/example/wee_match/weematch/WindowsBytesPinLaw", "slot", "([B[BIII)Z"⟩ : MethodName)) hown (mvT hZ (own_w hw 25 rfl)) (mvT hZ (own_w hw 26 rfl)) (mvT hZ (own_w hw 27 rfl)) (mvT hZ (own_w hw 28 rfl)) (by decide) (backOf (W := 0) (rm4co l Z a0 hw [] (3 : Int32) (2 : Int32) s1 T47.heap n0 Zs (by decide) (by decide)) hZ (own_w hw 28 rfl) (own_w hw 27 rfl) (by decide) (by decide)) (g := (mkF m 138 #[.val (.int p0), .val (.int p1), .val (.int p2), .val (.int p3), .val (.int (2 : Int32)), .val (.int s1), .val (.int u2), .val (.int s2), .val (.ref b45), .val (.ref b46), .val (.ref c0), .val (.ref c1), .val .null, .val .null, .unset, .unset, .unset] [(.int s1), (.int (2 : Int32)), (.int (3 : Int32)), .null, .null])) rfl (by rw [hml]; rfl) (argsL := [.null, .null, (.int (3 : Int32)), (.int (2 : Int32)), (.int s1)]) (rest := []) (lenOf pd_2 rfl) rfl (by show 2 * 0 + _ ≤ _; exact Nat.le_of_eq rfl) (hb hby at_138) (fun _ _ => ⟨rfl, eq55, (by decide : 6 + 0 ≤ _), (by decide : 32981 + 0 ≤ _)⟩)
    dsimp only [Pt.U, Pt.locs, Pt.cells, Pt.slots] at X56 l56 y56 z56 st56 hQ56
    subst l56 y56 z56
    obtain ⟨hv56, Nq56, eq56⟩ := hQ56
    subst hv56
    replace Nf := Fr.app Nf Nq56
    refine own_go (x' := T56.setTop (mkF m 141 #[.val (.int p0), .val (.int p1), .val (.int p2), .val (.int p3), .val (.int (2 : Int32)), .val (.int s1), .val (.int u2), .val (.int s2), .val (.ref b45), .val (.ref b46), .val (.ref c0), .val (.ref c1), .val .null, .val .null, .unset, .unset, .unset] [(.int (1 : Int32))])) st56 ?_
    refine own_go (x' := T56.setTop (mkF m 155 #[.val (.int p0), .val (.int p1), .val (.int p2), .val (.int p3), .val (.int (2 : Int32)), .val (.int s1), .val (.int u2), .val (.int s2), .val (.ref b45), .val (.ref b46), .val (.ref c0), .val (.ref c1), .val .null, .val .null, .val (.int (1 : Int32)), .unset, .unset] [(.int u2), (.ref b45)])) (fun _ k => XS.ifNo X56.here hx rfl (hb hby at_141) rfl ((if0 _ _).trans (feq (by decide +kernel : ¬ ((1 : Int32) = (0 : Int32)))).1) (XS.iconst X56.here hx rfl (hb hby at_144) (XS.goto X56.here hx rfl (pc0 := 145) (pc' := 149) rfl (hb hby at_145) (by decide) (by decide) (XS.istore X56.here hx rfl (hb hby at_149) rfl (l' := #[.val (.int p0), .val (.int p1), .val (.int p2), .val (.int p3), .val (.int (2 : Int32)), .val (.int s1), .val (.int u2), .val (.int s2), .val (.ref b45), .val (.ref b46), .val (.ref c0), .val (.ref c1), .val .null, .val .null, .val (.int (1 : Int32)), .unset, .unset]) rfl (XS.aload X56.here hx rfl (hb hby at_151) rfl rfl (XS.iload X56.here hx rfl (hb hby at_153) rfl k)))))) ?_
    refine own_go (x' := T56.setTop (mkF m 157 #[.val (.int p0), .val (.int p1), .val (.int p2), .val (.int p3), .val (.int (2 : Int32)), .val (.int s1), .val (.int u2), .val (.int s2), .val (.ref b45), .val (.ref b46), .val (.ref c0), .val (.ref c1), .val .null, .val .null, .val (.int (1 : Int32)), .unset, .unset] [(.int s2), (.int u2), (.ref b45)])) (fun _ k => XS.iload X56.here hx rfl (hb hby at_155) rfl k) ?_
    obtain ⟨cq57, kq57, q57a, q57b, q57c⟩ := isOf hZ eq56 E_b45
    obtain ⟨_, _, ⟨T57, L57, k57, n57⟩, -, X57, ⟨Lc57, hQ57, l57, y57, z57⟩, st57⟩ := X56.virtualBack hx (y := (⟨"com/example/wee_match/weematch/Sieve$Windows", "bytes", "(II)[[B"⟩ : MethodName)) (z := (⟨"com/example/wee_match/weematch/Sieve$Windows", "bytes", "(II)[[B"⟩ : MethodName)) hown (mvT hZ (own_w hw 20 rfl)) (mvT hZ (own_w hw 21 rfl)) (notFace_of_selects (args := #[]) (mvT hZ (own_w hw 23 rfl))) (mvT hZ (own_w hw 23 rfl)) (mvT hZ (own_w hw 22 rfl)) (by decide) (backOf (W := 0) (rmS_2 l Z a0 hw [] b45 u2 s2 b46 kc46 (s1 + (64 : Int32)) s1 c0 kk0 c1 kk1 T47.heap n0 Zs F_b45_bytes V_b46 O_b46 ne_b45_b46 g_b46 hs2 ht2 hu2 V_c0 V_c1 ne_c0_b46 ne_c1_b46) hZ (own_w hw 24 rfl) (own_w hw 2 rfl) (by decide) (by decide)) q57a q57c (g := (mkF m 157 #[.val (.int p0), .val (.int p1), .val (.int p2), .val (.int p3), .val (.int (2 : Int32)), .val (.int s1), .val (.int u2), .val (.int s2), .val (.ref b45), .val (.ref b46), .val (.ref c0), .val (.ref c1), .val .null, .val .null, .val (.int (1 : Int32)), .unset, .unset] [(.int s2), (.int u2), (.ref b45)])) rfl (by rw [hml]; rfl) (Steps.refl _) (argsL := [(.int u2), (.int s2)]) (rest := []) (lenOf pd_1 rfl) rfl (by show 2 * 0 + _ ≤ _; exact Nat.le_of_eq rfl) (hb hby at_157) (fun _ _ => ⟨rfl, eq56, (by decide : 6 + 4 ≤ _), (by decide : 32981 + 65596 ≤ _)⟩)
    dsimp only [Pt.U, Pt.locs, Pt.cells, Pt.slots] at X57 l57 y57 z57 st57 hQ57
    subst l57 y57 z57
    obtain ⟨w0, w1, w2, w3, hv57, Nq57, K57, Vn57, R0, R1, R2, R3⟩ := hQ57
    subst hv57
    replace Nf := Fr.app Nf Nq57
    have lt_c0 := V_c0.lt
    have lt_c1 := V_c1.lt
    have r_w0 := R0.ref.1
    have c_w0 := R0.ref.2
    have r_w1 := R1.ref.1
    have c_w1 := R1.ref.2
    have r_w2 := R2.ref.1
    have c_w2 := R2.ref.2
    have r_w3 := R3.ref.1
    have c_w3 := R3.ref.2
    replace E_b45 := E_b45.keep K57
    replace V_c0 := V_c0.keep K57 (ninS ne_c0_b46 nin0)
    replace V_c1 := V_c1.keep K57 (ninS ne_c1_b46 nin0)
    replace Zs := Nat.le_trans Zs K57.1
    replace V_b46 := Vn57
    refine own_go (x' := T57.setTop (mkF m 160 #[.val (.int p0), .val (.int p1), .val (.int p2), .val (.int p3), .val (.int (2 : Int32)), .val (.int s1), .val (.int u2), .val (.int s2), .val (.ref b45), .val (.ref b46), .val (.ref c0), .val (.ref c1), .val .null, .val .null, .val (.int (1 : Int32)), .unset, .unset] [(.ref b46)])) (fun _ k => st57.trans k) ?_
    refine own_go (x' := T57.setTop (mkF m 169 #[.val (.int p0), .val (.int p1), .val (.int p2), .val (.int p3), .val (.int (2 : Int32)), .val (.int s1), .val (.int u2), .val (.int s2), .val (.ref b45), .val (.ref b46), .val (.ref c0), .val (.ref c1), .val .null, .val .null, .val (.int (1 : Int32)), .val (.ref b46), .unset] [(.ref b46)])) (fun _ k => XS.astore X57.here hx rfl (hb hby at_160) rfl rfl (l' := #[.val (.int p0), .val (.int p1), .val (.int p2), .val (.int p3), .val (.int (2 : Int32)), .val (.int s1), .val (.int u2), .val (.int s2), .val (.ref b45), .val (.ref b46), .val (.ref c0), .val (.ref c1), .val .null, .val .null, .val (.int (1 : Int32)), .val (.ref b46), .unset]) rfl (XS.aload X57.here hx rfl (hb hby at_162) rfl rfl (XS.ifnullNo X57.here hx rfl (hb hby at_164) rfl (XS.aload X57.here hx rfl (hb hby at_167) rfl rfl k)))) ?_
    obtain ⟨cl58, Ar58, -, Sz58, Nn58, -, -⟩ := id V_b46
    refine own_go (x' := T57.setTop (mkF m 170 #[.val (.int p0), .val (.int p1), .val (.int p2), .val (.int p3), .val (.int (2 : Int32)), .val (.int s1), .val (.int u2), .val (.int s2), .val (.ref b45), .val (.ref b46), .val (.ref c0), .val (.ref c1), .val .null, .val .null, .val (.int (1 : Int32)), .val (.ref b46), .unset] [(.int (4 : Int32))])) (fun t k => X57.arraylength hx (Eq.trans (congrArg (fun h_ => h_[_]?) rfl) Ar58.1) (State.isArrayOf_alike hZ.alike Ar58.2.1) (g := (mkF m 169 #[.val (.int p0), .val (.int p1), .val (.int p2), .val (.int p3), .val (.int (2 : Int32)), .val (.int s1), .val (.int u2), .val (.int s2), .val (.ref b45), .val (.ref b46), .val (.ref c0), .val (.ref c1), .val .null, .val .null, .val (.int (1 : Int32)), .val (.ref b46), .unset] [(.ref b46)])) rfl rfl (hb hby at_169) t (by rw [len_of Sz58 Nn58]; exact k)) ?_
    refine own_go (x' := T57.setTop (mkF m 179 #[.val (.int p0), .val (.int p1), .val (.int p2), .val (.int p3), .val (.int (2 : Int32)), .val (.int s1), .val (.int u2), .val (.int s2), .val (.ref b45), .val (.ref b46), .val (.ref c0), .val (.ref c1), .val .null, .val .null, .val (.int (1 : Int32)), .val (.ref b46), .unset] [(.int (0 : Int32)), (.ref b46)])) (fun _ k => XS.iconst X57.here hx rfl (hb hby at_170) (XS.icmpYes X57.here hx rfl (pc0 := 171) (pc' := 176) rfl (hb hby at_171) rfl (teq rfl).1 (by decide) (by decide) (XS.aload X57.here hx rfl (hb hby at_176) rfl rfl (XS.iconst X57.here hx rfl (hb hby at_178) k)))) ?_
    obtain ⟨cl59, Ar59, q59, Sz59, Nn59, Hh59, Gg59⟩ := id V_b46
    have hin59 : ¬ ((0 : Int32) < 0 ∨ cl59.slots.size ≤ ((0 : Int32)).toNatClampNeg) := inb_of Sz59 ⟨by decide, by decide⟩
    refine own_go (x' := T57.setTop (mkF m 180 #[.val (.int p0), .val (.int p1), .val (.int p2), .val (.int p3), .val (.int (2 : Int32)), .val (.int s1), .val (.int u2), .val (.int s2), .val (.ref b45), .val (.ref b46), .val (.ref c0), .val (.ref c1), .val .null, .val .null, .val (.int (1 : Int32)), .val (.ref b46), .unset] [w0])) (X57.aaload hx (j := (0 : Int32)) (v := w0) (Eq.trans (congrArg (fun h_ => h_[_]?) rfl) Ar59.1) (State.isArrayOf_alike hZ.alike Ar59.2.1) rfl Ar59.2.2 hin59 (Hh59.at hin59 rfl) (g := (mkF m 179 #[.val (.int p0), .val (.int p1), .val (.int p2), .val (.int p3), .val (.int (2 : Int32)), .val (.int s1), .val (.int u2), .val (.int s2), .val (.ref b45), .val (.ref b46), .val (.ref c0), .val (.ref c1), .val .null, .val .null, .val (.int (1 : Int32)), .val (.ref b46), .unset] [(.int (0 : Int32)), (.ref b46)])) rfl rfl (hb hby at_179)) ?_
    refine own_go (x' := T57.setTop (mkF m 187 #[.val (.int p0), .val (.int p1), .val (.int p2), .val (.int p3), .val (.int (2 : Int32)), .val (.int s1), .val (.int u2), .val (.int s2), .val (.ref b45), .val (.ref b46), .val (.ref c0), .val (.ref c1), .val .null, .val .null, .val (.int (1 : Int32)), .val (.ref b46), .unset] [(.int s2), (.int u2), (.int (0 : Int32)), (.ref c0), w0])) (fun _ k => XS.aload X57.here hx rfl (hb hby at_180) rfl rfl (XS.iconst X57.here hx rfl (hb hby at_182) (XS.iload X57.here hx rfl (hb hby at_183) rfl (XS.iload X57.here hx rfl (hb hby at_185) rfl k)))) ?_
    obtain ⟨_, _, ⟨T60, L60, k60, n60⟩, -, X60, ⟨Lc60, hQ60, l60, y60, z60⟩, st60⟩ := Jvm.LawKit.callS X57 hx (y := (⟨"com/example/wee_match/weematch/WindowsBytesPinLaw", "slot", "([B[BIII)Z"⟩ : MethodName)) hown (mvT hZ (own_w hw 25 rfl)) (mvT hZ (own_w hw 26 rfl)) (mvT hZ (own_w hw 27 rfl)) (mvT hZ (own_w hw 28 rfl)) (by decide) (backOf (W := 0) (rm4pz l Z a0 hw [] w0 c0 (0 : Int32) u2 (s1 + (64 : Int32)) s2 kk0 _ T57.heap n0 Zs V_c0 R0 (by decide)) hZ (own_w hw 28 rfl) (own_w hw 27 rfl) (by decide) (by decide)) (g := (mkF m 187 #[.val (.int p0), .val (.int p1), .val (.int p2), .val (.int p3), .val (.int (2 : Int32)), .val (.int s1), .val (.int u2), .val (.int s2), .val (.ref b45), .val (.ref b46), .val (.ref c0), .val (.ref c1), .val .null, .val .null, .val (.int (1 : Int32)), .val (.ref b46), .unset] [(.int s2), (.int u2), (.int (0 : Int32)), (.ref c0), w0])) rfl (by rw [hml]; rfl) (argsL := [w0, (.ref c0), (.int (0 : Int32)), (.int u2), (.int s2)]) (rest := []) (lenOf pd_2 rfl) rfl (by show 2 * 0 + _ ≤ _; exact Nat.le_of_eq rfl) (hb hby at_187) (fun _ _ => ⟨rfl, rfl, (by decide : 10 + 0 ≤ _), (by decide : 98577 + 0 ≤ _)⟩)
    dsimp only [Pt.U, Pt.locs, Pt.cells, Pt.slots] at X60 l60 y60 z60 st60 hQ60
    subst l60 y60 z60
    obtain ⟨hv60, Nq60, eq60⟩ := hQ60
    subst hv60
    replace Nf := Fr.app Nf Nq60
    refine own_go (x' := T60.setTop (mkF m 190 #[.val (.int p0), .val (.int p1), .val (.int p2), .val (.int p3), .val (.int (2 : Int32)), .val (.int s1), .val (.int u2), .val (.int s2), .val (.ref b45), .val (.ref b46), .val (.ref c0), .val (.ref c1), .val .null, .val .null, .val (.int (1 : Int32)), .val (.ref b46), .unset] [(.int (1 : Int32))])) st60 ?_
    refine own_go (x' := T60.setTop (mkF m 196 #[.val (.int p0), .val (.int p1), .val (.int p2), .val (.int p3), .val (.int (2 : Int32)), .val (.int s1), .val (.int u2), .val (.int s2), .val (.ref b45), .val (.ref b46), .val (.ref c0), .val (.ref c1), .val .null, .val .null, .val (.int (1 : Int32)), .val (.ref b46), .unset] [(.int (1 : Int32)), (.ref b46)])) (fun _ k => XS.ifNo X60.here hx rfl (hb hby at_190) rfl ((if0 _ _).trans (feq (by decide +kernel : ¬ ((1 : Int32) = (0 : Int32)))).1) (XS.aload X60.here hx rfl (hb hby at_193) rfl rfl (XS.iconst X60.here hx rfl (hb hby at_195) k))) ?_
    obtain ⟨cl61, Ar61, q61, Sz61, Nn61, Hh61, Gg61⟩ := id V_b46
    have hin61 : ¬ ((1 : Int32) < 0 ∨ cl61.slots.size ≤ ((1 : Int32)).toNatClampNeg) := inb_of Sz61 ⟨by decide, by decide⟩
    refine own_go (x' := T60.setTop (mkF m 197 #[.val (.int p0), .val (.int p1), .val (.int p2), .val (.int p3), .val (.int (2 : Int32)), .val (.int s1), .val (.int u2), .val (.int s2), .val (.ref b45), .val (.ref b46), .val (.ref c0), .val (.ref c1), .val .null, .val .null, .val (.int (1 : Int32)), .val (.ref b46), .unset] [w1])) (X60.aaload hx (j := (1 : Int32)) (v := w1) (Eq.trans (congrArg (fun h_ => h_[_]?) eq60) Ar61.1) (State.isArrayOf_alike hZ.alike Ar61.2.1) rfl Ar61.2.2 hin61 (Hh61.at hin61 rfl) (g := (mkF m 196 #[.val (.int p0), .val (.int p1), .val (.int p2), .val (.int p3), .val (.int (2 : Int32)), .val (.int s1), .val (.int u2), .val (.int s2), .val (.ref b45), .val (.ref b46), .val (.ref c0), .val (.ref c1), .val .null, .val .null, .val (.int (1 : Int32)), .val (.ref b46), .unset] [(.int (1 : Int32)), (.ref b46)])) rfl rfl (hb hby at_196)) ?_
    refine own_go (x' := T60.setTop (mkF m 204 #[.val (.int p0), .val (.int p1), .val (.int p2), .val (.int p3), .val (.int (2 : Int32)), .val (.int s1), .val (.int u2), .val (.int s2), .val (.ref b45), .val (.ref b46), .val (.ref c0), .val (.ref c1), .val .null, .val .null, .val (.int (1 : Int32)), .val (.ref b46), .unset] [(.int s2), (.int u2), (.int (1 : Int32)), (.ref c1), w1])) (fun _ k => XS.aload X60.here hx rfl (hb hby at_197) rfl rfl (XS.iconst X60.here hx rfl (hb hby at_199) (XS.iload X60.here hx rfl (hb hby at_200) rfl (XS.iload X60.here hx rfl (hb hby at_202) rfl k)))) ?_
    obtain ⟨_, _, ⟨T62, L62, k62, n62⟩, -, X62, ⟨Lc62, hQ62, l62, y62, z62⟩, st62⟩ := Jvm.LawKit.callS X60 hx (y := (⟨"com/example/wee_match/weematch/WindowsBytesPinLaw", "slot", "([B[BIII)Z"⟩ : MethodName)) hown (mvT hZ (own_w hw 25 rfl)) (mvT hZ (own_w hw 26 rfl)) (mvT hZ (own_w hw 27 rfl)) (mvT hZ (own_w hw 28 rfl)) (by decide) (backOf (W := 0) (rm4po l Z a0 hw [] w1 c1 (1 : Int32) u2 s1 s2 kk1 _ T57.heap n0 Zs V_c1 R1 (by decide)) hZ (own_w hw 28 rfl) (own_w hw 27 rfl) (by decide) (by decide)) (g := (mkF m 204 #[.val (.int p0), .val (.int p1), .val (.int p2), .val (.int p3), .val (.int (2 : Int32)), .val (.int s1), .val (.int u2), .val (.int s2), .val (.ref b45), .val (.ref b46), .val (.ref c0), .val (.ref c1), .val .null, .val .null, .val (.int (1 : Int32)), .val (.ref b46), .unset] [(.int s2), (.int u2), (.int (1 : Int32)), (.ref c1), w1])) rfl (by rw [hml]; rfl) (argsL := [w1, (.ref c1), (.int (1 : Int32)), (.int u2), (.int s2)]) (rest := []) (lenOf pd_2 rfl) rfl (by show 2 * 0 + _ ≤ _; exact Nat.le_of_eq rfl) (hb hby at_204) (fun _ _ => ⟨rfl, eq60, (by decide : 10 + 0 ≤ _), (by decide : 98577 + 0 ≤ _)⟩)
    dsimp only [Pt.U, Pt.locs, Pt.cells, Pt.slots] at X62 l62 y62 z62 st62 hQ62
    subst l62 y62 z62
    obtain ⟨hv62, Nq62, eq62⟩ := hQ62
    subst hv62
    replace Nf := Fr.app Nf Nq62
    refine own_go (x' := T62.setTop (mkF m 207 #[.val (.int p0), .val (.int p1), .val (.int p2), .val (.int p3), .val (.int (2 : Int32)), .val (.int s1), .val (.int u2), .val (.int s2), .val (.ref b45), .val (.ref b46), .val (.ref c0), .val (.ref c1), .val .null, .val .null, .val (.int (1 : Int32)), .val (.ref b46), .unset] [(.int (1 : Int32))])) st62 ?_
    refine own_go (x' := T62.setTop (mkF m 213 #[.val (.int p0), .val (.int p1), .val (.int p2), .val (.int p3), .val (.int (2 : Int32)), .val (.int s1), .val (.int u2), .val (.int s2), .val (.ref b45), .val (.ref b46), .val (.ref c0), .val (.ref c1), .val .null, .val .null, .val (.int (1 : Int32)), .val (.ref b46), .unset] [(.int (2 : Int32)), (.ref b46)])) (fun _ k => XS.ifNo X62.here hx rfl (hb hby at_207) rfl ((if0 _ _).trans (feq (by decide +kernel : ¬ ((1 : Int32) = (0 : Int32)))).1) (XS.aload X62.here hx rfl (hb hby at_210) rfl rfl (XS.iconst X62.here hx rfl (hb hby at_212) k))) ?_
    obtain ⟨cl63, Ar63, q63, Sz63, Nn63, Hh63, Gg63⟩ := id V_b46
    have hin63 : ¬ ((2 : Int32) < 0 ∨ cl63.slots.size ≤ ((2 : Int32)).toNatClampNeg) := inb_of Sz63 ⟨by decide, by decide⟩
    refine own_go (x' := T62.setTop (mkF m 214 #[.val (.int p0), .val (.int p1), .val (.int p2), .val (.int p3), .val (.int (2 : Int32)), .val (.int s1), .val (.int u2), .val (.int s2), .val (.ref b45), .val (.ref b46), .val (.ref c0), .val (.ref c1), .val .null, .val .null, .val (.int (1 : Int32)), .val (.ref b46), .unset] [w2])) (X62.aaload hx (j := (2 : Int32)) (v := w2) (Eq.trans (congrArg (fun h_ => h_[_]?) eq62) Ar63.1) (State.isArrayOf_alike hZ.alike Ar63.2.1) rfl Ar63.2.2 hin63 (Hh63.at hin63 rfl) (g := (mkF m 213 #[.val (.int p0), .val (.int p1), .val (.int p2), .val (.int p3), .val (.int (2 : Int32)), .val (.int s1), .val (.int u2), .val (.int s2), .val (.ref b45), .val (.ref b46), .val (.ref c0), .val (.ref c1), .val .null, .val .null, .val (.int (1 : Int32)), .val (.ref b46), .unset] [(.int (2 : Int32)), (.ref b46)])) rfl rfl (hb hby at_213)) ?_
    refine own_go (x' := T62.setTop (mkF m 221 #[.val (.int p0), .val (.int p1), .val (.int p2), .val (.int p3), .val (.int (2 : Int32)), .val (.int s1), .val (.int u2), .val (.int s2), .val (.ref b45), .val (.ref b46), .val (.ref c0), .val (.ref c1), .val .null, .val .null, .val (.int (1 : Int32)), .val (.ref b46), .unset] [(.int s2), (.int u2), (.int (2 : Int32)), .null, w2])) (fun _ k => XS.aload X62.here hx rfl (hb hby at_214) rfl rfl (XS.iconst X62.here hx rfl (hb hby at_216) (XS.iload X62.here hx rfl (hb hby at_217) rfl (XS.iload X62.here hx rfl (hb hby at_219) rfl k)))) ?_
    obtain ⟨_, _, ⟨T64, L64, k64, n64⟩, -, X64, ⟨Lc64, hQ64, l64, y64, z64⟩, st64⟩ := Jvm.LawKit.callS X62 hx (y := (⟨"com/example/wee_match/weematch/WindowsBytesPinLaw", "slot", "([B[BIII)Z"⟩ : MethodName)) hown (mvT hZ (own_w hw 25 rfl)) (mvT hZ (own_w hw 26 rfl)) (mvT hZ (own_w hw 27 rfl)) (mvT hZ (own_w hw 28 rfl)) (by decide) (backOf (W := 0) (rm4no l Z a0 hw [] w2 (2 : Int32) u2 s2 T57.heap n0 Zs R2 (by decide)) hZ (own_w hw 28 rfl) (own_w hw 27 rfl) (by decide) (by decide)) (g := (mkF m 221 #[.val (.int p0), .val (.int p1), .val (.int p2), .val (.int p3), .val (.int (2 : Int32)), .val (.int s1), .val (.int u2), .val (.int s2), .val (.ref b45), .val (.ref b46), .val (.ref c0), .val (.ref c1), .val .null, .val .null, .val (.int (1 : Int32)), .val (.ref b46), .unset] [(.int s2), (.int u2), (.int (2 : Int32)), .null, w2])) rfl (by rw [hml]; rfl) (argsL := [w2, .null, (.int (2 : Int32)), (.int u2), (.int s2)]) (rest := []) (lenOf pd_2 rfl) rfl (by show 2 * 0 + _ ≤ _; exact Nat.le_of_eq rfl) (hb hby at_221) (fun _ _ => ⟨rfl, eq62, (by decide : 10 + 0 ≤ _), (by decide : 98577 + 0 ≤ _)⟩)
    dsimp only [Pt.U, Pt.locs, Pt.cells, Pt.slots] at X64 l64 y64 z64 st64 hQ64
    subst l64 y64 z64
    obtain ⟨hv64, Nq64, eq64⟩ := hQ64
    subst hv64
    replace Nf := Fr.app Nf Nq64
    refine own_go (x' := T64.setTop (mkF m 224 #[.val (.int p0), .val (.int p1), .val (.int p2), .val (.int p3), .val (.int (2 : Int32)), .val (.int s1), .val (.int u2), .val (.int s2), .val (.ref b45), .val (.ref b46), .val (.ref c0), .val (.ref c1), .val .null, .val .null, .val (.int (1 : Int32)), .val (.ref b46), .unset] [(.int (1 : Int32))])) st64 ?_
    refine own_go (x' := T64.setTop (mkF m 230 #[.val (.int p0), .val (.int p1), .val (.int p2), .val (.int p3), .val (.int (2 : Int32)), .val (.int s1), .val (.int u2), .val (.int s2), .val (.ref b45), .val (.ref b46), .val (.ref c0), .val (.ref c1), .val .null, .val .null, .val (.int (1 : Int32)), .val (.ref b46), .unset] [(.int (3 : Int32)), (.ref b46)])) (fun _ k => XS.ifNo X64.here hx rfl (hb hby at_224) rfl ((if0 _ _).trans (feq (by decide +kernel : ¬ ((1 : Int32) = (0 : Int32)))).1) (XS.aload X64.here hx rfl (hb hby at_227) rfl rfl (XS.iconst X64.here hx rfl (hb hby at_229) k))) ?_
    obtain ⟨cl65, Ar65, q65, Sz65, Nn65, Hh65, Gg65⟩ := id V_b46
    have hin65 : ¬ ((3 : Int32) < 0 ∨ cl65.slots.size ≤ ((3 : Int32)).toNatClampNeg) := inb_of Sz65 ⟨by decide, by decide⟩
    refine own_go (x' := T64.setTop (mkF m 231 #[.val (.int p0), .val (.int p1), .val (.int p2), .val (.int p3), .val (.int (2 : Int32)), .val (.int s1), .val (.int u2), .val (.int s2), .val (.ref b45), .val (.ref b46), .val (.ref c0), .val (.ref c1), .val .null, .val .null, .val (.int (1 : Int32)), .val (.ref b46), .unset] [w3])) (X64.aaload hx (j := (3 : Int32)) (v := w3) (Eq.trans (congrArg (fun h_ => h_[_]?) eq64) Ar65.1) (State.isArrayOf_alike hZ.alike Ar65.2.1) rfl Ar65.2.2 hin65 (Hh65.at hin65 rfl) (g := (mkF m 230 #[.val (.int p0), .val (.int p1), .val (.int p2), .val (.int p3), .val (.int (2 : Int32)), .val (.int s1), .val (.int u2), .val (.int s2), .val (.ref b45), .val (.ref b46), .val (.ref c0), .val (.ref c1), .val .null, .val .null, .val (.int (1 : Int32)), .val (.ref b46), .unset] [(.int (3 : Int32)), (.ref b46)])) rfl rfl (hb hby at_230)) ?_
    refine own_go (x' := T64.setTop (mkF m 238 #[.val (.int p0), .val (.int p1), .val (.int p2), .val (.int p3), .val (.int (2 : Int32)), .val (.int s1), .val (.int u2), .val (.int s2), .val (.ref b45), .val (.ref b46), .val (.ref c0), .val (.ref c1), .val .null, .val .null, .val (.int (1 : Int32)), .val (.ref b46), .unset] [(.int s2), (.int u2), (.int (3 : Int32)), .null, w3])) (fun _ k => XS.aload X64.here hx rfl (hb hby at_231) rfl rfl (XS.iconst X64.here hx rfl (hb hby at_233) (XS.iload X64.here hx rfl (hb hby at_234) rfl (XS.iload X64.here hx rfl (hb hby at_236) rfl k)))) ?_
    obtain ⟨_, _, ⟨T66, L66, k66, n66⟩, -, X66, ⟨Lc66, hQ66, l66, y66, z66⟩, st66⟩ := Jvm.LawKit.callS X64 hx (y := (⟨"com/example/wee_match/weematch/WindowsBytesPinLaw", "slot", "([B[BIII)Z"⟩ : MethodName)) hown (mvT hZ (own_w hw 25 rfl)) (mvT hZ (own_w hw 26 rfl)) (mvT hZ (own_w hw 27 rfl)) (mvT hZ (own_w hw 28 rfl)) (by decide) (backOf (W := 0) (rm4no l Z a0 hw [] w3 (3 : Int32) u2 s2 T57.heap n0 Zs R3 (by decide)) hZ (own_w hw 28 rfl) (own_w hw 27 rfl) (by decide) (by decide)) (g := (mkF m 238 #[.val (.int p0), .val (.int p1), .val (.int p2), .val (.int p3), .val (.int (2 : Int32)), .val (.int s1), .val (.int u2), .val (.int s2), .val (.ref b45), .val (.ref b46), .val (.ref c0), .val (.ref c1), .val .null, .val .null, .val (.int (1 : Int32)), .val (.ref b46), .unset] [(.int s2), (.int u2), (.int (3 : Int32)), .null, w3])) rfl (by rw [hml]; rfl) (argsL := [w3, .null, (.int (3 : Int32)), (.int u2), (.int s2)]) (rest := []) (lenOf pd_2 rfl) rfl (by show 2 * 0 + _ ≤ _; exact Nat.le_of_eq rfl) (hb hby at_238) (fun _ _ => ⟨rfl, eq64, (by decide : 10 + 0 ≤ _), (by decide : 98577 + 0 ≤ _)⟩)
    dsimp only [Pt.U, Pt.locs, Pt.cells, Pt.slots] at X66 l66 y66 z66 st66 hQ66
    subst l66 y66 z66
    obtain ⟨hv66, Nq66, eq66⟩ := hQ66
    subst hv66
    replace Nf := Fr.app Nf Nq66
    refine own_go (x' := T66.setTop (mkF m 241 #[.val (.int p0), .val (.int p1), .val (.int p2), .val (.int p3), .val (.int (2 : Int32)), .val (.int s1), .val (.int u2), .val (.int s2), .val (.ref b45), .val (.ref b46), .val (.ref c0), .val (.ref c1), .val .null, .val .null, .val (.int (1 : Int32)), .val (.ref b46), .unset] [(.int (1 : Int32))])) st66 ?_
    refine own_go (x' := T66.setTop (mkF m 256 #[.val (.int p0), .val (.int p1), .val (.int p2), .val (.int p3), .val (.int (2 : Int32)), .val (.int s1), .val (.int u2), .val (.int s2), .val (.ref b45), .val (.ref b46), .val (.ref c0), .val (.ref c1), .val .null, .val .null, .val (.int (1 : Int32)), .val (.ref b46), .val (.int (1 : Int32))] [])) (fun _ k => XS.ifNo X66.here hx rfl (hb hby at_241) rfl ((if0 _ _).trans (feq (by decide +kernel : ¬ ((1 : Int32) = (0 : Int32)))).1) (XS.iconst X66.here hx rfl (hb hby at_244) (XS.goto X66.here hx rfl (pc0 := 245) (pc' := 249) rfl (hb hby at_245) (by decide) (by decide) (XS.istore X66.here hx rfl (hb hby at_249) rfl (l' := #[.val (.int p0), .val (.int p1), .val (.int p2), .val (.int p3), .val (.int (2 : Int32)), .val (.int s1), .val (.int u2), .val (.int s2), .val (.ref b45), .val (.ref b46), .val (.ref c0), .val (.ref c1), .val .null, .val .null, .val (.int (1 : Int32)), .val (.ref b46), .val (.int (1 : Int32))]) rfl (XS.iload X66.here hx rfl (hb hby at_251) rfl (XS.ifNo X66.here hx rfl (hb hby at_253) rfl ((if0 _ _).trans (feq (by decide +kernel : ¬ ((1 : Int32) = (0 : Int32)))).1) k)))))) ?_
    refine own_go (x' := T66.setTop (mkF m 266 #[.val (.int p0), .val (.int p1), .val (.int p2), .val (.int p3), .val (.int (2 : Int32)), .val (.int s1), .val (.int u2), .val (.int s2), .val (.ref b45), .val (.ref b46), .val (.ref c0), .val (.ref c1), .val .null, .val .null, .val (.int (1 : Int32)), .val (.ref b46), .val (.int (1 : Int32))] [(.int (1 : Int32))])) (fun _ k => XS.iload X66.here hx rfl (hb hby at_256) rfl (XS.ifNo X66.here hx rfl (hb hby at_258) rfl ((if0 _ _).trans (feq (by decide +kernel : ¬ ((1 : Int32) = (0 : Int32)))).1) (XS.iconst X66.here hx rfl (hb hby at_261) (XS.goto X66.here hx rfl (pc0 := 262) (pc' := 266) rfl (hb hby at_262) (by decide) (by decide) k)))) ?_
    refine own_retN X66 hx hlk (t := .boolean) hret (by simp) (hb hby at_266) (w := (1 : Int32)) rfl ?_ (by decide) (by decide)
    rw [eq66]
    exact ⟨rfl, Nf⟩
  · rw [hq]
    obtain ⟨T67, h67, X67, e67, E67, A67, D67, -, st67⟩ := newO X0 hx hZ hown (own_w hw 0 rfl) (own_w hw 1 rfl) (own_w hw 2 rfl) e0 (g := (mkF m 30 #[.val (.int p0), .val (.int p1), .val (.int p2), .val (.int p3), .val (.int (3 : Int32)), .val (.int s1), .val (.int u2), .val (.int s2), .unset, .unset, .unset, .unset, .unset, .unset, .unset, .unset, .unset] [])) rfl (hb hby at_30) (by decide) (by decide)
    obtain ⟨b67, g67⟩ : ∃ z, z = h0.size := ⟨_, rfl⟩
    rw [← g67] at A67 D67 st67
    have g_b67 : n0 ≤ b67 := Nat.le_trans Zs (Nat.le_of_eq g67.symm)
    replace Zs := Nat.le_trans Zs E67.1
    have E_b67 := A67
    have F_b67_bytes : Fld Z h67 b67 "com/example/wee_match/weematch/Sieve$Windows" "bytes" "[[B" .null := D67 (Or.inr (own_w hw 12 rfl)) (ty := (.array (.array .byte))) (by decide)
    have F_b67_chars : Fld Z h67 b67 "com/example/wee_match/weematch/Sieve$Windows" "chars" "[[C" .null := D67 (Or.inr (own_w hw 16 rfl)) (ty := (.array (.array .char))) (by decide)
    have F_b67_starts : Fld Z h67 b67 "com/example/wee_match/weematch/Sieve$Windows" "starts" "[I" .null := D67 (Or.inl (own_w hw 19 rfl)) (ty := (.array .int)) (by decide)
    refine own_go (x' := T67.setTop (mkF m 33 #[.val (.int p0), .val (.int p1), .val (.int p2), .val (.int p3), .val (.int (3 : Int32)), .val (.int s1), .val (.int u2), .val (.int s2), .unset, .unset, .unset, .unset, .unset, .unset, .unset, .unset, .unset] [(.ref b67)])) st67 ?_
    refine own_go (x' := T67.setTop (mkF m 34 #[.val (.int p0), .val (.int p1), .val (.int p2), .val (.int p3), .val (.int (3 : Int32)), .val (.int s1), .val (.int u2), .val (.int s2), .unset, .unset, .unset, .unset, .unset, .unset, .unset, .unset, .unset] [(.ref b67), (.ref b67)])) (fun _ k => XS.dup X67.here hx rfl (hb hby at_33) rfl rfl k) ?_
    obtain ⟨_, _, ⟨T68, L68, k68, n68⟩, -, X68, ⟨Lc68, hQ68, l68, y68, z68⟩, st68⟩ := X67.specialBack hx (y := (⟨"com/example/wee_match/weematch/Sieve$Windows", "<init>", "()V"⟩ : MethodName)) rfl hown (mvT hZ (own_w hw 3 rfl)) (mvT hZ (own_w hw 4 rfl)) (mvT hZ (own_w hw 5 rfl)) (by decide) (backOf (W := 1) (rm1 l Z a0 hw [] b67 h67 n0 Zs E_b67 F_b67_bytes F_b67_chars F_b67_starts g_b67) hZ (own_w hw 5 rfl) (own_w hw 2 rfl) (by decide) (by decide)) (g := (mkF m 34 #[.val (.int p0), .val (.int p1), .val (.int p2), .val (.int p3), .val (.int (3 : Int32)), .val (.int s1), .val (.int u2), .val (.int s2), .unset, .unset, .unset, .unset, .unset, .unset, .unset, .unset, .unset] [(.ref b67), (.ref b67)])) rfl (by rw [hml]; rfl) (Steps.refl _) (a := b67) (argsL := []) (rest := [(.ref b67)]) (lenOf pd_0 rfl) rfl (by show 2 * 0 + _ ≤ _; exact Nat.le_of_eq rfl) (hb hby at_34) (fun _ _ => ⟨rfl, e67, (by decide : 1 + 3 ≤ _), (by decide : 7 + 144 ≤ _)⟩)
    dsimp only [Pt.U, Pt.locs, Pt.cells, Pt.slots] at X68 l68 y68 z68 st68 hQ68
    subst l68 y68 z68
    obtain ⟨b68, kc68, hv68, Nq68, K68, sq68, g_b68, Eo68, Fs68, V_b68, O_b68⟩ := hQ68
    subst hv68
    replace Nf := Fr.app Nf Nq68
    have ne_b67_b68 : b67 ≠ b68 := Nat.ne_of_lt (Nat.lt_of_lt_of_le E_b67.lt sq68)
    replace Zs := Nat.le_trans Zs K68.1
    replace E_b67 := Eo68
    replace F_b67_bytes := Fs68
    refine own_go (x' := T68.setTop (mkF m 37 #[.val (.int p0), .val (.int p1), .val (.int p2), .val (.int p3), .val (.int (3 : Int32)), .val (.int s1), .val (.int u2), .val (.int s2), .unset, .unset, .unset, .unset, .unset, .unset, .unset, .unset, .unset] [(.ref b67)])) (fun _ k => st68.trans k) ?_
    refine own_go (x' := T68.setTop (mkF m 45 #[.val (.int p0), .val (.int p1), .val (.int p2), .val (.int p3), .val (.int (3 : Int32)), .val (.int s1), .val (.int u2), .val (.int s2), .val (.ref b67), .unset, .unset, .unset, .unset, .unset, .unset, .unset, .unset] [(.int s1), (.int (3 : Int32)), (.ref b67)])) (fun _ k => XS.astore X68.here hx rfl (hb hby at_37) rfl rfl (l' := #[.val (.int p0), .val (.int p1), .val (.int p2), .val (.int p3), .val (.int (3 : Int32)), .val (.int s1), .val (.int u2), .val (.int s2), .val (.ref b67), .unset, .unset, .unset, .unset, .unset, .unset, .unset, .unset]) rfl (XS.aload X68.here hx rfl (hb hby at_39) rfl rfl (XS.iload X68.here hx rfl (hb hby at_41) rfl (XS.iload X68.here hx rfl (hb hby at_43) rfl k)))) ?_
    have q69b_lt := E_b67.lt
    obtain ⟨cq69, kq69, q69a, q69b, q69c⟩ := isOf hZ rfl E_b67
    obtain ⟨_, _, ⟨T69, L69, k69, n69⟩, -, X69, ⟨Lc69, hQ69, l69, y69, z69⟩, st69⟩ := X68.virtualBack hx (y := (⟨"com/example/wee_match/weematch/Sieve$Windows", "bytes", "(II)[[B"⟩ : MethodName)) (z := (⟨"com/example/wee_match/weematch/Sieve$Windows", "bytes", "(II)[[B"⟩ : MethodName)) hown (mvT hZ (own_w hw 20 rfl)) (mvT hZ (own_w hw 21 rfl)) (notFace_of_selects (args := #[]) (mvT hZ (own_w hw 23 rfl))) (mvT hZ (own_w hw 23 rfl)) (mvT hZ (own_w hw 22 rfl)) (by decide) (backOf (W := 0) (rmF_3 l Z a0 hw [] b67 s1 b68 kc68 T68.heap n0 Zs F_b67_bytes V_b68 O_b68 ne_b67_b68 g_b68 hs1 ht1) hZ (own_w hw 24 rfl) (own_w hw 2 rfl) (by decide) (by decide)) q69a q69c (g := (mkF m 45 #[.val (.int p0), .val (.int p1), .val (.int p2), .val (.int p3), .val (.int (3 : Int32)), .val (.int s1), .val (.int u2), .val (.int s2), .val (.ref b67), .unset, .unset, .unset, .unset, .unset, .unset, .unset, .unset] [(.int s1), (.int (3 : Int32)), (.ref b67)])) rfl (by rw [hml]; rfl) (Steps.refl _) (argsL := [(.int (3 : Int32)), (.int s1)]) (rest := []) (lenOf pd_1 rfl) rfl (by show 2 * 0 + _ ≤ _; exact Nat.le_of_eq rfl) (hb hby at_45) (fun _ _ => ⟨rfl, rfl, (by decide : 4 + 3 ≤ _), (by decide : 151 + 49213 ≤ _)⟩)
    dsimp only [Pt.U, Pt.locs, Pt.cells, Pt.slots] at X69 l69 y69 z69 st69 hQ69
    subst l69 y69 z69
    obtain ⟨c0, kk0, c1, kk1, c2, kk2, hv69, Nq69, K69, Fs69, Vn69, sq_c0, g_c0, V_c0, sq_c1, g_c1, V_c1, sq_c2, g_c2, V_c2, ne_c0_c1, ne_c0_c2, ne_c1_c2⟩ := hQ69
    subst hv69
    replace Nf := Fr.app Nf Nq69
    replace E_b67 := E_b67.keep K69
    replace Zs := Nat.le_trans Zs K69.1
    replace V_b68 := Vn69
    replace F_b67_bytes := Fs69
    have ne_c0_b68 : c0 ≠ b68 := own_two V_c0 V_b68 (by decide)
    have ne_b67_c0 : b67 ≠ c0 := Nat.ne_of_lt (Nat.lt_of_lt_of_le q69b_lt sq_c0)
    have ne_c1_b68 : c1 ≠ b68 := own_two V_c1 V_b68 (by decide)
    have ne_b67_c1 : b67 ≠ c1 := Nat.ne_of_lt (Nat.lt_of_lt_of_le q69b_lt sq_c1)
    have ne_c2_b68 : c2 ≠ b68 := own_two V_c2 V_b68 (by decide)
    have ne_b67_c2 : b67 ≠ c2 := Nat.ne_of_lt (Nat.lt_of_lt_of_le q69b_lt sq_c2)
    refine own_go (x' := T69.setTop (mkF m 48 #[.val (.int p0), .val (.int p1), .val (.int p2), .val (.int p3), .val (.int (3 : Int32)), .val (.int s1), .val (.int u2), .val (.int s2), .val (.ref b67), .unset, .unset, .unset, .unset, .unset, .unset, .unset, .unset] [(.ref b68)])) (fun _ k => st69.trans k) ?_
    refine own_go (x' := T69.setTop (mkF m 57 #[.val (.int p0), .val (.int p1), .val (.int p2), .val (.int p3), .val (.int (3 : Int32)), .val (.int s1), .val (.int u2), .val (.int s2), .val (.ref b67), .val (.ref b68), .unset, .unset, .unset, .unset, .unset, .unset, .unset] [(.ref b68)])) (fun _ k => XS.astore X69.here hx rfl (hb hby at_48) rfl rfl (l' := #[.val (.int p0), .val (.int p1), .val (.int p2), .val (.int p3), .val (.int (3 : Int32)), .val (.int s1), .val (.int u2), .val (.int s2), .val (.ref b67), .val (.ref b68), .unset, .unset, .unset, .unset, .unset, .unset, .unset]) rfl (XS.aload X69.here hx rfl (hb hby at_50) rfl rfl (XS.ifnullNo X69.here hx rfl (hb hby at_52) rfl (XS.aload X69.here hx rfl (hb hby at_55) rfl rfl k)))) ?_
    obtain ⟨cl70, Ar70, -, Sz70, Nn70, -, -⟩ := id V_b68
    refine own_go (x' := T69.setTop (mkF m 58 #[.val (.int p0), .val (.int p1), .val (.int p2), .val (.int p3), .val (.int (3 : Int32)), .val (.int s1), .val (.int u2), .val (.int s2), .val (.ref b67), .val (.ref b68), .unset, .unset, .unset, .unset, .unset, .unset, .unset] [(.int (4 : Int32))])) (fun t k => X69.arraylength hx (Eq.trans (congrArg (fun h_ => h_[_]?) rfl) Ar70.1) (State.isArrayOf_alike hZ.alike Ar70.2.1) (g := (mkF m 57 #[.val (.int p0), .val (.int p1), .val (.int p2), .val (.int p3), .val (.int (3 : Int32)), .val (.int s1), .val (.int u2), .val (.int s2), .val (.ref b67), .val (.ref b68), .unset, .unset, .unset, .unset, .unset, .unset, .unset] [(.ref b68)])) rfl rfl (hb hby at_57) t (by rw [len_of Sz70 Nn70]; exact k)) ?_
    refine own_go (x' := T69.setTop (mkF m 67 #[.val (.int p0), .val (.int p1), .val (.int p2), .val (.int p3), .val (.int (3 : Int32)), .val (.int s1), .val (.int u2), .val (.int s2), .val (.ref b67), .val (.ref b68), .unset, .unset, .unset, .unset, .unset, .unset, .unset] [(.int (0 : Int32)), (.ref b68)])) (fun _ k => XS.iconst X69.here hx rfl (hb hby at_58) (XS.icmpYes X69.here hx rfl (pc0 := 59) (pc' := 64) rfl (hb hby at_59) rfl (teq rfl).1 (by decide) (by decide) (XS.aload X69.here hx rfl (hb hby at_64) rfl rfl (XS.iconst X69.here hx rfl (hb hby at_66) k)))) ?_
    obtain ⟨cl71, Ar71, q71, Sz71, Nn71, Hh71, Gg71⟩ := id V_b68
    have hin71 : ¬ ((0 : Int32) < 0 ∨ cl71.slots.size ≤ ((0 : Int32)).toNatClampNeg) := inb_of Sz71 ⟨by decide, by decide⟩
    refine own_go (x' := T69.setTop (mkF m 68 #[.val (.int p0), .val (.int p1), .val (.int p2), .val (.int p3), .val (.int (3 : Int32)), .val (.int s1), .val (.int u2), .val (.int s2), .val (.ref b67), .val (.ref b68), .unset, .unset, .unset, .unset, .unset, .unset, .unset] [(.ref c0)])) (X69.aaload hx (j := (0 : Int32)) (v := (.ref c0)) (Eq.trans (congrArg (fun h_ => h_[_]?) rfl) Ar71.1) (State.isArrayOf_alike hZ.alike Ar71.2.1) rfl Ar71.2.2 hin71 (Hh71.at hin71 rfl) (g := (mkF m 67 #[.val (.int p0), .val (.int p1), .val (.int p2), .val (.int p3), .val (.int (3 : Int32)), .val (.int s1), .val (.int u2), .val (.int s2), .val (.ref b67), .val (.ref b68), .unset, .unset, .unset, .unset, .unset, .unset, .unset] [(.int (0 : Int32)), (.ref b68)])) rfl rfl (hb hby at_67)) ?_
    refine own_go (x' := T69.setTop (mkF m 73 #[.val (.int p0), .val (.int p1), .val (.int p2), .val (.int p3), .val (.int (3 : Int32)), .val (.int s1), .val (.int u2), .val (.int s2), .val (.ref b67), .val (.ref b68), .val (.ref c0), .unset, .unset, .unset, .unset, .unset, .unset] [(.int (1 : Int32)), (.ref b68)])) (fun _ k => XS.astore X69.here hx rfl (hb hby at_68) rfl rfl (l' := #[.val (.int p0), .val (.int p1), .val (.int p2), .val (.int p3), .val (.int (3 : Int32)), .val (.int s1), .val (.int u2), .val (.int s2), .val (.ref b67), .val (.ref b68), .val (.ref c0), .unset, .unset, .unset, .unset, .unset, .unset]) rfl (XS.aload X69.here hx rfl (hb hby at_70) rfl rfl (XS.iconst X69.here hx rfl (hb hby at_72) k))) ?_
    obtain ⟨cl72, Ar72, q72, Sz72, Nn72, Hh72, Gg72⟩ := id V_b68
    have hin72 : ¬ ((1 : Int32) < 0 ∨ cl72.slots.size ≤ ((1 : Int32)).toNatClampNeg) := inb_of Sz72 ⟨by decide, by decide⟩
    refine own_go (x' := T69.setTop (mkF m 74 #[.val (.int p0), .val (.int p1), .val (.int p2), .val (.int p3), .val (.int (3 : Int32)), .val (.int s1), .val (.int u2), .val (.int s2), .val (.ref b67), .val (.ref b68), .val (.ref c0), .unset, .unset, .unset, .unset, .unset, .unset] [(.ref c1)])) (X69.aaload hx (j := (1 : Int32)) (v := (.ref c1)) (Eq.trans (congrArg (fun h_ => h_[_]?) rfl) Ar72.1) (State.isArrayOf_alike hZ.alike Ar72.2.1) rfl Ar72.2.2 hin72 (Hh72.at hin72 rfl) (g := (mkF m 73 #[.val (.int p0), .val (.int p1), .val (.int p2), .val (.int p3), .val (.int (3 : Int32)), .val (.int s1), .val (.int u2), .val (.int s2), .val (.ref b67), .val (.ref b68), .val (.ref c0), .unset, .unset, .unset, .unset, .unset, .unset] [(.int (1 : Int32)), (.ref b68)])) rfl rfl (hb hby at_73)) ?_
    refine own_go (x' := T69.setTop (mkF m 79 #[.val (.int p0), .val (.int p1), .val (.int p2), .val (.int p3), .val (.int (3 : Int32)), .val (.int s1), .val (.int u2), .val (.int s2), .val (.ref b67), .val (.ref b68), .val (.ref c0), .val (.ref c1), .unset, .unset, .unset, .unset, .unset] [(.int (2 : Int32)), (.ref b68)])) (fun _ k => XS.astore X69.here hx rfl (hb hby at_74) rfl rfl (l' := #[.val (.int p0), .val (.int p1), .val (.int p2), .val (.int p3), .val (.int (3 : Int32)), .val (.int s1), .val (.int u2), .val (.int s2), .val (.ref b67), .val (.ref b68), .val (.ref c0), .val (.ref c1), .unset, .unset, .unset, .unset, .unset]) rfl (XS.aload X69.here hx rfl (hb hby at_76) rfl rfl (XS.iconst X69.here hx rfl (hb hby at_78) k))) ?_
    obtain ⟨cl73, Ar73, q73, Sz73, Nn73, Hh73, Gg73⟩ := id V_b68
    have hin73 : ¬ ((2 : Int32) < 0 ∨ cl73.slots.size ≤ ((2 : Int32)).toNatClampNeg) := inb_of Sz73 ⟨by decide, by decide⟩
    refine own_go (x' := T69.setTop (mkF m 80 #[.val (.int p0), .val (.int p1), .val (.int p2), .val (.int p3), .val (.int (3 : Int32)), .val (.int s1), .val (.int u2), .val (.int s2), .val (.ref b67), .val (.ref b68), .val (.ref c0), .val (.ref c1), .unset, .unset, .unset, .unset, .unset] [(.ref c2)])) (X69.aaload hx (j := (2 : Int32)) (v := (.ref c2)) (Eq.trans (congrArg (fun h_ => h_[_]?) rfl) Ar73.1) (State.isArrayOf_alike hZ.alike Ar73.2.1) rfl Ar73.2.2 hin73 (Hh73.at hin73 rfl) (g := (mkF m 79 #[.val (.int p0), .val (.int p1), .val (.int p2), .val (.int p3), .val (.int (3 : Int32)), .val (.int s1), .val (.int u2), .val (.int s2), .val (.ref b67), .val (.ref b68), .val (.ref c0), .val (.ref c1), .unset, .unset, .unset, .unset, .unset] [(.int (2 : Int32)), (.ref b68)])) rfl rfl (hb hby at_79)) ?_
    refine own_go (x' := T69.setTop (mkF m 85 #[.val (.int p0), .val (.int p1), .val (.int p2), .val (.int p3), .val (.int (3 : Int32)), .val (.int s1), .val (.int u2), .val (.int s2), .val (.ref b67), .val (.ref b68), .val (.ref c0), .val (.ref c1), .val (.ref c2), .unset, .unset, .unset, .unset] [(.int (3 : Int32)), (.ref b68)])) (fun _ k => XS.astore X69.here hx rfl (hb hby at_80) rfl rfl (l' := #[.val (.int p0), .val (.int p1), .val (.int p2), .val (.int p3), .val (.int (3 : Int32)), .val (.int s1), .val (.int u2), .val (.int s2), .val (.ref b67), .val (.ref b68), .val (.ref c0), .val (.ref c1), .val (.ref c2), .unset, .unset, .unset, .unset]) rfl (XS.aload X69.here hx rfl (hb hby at_82) rfl rfl (XS.iconst X69.here hx rfl (hb hby at_84) k))) ?_
    obtain ⟨cl74, Ar74, q74, Sz74, Nn74, Hh74, Gg74⟩ := id V_b68
    have hin74 : ¬ ((3 : Int32) < 0 ∨ cl74.slots.size ≤ ((3 : Int32)).toNatClampNeg) := inb_of Sz74 ⟨by decide, by decide⟩
    refine own_go (x' := T69.setTop (mkF m 86 #[.val (.int p0), .val (.int p1), .val (.int p2), .val (.int p3), .val (.int (3 : Int32)), .val (.int s1), .val (.int u2), .val (.int s2), .val (.ref b67), .val (.ref b68), .val (.ref c0), .val (.ref c1), .val (.ref c2), .unset, .unset, .unset, .unset] [.null])) (X69.aaload hx (j := (3 : Int32)) (v := .null) (Eq.trans (congrArg (fun h_ => h_[_]?) rfl) Ar74.1) (State.isArrayOf_alike hZ.alike Ar74.2.1) rfl Ar74.2.2 hin74 (Hh74.at hin74 rfl) (g := (mkF m 85 #[.val (.int p0), .val (.int p1), .val (.int p2), .val (.int p3), .val (.int (3 : Int32)), .val (.int s1), .val (.int u2), .val (.int s2), .val (.ref b67), .val (.ref b68), .val (.ref c0), .val (.ref c1), .val (.ref c2), .unset, .unset, .unset, .unset] [(.int (3 : Int32)), (.ref b68)])) rfl rfl (hb hby at_85)) ?_
    refine own_go (x' := T69.setTop (mkF m 96 #[.val (.int p0), .val (.int p1), .val (.int p2), .val (.int p3), .val (.int (3 : Int32)), .val (.int s1), .val (.int u2), .val (.int s2), .val (.ref b67), .val (.ref b68), .val (.ref c0), .val (.ref c1), .val (.ref c2), .val .null, .unset, .unset, .unset] [(.int s1), (.int (3 : Int32)), (.int (0 : Int32)), .null, (.ref c0)])) (fun _ k => XS.astore X69.here hx rfl (hb hby at_86) rfl rfl (l' := #[.val (.int p0), .val (.int p1), .val (.int p2), .val (.int p3), .val (.int (3 : Int32)), .val (.int s1), .val (.int u2), .val (.int s2), .val (.ref b67), .val (.ref b68), .val (.ref c0), .val (.ref c1), .val (.ref c2), .val .null, .unset, .unset, .unset]) rfl (XS.aload X69.here hx rfl (hb hby at_88) rfl rfl (XS.aconstNull X69.here hx rfl (hb hby at_90) (XS.iconst X69.here hx rfl (hb hby at_91) (XS.iload X69.here hx rfl (hb hby at_92) rfl (XS.iload X69.here hx rfl (hb hby at_94) rfl k)))))) ?_
    obtain ⟨_, _, ⟨T75, L75, k75, n75⟩, -, X75, ⟨Lc75, hQ75, l75, y75, z75⟩, st75⟩ := Jvm.LawKit.callS X69 hx (y := (⟨"com/example/wee_match/weematch/WindowsBytesPinLaw", "slot", "([B[BIII)Z"⟩ : MethodName)) hown (mvT hZ (own_w hw 25 rfl)) (mvT hZ (own_w hw 26 rfl)) (mvT hZ (own_w hw 27 rfl)) (mvT hZ (own_w hw 28 rfl)) (by decide) (backOf (W := 0) (rm4dz l Z a0 hw [] c0 (0 : Int32) (3 : Int32) s1 kk0 T69.heap n0 Zs V_c0 (by decide) (by decide)) hZ (own_w hw 28 rfl) (own_w hw 27 rfl) (by decide) (by decide)) (g := (mkF m 96 #[.val (.int p0), .val (.int p1), .val (.int p2), .val (.int p3), .val (.int (3 : Int32)), .val (.int s1), .val (.int u2), .val (.int s2), .val (.ref b67), .val (.ref b68), .val (.ref c0), .val (.ref c1), .val (.ref c2), .val .null, .unset, .unset, .unset] [(.int s1), (.int (3 : Int32)), (.int (0 : Int32)), .null, (.ref c0)])) rfl (by rw [hml]; rfl) (argsL := [(.ref c0), .null, (.int (0 : Int32)), (.int (3 : Int32)), (.int s1)]) (rest := []) (lenOf pd_2 rfl) rfl (by show 2 * 0 + _ ≤ _; exact Nat.le_of_eq rfl) (hb hby at_96) (fun _ _ => ⟨rfl, rfl, (by decide : 7 + 0 ≤ _), (by decide : 49364 + 0 ≤ _)⟩)
    dsimp only [Pt.U, Pt.locs, Pt.cells, Pt.slots] at X75 l75 y75 z75 st75 hQ75
    subst l75 y75 z75
    obtain ⟨hv75, Nq75, eq75⟩ := hQ75
    subst hv75
    replace Nf := Fr.app Nf Nq75
    refine own_go (x' := T75.setTop (mkF m 99 #[.val (.int p0), .val (.int p1), .val (.int p2), .val (.int p3), .val (.int (3 : Int32)), .val (.int s1), .val (.int u2), .val (.int s2), .val (.ref b67), .val (.ref b68), .val (.ref c0), .val (.ref c1), .val (.ref c2), .val .null, .unset, .unset, .unset] [(.int (1 : Int32))])) st75 ?_
    refine own_go (x' := T75.setTop (mkF m 110 #[.val (.int p0), .val (.int p1), .val (.int p2), .val (.int p3), .val (.int (3 : Int32)), .val (.int s1), .val (.int u2), .val (.int s2), .val (.ref b67), .val (.ref b68), .val (.ref c0), .val (.ref c1), .val (.ref c2), .val .null, .unset, .unset, .unset] [(.int s1), (.int (3 : Int32)), (.int (1 : Int32)), .null, (.ref c1)])) (fun _ k => XS.ifNo X75.here hx rfl (hb hby at_99) rfl ((if0 _ _).trans (feq (by decide +kernel : ¬ ((1 : Int32) = (0 : Int32)))).1) (XS.aload X75.here hx rfl (hb hby at_102) rfl rfl (XS.aconstNull X75.here hx rfl (hb hby at_104) (XS.iconst X75.here hx rfl (hb hby at_105) (XS.iload X75.here hx rfl (hb hby at_106) rfl (XS.iload X75.here hx rfl (hb hby at_108) rfl k)))))) ?_
    obtain ⟨_, _, ⟨T76, L76, k76, n76⟩, -, X76, ⟨Lc76, hQ76, l76, y76, z76⟩, st76⟩ := Jvm.LawKit.callS X75 hx (y := (⟨"com/example/wee_match/weematch/WindowsBytesPinLaw", "slot", "([B[BIII)Z"⟩ : MethodName)) hown (mvT hZ (own_w hw 25 rfl)) (mvT hZ (own_w hw 26 rfl)) (mvT hZ (own_w hw 27 rfl)) (mvT hZ (own_w hw 28 rfl)) (by decide) (backOf (W := 0) (rm4do l Z a0 hw [] c1 (1 : Int32) (3 : Int32) s1 kk1 T69.heap n0 Zs V_c1 (by decide) (by decide)) hZ (own_w hw 28 rfl) (own_w hw 27 rfl) (by decide) (by decide)) (g := (mkF m 110 #[.val (.int p0), .val (.int p1), .val (.int p2), .val (.int p3), .val (.int (3 : Int32)), .val (.int s1), .val (.int u2), .val (.int s2), .val (.ref b67), .val (.ref b68), .val (.ref c0), .val (.ref c1), .val (.ref c2), .val .null, .unset, .unset, .unset] [(.int s1), (.int (3 : Int32)), (.int (1 : Int32)), .null, (.ref c1)])) rfl (by rw [hml]; rfl) (argsL := [(.ref c1), .null, (.int (1 : Int32)), (.int (3 : Int32)), (.int s1)]) (rest := []) (lenOf pd_2 rfl) rfl (by show 2 * 0 + _ ≤ _; exact Nat.le_of_eq rfl) (hb hby at_110) (fun _ _ => ⟨rfl, eq75, (by decide : 7 + 0 ≤ _), (by decide : 49364 + 0 ≤ _)⟩)
    dsimp only [Pt.U, Pt.locs, Pt.cells, Pt.slots] at X76 l76 y76 z76 st76 hQ76
    subst l76 y76 z76
    obtain ⟨hv76, Nq76, eq76⟩ := hQ76
    subst hv76
    replace Nf := Fr.app Nf Nq76
    refine own_go (x' := T76.setTop (mkF m 113 #[.val (.int p0), .val (.int p1), .val (.int p2), .val (.int p3), .val (.int (3 : Int32)), .val (.int s1), .val (.int u2), .val (.int s2), .val (.ref b67), .val (.ref b68), .val (.ref c0), .val (.ref c1), .val (.ref c2), .val .null, .unset, .unset, .unset] [(.int (1 : Int32))])) st76 ?_
    refine own_go (x' := T76.setTop (mkF m 124 #[.val (.int p0), .val (.int p1), .val (.int p2), .val (.int p3), .val (.int (3 : Int32)), .val (.int s1), .val (.int u2), .val (.int s2), .val (.ref b67), .val (.ref b68), .val (.ref c0), .val (.ref c1), .val (.ref c2), .val .null, .unset, .unset, .unset] [(.int s1), (.int (3 : Int32)), (.int (2 : Int32)), .null, (.ref c2)])) (fun _ k => XS.ifNo X76.here hx rfl (hb hby at_113) rfl ((if0 _ _).trans (feq (by decide +kernel : ¬ ((1 : Int32) = (0 : Int32)))).1) (XS.aload X76.here hx rfl (hb hby at_116) rfl rfl (XS.aconstNull X76.here hx rfl (hb hby at_118) (XS.iconst X76.here hx rfl (hb hby at_119) (XS.iload X76.here hx rfl (hb hby at_120) rfl (XS.iload X76.here hx rfl (hb hby at_122) rfl k)))))) ?_
    obtain ⟨_, _, ⟨T77, L77, k77, n77⟩, -, X77, ⟨Lc77, hQ77, l77, y77, z77⟩, st77⟩ := Jvm.LawKit.callS X76 hx (y := (⟨"com/example/wee_match/weematch/WindowsBytesPinLaw", "slot", "([B[BIII)Z"⟩ : MethodName)) hown (mvT hZ (own_w hw 25 rfl)) (mvT hZ (own_w hw 26 rfl)) (mvT hZ (own_w hw 27 rfl)) (mvT hZ (own_w hw 28 rfl)) (by decide) (backOf (W := 0) (rm4do l Z a0 hw [] c2 (2 : Int32) (3 : Int32) s1 kk2 T69.heap n0 Zs V_c2 (by decide) (by decide)) hZ (own_w hw 28 rfl) (own_w hw 27 rfl) (by decide) (by decide)) (g := (mkF m 124 #[.val (.int p0), .val (.int p1), .val (.int p2), .val (.int p3), .val (.int (3 : Int32)), .val (.int s1), .val (.int u2), .val (.int s2), .val (.ref b67), .val (.ref b68), .val (.ref c0), .val (.ref c1), .val (.ref c2), .val .null, .unset, .unset, .unset] [(.int s1), (.int (3 : Int32)), (.int (2 : Int32)), .null, (.ref c2)])) rfl (by rw [hml]; rfl) (argsL := [(.ref c2), .null, (.int (2 : Int32)), (.int (3 : Int32)), (.int s1)]) (rest := []) (lenOf pd_2 rfl) rfl (by show 2 * 0 + _ ≤ _; exact Nat.le_of_eq rfl) (hb hby at_124) (fun _ _ => ⟨rfl, eq76, (by decide : 7 + 0 ≤ _), (by decide : 49364 + 0 ≤ _)⟩)
    dsimp only [Pt.U, Pt.locs, Pt.cells, Pt.slots] at X77 l77 y77 z77 st77 hQ77
    subst l77 y77 z77
    obtain ⟨hv77, Nq77, eq77⟩ := hQ77
    subst hv77
    replace Nf := Fr.app Nf Nq77
    refine own_go (x' := T77.setTop (mkF m 127 #[.val (.int p0), .val (.int p1), .val (.int p2), .val (.int p3), .val (.int (3 : Int32)), .val (.int s1), .val (.int u2), .val (.int s2), .val (.ref b67), .val (.ref b68), .val (.ref c0), .val (.ref c1), .val (.ref c2), .val .null, .unset, .unset, .unset] [(.int (1 : Int32))])) st77 ?_
    refine own_go (x' := T77.setTop (mkF m 138 #[.val (.int p0), .val (.int p1), .val (.int p2), .val (.int p3), .val (.int (3 : Int32)), .val (.int s1), .val (.int u2), .val (.int s2), .val (.ref b67), .val (.ref b68), .val (.ref c0), .val (.ref c1), .val (.ref c2), .val .null, .unset, .unset, .unset] [(.int s1), (.int (3 : Int32)), (.int (3 : Int32)), .null, .null])) (fun _ k => XS.ifNo X77.here hx rfl (hb hby at_127) rfl ((if0 _ _).trans (feq (by decide +kernel : ¬ ((1 : Int32) = (0 : Int32)))).1) (XS.aload X77.here hx rfl (hb hby at_130) rfl rfl (XS.aconstNull X77.here hx rfl (hb hby at_132) (XS.iconst X77.here hx rfl (hb hby at_133) (XS.iload X77.here hx rfl (hb hby at_134) rfl (XS.iload X77.here hx rfl (hb hby at_136) rfl k)))))) ?_
    obtain ⟨_, _, ⟨T78, L78, k78, n78⟩, -, X78, ⟨Lc78, hQ78, l78, y78, z78⟩, st78⟩ := Jvm.LawKit.callS X77 hx (y := (⟨"com/example/wee_match/weematch/WindowsBytesPinLaw", "slot", "([B[BIII)Z"⟩ : MethodName)) hown (mvT hZ (own_w hw 25 rfl)) (mvT hZ (own_w hw 26 rfl)) (mvT hZ (own_w hw 27 rfl)) (mvT hZ (own_w hw 28 rfl)) (by decide) (backOf (W := 0) (rm4co l Z a0 hw [] (3 : Int32) (3 : Int32) s1 T69.heap n0 Zs (by decide) (by decide)) hZ (own_w hw 28 rfl) (own_w hw 27 rfl) (by decide) (by decide)) (g := (mkF m 138 #[.val (.int p0), .val (.int p1), .val (.int p2), .val (.int p3), .val (.int (3 : Int32)), .val (.int s1), .val (.int u2), .val (.int s2), .val (.ref b67), .val (.ref b68), .val (.ref c0), .val (.ref c1), .val (.ref c2), .val .null, .unset, .unset, .unset] [(.int s1), (.int (3 : Int32)), (.int (3 : Int32)), .null, .null])) rfl (by rw [hml]; rfl) (argsL := [.null, .null, (.int (3 : Int32)), (.int (3 : Int32)), (.int s1)]) (rest := []) (lenOf pd_2 rfl) rfl (by show 2 * 0 + _ ≤ _; exact Nat.le_of_eq rfl) (hb hby at_138) (fun _ _ => ⟨rfl, eq77, (by decide : 7 + 0 ≤ _), (by decide : 49364 + 0 ≤ _)⟩)
    dsimp only [Pt.U, Pt.locs, Pt.cells, Pt.slots] at X78 l78 y78 z78 st78 hQ78
    subst l78 y78 z78
    obtain ⟨hv78, Nq78, eq78⟩ := hQ78
    subst hv78
    replace Nf := Fr.app Nf Nq78
    refine own_go (x' := T78.setTop (mkF m 141 #[.val (.int p0), .val (.int p1), .val (.int p2), .val (.int p3), .val (.int (3 : Int32)), .val (.int s1), .val (.int u2), .val (.int s2), .val (.ref b67), .val (.ref b68), .val (.ref c0), .val (.ref c1), .val (.ref c2), .val .null, .unset, .unset, .unset] [(.int (1 : Int32))])) st78 ?_
    refine own_go (x' := T78.setTop (mkF m 155 #[.val (.int p0), .val (.int p1), .val (.int p2), .val (.int p3), .val (.int (3 : Int32)), .val (.int s1), .val (.int u2), .val (.int s2), .val (.ref b67), .val (.ref b68), .val (.ref c0), .val (.ref c1), .val (.ref c2), .val .null, .val (.int (1 : Int32)), .unset, .unset] [(.int u2), (.ref b67)])) (fun _ k => XS.ifNo X78.here hx rfl (hb hby at_141) rfl ((if0 _ _).trans (feq (by decide +kernel : ¬ ((1 : Int32) = (0 : Int32)))).1) (XS.iconst X78.here hx rfl (hb hby at_144) (XS.goto X78.here hx rfl (pc0 := 145) (pc' := 149) rfl (hb hby at_145) (by decide) (by decide) (XS.istore X78.here hx rfl (hb hby at_149) rfl (l' := #[.val (.int p0), .val (.int p1), .val (.int p2), .val (.int p3), .val (.int (3 : Int32)), .val (.int s1), .val (.int u2), .val (.int s2), .val (.ref b67), .val (.ref b68), .val (.ref c0), .val (.ref c1), .val (.ref c2), .val .null, .val (.int (1 : Int32)), .unset, .unset]) rfl (XS.aload X78.here hx rfl (hb hby at_151) rfl rfl (XS.iload X78.here hx rfl (hb hby at_153) rfl k)))))) ?_
    refine own_go (x' := T78.setTop (mkF m 157 #[.val (.int p0), .val (.int p1), .val (.int p2), .val (.int p3), .val (.int (3 : Int32)), .val (.int s1), .val (.int u2), .val (.int s2), .val (.ref b67), .val (.ref b68), .val (.ref c0), .val (.ref c1), .val (.ref c2), .val .null, .val (.int (1 : Int32)), .unset, .unset] [(.int s2), (.int u2), (.ref b67)])) (fun _ k => XS.iload X78.here hx rfl (hb hby at_155) rfl k) ?_
    obtain ⟨cq79, kq79, q79a, q79b, q79c⟩ := isOf hZ eq78 E_b67
    obtain ⟨_, _, ⟨T79, L79, k79, n79⟩, -, X79, ⟨Lc79, hQ79, l79, y79, z79⟩, st79⟩ := X78.virtualBack hx (y := (⟨"com/example/wee_match/weematch/Sieve$Windows", "bytes", "(II)[[B"⟩ : MethodName)) (z := (⟨"com/example/wee_match/weematch/Sieve$Windows", "bytes", "(II)[[B"⟩ : MethodName)) hown (mvT hZ (own_w hw 20 rfl)) (mvT hZ (own_w hw 21 rfl)) (notFace_of_selects (args := #[]) (mvT hZ (own_w hw 23 rfl))) (mvT hZ (own_w hw 23 rfl)) (mvT hZ (own_w hw 22 rfl)) (by decide) (backOf (W := 0) (rmS_3 l Z a0 hw [] b67 u2 s2 b68 kc68 (s1 + (64 : Int32)) s1 c0 kk0 c1 kk1 c2 kk2 T69.heap n0 Zs F_b67_bytes V_b68 O_b68 ne_b67_b68 g_b68 hs2 ht2 hu2 V_c0 V_c1 V_c2 ne_c0_b68 ne_c1_b68 ne_c2_b68) hZ (own_w hw 24 rfl) (own_w hw 2 rfl) (by decide) (by decide)) q79a q79c (g := (mkF m 157 #[.val (.int p0), .val (.int p1), .val (.int p2), .val (.int p3), .val (.int (3 : Int32)), .val (.int s1), .val (.int u2), .val (.int s2), .val (.ref b67), .val (.ref b68), .val (.ref c0), .val (.ref c1), .val (.ref c2), .val .null, .val (.int (1 : Int32)), .unset, .unset] [(.int s2), (.int u2), (.ref b67)])) rfl (by rw [hml]; rfl) (Steps.refl _) (argsL := [(.int u2), (.int s2)]) (rest := []) (lenOf pd_1 rfl) rfl (by show 2 * 0 + _ ≤ _; exact Nat.le_of_eq rfl) (hb hby at_157) (fun _ _ => ⟨rfl, eq78, (by decide : 7 + 4 ≤ _), (by decide : 49364 + 65596 ≤ _)⟩)
    dsimp only [Pt.U, Pt.locs, Pt.cells, Pt.slots] at X79 l79 y79 z79 st79 hQ79
    subst l79 y79 z79
    obtain ⟨w0, w1, w2, w3, hv79, Nq79, K79, Vn79, R0, R1, R2, R3⟩ := hQ79
    subst hv79
    replace Nf := Fr.app Nf Nq79
    have lt_c0 := V_c0.lt
    have lt_c1 := V_c1.lt
    have lt_c2 := V_c2.lt
    have r_w0 := R0.ref.1
    have c_w0 := R0.ref.2
    have r_w1 := R1.ref.1
    have c_w1 := R1.ref.2
    have r_w2 := R2.ref.1
    have c_w2 := R2.ref.2
    have r_w3 := R3.ref.1
    have c_w3 := R3.ref.2
    replace E_b67 := E_b67.keep K79
    replace V_c0 := V_c0.keep K79 (ninS ne_c0_b68 nin0)
    replace V_c1 := V_c1.keep K79 (ninS ne_c1_b68 nin0)
    replace V_c2 := V_c2.keep K79 (ninS ne_c2_b68 nin0)
    replace Zs := Nat.le_trans Zs K79.1
    replace V_b68 := Vn79
    refine own_go (x' := T79.setTop (mkF m 160 #[.val (.int p0), .val (.int p1), .val (.int p2), .val (.int p3), .val (.int (3 : Int32)), .val (.int s1), .val (.int u2), .val (.int s2), .val (.ref b67), .val (.ref b68), .val (.ref c0), .val (.ref c1), .val (.ref c2), .val .null, .val (.int (1 : Int32)), .unset, .unset] [(.ref b68)])) (fun _ k => st79.trans k) ?_
    refine own_go (x' := T79.setTop (mkF m 169 #[.val (.int p0), .val (.int p1), .val (.int p2), .val (.int p3), .val (.int (3 : Int32)), .val (.int s1), .val (.int u2), .val (.int s2), .val (.ref b67), .val (.ref b68), .val (.ref c0), .val (.ref c1), .val (.ref c2), .val .null, .val (.int (1 : Int32)), .val (.ref b68), .unset] [(.ref b68)])) (fun _ k => XS.astore X79.here hx rfl (hb hby at_160) rfl rfl (l' := #[.val (.int p0), .val (.int p1), .val (.int p2), .val (.int p3), .val (.int (3 : Int32)), .val (.int s1), .val (.int u2), .val (.int s2), .val (.ref b67), .val (.ref b68), .val (.ref c0), .val (.ref c1), .val (.ref c2), .val .null, .val (.int (1 : Int32)), .val (.ref b68), .unset]) rfl (XS.aload X79.here hx rfl (hb hby at_162) rfl rfl (XS.ifnullNo X79.here hx rfl (hb hby at_164) rfl (XS.aload X79.here hx rfl (hb hby at_167) rfl rfl k)))) ?_
    obtain ⟨cl80, Ar80, -, Sz80, Nn80, -, -⟩ := id V_b68
    refine own_go (x' := T79.setTop (mkF m 170 #[.val (.int p0), .val (.int p1), .val (.int p2), .val (.int p3), .val (.int (3 : Int32)), .val (.int s1), .val (.int u2), .val (.int s2), .val (.ref b67), .val (.ref b68), .val (.ref c0), .val (.ref c1), .val (.ref c2), .val .null, .val (.int (1 : Int32)), .val (.ref b68), .unset] [(.int (4 : Int32))])) (fun t k => X79.arraylength hx (Eq.trans (congrArg (fun h_ => h_[_]?) rfl) Ar80.1) (State.isArrayOf_alike hZ.alike Ar80.2.1) (g := (mkF m 169 #[.val (.int p0), .val (.int p1), .val (.int p2), .val (.int p3), .val (.int (3 : Int32)), .val (.int s1), .val (.int u2), .val (.int s2), .val (.ref b67), .val (.ref b68), .val (.ref c0), .val (.ref c1), .val (.ref c2), .val .null, .val (.int (1 : Int32)), .val (.ref b68), .unset] [(.ref b68)])) rfl rfl (hb hby at_169) t (by rw [len_of Sz80 Nn80]; exact k)) ?_
    refine own_go (x' := T79.setTop (mkF m 179 #[.val (.int p0), .val (.int p1), .val (.int p2), .val (.int p3), .val (.int (3 : Int32)), .val (.int s1), .val (.int u2), .val (.int s2), .val (.ref b67), .val (.ref b68), .val (.ref c0), .val (.ref c1), .val (.ref c2), .val .null, .val (.int (1 : Int32)), .val (.ref b68), .unset] [(.int (0 : Int32)), (.ref b68)])) (fun _ k => XS.iconst X79.here hx rfl (hb hby at_170) (XS.icmpYes X79.here hx rfl (pc0 := 171) (pc' := 176) rfl (hb hby at_171) rfl (teq rfl).1 (by decide) (by decide) (XS.aload X79.here hx rfl (hb hby at_176) rfl rfl (XS.iconst X79.here hx rfl (hb hby at_178) k)))) ?_
    obtain ⟨cl81, Ar81, q81, Sz81, Nn81, Hh81, Gg81⟩ := id V_b68
    have hin81 : ¬ ((0 : Int32) < 0 ∨ cl81.slots.size ≤ ((0 : Int32)).toNatClampNeg) := inb_of Sz81 ⟨by decide, by decide⟩
    refine own_go (x' := T79.setTop (mkF m 180 #[.val (.int p0), .val (.int p1), .val (.int p2), .val (.int p3), .val (.int (3 : Int32)), .val (.int s1), .val (.int u2), .val (.int s2), .val (.ref b67), .val (.ref b68), .val (.ref c0), .val (.ref c1), .val (.ref c2), .val .null, .val (.int (1 : Int32)), .val (.ref b68), .unset] [w0])) (X79.aaload hx (j := (0 : Int32)) (v := w0) (Eq.trans (congrArg (fun h_ => h_[_]?) rfl) Ar81.1) (State.isArrayOf_alike hZ.alike Ar81.2.1) rfl Ar81.2.2 hin81 (Hh81.at hin81 rfl) (g := (mkF m 179 #[.val (.int p0), .val (.int p1), .val (.int p2), .val (.int p3), .val (.int (3 : Int32)), .val (.int s1), .val (.int u2), .val (.int s2), .val (.ref b67), .val (.ref b68), .val (.ref c0), .val (.ref c1), .val (.ref c2), .val .null, .val (.int (1 : Int32)), .val (.ref b68), .unset] [(.int (0 : Int32)), (.ref b68)])) rfl rfl (hb hby at_179)) ?_
    refine own_go (x' := T79.setTop (mkF m 187 #[.val (.int p0), .val (.int p1), .val (.int p2), .val (.int p3), .val (.int (3 : Int32)), .val (.int s1), .val (.int u2), .val (.int s2), .val (.ref b67), .val (.ref b68), .val (.ref c0), .val (.ref c1), .val (.ref c2), .val .null, .val (.int (1 : Int32)), .val (.ref b68), .unset] [(.int s2), (.int u2), (.int (0 : Int32)), (.ref c0), w0])) (fun _ k => XS.aload X79.here hx rfl (hb hby at_180) rfl rfl (XS.iconst X79.here hx rfl (hb hby at_182) (XS.iload X79.here hx rfl (hb hby at_183) rfl (XS.iload X79.here hx rfl (hb hby at_185) rfl k)))) ?_
    obtain ⟨_, _, ⟨T82, L82, k82, n82⟩, -, X82, ⟨Lc82, hQ82, l82, y82, z82⟩, st82⟩ := Jvm.LawKit.callS X79 hx (y := (⟨"com/example/wee_match/weematch/WindowsBytesPinLaw", "slot", "([B[BIII)Z"⟩ : MethodName)) hown (mvT hZ (own_w hw 25 rfl)) (mvT hZ (own_w hw 26 rfl)) (mvT hZ (own_w hw 27 rfl)) (mvT hZ (own_w hw 28 rfl)) (by decide) (backOf (W := 0) (rm4pz l Z a0 hw [] w0 c0 (0 : Int32) u2 (s1 + (64 : Int32)) s2 kk0 _ T79.heap n0 Zs V_c0 R0 (by decide)) hZ (own_w hw 28 rfl) (own_w hw 27 rfl) (by decide) (by decide)) (g := (mkF m 187 #[.val (.int p0), .val (.int p1), .val (.int p2), .val (.int p3), .val (.int (3 : Int32)), .val (.int s1), .val (.int u2), .val (.int s2), .val (.ref b67), .val (.ref b68), .val (.ref c0), .val (.ref c1), .val (.ref c2), .val .null, .val (.int (1 : Int32)), .val (.ref b68), .unset] [(.int s2), (.int u2), (.int (0 : Int32)), (.ref c0), w0])) rfl (by rw [hml]; rfl) (argsL := [w0, (.ref c0), (.int (0 : Int32)), (.int u2), (.int s2)]) (rest := []) (lenOf pd_2 rfl) rfl (by show 2 * 0 + _ ≤ _; exact Nat.le_of_eq rfl) (hb hby at_187) (fun _ _ => ⟨rfl, rfl, (by decide : 11 + 0 ≤ _), (by decide : 114960 + 0 ≤ _)⟩)
    dsimp only [Pt.U, Pt.locs, Pt.cells, Pt.slots] at X82 l82 y82 z82 st82 hQ82
    subst l82 y82 z82
    obtain ⟨hv82, Nq82, eq82⟩ := hQ82
    subst hv82
    replace Nf := Fr.app Nf Nq82
    refine own_go (x' := T82.setTop (mkF m 190 #[.val (.int p0), .val (.int p1), .val (.int p2), .val (.int p3), .val (.int (3 : Int32)), .val (.int s1), .val (.int u2), .val (.int s2), .val (.ref b67), .val (.ref b68), .val (.ref c0), .val (.ref c1), .val (.ref c2), .val .null, .val (.int (1 : Int32)), .val (.ref b68), .unset] [(.int (1 : Int32))])) st82 ?_
    refine own_go (x' := T82.setTop (mkF m 196 #[.val (.int p0), .val (.int p1), .val (.int p2), .val (.int p3), .val (.int (3 : Int32)), .val (.int s1), .val (.int u2), .val (.int s2), .val (.ref b67), .val (.ref b68), .val (.ref c0), .val (.ref c1), .val (.ref c2), .val .null, .val (.int (1 : Int32)), .val (.ref b68), .unset] [(.int (1 : Int32)), (.ref b68)])) (fun _ k => XS.ifNo X82.here hx rfl (hb hby at_190) rfl ((if0 _ _).trans (feq (by decide +kernel : ¬ ((1 : Int32) = (0 : Int32)))).1) (XS.aload X82.here hx rfl (hb hby at_193) rfl rfl (XS.iconst X82.here hx rfl (hb hby at_195) k))) ?_
    obtain ⟨cl83, Ar83, q83, Sz83, Nn83, Hh83, Gg83⟩ := id V_b68
    have hin83 : ¬ ((1 : Int32) < 0 ∨ cl83.slots.size ≤ ((1 : Int32)).toNatClampNeg) := inb_of Sz83 ⟨by decide, by decide⟩
    refine own_go (x' := T82.setTop (mkF m 197 #[.val (.int p0), .val (.int p1), .val (.int p2), .val (.int p3), .val (.int (3 : Int32)), .val (.int s1), .val (.int u2), .val (.int s2), .val (.ref b67), .val (.ref b68), .val (.ref c0), .val (.ref c1), .val (.ref c2), .val .null, .val (.int (1 : Int32)), .val (.ref b68), .unset] [w1])) (X82.aaload hx (j := (1 : Int32)) (v := w1) (Eq.trans (congrArg (fun h_ => h_[_]?) eq82) Ar83.1) (State.isArrayOf_alike hZ.alike Ar83.2.1) rfl Ar83.2.2 hin83 (Hh83.at hin83 rfl) (g := (mkF m 196 #[.val (.int p0), .val (.int p1), .val (.int p2), .val (.int p3), .val (.int (3 : Int32)), .val (.int s1), .val (.int u2), .val (.int s2), .val (.ref b67), .val (.ref b68), .val (.ref c0), .val (.ref c1), .val (.ref c2), .val .null, .val (.int (1 : Int32)), .val (.ref b68), .unset] [(.int (1 : Int32)), (.ref b68)])) rfl rfl (hb hby at_196)) ?_
    refine own_go (x' := T82.setTop (mkF m 204 #[.val (.int p0), .val (.int p1), .val (.int p2), .val (.int p3), .val (.int (3 : Int32)), .val (.int s1), .val (.int u2), .val (.int s2), .val (.ref b67), .val (.ref b68), .val (.ref c0), .val (.ref c1), .val (.ref c2), .val .null, .val (.int (1 : Int32)), .val (.ref b68), .unset] [(.int s2), (.int u2), (.int (1 : Int32)), (.ref c1), w1])) (fun _ k => XS.aload X82.here hx rfl (hb hby at_197) rfl rfl (XS.iconst X82.here hx rfl (hb hby at_199) (XS.iload X82.here hx rfl (hb hby at_200) rfl (XS.iload X82.here hx rfl (hb hby at_202) rfl k)))) ?_
    obtain ⟨_, _, ⟨T84, L84, k84, n84⟩, -, X84, ⟨Lc84, hQ84, l84, y84, z84⟩, st84⟩ := Jvm.LawKit.callS X82 hx (y := (⟨"com/example/wee_match/weematch/WindowsBytesPinLaw", "slot", "([B[BIII)Z"⟩ : MethodName)) hown (mvT hZ (own_w hw 25 rfl)) (mvT hZ (own_w hw 26 rfl)) (mvT hZ (own_w hw 27 rfl)) (mvT hZ (own_w hw 28 rfl)) (by decide) (backOf (W := 0) (rm4po l Z a0 hw [] w1 c1 (1 : Int32) u2 s1 s2 kk1 _ T79.heap n0 Zs V_c1 R1 (by decide)) hZ (own_w hw 28 rfl) (own_w hw 27 rfl) (by decide) (by decide)) (g := (mkF m 204 #[.val (.int p0), .val (.int p1), .val (.int p2), .val (.int p3), .val (.int (3 : Int32)), .val (.int s1), .val (.int u2), .val (.int s2), .val (.ref b67), .val (.ref b68), .val (.ref c0), .val (.ref c1), .val (.ref c2), .val .null, .val (.int (1 : Int32)), .val (.ref b68), .unset] [(.int s2), (.int u2), (.int (1 : Int32)), (.ref c1), w1])) rfl (by rw [hml]; rfl) (argsL := [w1, (.ref c1), (.int (1 : Int32)), (.int u2), (.int s2)]) (rest := []) (lenOf pd_2 rfl) rfl (by show 2 * 0 + _ ≤ _; exact Nat.le_of_eq rfl) (hb hby at_204) (fun _ _ => ⟨rfl, eq82, (by decide : 11 + 0 ≤ _), (by decide : 114960 + 0 ≤ _)⟩)
    dsimp only [Pt.U, Pt.locs, Pt.cells, Pt.slots] at X84 l84 y84 z84 st84 hQ84
    subst l84 y84 z84
    obtain ⟨hv84, Nq84, eq84⟩ := hQ84
    subst hv84
    replace Nf := Fr.app Nf Nq84
    refine own_go (x' := T84.setTop (mkF m 207 #[.val (.int p0), .val (.int p1), .val (.int p2), .val (.int p3), .val (.int (3 : Int32)), .val (.int s1), .val (.int u2), .val (.int s2), .val (.ref b67), .val (.ref b68), .val (.ref c0), .val (.ref c1), .val (.ref c2), .val .null, .val (.int (1 : Int32)), .val (.ref b68), .unset] [(.int (1 : Int32))])) st84 ?_
    refine own_go (x' := T84.setTop (mkF m 213 #[.val (.int p0), .val (.int p1), .val (.int p2), .val (.int p3), .val (.int (3 : Int32)), .val (.int s1), .val (.int u2), .val (.int s2), .val (.ref b67), .val (.ref b68), .val (.ref c0), .val (.ref c1), .val (.ref c2), .val .null, .val (.int (1 : Int32)), .val (.ref b68), .unset] [(.int (2 : Int32)), (.ref b68)])) (fun _ k => XS.ifNo X84.here hx rfl (hb hby at_207) rfl ((if0 _ _).trans (feq (by decide +kernel : ¬ ((1 : Int32) = (0 : Int32)))).1) (XS.aload X84.here hx rfl (hb hby at_210) rfl rfl (XS.iconst X84.here hx rfl (hb hby at_212) k))) ?_
    obtain ⟨cl85, Ar85, q85, Sz85, Nn85, Hh85, Gg85⟩ := id V_b68
    have hin85 : ¬ ((2 : Int32) < 0 ∨ cl85.slots.size ≤ ((2 : Int32)).toNatClampNeg) := inb_of Sz85 ⟨by decide, by decide⟩
    refine own_go (x' := T84.setTop (mkF m 214 #[.val (.int p0), .val (.int p1), .val (.int p2), .val (.int p3), .val (.int (3 : Int32)), .val (.int s1), .val (.int u2), .val (.int s2), .val (.ref b67), .val (.ref b68), .val (.ref c0), .val (.ref c1), .val (.ref c2), .val .null, .val (.int (1 : Int32)), .val (.ref b68), .unset] [w2])) (X84.aaload hx (j := (2 : Int32)) (v := w2) (Eq.trans (congrArg (fun h_ => h_[_]?) eq84) Ar85.1) (State.isArrayOf_alike hZ.alike Ar85.2.1) rfl Ar85.2.2 hin85 (Hh85.at hin85 rfl) (g := (mkF m 213 #[.val (.int p0), .val (.int p1), .val (.int p2), .val (.int p3), .val (.int (3 : Int32)), .val (.int s1), .val (.int u2), .val (.int s2), .val (.ref b67), .val (.ref b68), .val (.ref c0), .val (.ref c1), .val (.ref c2), .val .null, .val (.int (1 : Int32)), .val (.ref b68), .unset] [(.int (2 : Int32)), (.ref b68)])) rfl rfl (hb hby at_213)) ?_
    refine own_go (x' := T84.setTop (mkF m 221 #[.val (.int p0), .val (.int p1), .val (.int p2), .val (.int p3), .val (.int (3 : Int32)), .val (.int s1), .val (.int u2), .val (.int s2), .val (.ref b67), .val (.ref b68), .val (.ref c0), .val (.ref c1), .val (.ref c2), .val .null, .val (.int (1 : Int32)), .val (.ref b68), .unset] [(.int s2), (.int u2), (.int (2 : Int32)), (.ref c2), w2])) (fun _ k => XS.aload X84.here hx rfl (hb hby at_214) rfl rfl (XS.iconst X84.here hx rfl (hb hby at_216) (XS.iload X84.here hx rfl (hb hby at_217) rfl (XS.iload X84.here hx rfl (hb hby at_219) rfl k)))) ?_
    obtain ⟨_, _, ⟨T86, L86, k86, n86⟩, -, X86, ⟨Lc86, hQ86, l86, y86, z86⟩, st86⟩ := Jvm.LawKit.callS X84 hx (y := (⟨"com/example/wee_match/weematch/WindowsBytesPinLaw", "slot", "([B[BIII)Z"⟩ : MethodName)) hown (mvT hZ (own_w hw 25 rfl)) (mvT hZ (own_w hw 26 rfl)) (mvT hZ (own_w hw 27 rfl)) (mvT hZ (own_w hw 28 rfl)) (by decide) (backOf (W := 0) (rm4po l Z a0 hw [] w2 c2 (2 : Int32) u2 s1 s2 kk2 _ T79.heap n0 Zs V_c2 R2 (by decide)) hZ (own_w hw 28 rfl) (own_w hw 27 rfl) (by decide) (by decide)) (g := (mkF m 221 #[.val (.int p0), .val (.int p1), .val (.int p2), .val (.int p3), .val (.int (3 : Int32)), .val (.int s1), .val (.int u2), .val (.int s2), .val (.ref b67), .val (.ref b68), .val (.ref c0), .val (.ref c1), .val (.ref c2), .val .null, .val (.int (1 : Int32)), .val (.ref b68), .unset] [(.int s2), (.int u2), (.int (2 : Int32)), (.ref c2), w2])) rfl (by rw [hml]; rfl) (argsL := [w2, (.ref c2), (.int (2 : Int32)), (.int u2), (.int s2)]) (rest := []) (lenOf pd_2 rfl) rfl (by show 2 * 0 + _ ≤ _; exact Nat.le_of_eq rfl) (hb hby at_221) (fun _ _ => ⟨rfl, eq84, (by decide : 11 + 0 ≤ _), (by decide : 114960 + 0 ≤ _)⟩)
    dsimp only [Pt.U, Pt.locs, Pt.cells, Pt.slots] at X86 l86 y86 z86 st86 hQ86
    subst l86 y86 z86
    obtain ⟨hv86, Nq86, eq86⟩ := hQ86
    subst hv86
    replace Nf := Fr.app Nf Nq86
    refine own_go (x' := T86.setTop (mkF m 224 #[.val (.int p0), .val (.int p1), .val (.int p2), .val (.int p3), .val (.int (3 : Int32)), .val (.int s1), .val (.int u2), .val (.int s2), .val (.ref b67), .val (.ref b68), .val (.ref c0), .val (.ref c1), .val (.ref c2), .val .null, .val (.int (1 : Int32)), .val (.ref b68), .unset] [(.int (1 : Int32))])) st86 ?_
    refine own_go (x' := T86.setTop (mkF m 230 #[.val (.int p0), .val (.int p1), .val (.int p2), .val (.int p3), .val (.int (3 : Int32)), .val (.int s1), .val (.int u2), .val (.int s2), .val (.ref b67), .val (.ref b68), .val (.ref c0), .val (.ref c1), .val (.ref c2), .val .null, .val (.int (1 : Int32)), .val (.ref b68), .unset] [(.int (3 : Int32)), (.ref b68)])) (fun _ k => XS.ifNo X86.here hx rfl (hb hby at_224) rfl ((if0 _ _).trans (feq (by decide +kernel : ¬ ((1 : Int32) = (0 : Int32)))).1) (XS.aload X86.here hx rfl (hb hby at_227) rfl rfl (XS.iconst X86.here hx rfl (hb hby at_229) k))) ?_
    obtain ⟨cl87, Ar87, q87, Sz87, Nn87, Hh87, Gg87⟩ := id V_b68
    have hin87 : ¬ ((3 : Int32) < 0 ∨ cl87.slots.size ≤ ((3 : Int32)).toNatClampNeg) := inb_of Sz87 ⟨by decide, by decide⟩
    refine own_go (x' := T86.setTop (mkF m 231 #[.val (.int p0), .val (.int p1), .val (.int p2), .val (.int p3), .val (.int (3 : Int32)), .val (.int s1), .val (.int u2), .val (.int s2), .val (.ref b67), .val (.ref b68), .val (.ref c0), .val (.ref c1), .val (.ref c2), .val .null, .val (.int (1 : Int32)), .val (.ref b68), .unset] [w3])) (X86.aaload hx (j := (3 : Int32)) (v := w3) (Eq.trans (congrArg (fun h_ => h_[_]?) eq86) Ar87.1) (State.isArrayOf_alike hZ.alike Ar87.2.1) rfl Ar87.2.2 hin87 (Hh87.at hin87 rfl) (g := (mkF m 230 #[.val (.int p0), .val (.int p1), .val (.int p2), .val (.int p3), .val (.int (3 : Int32)), .val (.int s1), .val (.int u2), .val (.int s2), .val (.ref b67), .val (.ref b68), .val (.ref c0), .val (.ref c1), .val (.ref c2), .val .null, .val (.int (1 : Int32)), .val (.ref b68), .unset] [(.int (3 : Int32)), (.ref b68)])) rfl rfl (hb hby at_230)) ?_
    refine own_go (x' := T86.setTop (mkF m 238 #[.val (.int p0), .val (.int p1), .val (.int p2), .val (.int p3), .val (.int (3 : Int32)), .val (.int s1), .val (.int u2), .val (.int s2), .val (.ref b67), .val (.ref b68), .val (.ref c0), .val (.ref c1), .val (.ref c2), .val .null, .val (.int (1 : Int32)), .val (.ref b68), .unset] [(.int s2), (.int u2), (.int (3 : Int32)), .null, w3])) (fun _ k => XS.aload X86.here hx rfl (hb hby at_231) rfl rfl (XS.iconst X86.here hx rfl (hb hby at_233) (XS.iload X86.here hx rfl (hb hby at_234) rfl (XS.iload X86.here hx rfl (hb hby at_236) rfl k)))) ?_
    obtain ⟨_, _, ⟨T88, L88, k88, n88⟩, -, X88, ⟨Lc88, hQ88, l88, y88, z88⟩, st88⟩ := Jvm.LawKit.callS X86 hx (y := (⟨"com/example/wee_match/weematch/WindowsBytesPinLaw", "slot", "([B[BIII)Z"⟩ : MethodName)) hown (mvT hZ (own_w hw 25 rfl)) (mvT hZ (own_w hw 26 rfl)) (mvT hZ (own_w hw 27 rfl)) (mvT hZ (own_w hw 28 rfl)) (by decide) (backOf (W := 0) (rm4no l Z a0 hw [] w3 (3 : Int32) u2 s2 T79.heap n0 Zs R3 (by decide)) hZ (own_w hw 28 rfl) (own_w hw 27 rfl) (by decide) (by decide)) (g := (mkF m 238 #[.val (.int p0), .val (.int p1), .val (.int p2), .val (.int p3), .val (.int (3 : Int32)), .val (.int s1), .val (.int u2), .val (.int s2), .val (.ref b67), .val (.ref b68), .val (.ref c0), .val (.ref c1), .val (.ref c2), .val .null, .val (.int (1 : Int32)), .val (.ref b68), .unset] [(.int s2), (.int u2), (.int (3 : Int32)), .null, w3])) rfl (by rw [hml]; rfl) (argsL := [w3, .null, (.int (3 : Int32)), (.int u2), (.int s2)]) (rest := []) (lenOf pd_2 rfl) rfl (by show 2 * 0 + _ ≤ _; exact Nat.le_of_eq rfl) (hb hby at_238) (fun _ _ => ⟨rfl, eq86, (by decide : 11 + 0 ≤ _), (by decide : 114960 + 0 ≤ _)⟩)
    dsimp only [Pt.U, Pt.locs, Pt.cells, Pt.slots] at X88 l88 y88 z88 st88 hQ88
    subst l88 y88 z88
    obtain ⟨hv88, Nq88, eq88⟩ := hQ88
    subst hv88
    replace Nf := Fr.app Nf Nq88
    refine own_go (x' := T88.setTop (mkF m 241 #[.val (.int p0), .val (.int p1), .val (.int p2), .val (.int p3), .val (.int (3 : Int32)), .val (.int s1), .val (.int u2), .val (.int s2), .val (.ref b67), .val (.ref b68), .val (.ref c0), .val (.ref c1), .val (.ref c2), .val .null, .val (.int (1 : Int32)), .val (.ref b68), .unset] [(.int (1 : Int32))])) st88 ?_
    refine own_go (x' := T88.setTop (mkF m 256 #[.val (.int p0), .val (.int p1), .val (.int p2), .val (.int p3), .val (.int (3 : Int32)), .val (.int s1), .val (.int u2), .val (.int s2), .val (.ref b67), .val (.ref b68), .val (.ref c0), .val (.ref c1), .val (.ref c2), .val .null, .val (.int (1 : Int32)), .val (.ref b68), .val (.int (1 : Int32))] [])) (fun _ k => XS.ifNo X88.here hx rfl (hb hby at_241) rfl ((if0 _ _).trans (feq (by decide +kernel : ¬ ((1 : Int32) = (0 : Int32)))).1) (XS.iconst X88.here hx rfl (hb hby at_244) (XS.goto X88.here hx rfl (pc0 := 245) (pc' := 249) rfl (hb hby at_245) (by decide) (by decide) (XS.istore X88.here hx rfl (hb hby at_249) rfl (l' := #[.val (.int p0), .val (.int p1), .val (.int p2), .val (.int p3), .val (.int (3 : Int32)), .val (.int s1), .val (.int u2), .val (.int s2), .val (.ref b67), .val (.ref b68), .val (.ref c0), .val (.ref c1), .val (.ref c2), .val .null, .val (.int (1 : Int32)), .val (.ref b68), .val (.int (1 : Int32))]) rfl (XS.iload X88.here hx rfl (hb hby at_251) rfl (XS.ifNo X88.here hx rfl (hb hby at_253) rfl ((if0 _ _).trans (feq (by decide +kernel : ¬ ((1 : Int32) = (0 : Int32)))).1) k)))))) ?_
    refine own_go (x' := T88.setTop (mkF m 266 #[.val (.int p0), .val (.int p1), .val (.int p2), .val (.int p3), .val (.int (3 : Int32)), .val (.int s1), .val (.int u2), .val (.int s2), .val (.ref b67), .val (.ref b68), .val (.ref c0), .val (.ref c1), .val (.ref c2), .val .null, .val (.int (1 : Int32)), .val (.ref b68), .val (.int (1 : Int32))] [(.int (1 : Int32))])) (fun _ k => XS.iload X88.here hx rfl (hb hby at_256) rfl (XS.ifNo X88.here hx rfl (hb hby at_258) rfl ((if0 _ _).trans (feq (by decide +kernel : ¬ ((1 : Int32) = (0 : Int32)))).1) (XS.iconst X88.here hx rfl (hb hby at_261) (XS.goto X88.here hx rfl (pc0 := 262) (pc' := 266) rfl (hb hby at_262) (by decide) (by decide) k)))) ?_
    refine own_retN X88 hx hlk (t := .boolean) hret (by simp) (hb hby at_266) (w := (1 : Int32)) rfl ?_ (by decide) (by decide)
    rw [eq88]
    exact ⟨rfl, Nf⟩
  · rw [hq]
    obtain ⟨T89, h89, X89, e89, E89, A89, D89, -, st89⟩ := newO X0 hx hZ hown (own_w hw 0 rfl) (own_w hw 1 rfl) (own_w hw 2 rfl) e0 (g := (mkF m 30 #[.val (.int p0), .val (.int p1), .val (.int p2), .val (.int p3), .val (.int (4 : Int32)), .val (.int s1), .val (.int u2), .val (.int s2), .unset, .unset, .unset, .unset, .unset, .unset, .unset, .unset, .unset] [])) rfl (hb hby at_30) (by decide) (by decide)
    obtain ⟨b89, g89⟩ : ∃ z, z = h0.size := ⟨_, rfl⟩
    rw [← g89] at A89 D89 st89
    have g_b89 : n0 ≤ b89 := Nat.le_trans Zs (Nat.le_of_eq g89.symm)
    replace Zs := Nat.le_trans Zs E89.1
    have E_b89 := A89
    have F_b89_bytes : Fld Z h89 b89 "com/example/wee_match/weematch/Sieve$Windows" "bytes" "[[B" .null := D89 (Or.inr (own_w hw 12 rfl)) (ty := (.array (.array .byte))) (by decide)
    have F_b89_chars : Fld Z h89 b89 "com/example/wee_match/weematch/Sieve$Windows" "chars" "[[C" .null := D89 (Or.inr (own_w hw 16 rfl)) (ty := (.array (.array .char))) (by decide)
    have F_b89_starts : Fld Z h89 b89 "com/example/wee_match/weematch/Sieve$Windows" "starts" "[I" .null := D89 (Or.inl (own_w hw 19 rfl)) (ty := (.array .int)) (by decide)
    refine own_go (x' := T89.setTop (mkF m 33 #[.val (.int p0), .val (.int p1), .val (.int p2), .val (.int p3), .val (.int (4 : Int32)), .val (.int s1), .val (.int u2), .val (.int s2), .unset, .unset, .unset, .unset, .unset, .unset, .unset, .unset, .unset] [(.ref b89)])) st89 ?_
    refine own_go (x' := T89.setTop (mkF m 34 #[.val (.int p0), .val (.int p1), .val (.int p2), .val (.int p3), .val (.int (4 : Int32)), .val (.int s1), .val (.int u2), .val (.int s2), .unset, .unset, .unset, .unset, .unset, .unset, .unset, .unset, .unset] [(.ref b89), (.ref b89)])) (fun _ k => XS.dup X89.here hx rfl (hb hby at_33) rfl rfl k) ?_
    obtain ⟨_, _, ⟨T90, L90, k90, n90⟩, -, X90, ⟨Lc90, hQ90, l90, y90, z90⟩, st90⟩ := X89.specialBack hx (y := (⟨"com/example/wee_match/weematch/Sieve$Windows", "<init>", "()V"⟩ : MethodName)) rfl hown (mvT hZ (own_w hw 3 rfl)) (mvT hZ (own_w hw 4 rfl)) (mvT hZ (own_w hw 5 rfl)) (by decide) (backOf (W := 1) (rm1 l Z a0 hw [] b89 h89 n0 Zs E_b89 F_b89_bytes F_b89_chars F_b89_starts g_b89) hZ (own_w hw 5 rfl) (own_w hw 2 rfl) (by decide) (by decide)) (g := (mkF m 34 #[.val (.int p0), .val (.int p1), .val (.int p2), .val (.int p3), .val (.int (4 : Int32)), .val (.int s1), .val (.int u2), .val (.int s2), .unset, .unset, .unset, .unset, .unset, .unset, .unset, .unset, .unset] [(.ref b89), (.ref b89)])) rfl (by rw [hml]; rfl) (Steps.refl _) (a := b89) (argsL := []) (rest := [(.ref b89)]) (lenOf pd_0 rfl) rfl (by show 2 * 0 + _ ≤ _; exact Nat.le_of_eq rfl) (hb hby at_34) (fun _ _ => ⟨rfl, e89, (by decide : 1 + 3 ≤ _), (by decide : 7 + 144 ≤ _)⟩)
    dsimp only [Pt.U, Pt.locs, Pt.cells, Pt.slots] at X90 l90 y90 z90 st90 hQ90
    subst l90 y90 z90
    obtain ⟨b90, kc90, hv90, Nq90, K90, sq90, g_b90, Eo90, Fs90, V_b90, O_b90⟩ := hQ90
    subst hv90
    replace Nf := Fr.app Nf Nq90
    have ne_b89_b90 : b89 ≠ b90 := Nat.ne_of_lt (Nat.lt_of_lt_of_le E_b89.lt sq90)
    replace Zs := Nat.le_trans Zs K90.1
    replace E_b89 := Eo90
    replace F_b89_bytes := Fs90
    refine own_go (x' := T90.setTop (mkF m 37 #[.val (.int p0), .val (.int p1), .val (.int p2), .val (.int p3), .val (.int (4 : Int32)), .val (.int s1), .val (.int u2), .val (.int s2), .unset, .unset, .unset, .unset, .unset, .unset, .unset, .unset, .unset] [(.ref b89)])) (fun _ k => st90.trans k) ?_
    refine own_go (x' := T90.setTop (mkF m 45 #[.val (.int p0), .val (.int p1), .val (.int p2), .val (.int p3), .val (.int (4 : Int32)), .val (.int s1), .val (.int u2), .val (.int s2), .val (.ref b89), .unset, .unset, .unset, .unset, .unset, .unset, .unset, .unset] [(.int s1), (.int (4 : Int32)), (.ref b89)])) (fun _ k => XS.astore X90.here hx rfl (hb hby at_37) rfl rfl (l' := #[.val (.int p0), .val (.int p1), .val (.int p2), .val (.int p3), .val (.int (4 : Int32)), .val (.int s1), .val (.int u2), .val (.int s2), .val (.ref b89), .unset, .unset, .unset, .unset, .unset, .unset, .unset, .unset]) rfl (XS.aload X90.here hx rfl (hb hby at_39) rfl rfl (XS.iload X90.here hx rfl (hb hby at_41) rfl (XS.iload X90.here hx rfl (hb hby at_43) rfl k)))) ?_
    have q91b_lt := E_b89.lt
    obtain ⟨cq91, kq91, q91a, q91b, q91c⟩ := isOf hZ rfl E_b89
    obtain ⟨_, _, ⟨T91, L91, k91, n91⟩, -, X91, ⟨Lc91, hQ91, l91, y91, z91⟩, st91⟩ := X90.virtualBack hx (y := (⟨"com/example/wee_match/weematch/Sieve$Windows", "bytes", "(II)[[B"⟩ : MethodName)) (z := (⟨"com/example/wee_match/weematch/Sieve$Windows", "bytes", "(II)[[B"⟩ : MethodName)) hown (mvT hZ (own_w hw 20 rfl)) (mvT hZ (own_w hw 21 rfl)) (notFace_of_selects (args := #[]) (mvT hZ (own_w hw 23 rfl))) (mvT hZ (own_w hw 23 rfl)) (mvT hZ (own_w hw 22 rfl)) (by decide) (backOf (W := 0) (rmF_4 l Z a0 hw [] b89 s1 b90 kc90 T90.heap n0 Zs F_b89_bytes V_b90 O_b90 ne_b89_b90 g_b90 hs1 ht1) hZ (own_w hw 24 rfl) (own_w hw 2 rfl) (by decide) (by decide)) q91a q91c (g := (mkF m 45 #[.val (.int p0), .val (.int p1), .val (.int p2), .val (.int p3), .val (.int (4 : Int32)), .val (.int s1), .val (.int u2), .val (.int s2), .val (.ref b89), .unset, .unset, .unset, .unset, .unset, .unset, .unset, .unset] [(.int s1), (.int (4 : Int32)), (.ref b89)])) rfl (by rw [hml]; rfl) (Steps.refl _) (argsL := [(.int (4 : Int32)), (.int s1)]) (rest := []) (lenOf pd_1 rfl) rfl (by show 2 * 0 + _ ≤ _; exact Nat.le_of_eq rfl) (hb hby at_45) (fun _ _ => ⟨rfl, rfl, (by decide : 4 + 4 ≤ _), (by decide : 151 + 65596 ≤ _)⟩)
    dsimp only [Pt.U, Pt.locs, Pt.cells, Pt.slots] at X91 l91 y91 z91 st91 hQ91
    subst l91 y91 z91
    obtain ⟨c0, kk0, c1, kk1, c2, kk2, c3, kk3, hv91, Nq91, K91, Fs91, Vn91, sq_c0, g_c0, V_c0, sq_c1, g_c1, V_c1, sq_c2, g_c2, V_c2, sq_c3, g_c3, V_c3, ne_c0_c1, ne_c0_c2, ne_c0_c3, ne_c1_c2, ne_c1_c3, ne_c2_c3⟩ := hQ91
    subst hv91
    replace Nf := Fr.app Nf Nq91
    replace E_b89 := E_b89.keep K91
    replace Zs := Nat.le_trans Zs K91.1
    replace V_b90 := Vn91
    replace F_b89_bytes := Fs91
    have ne_c0_b90 : c0 ≠ b90 := own_two V_c0 V_b90 (by decide)
    have ne_b89_c0 : b89 ≠ c0 := Nat.ne_of_lt (Nat.lt_of_lt_of_le q91b_lt sq_c0)
    have ne_c1_b90 : c1 ≠ b90 := own_two V_c1 V_b90 (by decide)
    have ne_b89_c1 : b89 ≠ c1 := Nat.ne_of_lt (Nat.lt_of_lt_of_le q91b_lt sq_c1)
    have ne_c2_b90 : c2 ≠ b90 := own_two V_c2 V_b90 (by decide)
    have ne_b89_c2 : b89 ≠ c2 := Nat.ne_of_lt (Nat.lt_of_lt_of_le q91b_lt sq_c2)
    have ne_c3_b90 : c3 ≠ b90 := own_two V_c3 V_b90 (by decide)
    have ne_b89_c3 : b89 ≠ c3 := Nat.ne_of_lt (Nat.lt_of_lt_of_le q91b_lt sq_c3)
    refine own_go (x' := T91.setTop (mkF m 48 #[.val (.int p0), .val (.int p1), .val (.int p2), .val (.int p3), .val (.int (4 : Int32)), .val (.int s1), .val (.int u2), .val (.int s2), .val (.ref b89), .unset, .unset, .unset, .unset, .unset, .unset, .unset, .unset] [(.ref b90)])) (fun _ k => st91.trans k) ?_
    refine own_go (x' := T91.setTop (mkF m 57 #[.val (.int p0), .val (.int p1), .val (.int p2), .val (.int p3), .val (.int (4 : Int32)), .val (.int s1), .val (.int u2), .val (.int s2), .val (.ref b89), .val (.ref b90), .unset, .unset, .unset, .unset, .unset, .unset, .unset] [(.ref b90)])) (fun _ k => XS.astore X91.here hx rfl (hb hby at_48) rfl rfl (l' := #[.val (.int p0), .val (.int p1), .val (.int p2), .val (.int p3), .val (.int (4 : Int32)), .val (.int s1), .val (.int u2), .val (.int s2), .val (.ref b89), .val (.ref b90), .unset, .unset, .unset, .unset, .unset, .unset, .unset]) rfl (XS.aload X91.here hx rfl (hb hby at_50) rfl rfl (XS.ifnullNo X91.here hx rfl (hb hby at_52) rfl (XS.aload X91.here hx rfl (hb hby at_55) rfl rfl k)))) ?_
    obtain ⟨cl92, Ar92, -, Sz92, Nn92, -, -⟩ := id V_b90
    refine own_go (x' := T91.setTop (mkF m 58 #[.val (.int p0), .val (.int p1), .val (.int p2), .val (.int p3), .val (.int (4 : Int32)), .val (.int s1), .val (.int u2), .val (.int s2), .val (.ref b89), .val (.ref b90), .unset, .unset, .unset, .unset, .unset, .unset, .unset] [(.int (4 : Int32))])) (fun t k => X91.arraylength hx (Eq.trans (congrArg (fun h_ => h_[_]?) rfl) Ar92.1) (State.isArrayOf_alike hZ.alike Ar92.2.1) (g := (mkF m 57 #[.val (.int p0), .val (.int p1), .val (.int p2), .val (.int p3), .val (.int (4 : Int32)), .val (.int s1), .val (.int u2), .val (.int s2), .val (.ref b89), .val (.ref b90), .unset, .unset, .unset, .unset, .unset, .unset, .unset] [(.ref b90)])) rfl rfl (hb hby at_57) t (by rw [len_of Sz92 Nn92]; exact k)) ?_
    refine own_go (x' := T91.setTop (mkF m 67 #[.val (.int p0), .val (.int p1), .val (.int p2), .val (.int p3), .val (.int (4 : Int32)), .val (.int s1), .val (.int u2), .val (.int s2), .val (.ref b89), .val (.ref b90), .unset, .unset, .unset, .unset, .unset, .unset, .unset] [(.int (0 : Int32)), (.ref b90)])) (fun _ k => XS.iconst X91.here hx rfl (hb hby at_58) (XS.icmpYes X91.here hx rfl (pc0 := 59) (pc' := 64) rfl (hb hby at_59) rfl (teq rfl).1 (by decide) (by decide) (XS.aload X91.here hx rfl (hb hby at_64) rfl rfl (XS.iconst X91.here hx rfl (hb hby at_66) k)))) ?_
    obtain ⟨cl93, Ar93, q93, Sz93, Nn93, Hh93, Gg93⟩ := id V_b90
    have hin93 : ¬ ((0 : Int32) < 0 ∨ cl93.slots.size ≤ ((0 : Int32)).toNatClampNeg) := inb_of Sz93 ⟨by decide, by decide⟩
    refine own_go (x' := T91.setTop (mkF m 68 #[.val (.int p0), .val (.int p1), .val (.int p2), .val (.int p3), .val (.int (4 : Int32)), .val (.int s1), .val (.int u2), .val (.int s2), .val (.ref b89), .val (.ref b90), .unset, .unset, .unset, .unset, .unset, .unset, .unset] [(.ref c0)])) (X91.aaload hx (j := (0 : Int32)) (v := (.ref c0)) (Eq.trans (congrArg (fun h_ => h_[_]?) rfl) Ar93.1) (State.isArrayOf_alike hZ.alike Ar93.2.1) rfl Ar93.2.2 hin93 (Hh93.at hin93 rfl) (g := (mkF m 67 #[.val (.int p0), .val (.int p1), .val (.int p2), .val (.int p3), .val (.int (4 : Int32)), .val (.int s1), .val (.int u2), .val (.int s2), .val (.ref b89), .val (.ref b90), .unset, .unset, .unset, .unset, .unset, .unset, .unset] [(.int (0 : Int32)), (.ref b90)])) rfl rfl (hb hby at_67)) ?_
    refine own_go (x' := T91.setTop (mkF m 73 #[.val (.int p0), .val (.int p1), .val (.int p2), .val (.int p3), .val (.int (4 : Int32)), .val (.int s1), .val (.int u2), .val (.int s2), .val (.ref b89), .val (.ref b90), .val (.ref c0), .unset, .unset, .unset, .unset, .unset, .unset] [(.int (1 : Int32)), (.ref b90)])) (fun _ k => XS.astore X91.here hx rfl (hb hby at_68) rfl rfl (l' := #[.val (.int p0), .val (.int p1), .val (.int p2), .val (.int p3), .val (.int (4 : Int32)), .val (.int s1), .val (.int u2), .val (.int s2), .val (.ref b89), .val (.ref b90), .val (.ref c0), .unset, .unset, .unset, .unset, .unset, .unset]) rfl (XS.aload X91.here hx rfl (hb hby at_70) rfl rfl (XS.iconst X91.here hx rfl (hb hby at_72) k))) ?_
    obtain ⟨cl94, Ar94, q94, Sz94, Nn94, Hh94, Gg94⟩ := id V_b90
    have hin94 : ¬ ((1 : Int32) < 0 ∨ cl94.slots.size ≤ ((1 : Int32)).toNatClampNeg) := inb_of Sz94 ⟨by decide, by decide⟩
    refine own_go (x' := T91.setTop (mkF m 74 #[.val (.int p0), .val (.int p1), .val (.int p2), .val (.int p3), .val (.int (4 : Int32)), .val (.int s1), .val (.int u2), .val (.int s2), .val (.ref b89), .val (.ref b90), .val (.ref c0), .unset, .unset, .unset, .unset, .unset, .unset] [(.ref c1)])) (X91.aaload hx (j := (1 : Int32)) (v := (.ref c1)) (Eq.trans (congrArg (fun h_ => h_[_]?) rfl) Ar94.1) (State.isArrayOf_alike hZ.alike Ar94.2.1) rfl Ar94.2.2 hin94 (Hh94.at hin94 rfl) (g := (mkF m 73 #[.val (.int p0), .val (.int p1), .val (.int p2), .val (.int p3), .val (.int (4 : Int32)), .val (.int s1), .val (.int u2), .val (.int s2), .val (.ref b89), .val (.ref b90), .val (.ref c0), .unset, .unset, .unset, .unset, .unset, .unset] [(.int (1 : Int32)), (.ref b90)])) rfl rfl (hb hby at_73)) ?_
    refine own_go (x' := T91.setTop (mkF m 79 #[.val (.int p0), .val (.int p1), .val (.int p2), .val (.int p3), .val (.int (4 : Int32)), .val (.int s1), .val (.int u2), .val (.int s2), .val (.ref b89), .val (.ref b90), .val (.ref c0), .val (.ref c1), .unset, .unset, .unset, .unset, .unset] [(.int (2 : Int32)), (.ref b90)])) (fun _ k => XS.astore X91.here hx rfl (hb hby at_74) rfl rfl (l' := #[.val (.int p0), .val (.int p1), .val (.int p2), .val (.int p3), .val (.int (4 : Int32)), .val (.int s1), .val (.int u2), .val (.int s2), .val (.ref b89), .val (.ref b90), .val (.ref c0), .val (.ref c1), .unset, .unset, .unset, .unset, .unset]) rfl (XS.aload X91.here hx rfl (hb hby at_76) rfl rfl (XS.iconst X91.here hx rfl (hb hby at_78) k))) ?_
    obtain ⟨cl95, Ar95, q95, Sz95, Nn95, Hh95, Gg95⟩ := id V_b90
    have hin95 : ¬ ((2 : Int32) < 0 ∨ cl95.slots.size ≤ ((2 : Int32)).toNatClampNeg) := inb_of Sz95 ⟨by decide, by decide⟩
    refine own_go (x' := T91.setTop (mkF m 80 #[.val (.int p0), .val (.int p1), .val (.int p2), .val (.int p3), .val (.int (4 : Int32)), .val (.int s1), .val (.int u2), .val (.int s2), .val (.ref b89), .val (.ref b90), .val (.ref c0), .val (.ref c1), .unset, .unset, .unset, .unset, .unset] [(.ref c2)])) (X91.aaload hx (j := (2 : Int32)) (v := (.ref c2)) (Eq.trans (congrArg (fun h_ => h_[_]?) rfl) Ar95.1) (State.isArrayOf_alike hZ.alike Ar95.2.1) rfl Ar95.2.2 hin95 (Hh95.at hin95 rfl) (g := (mkF m 79 #[.val (.int p0), .val (.int p1), .val (.int p2), .val (.int p3), .val (.int (4 : Int32)), .val (.int s1), .val (.int u2), .val (.int s2), .val (.ref b89), .val (.ref b90), .val (.ref c0), .val (.ref c1), .unset, .unset, .unset, .unset, .unset] [(.int (2 : Int32)), (.ref b90)])) rfl rfl (hb hby at_79)) ?_
    refine own_go (x' := T91.setTop (mkF m 85 #[.val (.int p0), .val (.int p1), .val (.int p2), .val (.int p3), .val (.int (4 : Int32)), .val (.int s1), .val (.int u2), .val (.int s2), .val (.ref b89), .val (.ref b90), .val (.ref c0), .val (.ref c1), .val (.ref c2), .unset, .unset, .unset, .unset] [(.int (3 : Int32)), (.ref b90)])) (fun _ k => XS.astore X91.here hx rfl (hb hby at_80) rfl rfl (l' := #[.val (.int p0), .val (.int p1), .val (.int p2), .val (.int p3), .val (.int (4 : Int32)), .val (.int s1), .val (.int u2), .val (.int s2), .val (.ref b89), .val (.ref b90), .val (.ref c0), .val (.ref c1), .val (.ref c2), .unset, .unset, .unset, .unset]) rfl (XS.aload X91.here hx rfl (hb hby at_82) rfl rfl (XS.iconst X91.here hx rfl (hb hby at_84) k))) ?_
    obtain ⟨cl96, Ar96, q96, Sz96, Nn96, Hh96, Gg96⟩ := id V_b90
    have hin96 : ¬ ((3 : Int32) < 0 ∨ cl96.slots.size ≤ ((3 : Int32)).toNatClampNeg) := inb_of Sz96 ⟨by decide, by decide⟩
    refine own_go (x' := T91.setTop (mkF m 86 #[.val (.int p0), .val (.int p1), .val (.int p2), .val (.int p3), .val (.int (4 : Int32)), .val (.int s1), .val (.int u2), .val (.int s2), .val (.ref b89), .val (.ref b90), .val (.ref c0), .val (.ref c1), .val (.ref c2), .unset, .unset, .unset, .unset] [(.ref c3)])) (X91.aaload hx (j := (3 : Int32)) (v := (.ref c3)) (Eq.trans (congrArg (fun h_ => h_[_]?) rfl) Ar96.1) (State.isArrayOf_alike hZ.alike Ar96.2.1) rfl Ar96.2.2 hin96 (Hh96.at hin96 rfl) (g := (mkF m 85 #[.val (.int p0), .val (.int p1), .val (.int p2), .val (.int p3), .val (.int (4 : Int32)), .val (.int s1), .val (.int u2), .val (.int s2), .val (.ref b89), .val (.ref b90), .val (.ref c0), .val (.ref c1), .val (.ref c2), .unset, .unset, .unset, .unset] [(.int (3 : Int32)), (.ref b90)])) rfl rfl (hb hby at_85)) ?_
    refine own_go (x' := T91.setTop (mkF m 96 #[.val (.int p0), .val (.int p1), .val (.int p2), .val (.int p3), .val (.int (4 : Int32)), .val (.int s1), .val (.int u2), .val (.int s2), .val (.ref b89), .val (.ref b90), .val (.ref c0), .val (.ref c1), .val (.ref c2), .val (.ref c3), .unset, .unset, .unset] [(.int s1), (.int (4 : Int32)), (.int (0 : Int32)), .null, (.ref c0)])) (fun _ k => XS.astore X91.here hx rfl (hb hby at_86) rfl rfl (l' := #[.val (.int p0), .val (.int p1), .val (.int p2), .val (.int p3), .val (.int (4 : Int32)), .val (.int s1), .val (.int u2), .val (.int s2), .val (.ref b89), .val (.ref b90), .val (.ref c0), .val (.ref c1), .val (.ref c2), .val (.ref c3), .unset, .unset, .unset]) rfl (XS.aload X91.here hx rfl (hb hby at_88) rfl rfl (XS.aconstNull X91.here hx rfl (hb hby at_90) (XS.iconst X91.here hx rfl (hb hby at_91) (XS.iload X91.here hx rfl (hb hby at_92) rfl (XS.iload X91.here hx rfl (hb hby at_94) rfl k)))))) ?_
    obtain ⟨_, _, ⟨T97, L97, k97, n97⟩, -, X97, ⟨Lc97, hQ97, l97, y97, z97⟩, st97⟩ := Jvm.LawKit.callS X91 hx (y := (⟨"com/example/wee_match/weematch/WindowsBytesPinLaw", "slot", "([B[BIII)Z"⟩ : MethodName)) hown (mvT hZ (own_w hw 25 rfl)) (mvT hZ (own_w hw 26 rfl)) (mvT hZ (own_w hw 27 rfl)) (mvT hZ (own_w hw 28 rfl)) (by decide) (backOf (W := 0) (rm4dz l Z a0 hw [] c0 (0 : Int32) (4 : Int32) s1 kk0 T91.heap n0 Zs V_c0 (by decide) (by decide)) hZ (own_w hw 28 rfl) (own_w hw 27 rfl) (by decide) (by decide)) (g := (mkF m 96 #[.val (.int p0), .val (.int p1), .val (.int p2), .val (.int p3), .val (.int (4 : Int32)), .val (.int s1), .val (.int u2), .val (.int s2), .val (.ref b89), .val (.ref b90), .val (.ref c0), .val (.ref c1), .val (.ref c2), .val (.ref c3), .unset, .unset, .unset] [(.int s1), (.int (4 : Int32)), (.int (0 : Int32)), .null, (.ref c0)])) rfl (by rw [hml]; rfl) (argsL := [(.ref c0), .null, (.int (0 : Int32)), (.int (4 : Int32)), (.int s1)]) (rest := []) (lenOf pd_2 rfl) rfl (by show 2 * 0 + _ ≤ _; exact Nat.le_of_eq rfl) (hb hby at_96) (fun _ _ => ⟨rfl, rfl, (by decide : 8 + 0 ≤ _), (by decide : 65747 + 0 ≤ _)⟩)
    dsimp only [Pt.U, Pt.locs, Pt.cells, Pt.slots] at X97 l97 y97 z97 st97 hQ97
    subst l97 y97 z97
    obtain ⟨hv97, Nq97, eq97⟩ := hQ97
    subst hv97
    replace Nf := Fr.app Nf Nq97
    refine own_go (x' := T97.setTop (mkF m 99 #[.val (.int p0), .val (.int p1), .val (.int p2), .val (.int p3), .val (.int (4 : Int32)), .val (.int s1), .val (.int u2), .val (.int s2), .val (.ref b89), .val (.ref b90), .val (.ref c0), .val (.ref c1), .val (.ref c2), .val (.ref c3), .unset, .unset, .unset] [(.int (1 : Int32))])) st97 ?_
    refine own_go (x' := T97.setTop (mkF m 110 #[.val (.int p0), .val (.int p1), .val (.int p2), .val (.int p3), .val (.int (4 : Int32)), .val (.int s1), .val (.int u2), .val (.int s2), .val (.ref b89), .val (.ref b90), .val (.ref c0), .val (.ref c1), .val (.ref c2), .val (.ref c3), .unset, .unset, .unset] [(.int s1), (.int (4 : Int32)), (.int (1 : Int32)), .null, (.ref c1)])) (fun _ k => XS.ifNo X97.here hx rfl (hb hby at_99) rfl ((if0 _ _).trans (feq (by decide +kernel : ¬ ((1 : Int32) = (0 : Int32)))).1) (XS.aload X97.here hx rfl (hb hby at_102) rfl rfl (XS.aconstNull X97.here hx rfl (hb hby at_104) (XS.iconst X97.here hx rfl (hb hby at_105) (XS.iload X97.here hx rfl (hb hby at_106) rfl (XS.iload X97.here hx rfl (hb hby at_108) rfl k)))))) ?_
    obtain ⟨_, _, ⟨T98, L98, k98, n98⟩, -, X98, ⟨Lc98, hQ98, l98, y98, z98⟩, st98⟩ := Jvm.LawKit.callS X97 hx (y := (⟨"com/example/wee_match/weematch/WindowsBytesPinLaw", "slot", "([B[BIII)Z"⟩ : MethodName)) hown (mvT hZ (own_w hw 25 rfl)) (mvT hZ (own_w hw 26 rfl)) (mvT hZ (own_w hw 27 rfl)) (mvT hZ (own_w hw 28 rfl)) (by decide) (backOf (W := 0) (rm4do l Z a0 hw [] c1 (1 : Int32) (4 : Int32) s1 kk1 T91.heap n0 Zs V_c1 (by decide) (by decide)) hZ (own_w hw 28 rfl) (own_w hw 27 rfl) (by decide) (by decide)) (g := (mkF m 110 #[.val (.int p0), .val (.int p1), .val (.int p2), .val (.int p3), .val (.int (4 : Int32)), .val (.int s1), .val (.int u2), .val (.int s2), .val (.ref b89), .val (.ref b90), .val (.ref c0), .val (.ref c1), .val (.ref c2), .val (.ref c3), .unset, .unset, .unset] [(.int s1), (.int (4 : Int32)), (.int (1 : Int32)), .null, (.ref c1)])) rfl (by rw [hml]; rfl) (argsL := [(.ref c1), .null, (.int (1 : Int32)), (.int (4 : Int32)), (.int s1)]) (rest := []) (lenOf pd_2 rfl) rfl (by show 2 * 0 + _ ≤ _; exact Nat.le_of_eq rfl) (hb hby at_110) (fun _ _ => ⟨rfl, eq97, (by decide : 8 + 0 ≤ _), (by decide : 65747 + 0 ≤ _)⟩)
    dsimp only [Pt.U, Pt.locs, Pt.cells, Pt.slots] at X98 l98 y98 z98 st98 hQ98
    subst l98 y98 z98
    obtain ⟨hv98, Nq98, eq98⟩ := hQ98
    subst hv98
    replace Nf := Fr.app Nf Nq98
    refine own_go (x' := T98.setTop (mkF m 113 #[.val (.int p0), .val (.int p1), .val (.int p2), .val (.int p3), .val (.int (4 : Int32)), .val (.int s1), .val (.int u2), .val (.int s2), .val (.ref b89), .val (.ref b90), .val (.ref c0), .val (.ref c1), .val (.ref c2), .val (.ref c3), .unset, .unset, .unset] [(.int (1 : Int32))])) st98 ?_
    refine own_go (x' := T98.setTop (mkF m 124 #[.val (.int p0), .val (.int p1), .val (.int p2), .val (.int p3), .val (.int (4 : Int32)), .val (.int s1), .val (.int u2), .val (.int s2), .val (.ref b89), .val (.ref b90), .val (.ref c0), .val (.ref c1), .val (.ref c2), .val (.ref c3), .unset, .unset, .unset] [(.int s1), (.int (4 : Int32)), (.int (2 : Int32)), .null, (.ref c2)])) (fun _ k => XS.ifNo X98.here hx rfl (hb hby at_113) rfl ((if0 _ _).trans (feq (by decide +kernel : ¬ ((1 : Int32) = (0 : Int32)))).1) (XS.aload X98.here hx rfl (hb hby at_116) rfl rfl (XS.aconstNull X98.here hx rfl (hb hby at_118) (XS.iconst X98.here hx rfl (hb hby at_119) (XS.iload X98.here hx rfl (hb hby at_120) rfl (XS.iload X98.here hx rfl (hb hby at_122) rfl k)))))) ?_
    obtain ⟨_, _, ⟨T99, L99, k99, n99⟩, -, X99, ⟨Lc99, hQ99, l99, y99, z99⟩, st99⟩ := Jvm.LawKit.callS X98 hx (y := (⟨"com/example/wee_match/weematch/WindowsBytesPinLaw", "slot", "([B[BIII)Z"⟩ : MethodName)) hown (mvT hZ (own_w hw 25 rfl)) (mvT hZ (own_w hw 26 rfl)) (mvT hZ (own_w hw 27 rfl)) (mvT hZ (own_w hw 28 rfl)) (by decide) (backOf (W := 0) (rm4do l Z a0 hw [] c2 (2 : Int32) (4 : Int32) s1 kk2 T91.heap n0 Zs V_c2 (by decide) (by decide)) hZ (own_w hw 28 rfl) (own_w hw 27 rfl) (by decide) (by decide)) (g := (mkF m 124 #[.val (.int p0), .val (.int p1), .val (.int p2), .val (.int p3), .val (.int (4 : Int32)), .val (.int s1), .val (.int u2), .val (.int s2), .val (.ref b89), .val (.ref b90), .val (.ref c0), .val (.ref c1), .val (.ref c2), .val (.ref c3), .unset, .unset, .unset] [(.int s1), (.int (4 : Int32)), (.int (2 : Int32)), .null, (.ref c2)])) rfl (by rw [hml]; rfl) (argsL := [(.ref c2), .null, (.int (2 : Int32)), (.int (4 : Int32)), (.int s1)]) (rest := []) (lenOf pd_2 rfl) rfl (by show 2 * 0 + _ ≤ _; exact Nat.le_of_eq rfl) (hb hby at_124) (fun _ _ => ⟨rfl, eq98, (by decide : 8 + 0 ≤ _), (by decide : 65747 + 0 ≤ _)⟩)
    dsimp only [Pt.U, Pt.locs, Pt.cells, Pt.slots] at X99 l99 y99 z99 st99 hQ99
    subst l99 y99 z99
    obtain ⟨hv99, Nq99, eq99⟩ := hQ99
    subst hv99
    replace Nf := Fr.app Nf Nq99
    refine own_go (x' := T99.setTop (mkF m 127 #[.val (.int p0), .val (.int p1), .val (.int p2), .val (.int p3), .val (.int (4 : Int32)), .val (.int s1), .val (.int u2), .val (.int s2), .val (.ref b89), .val (.ref b90), .val (.ref c0), .val (.ref c1), .val (.ref c2), .val (.ref c3), .unset, .unset, .unset] [(.int (1 : Int32))])) st99 ?_
    refine own_go (x' := T99.setTop (mkF m 138 #[.val (.int p0), .val (.int p1), .val (.int p2), .val (.int p3), .val (.int (4 : Int32)), .val (.int s1), .val (.int u2), .val (.int s2), .val (.ref b89), .val (.ref b90), .val (.ref c0), .val (.ref c1), .val (.ref c2), .val (.ref c3), .unset, .unset, .unset] [(.int s1), (.int (4 : Int32)), (.int (3 : Int32)), .null, (.ref c3)])) (fun _ k => XS.ifNo X99.here hx rfl (hb hby at_127) rfl ((if0 _ _).trans (feq (by decide +kernel : ¬ ((1 : Int32) = (0 : Int32)))).1) (XS.aload X99.here hx rfl (hb hby at_130) rfl rfl (XS.aconstNull X99.here hx rfl (hb hby at_132) (XS.iconst X99.here hx rfl (hb hby at_133) (XS.iload X99.here hx rfl (hb hby at_134) rfl (XS.iload X99.here hx rfl (hb hby at_136) rfl k)))))) ?_
    obtain ⟨_, _, ⟨T100, L100, k100, n100⟩, -, X100, ⟨Lc100, hQ100, l100, y100, z100⟩, st100⟩ := Jvm.LawKit.callS X99 hx (y := (⟨"com/example/wee_match/weematch/WindowsBytesPinLaw", "slot", "([B[BIII)Z"⟩ : MethodName)) hown (mvT hZ (own_w hw 25 rfl)) (mvT hZ (own_w hw 26 rfl)) (mvT hZ (own_w hw 27 rfl)) (mvT hZ (own_w hw 28 rfl)) (by decide) (backOf (W := 0) (rm4do l Z a0 hw [] c3 (3 : Int32) (4 : Int32) s1 kk3 T91.heap n0 Zs V_c3 (by decide) (by decide)) hZ (own_w hw 28 rfl) (own_w hw 27 rfl) (by decide) (by decide)) (g := (mkF m 138 #[.val (.int p0), .val (.int p1), .val (.int p2), .val (.int p3), .val (.int (4 : Int32)), .val (.int s1), .val (.int u2), .val (.int s2), .val (.ref b89), .val (.ref b90), .val (.ref c0), .val (.ref c1), .val (.ref c2), .val (.ref c3), .unset, .unset, .unset] [(.int s1), (.int (4 : Int32)), (.int (3 : Int32)), .null, (.ref c3)])) rfl (by rw [hml]; rfl) (argsL := [(.ref c3), .null, (.int (3 : Int32)), (.int (4 : Int32)), (.int s1)]) (rest := []) (lenOf pd_2 rfl) rfl (by show 2 * 0 + _ ≤ _; exact Nat.le_of_eq rfl) (hb hby at_138) (fun _ _ => ⟨rfl, eq99, (by decide : 8 + 0 ≤ _), (by decide : 65747 + 0 ≤ _)⟩)
    dsimp only [Pt.U, Pt.locs, Pt.cells, Pt.slots] at X100 l100 y100 z100 st100 hQ100
    subst l100 y100 z100
    obtain ⟨hv100, Nq100, eq100⟩ := hQ100
    subst hv100
    replace Nf := Fr.app Nf Nq100
    refine own_go (x' := T100.setTop (mkF m 141 #[.val (.int p0), .val (.int p1), .val (.int p2), .val (.int p3), .val (.int (4 : Int32)), .val (.int s1), .val (.int u2), .val (.int s2), .val (.ref b89), .val (.ref b90), .val (.ref c0), .val (.ref c1), .val (.ref c2), .val (.ref c3), .unset, .unset, .unset] [(.int (1 : Int32))])) st100 ?_
    refine own_go (x' := T100.setTop (mkF m 155 #[.val (.int p0), .val (.int p1), .val (.int p2), .val (.int p3), .val (.int (4 : Int32)), .val (.int s1), .val (.int u2), .val (.int s2), .val (.ref b89), .val (.ref b90), .val (.ref c0), .val (.ref c1), .val (.ref c2), .val (.ref c3), .val (.int (1 : Int32)), .unset, .unset] [(.int u2), (.ref b89)])) (fun _ k => XS.ifNo X100.here hx rfl (hb hby at_141) rfl ((if0 _ _).trans (feq (by decide +kernel : ¬ ((1 : Int32) = (0 : Int32)))).1) (XS.iconst X100.here hx rfl (hb hby at_144) (XS.goto X100.here hx rfl (pc0 := 145) (pc' := 149) rfl (hb hby at_145) (by decide) (by decide) (XS.istore X100.here hx rfl (hb hby at_149) rfl (l' := #[.val (.int p0), .val (.int p1), .val (.int p2), .val (.int p3), .val (.int (4 : Int32)), .val (.int s1), .val (.int u2), .val (.int s2), .val (.ref b89), .val (.ref b90), .val (.ref c0), .val (.ref c1), .val (.ref c2), .val (.ref c3), .val (.int (1 : Int32)), .unset, .unset]) rfl (XS.aload X100.here hx rfl (hb hby at_151) rfl rfl (XS.iload X100.here hx rfl (hb hby at_153) rfl k)))))) ?_
    refine own_go (x' := T100.setTop (mkF m 157 #[.val (.int p0), .val (.int p1), .val (.int p2), .val (.int p3), .val (.int (4 : Int32)), .val (.int s1), .val (.int u2), .val (.int s2), .val (.ref b89), .val (.ref b90), .val (.ref c0), .val (.ref c1), .val (.ref c2), .val (.ref c3), .val (.int (1 : Int32)), .unset, .unset] [(.int s2), (.int u2), (.ref b89)])) (fun _ k => XS.iload X100.here hx rfl (hb hby at_155) rfl k) ?_
    obtain ⟨cq101, kq101, q101a, q101b, q101c⟩ := isOf hZ eq100 E_b89
    obtain ⟨_, _, ⟨T101, L101, k101, n101⟩, -, X101, ⟨Lc101, hQ101, l101, y101, z101⟩, st101⟩ := X100.virtualBack hx (y := (⟨"com/example/wee_match/weematch/Sieve$Windows", "bytes", "(II)[[B"⟩ : MethodName)) (z := (⟨"com/example/wee_match/weematch/Sieve$Windows", "bytes", "(II)[[B"⟩ : MethodName)) hown (mvT hZ (own_w hw 20 rfl)) (mvT hZ (own_w hw 21 rfl)) (notFace_of_selects (args := #[]) (mvT hZ (own_w hw 23 rfl))) (mvT hZ (own_w hw 23 rfl)) (mvT hZ (own_w hw 22 rfl)) (by decide) (backOf (W := 0) (rmS_4 l Z a0 hw [] b89 u2 s2 b90 kc90 (s1 + (64 : Int32)) s1 c0 kk0 c1 kk1 c2 kk2 c3 kk3 T91.heap n0 Zs F_b89_bytes V_b90 O_b90 ne_b89_b90 g_b90 hs2 ht2 hu2 V_c0 V_c1 V_c2 V_c3 ne_c0_b90 ne_c1_b90 ne_c2_b90 ne_c3_b90) hZ (own_w hw 24 rfl) (own_w hw 2 rfl) (by decide) (by decide)) q101a q101c (g := (mkF m 157 #[.val (.int p0), .val (.int p1), .val (.int p2), .val (.int p3), .val (.int (4 : Int32)), .val (.int s1), .val (.int u2), .val (.int s2), .val (.ref b89), .val (.ref b90), .val (.ref c0), .val (.ref c1), .val (.ref c2), .val (.ref c3), .val (.int (1 : Int32)), .unset, .unset] [(.int s2), (.int u2), (.ref b89)])) rfl (by rw [hml]; rfl) (Steps.refl _) (argsL := [(.int u2), (.int s2)]) (rest := []) (lenOf pd_1 rfl) rfl (by show 2 * 0 + _ ≤ _; exact Nat.le_of_eq rfl) (hb hby at_157) (fun _ _ => ⟨rfl, eq100, (by decide : 8 + 4 ≤ _), (by decide : 65747 + 65596 ≤ _)⟩)
    dsimp only [Pt.U, Pt.locs, Pt.cells, Pt.slots] at X101 l101 y101 z101 st101 hQ101
    subst l101 y101 z101
    obtain ⟨w0, w1, w2, w3, hv101, Nq101, K101, Vn101, R0, R1, R2, R3⟩ := hQ101
    subst hv101
    replace Nf := Fr.app Nf Nq101
    have lt_c0 := V_c0.lt
    have lt_c1 := V_c1.lt
    have lt_c2 := V_c2.lt
    have lt_c3 := V_c3.lt
    have r_w0 := R0.ref.1
    have c_w0 := R0.ref.2
    have r_w1 := R1.ref.1
    have c_w1 := R1.ref.2
    have r_w2 := R2.ref.1
    have c_w2 := R2.ref.2
    have r_w3 := R3.ref.1
    have c_w3 := R3.ref.2
    replace E_b89 := E_b89.keep K101
    replace V_c0 := V_c0.keep K101 (ninS ne_c0_b90 nin0)
    replace V_c1 := V_c1.keep K101 (ninS ne_c1_b90 nin0)
    replace V_c2 := V_c2.keep K101 (ninS ne_c2_b90 nin0)
    replace V_c3 := V_c3.keep K101 (ninS ne_c3_b90 nin0)
    replace Zs := Nat.le_trans Zs K101.1
    replace V_b90 := Vn101
    refine own_go (x' := T101.setTop (mkF m 160 #[.val (.int p0), .val (.int p1), .val (.int p2), .val (.int p3), .val (.int (4 : Int32)), .val (.int s1), .val (.int u2), .val (.int s2), .val (.ref b89), .val (.ref b90), .val (.ref c0), .val (.ref c1), .val (.ref c2), .val (.ref c3), .val (.int (1 : Int32)), .unset, .unset] [(.ref b90)])) (fun _ k => st101.trans k) ?_
    refine own_go (x' := T101.setTop (mkF m 169 #[.val (.int p0), .val (.int p1), .val (.int p2), .val (.int p3), .val (.int (4 : Int32)), .val (.int s1), .val (.int u2), .val (.int s2), .val (.ref b89), .val (.ref b90), .val (.ref c0), .val (.ref c1), .val (.ref c2), .val (.ref c3), .val (.int (1 : Int32)), .val (.ref b90), .unset] [(.ref b90)])) (fun _ k => XS.astore X101.here hx rfl (hb hby at_160) rfl rfl (l' := #[.val (.int p0), .val (.int p1), .val (.int p2), .val (.int p3), .val (.int (4 : Int32)), .val (.int s1), .val (.int u2), .val (.int s2), .val (.ref b89), .val (.ref b90), .val (.ref c0), .val (.ref c1), .val (.ref c2), .val (.ref c3), .val (.int (1 : Int32)), .val (.ref b90), .unset]) rfl (XS.aload X101.here hx rfl (hb hby at_162) rfl rfl (XS.ifnullNo X101.here hx rfl (hb hby at_164) rfl (XS.aload X101.here hx rfl (hb hby at_167) rfl rfl k)))) ?_
    obtain ⟨cl102, Ar102, -, Sz102, Nn102, -, -⟩ := id V_b90
    refine own_go (x' := T101.setTop (mkF m 170 #[.val (.int p0), .val (.int p1), .val (.int p2), .val (.int p3), .val (.int (4 : Int32)), .val (.int s1), .val (.int u2), .val (.int s2), .val (.ref b89), .val (.ref b90), .val (.ref c0), .val (.ref c1), .val (.ref c2), .val (.ref c3), .val (.int (1 : Int32)), .val (.ref b90), .unset] [(.int (4 : Int32))])) (fun t k => X101.arraylength hx (Eq.trans (congrArg (fun h_ => h_[_]?) rfl) Ar102.1) (State.isArrayOf_alike hZ.alike Ar102.2.1) (g := (mkF m 169 #[.val (.int p0), .val (.int p1), .val (.int p2), .val (.int p3), .val (.int (4 : Int32)), .val (.int s1), .val (.int u2), .val (.int s2), .val (.ref b89), .val (.ref b90), .val (.ref c0), .val (.ref c1), .val (.ref c2), .val (.ref c3), .val (.int (1 : Int32)), .val (.ref b90), .unset] [(.ref b90)])) rfl rfl (hb hby at_169) t (by rw [len_of Sz102 Nn102]; exact k)) ?_
    refine own_go (x' := T101.setTop (mkF m 179 #[.val (.int p0), .val (.int p1), .val (.int p2), .val (.int p3), .val (.int (4 : Int32)), .val (.int s1), .val (.int u2), .val (.int s2), .val (.ref b89), .val (.ref b90), .val (.ref c0), .val (.ref c1), .val (.ref c2), .val (.ref c3), .val (.int (1 : Int32)), .val (.ref b90), .unset] [(.int (0 : Int32)), (.ref b90)])) (fun _ k => XS.iconst X101.here hx rfl (hb hby at_170) (XS.icmpYes X101.here hx rfl (pc0 := 171) (pc' := 176) rfl (hb hby at_171) rfl (teq rfl).1 (by decide) (by decide) (XS.aload X101.here hx rfl (hb hby at_176) rfl rfl (XS.iconst X101.here hx rfl (hb hby at_178) k)))) ?_
    obtain ⟨cl103, Ar103, q103, Sz103, Nn103, Hh103, Gg103⟩ := id V_b90
    have hin103 : ¬ ((0 : Int32) < 0 ∨ cl103.slots.size ≤ ((0 : Int32)).toNatClampNeg) := inb_of Sz103 ⟨by decide, by decide⟩
    refine own_go (x' := T101.setTop (mkF m 180 #[.val (.int p0), .val (.int p1), .val (.int p2), .val (.int p3), .val (.int (4 : Int32)), .val (.int s1), .val (.int u2), .val (.int s2), .val (.ref b89), .val (.ref b90), .val (.ref c0), .val (.ref c1), .val (.ref c2), .val (.ref c3), .val (.int (1 : Int32)), .val (.ref b90), .unset] [w0])) (X101.aaload hx (j := (0 : Int32)) (v := w0) (Eq.trans (congrArg (fun h_ => h_[_]?) rfl) Ar103.1) (State.isArrayOf_alike hZ.alike Ar103.2.1) rfl Ar103.2.2 hin103 (Hh103.at hin103 rfl) (g := (mkF m 179 #[.val (.int p0), .val (.int p1), .val (.int p2), .val (.int p3), .val (.int (4 : Int32)), .val (.int s1), .val (.int u2), .val (.int s2), .val (.ref b89), .val (.ref b90), .val (.ref c0), .val (.ref c1), .val (.ref c2), .val (.ref c3), .val (.int (1 : Int32)), .val (.ref b90), .unset] [(.int (0 : Int32)), (.ref b90)])) rfl rfl (hb hby at_179)) ?_
    refine own_go (x' := T101.setTop (mkF m 187 #[.val (.int p0), .val (.int p1), .val (.int p2), .val (.int p3), .val (.int (4 : Int32)), .val (.int s1), .val (.int u2), .val (.int s2), .val (.ref b89), .val (.ref b90), .val (.ref c0), .val (.ref c1), .val (.ref c2), .val (.ref c3), .val (.int (1 : Int32)), .val (.ref b90), .unset] [(.int s2), (.int u2), (.int (0 : Int32)), (.ref c0), w0])) (fun _ k => XS.aload X101.here hx rfl (hb hby at_180) rfl rfl (XS.iconst X101.here hx rfl (hb hby at_182) (XS.iload X101.here hx rfl (hb hby at_183) rfl (XS.iload X101.here hx rfl (hb hby at_185) rfl k)))) ?_
    obtain ⟨_, _, ⟨T104, L104, k104, n104⟩, -, X104, ⟨Lc104, hQ104, l104, y104, z104⟩, st104⟩ := Jvm.LawKit.callS X101 hx (y := (⟨"com/example/wee_match/weematch/WindowsBytesPinLaw", "slot", "([B[BIII)Z"⟩ : MethodName)) hown (mvT hZ (own_w hw 25 rfl)) (mvT hZ (own_w hw 26 rfl)) (mvT hZ (own_w hw 27 rfl)) (mvT hZ (own_w hw 28 rfl)) (by decide) (backOf (W := 0) (rm4pz l Z a0 hw [] w0 c0 (0 : Int32) u2 (s1 + (64 : Int32)) s2 kk0 _ T101.heap n0 Zs V_c0 R0 (by decide)) hZ (own_w hw 28 rfl) (own_w hw 27 rfl) (by decide) (by decide)) (g := (mkF m 187 #[.val (.int p0), .val (.int p1), .val (.int p2), .val (.int p3), .val (.int (4 : Int32)), .val (.int s1), .val (.int u2), .val (.int s2), .val (.ref b89), .val (.ref b90), .val (.ref c0), .val (.ref c1), .val (.ref c2), .val (.ref c3), .val (.int (1 : Int32)), .val (.ref b90), .unset] [(.int s2), (.int u2), (.int (0 : Int32)), (.ref c0), w0])) rfl (by rw [hml]; rfl) (argsL := [w0, (.ref c0), (.int (0 : Int32)), (.int u2), (.int s2)]) (rest := []) (lenOf pd_2 rfl) rfl (by show 2 * 0 + _ ≤ _; exact Nat.le_of_eq rfl) (hb hby at_187) (fun _ _ => ⟨rfl, rfl, (by decide : 12 + 0 ≤ _), (by decide : 131343 + 0 ≤ _)⟩)
    dsimp only [Pt.U, Pt.locs, Pt.cells, Pt.slots] at X104 l104 y104 z104 st104 hQ104
    subst l104 y104 z104
    obtain ⟨hv104, Nq104, eq104⟩ := hQ104
    subst hv104
    replace Nf := Fr.app Nf Nq104
    refine own_go (x' := T104.setTop (mkF m 190 #[.val (.int p0), .val (.int p1), .val (.int p2), .val (.int p3), .val (.int (4 : Int32)), .val (.int s1), .val (.int u2), .val (.int s2), .val (.ref b89), .val (.ref b90), .val (.ref c0), .val (.ref c1), .val (.ref c2), .val (.ref c3), .val (.int (1 : Int32)), .val (.ref b90), .unset] [(.int (1 : Int32))])) st104 ?_
    refine own_go (x' := T104.setTop (mkF m 196 #[.val (.int p0), .val (.int p1), .val (.int p2), .val (.int p3), .val (.int (4 : Int32)), .val (.int s1), .val (.int u2), .val (.int s2), .val (.ref b89), .val (.ref b90), .val (.ref c0), .val (.ref c1), .val (.ref c2), .val (.ref c3), .val (.int (1 : Int32)), .val (.ref b90), .unset] [(.int (1 : Int32)), (.ref b90)])) (fun _ k => XS.ifNo X104.here hx rfl (hb hby at_190) rfl ((if0 _ _).trans (feq (by decide +kernel : ¬ ((1 : Int32) = (0 : Int32)))).1) (XS.aload X104.here hx rfl (hb hby at_193) rfl rfl (XS.iconst X104.here hx rfl (hb hby at_195) k))) ?_
    obtain ⟨cl105, Ar105, q105, Sz105, Nn105, Hh105, Gg105⟩ := id V_b90
    have hin105 : ¬ ((1 : Int32) < 0 ∨ cl105.slots.size ≤ ((1 : Int32)).toNatClampNeg) := inb_of Sz105 ⟨by decide, by decide⟩
    refine own_go (x' := T104.setTop (mkF m 197 #[.val (.int p0), .val (.int p1), .val (.int p2), .val (.int p3), .val (.int (4 : Int32)), .val (.int s1), .val (.int u2), .val (.int s2), .val (.ref b89), .val (.ref b90), .val (.ref c0), .val (.ref c1), .val (.ref c2), .val (.ref c3), .val (.int (1 : Int32)), .val (.ref b90), .unset] [w1])) (X104.aaload hx (j := (1 : Int32)) (v := w1) (Eq.trans (congrArg (fun h_ => h_[_]?) eq104) Ar105.1) (State.isArrayOf_alike hZ.alike Ar105.2.1) rfl Ar105.2.2 hin105 (Hh105.at hin105 rfl) (g := (mkF m 196 #[.val (.int p0), .val (.int p1), .val (.int p2), .val (.int p3), .val (.int (4 : Int32)), .val (.int s1), .val (.int u2), .val (.int s2), .val (.ref b89), .val (.ref b90), .val (.ref c0), .val (.ref c1), .val (.ref c2), .val (.ref c3), .val (.int (1 : Int32)), .val (.ref b90), .unset] [(.int (1 : Int32)), (.ref b90)])) rfl rfl (hb hby at_196)) ?_
    refine own_go (x' := T104.setTop (mkF m 204 #[.val (.int p0), .val (.int p1), .val (.int p2), .val (.int p3), .val (.int (4 : Int32)), .val (.int s1), .val (.int u2), .val (.int s2), .val (.ref b89), .val (.ref b90), .val (.ref c0), .val (.ref c1), .val (.ref c2), .val (.ref c3), .val (.int (1 : Int32)), .val (.ref b90), .unset] [(.int s2), (.int u2), (.int (1 : Int32)), (.ref c1), w1])) (fun _ k => XS.aload X104.here hx rfl (hb hby at_197) rfl rfl (XS.iconst X104.here hx rfl (hb hby at_199) (XS.iload X104.here hx rfl (hb hby at_200) rfl (XS.iload X104.here hx rfl (hb hby at_202) rfl k)))) ?_
    obtain ⟨_, _, ⟨T106, L106, k106, n106⟩, -, X106, ⟨Lc106, hQ106, l106, y106, z106⟩, st106⟩ := Jvm.LawKit.callS X104 hx (y := (⟨"com/example/wee_match/weematch/WindowsBytesPinLaw", "slot", "([B[BIII)Z"⟩ : MethodName)) hown (mvT hZ (own_w hw 25 rfl)) (mvT hZ (own_w hw 26 rfl)) (mvT hZ (own_w hw 27 rfl)) (mvT hZ (own_w hw 28 rfl)) (by decide) (backOf (W := 0) (rm4po l Z a0 hw [] w1 c1 (1 : Int32) u2 s1 s2 kk1 _ T101.heap n0 Zs V_c1 R1 (by decide)) hZ (own_w hw 28 rfl) (own_w hw 27 rfl) (by decide) (by decide)) (g := (mkF m 204 #[.val (.int p0), .val (.int p1), .val (.int p2), .val (.int p3), .val (.int (4 : Int32)), .val (.int s1), .val (.int u2), .val (.int s2), .val (.ref b89), .val (.ref b90), .val (.ref c0), .val (.ref c1), .val (.ref c2), .val (.ref c3), .val (.int (1 : Int32)), .val (.ref b90), .unset] [(.int s2), (.int u2), (.int (1 : Int32)), (.ref c1), w1])) rfl (by rw [hml]; rfl) (argsL := [w1, (.ref c1), (.int (1 : Int32)), (.int u2), (.int s2)]) (rest := []) (lenOf pd_2 rfl) rfl (by show 2 * 0 + _ ≤ _; exact Nat.le_of_eq rfl) (hb hby at_204) (fun _ _ => ⟨rfl, eq104, (by decide : 12 + 0 ≤ _), (by decide : 131343 + 0 ≤ _)⟩)
    dsimp only [Pt.U, Pt.locs, Pt.cells, Pt.slots] at X106 l106 y106 z106 st106 hQ106
    subst l106 y106 z106
    obtain ⟨hv106, Nq106, eq106⟩ := hQ106
    subst hv106
    replace Nf := Fr.app Nf Nq106
    refine own_go (x' := T106.setTop (mkF m 207 #[.val (.int p0), .val (.int p1), .val (.int p2), .val (.int p3), .val (.int (4 : Int32)), .val (.int s1), .val (.int u2), .val (.int s2), .val (.ref b89), .val (.ref b90), .val (.ref c0), .val (.ref c1), .val (.ref c2), .val (.ref c3), .val (.int (1 : Int32)), .val (.ref b90), .unset] [(.int (1 : Int32))])) st106 ?_
    refine own_go (x' := T106.setTop (mkF m 213 #[.val (.int p0), .val (.int p1), .val (.int p2), .val (.int p3), .val (.int (4 : Int32)), .val (.int s1), .val (.int u2), .val (.int s2), .val (.ref b89), .val (.ref b90), .val (.ref c0), .val (.ref c1), .val (.ref c2), .val (.ref c3), .val (.int (1 : Int32)), .val (.ref b90), .unset] [(.int (2 : Int32)), (.ref b90)])) (fun _ k => XS.ifNo X106.here hx rfl (hb hby at_207) rfl ((if0 _ _).trans (feq (by decide +kernel : ¬ ((1 : Int32) = (0 : Int32)))).1) (XS.aload X106.here hx rfl (hb hby at_210) rfl rfl (XS.iconst X106.here hx rfl (hb hby at_212) k))) ?_
    obtain ⟨cl107, Ar107, q107, Sz107, Nn107, Hh107, Gg107⟩ := id V_b90
    have hin107 : ¬ ((2 : Int32) < 0 ∨ cl107.slots.size ≤ ((2 : Int32)).toNatClampNeg) := inb_of Sz107 ⟨by decide, by decide⟩
    refine own_go (x' := T106.setTop (mkF m 214 #[.val (.int p0), .val (.int p1), .val (.int p2), .val (.int p3), .val (.int (4 : Int32)), .val (.int s1), .val (.int u2), .val (.int s2), .val (.ref b89), .val (.ref b90), .val (.ref c0), .val (.ref c1), .val (.ref c2), .val (.ref c3), .val (.int (1 : Int32)), .val (.ref b90), .unset] [w2])) (X106.aaload hx (j := (2 : Int32)) (v := w2) (Eq.trans (congrArg (fun h_ => h_[_]?) eq106) Ar107.1) (State.isArrayOf_alike hZ.alike Ar107.2.1) rfl Ar107.2.2 hin107 (Hh107.at hin107 rfl) (g := (mkF m 213 #[.val (.int p0), .val (.int p1), .val (.int p2), .val (.int p3), .val (.int (4 : Int32)), .val (.int s1), .val (.int u2), .val (.int s2), .val (.ref b89), .val (.ref b90), .val (.ref c0), .val (.ref c1), .val (.ref c2), .val (.ref c3), .val (.int (1 : Int32)), .val (.ref b90), .unset] [(.int (2 : Int32)), (.ref b90)])) rfl rfl (hb hby at_213)) ?_
    refine own_go (x' := T106.setTop (mkF m 221 #[.val (.int p0), .val (.int p1), .val (.int p2), .val (.int p3), .val (.int (4 : Int32)), .val (.int s1), .val (.int u2), .val (.int s2), .val (.ref b89), .val (.ref b90), .val (.ref c0), .val (.ref c1), .val (.ref c2), .val (.ref c3), .val (.int (1 : Int32)), .val (.ref b90), .unset] [(.int s2), (.int u2), (.int (2 : Int32)), (.ref c2), w2])) (fun _ k => XS.aload X106.here hx rfl (hb hby at_214) rfl rfl (XS.iconst X106.here hx rfl (hb hby at_216) (XS.iload X106.here hx rfl (hb hby at_217) rfl (XS.iload X106.here hx rfl (hb hby at_219) rfl k)))) ?_
    obtain ⟨_, _, ⟨T108, L108, k108, n108⟩, -, X108, ⟨Lc108, hQ108, l108, y108, z108⟩, st108⟩ := Jvm.LawKit.callS X106 hx (y := (⟨"com/example/wee_match/weematch/WindowsBytesPinLaw", "slot", "([B[BIII)Z"⟩ : MethodName)) hown (mvT hZ (own_w hw 25 rfl)) (mvT hZ (own_w hw 26 rfl)) (mvT hZ (own_w hw 27 rfl)) (mvT hZ (own_w hw 28 rfl)) (by decide) (backOf (W := 0) (rm4po l Z a0 hw [] w2 c2 (2 : Int32) u2 s1 s2 kk2 _ T101.heap n0 Zs V_c2 R2 (by decide)) hZ (own_w hw 28 rfl) (own_w hw 27 rfl) (by decide) (by decide)) (g := (mkF m 221 #[.val (.int p0), .val (.int p1), .val (.int p2), .val (.int p3), .val (.int (4 : Int32)), .val (.int s1), .val (.int u2), .val (.int s2), .val (.ref b89), .val (.ref b90), .val (.ref c0), .val (.ref c1), .val (.ref c2), .val (.ref c3), .val (.int (1 : Int32)), .val (.ref b90), .unset] [(.int s2), (.int u2), (.int (2 : Int32)), (.ref c2), w2])) rfl (by rw [hml]; rfl) (argsL := [w2, (.ref c2), (.int (2 : Int32)), (.int u2), (.int s2)]) (rest := []) (lenOf pd_2 rfl) rfl (by show 2 * 0 + _ ≤ _; exact Nat.le_of_eq rfl) (hb hby at_221) (fun _ _ => ⟨rfl, eq106, (by decide : 12 + 0 ≤ _), (by decide : 131343 + 0 ≤ _)⟩)
    dsimp only [Pt.U, Pt.locs, Pt.cells, Pt.slots] at X108 l108 y108 z108 st108 hQ108
    subst l108 y108 z108
    obtain ⟨hv108, Nq108, eq108⟩ := hQ108
    subst hv108
    replace Nf := Fr.app Nf Nq108
    refine own_go (x' := T108.setTop (mkF m 224 #[.val (.int p0), .val (.int p1), .val (.int p2), .val (.int p3), .val (.int (4 : Int32)), .val (.int s1), .val (.int u2), .val (.int s2), .val (.ref b89), .val (.ref b90), .val (.ref c0), .val (.ref c1), .val (.ref c2), .val (.ref c3), .val (.int (1 : Int32)), .val (.ref b90), .unset] [(.int (1 : Int32))])) st108 ?_
    refine own_go (x' := T108.setTop (mkF m 230 #[.val (.int p0), .val (.int p1), .val (.int p2), .val (.int p3), .val (.int (4 : Int32)), .val (.int s1), .val (.int u2), .val (.int s2), .val (.ref b89), .val (.ref b90), .val (.ref c0), .val (.ref c1), .val (.ref c2), .val (.ref c3), .val (.int (1 : Int32)), .val (.ref b90), .unset] [(.int (3 : Int32)), (.ref b90)])) (fun _ k => XS.ifNo X108.here hx rfl (hb hby at_224) rfl ((if0 _ _).trans (feq (by decide +kernel : ¬ ((1 : Int32) = (0 : Int32)))).1) (XS.aload X108.here hx rfl (hb hby at_227) rfl rfl (XS.iconst X108.here hx rfl (hb hby at_229) k))) ?_
    obtain ⟨cl109, Ar109, q109, Sz109, Nn109, Hh109, Gg109⟩ := id V_b90
    have hin109 : ¬ ((3 : Int32) < 0 ∨ cl109.slots.size ≤ ((3 : Int32)).toNatClampNeg) := inb_of Sz109 ⟨by decide, by decide⟩
    refine own_go (x' := T108.setTop (mkF m 231 #[.val (.int p0), .val (.int p1), .val (.int p2), .val (.int p3), .val (.int (4 : Int32)), .val (.int s1), .val (.int u2), .val (.int s2), .val (.ref b89), .val (.ref b90), .val (.ref c0), .val (.ref c1), .val (.ref c2), .val (.ref c3), .val (.int (1 : Int32)), .val (.ref b90), .unset] [w3])) (X108.aaload hx (j := (3 : Int32)) (v := w3) (Eq.trans (congrArg (fun h_ => h_[_]?) eq108) Ar109.1) (State.isArrayOf_alike hZ.alike Ar109.2.1) rfl Ar109.2.2 hin109 (Hh109.at hin109 rfl) (g := (mkF m 230 #[.val (.int p0), .val (.int p1), .val (.int p2), .val (.int p3), .val (.int (4 : Int32)), .val (.int s1), .val (.int u2), .val (.int s2), .val (.ref b89), .val (.ref b90), .val (.ref c0), .val (.ref c1), .val (.ref c2), .val (.ref c3), .val (.int (1 : Int32)), .val (.ref b90), .unset] [(.int (3 : Int32)), (.ref b90)])) rfl rfl (hb hby at_230)) ?_
    refine own_go (x' := T108.setTop (mkF m 238 #[.val (.int p0), .val (.int p1), .val (.int p2), .val (.int p3), .val (.int (4 : Int32)), .val (.int s1), .val (.int u2), .val (.int s2), .val (.ref b89), .val (.ref b90), .val (.ref c0), .val (.ref c1), .val (.ref c2), .val (.ref c3), .val (.int (1 : Int32)), .val (.ref b90), .unset] [(.int s2), (.int u2), (.int (3 : Int32)), (.ref c3), w3])) (fun _ k => XS.aload X108.here hx rfl (hb hby at_231) rfl rfl (XS.iconst X108.here hx rfl (hb hby at_233) (XS.iload X108.here hx rfl (hb hby at_234) rfl (XS.iload X108.here hx rfl (hb hby at_236) rfl k)))) ?_
    obtain ⟨_, _, ⟨T110, L110, k110, n110⟩, -, X110, ⟨Lc110, hQ110, l110, y110, z110⟩, st110⟩ := Jvm.LawKit.callS X108 hx (y := (⟨"com/example/wee_match/weematch/WindowsBytesPinLaw", "slot", "([B[BIII)Z"⟩ : MethodName)) hown (mvT hZ (own_w hw 25 rfl)) (mvT hZ (own_w hw 26 rfl)) (mvT hZ (own_w hw 27 rfl)) (mvT hZ (own_w hw 28 rfl)) (by decide) (backOf (W := 0) (rm4po l Z a0 hw [] w3 c3 (3 : Int32) u2 s1 s2 kk3 _ T101.heap n0 Zs V_c3 R3 (by decide)) hZ (own_w hw 28 rfl) (own_w hw 27 rfl) (by decide) (by decide)) (g := (mkF m 238 #[.val (.int p0), .val (.int p1), .val (.int p2), .val (.int p3), .val (.int (4 : Int32)), .val (.int s1), .val (.int u2), .val (.int s2), .val (.ref b89), .val (.ref b90), .val (.ref c0), .val (.ref c1), .val (.ref c2), .val (.ref c3), .val (.int (1 : Int32)), .val (.ref b90), .unset] [(.int s2), (.int u2), (.int (3 : Int32)), (.ref c3), w3])) rfl (by rw [hml]; rfl) (argsL := [w3, (.ref c3), (.int (3 : Int32)), (.int u2), (.int s2)]) (rest := []) (lenOf pd_2 rfl) rfl (by show 2 * 0 + _ ≤ _; exact Nat.le_of_eq rfl) (hb hby at_238) (fun _ _ => ⟨rfl, eq108, (by decide : 12 + 0 ≤ _), (by decide : 131343 + 0 ≤ _)⟩)
    dsimp only [Pt.U, Pt.locs, Pt.cells, Pt.slots] at X110 l110 y110 z110 st110 hQ110
    subst l110 y110 z110
    obtain ⟨hv110, Nq110, eq110⟩ := hQ110
    subst hv110
    replace Nf := Fr.app Nf Nq110
    refine own_go (x' := T110.setTop (mkF m 241 #[.val (.int p0), .val (.int p1), .val (.int p2), .val (.int p3), .val (.int (4 : Int32)), .val (.int s1), .val (.int u2), .val (.int s2), .val (.ref b89), .val (.ref b90), .val (.ref c0), .val (.ref c1), .val (.ref c2), .val (.ref c3), .val (.int (1 : Int32)), .val (.ref b90), .unset] [(.int (1 : Int32))])) st110 ?_
    refine own_go (x' := T110.setTop (mkF m 256 #[.val (.int p0), .val (.int p1), .val (.int p2), .val (.int p3), .val (.int (4 : Int32)), .val (.int s1), .val (.int u2), .val (.int s2), .val (.ref b89), .val (.ref b90), .val (.ref c0), .val (.ref c1), .val (.ref c2), .val (.ref c3), .val (.int (1 : Int32)), .val (.ref b90), .val (.int (1 : Int32))] [])) (fun _ k => XS.ifNo X110.here hx rfl (hb hby at_241) rfl ((if0 _ _).trans (feq (by decide +kernel : ¬ ((1 : Int32) = (0 : Int32)))).1) (XS.iconst X110.here hx rfl (hb hby at_244) (XS.goto X110.here hx rfl (pc0 := 245) (pc' := 249) rfl (hb hby at_245) (by decide) (by decide) (XS.istore X110.here hx rfl (hb hby at_249) rfl (l' := #[.val (.int p0), .val (.int p1), .val (.int p2), .val (.int p3), .val (.int (4 : Int32)), .val (.int s1), .val (.int u2), .val (.int s2), .val (.ref b89), .val (.ref b90), .val (.ref c0), .val (.ref c1), .val (.ref c2), .val (.ref c3), .val (.int (1 : Int32)), .val (.ref b90), .val (.int (1 : Int32))]) rfl (XS.iload X110.here hx rfl (hb hby at_251) rfl (XS.ifNo X110.here hx rfl (hb hby at_253) rfl ((if0 _ _).trans (feq (by decide +kernel : ¬ ((1 : Int32) = (0 : Int32)))).1) k)))))) ?_
    refine own_go (x' := T110.setTop (mkF m 266 #[.val (.int p0), .val (.int p1), .val (.int p2), .val (.int p3), .val (.int (4 : Int32)), .val (.int s1), .val (.int u2), .val (.int s2), .val (.ref b89), .val (.ref b90), .val (.ref c0), .val (.ref c1), .val (.ref c2), .val (.ref c3), .val (.int (1 : Int32)), .val (.ref b90), .val (.int (1 : Int32))] [(.int (1 : Int32))])) (fun _ k => XS.iload X110.here hx rfl (hb hby at_256) rfl (XS.ifNo X110.here hx rfl (hb hby at_258) rfl ((if0 _ _).trans (feq (by decide +kernel : ¬ ((1 : Int32) = (0 : Int32)))).1) (XS.iconst X110.here hx rfl (hb hby at_261) (XS.goto X110.here hx rfl (pc0 := 262) (pc' := 266) rfl (hb hby at_262) (by decide) (by decide) k)))) ?_
    refine own_retN X110 hx hlk (t := .boolean) hret (by simp) (hb hby at_266) (w := (1 : Int32)) rfl ?_ (by decide) (by decide)
    rw [eq110]
    exact ⟨rfl, Nf⟩
set_option maxRecDepth 65536 in
set_option maxHeartbeats 40000000 in
theorem comes_1 {Post : Tables → Env → Array Value → State → Outcome → State → Prop} (hpost : ∀ tb e args s v u, (limb_1_1.after args s (.returned v) u = true ∧ limb_1_2.after args s (.returned v) u = true ∧ True) → FrameEnd s (.returned v) u (Jvm.fieldLocs frame_1_writes args s ++ Jvm.arrayLocs frame_1_arrays args s ++ Jvm.staticLocs frame_1_statics s) 32 195136 → Post tb e args s (.returned v) u) :
    ArmFor flags0 classFile x code maxLocals ret World_1 tables_1 room_1 Calls_1 rest_1 Pre_1 Post := by
  intro l hfl _ _ p e ha hc hk s m args below hf hA hF happ hP
  obtain ⟨hcalls, hrest, hpre⟩ := hP
  obtain ⟨-, -, -, hnamed, -, -, -, hat⟩ := (Spec.applies_iff hf).mp happ
  obtain ⟨hg, hn⟩ := and_e (Cond.before_iff.mp (show (Jvm.Cond.and given_1 narrow_1).before args s = true from hpre))
  obtain ⟨gg1, gg2⟩ := and_e hg
  obtain ⟨gg3, gg4⟩ := and_e gg2
  obtain ⟨gg5, gg6⟩ := and_e gg4
  obtain ⟨gg7, gg8⟩ := and_e gg6
  obtain ⟨w0, w1, w2, w3, rfl⟩ : ∃ w0 w1 w2 w3 : Value, args = #[w0, w1, w2, w3] := by
    have hs : args.size = 4 := by simpa [Cond.value, given_1] using gg1
    obtain ⟨L⟩ := args
    match L, hs with
    | [w0, w1, w2, w3], _ => exact ⟨w0, w1, w2, w3, rfl⟩
  have hw := fun d (hd : d ∈ tables_1) => atoms_spec (ws := Jvm.Cond.code x code maxLocals ret :: tables_1) hat d (List.mem_cons_of_mem _ hd)
  have hfit : Fit s := fun {y c} hc i hi => by
    obtain ⟨ha, rfl⟩ := Array.getElem?_eq_some_iff.mp hc
    have q := List.all_eq_true.mp ((Array.all_eq_true_iff_forall_mem.mp hF) _ (Array.getElem_mem ha)) i (List.mem_range.mpr hi)
    simpa [Array.getElem?_eq_getElem hi] using q
  obtain ⟨i0, ei0⟩ := is_v gg3
  obtain rfl : w0 = (.int i0) := Option.some.inj ei0
  obtain ⟨i1, ei1⟩ := is_v gg5
  obtain rfl : w1 = (.int i1) := Option.some.inj ei1
  obtain ⟨i2, ei2⟩ := is_v gg7
  obtain rfl : w2 = (.int i2) := Option.some.inj ei2
  obtain ⟨i3, ei3⟩ := is_v gg8
  obtain rfl : w3 = (.int i3) := Option.some.inj ei3
  obtain ⟨n, o, h1, h2, h3, _, L, rfl, ⟨rfl, N⟩, hq⟩ := rm0 l s _ hw tables_1 i0 i1 i2 i3  s.heap s.heap.size (Nat.le_refl _)  p e ha hc hk s m _ below hf ((Spec.applies_iff_loose hf).mp happ).1 ⟨rfl, State.Warmed39.refl s, rfl⟩ trivial
  refine ⟨n, _, h1, h2, h3, hpost _ _ _ _ _ _ ⟨Cond.after_iff.mpr rfl, Cond.after_iff.mpr (eq_i res_at (Term.int_eval (1)) rfl), trivial⟩ ⟨hq.1, hq.2.1, (hq.2.2.sift fun y hy => Or.inr (N y hy)).mono (by decide) (by decide)⟩⟩
theorem main_1_1 : Claimed_1_1 := comes_1 fun _ _ _ _ _ _ h hF => ⟨h.1, hF⟩
theorem main_1_2 : Claimed_1_2 := comes_1 fun _ _ _ _ _ _ h hF => ⟨h.2.1, hF⟩
end Jvm.Pilot.@@N@@
namespace Jvm.Pilot.@@N@@
open Jvm Jvm.ClassFile Sem Op Lib Jvm.Free Jvm.Stand Jvm.Pilot.@@N@@.Jvm.D
/-! MADE BY PROGRAM (witnessworld.py) out of the Statement's table words and the real class files: 9 classes; the members and pool entries that the words name. The judged class is class 1, her method 2. -/
namespace start1
open Jvm.ClassFile
def u (s : String) : CpInfo := .utf8 (stringToUtf16 s)
/-- a pool by its gaps: so many unusable entries, then the entry; so many at the end -/
def gap : Nat → List CpInfo → List CpInfo
  | 0, r => r
  | n + 1, r => .unusable :: gap n r
def poolList (es : List (Nat × CpInfo)) (last : Nat) : List CpInfo := es.foldr (fun e r => gap e.1 (e.2 :: r)) (gap last [])
def pool (es : List (Nat × CpInfo)) (last : Nat) : Array CpInfo := ⟨poolList es last⟩
def fileOf (pool : Array CpInfo) (this : Nat) (attrs : Array Attribute := #[]) (ms : Array MethodInfo := #[]) (fl : Nat := 33) (sup : Nat := 0) (ifs : Array Nat := #[]) (fds : Array FieldInfo := #[]) : ClassFile where
  minorVersion := 0
  majorVersion := 65
  constantPool := pool
  accessFlags := fl
  thisClass := this
  superClass := sup
  interfaces := ifs
  fields := fds
  methods := ms
  attributes := attrs
def plain (name : String) (sup : Option ClassId) : Class where
  name := name
  kind := .ordinary
  loader := none
  accessFlags := 33
  super := sup
  interfaces := #[]
  cf := none
  fields := #[]
  methods := #[]
  instanceTypes := #[]
  staticTypes := #[]
  resolved := #[]
  callSites := []
  init := .initialized
  statics := none
  mirror := none

def pool0 : Array CpInfo := pool [(5, u "<init>"), (0, u "()V"), (1, .class_ 10), (1, u "java/lang/Object")] 113

def k0c0 : Code := { maxStack := 0, maxLocals := 1, code := object_method_1_code, exceptionTable := #[], attributes := #[] }
def k0m0 : Method := { name := "<init>", desc := "()V", sig := { parameters := [], returnType := none }, accessFlags := 1, code := some k0c0 }
/-- java/lang/Object -/
def k0 : Class := { plain "java/lang/Object" none with
  accessFlags := 33
  interfaces := #[]
  cf := some (fileOf pool0 8 #[] #[{ accessFlags := 1, nameIndex := 5, descriptorIndex := 6, attributes := #[] }] 33 0 #[] #[])
  fields := #[]
  methods := #[k0m0]
  instanceTypes := #[]
  staticTypes := #[]
  resolved := Array.replicate 124 none
  statics := none }

def pool1 : Array CpInfo := pool [(2, .class_ 4), (0, .nameAndType 5 6), (0, u "java/lang/Object"), (0, u "<init>"), (0, u "()V"), (0, .class_ 8), (0, u "com/example/wee_match/weematch/Sieve$Windows"), (0, .methodref 7 3), (0, .methodref 7 11), (0, .nameAndType 12 13), (0, u "bytes"), (0, u "(II)[[B"), (0, .methodref 15 16), (0, .class_ 17), (0, .nameAndType 18 19), (0, u "com/example/wee_match/weematch/WindowsBytesPinLaw"), (0, u "slot"), (0, u "([B[BIII)Z"), (3, u "law"), (0, u "(IIII)Z")] 10

def k1m0 : Method := { name := "<init>", desc := "()V", sig := { parameters := [], returnType := none }, accessFlags := 1, code := none }
def k1c1 : Code := { maxStack := 2, maxLocals := 6, code := method_2_code, exceptionTable := #[], attributes := #[] }
def k1m1 : Method := { name := "slot", desc := "([B[BIII)Z", sig := { parameters := [(.array .byte), (.array .byte), .int, .int, .int], returnType := some .boolean }, accessFlags := 10, code := some k1c1 }
def k1c2 : Code := { maxStack := 5, maxLocals := 17, code := code, exceptionTable := #[], attributes := #[] }
def k1m2 : Method := { name := "law", desc := "(IIII)Z", sig := { parameters := [.int, .int, .int, .int], returnType := some .boolean }, accessFlags := 9, code := some k1c2 }
/-- com/example/wee_match/weematch/WindowsBytesPinLaw -/
def k1 : Class := { plain "com/example/wee_match/weematch/WindowsBytesPinLaw" (some 0) with
  accessFlags := 49
  interfaces := #[]
  cf := some (fileOf pool1 15 #[] #[{ accessFlags := 1, nameIndex := 5, descriptorIndex := 6, attributes := #[] }, { accessFlags := 10, nameIndex := 18, descriptorIndex := 19, attributes := #[] }, { accessFlags := 9, nameIndex := 23, descriptorIndex := 24, attributes := #[] }] 49 2 #[] #[])
  fields := #[]
  methods := #[k1m0, k1m1, k1m2]
  instanceTypes := #[]
  staticTypes := #[]
  resolved := Array.replicate 35 none
  statics := none }

def pool2 : Array CpInfo := pool [(1, .class_ 2), (0, u "com/example/wee_match/weematch/Sieve"), (0, .methodref 4 5), (0, .class_ 6), (0, .nameAndType 7 8), (0, u "java/lang/Object"), (0, u "<init>"), (0, u "()V"), (0, .class_ 10), (0, u "[B"), (0, .fieldref 12 13), (0, .class_ 14), (0, .nameAndType 15 16), (0, u "com/example/wee_match/weematch/Sieve$Windows"), (0, u "bytes"), (0, u "[[B"), (0, .class_ 18), (0, u "[C"), (0, .fieldref 12 20), (0, .nameAndType 21 22), (0, u "chars"), (0, u "[[C"), (0, .fieldref 12 24), (0, .nameAndType 25 26), (0, u "starts"), (0, u "[I"), (2, u "run"), (8, u "runCopy"), (2, u "stretch"), (7, u "converted"), (0, u "Lcom/example/wee_match/weematch/Latin1Copy;"), (6, u "(II)[[B")] 12

def k2c0 : Code := { maxStack := 2, maxLocals := 1, code := prog_20_method_1_code, exceptionTable := #[], attributes := #[] }
def k2m0 : Method := { name := "<init>", desc := "()V", sig := { parameters := [], returnType := none }, accessFlags := 0, code := some k2c0 }
def k2c1 : Code := { maxStack := 3, maxLocals := 5, code := prog_20_method_2_code, exceptionTable := #[], attributes := #[] }
def k2m1 : Method := { name := "bytes", desc := "(II)[[B", sig := { parameters := [.int, .int], returnType := some (.array (.array .byte)) }, accessFlags := 0, code := some k2c1 }
/-- com/example/wee_match/weematch/Sieve$Windows -/
def k2 : Class := { plain "com/example/wee_match/weematch/Sieve$Windows" (some 0) with
  accessFlags := 32
  interfaces := #[]
  cf := some (fileOf pool2 12 #[.nestHost 1] #[{ accessFlags := 0, nameIndex := 7, descriptorIndex := 8, attributes := #[] }, { accessFlags := 0, nameIndex := 15, descriptorIndex := 57, attributes := #[] }] 32 4 #[] #[{ accessFlags := 18, nameIndex := 15, descriptorIndex := 16, attributes := #[] }, { accessFlags := 18, nameIndex := 21, descriptorIndex := 22, attributes := #[] }, { accessFlags := 2, nameIndex := 29, descriptorIndex := 10, attributes := #[] }, { accessFlags := 2, nameIndex := 38, descriptorIndex := 10, attributes := #[] }, { accessFlags := 2, nameIndex := 25, descriptorIndex := 26, attributes := #[] }, { accessFlags := 2, nameIndex := 41, descriptorIndex := 18, attributes := #[] }, { accessFlags := 2, nameIndex := 49, descriptorIndex := 50, attributes := #[] }])
  fields := #[{ name := "bytes", type := (.array (.array .byte)), accessFlags := 18, slot := 0, constantValue := 0 }, { name := "chars", type := (.array (.array .char)), accessFlags := 18, slot := 1, constantValue := 0 }, { name := "run", type := (.array .byte), accessFlags := 2, slot := 2, constantValue := 0 }, { name := "runCopy", type := (.array .byte), accessFlags := 2, slot := 3, constantValue := 0 }, { name := "starts", type := (.array .int), accessFlags := 2, slot := 4, constantValue := 0 }, { name := "stretch", type := (.array .char), accessFlags := 2, slot := 5, constantValue := 0 }, { name := "converted", type := (.object "com/example/wee_match/weematch/Latin1Copy"), accessFlags := 2, slot := 6, constantValue := 0 }]
  methods := #[k2m0, k2m1]
  instanceTypes := #[(.array (.array .byte)), (.array (.array .char)), (.array .byte), (.array .byte), (.array .int), (.array .char), (.object "com/example/wee_match/weematch/Latin1Copy")]
  staticTypes := #[]
  resolved := Array.replicate 70 none
  statics := none }

def pool3 : Array CpInfo := pool [(1, u "java/lang/Cloneable"), (0, .class_ 1), (0, u "java/lang/Object"), (0, .class_ 3)] 3

/-- java/lang/Cloneable -/
def k3 : Class := { plain "java/lang/Cloneable" (some 0) with
  accessFlags := 1537
  interfaces := #[]
  cf := some (fileOf pool3 2 #[] #[] 1537 4 #[] #[])
  fields := #[]
  methods := #[]
  instanceTypes := #[]
  staticTypes := #[]
  resolved := Array.replicate 8 none
  statics := none }

def pool4 : Array CpInfo := pool [(1, u "java/io/Serializable"), (0, .class_ 1), (0, u "java/lang/Object"), (0, .class_ 3)] 3

/-- java/io/Serializable -/
def k4 : Class := { plain "java/io/Serializable" (some 0) with
  accessFlags := 1537
  interfaces := #[]
  cf := some (fileOf pool4 2 #[] #[] 1537 4 #[] #[])
  fields := #[]
  methods := #[]
  instanceTypes := #[]
  staticTypes := #[]
  resolved := Array.replicate 8 none
  statics := none }

/-- the primitive byte -/
def k5 : Class := { plain "byte" none with kind := .primitive 'B', accessFlags := 0x411 }
/-- [B -/
def k6 : Class := { plain "[B" (some 0) with kind := .array 5 .byte, interfaces := #[3, 4], accessFlags := 1041 }

/-- the primitive int -/
def k7 : Class := { plain "int" none with kind := .primitive 'I', accessFlags := 0x411 }
/-- [I -/
def k8 : Class := { plain "[I" (some 0) with kind := .array 7 .int, interfaces := #[3, 4], accessFlags := 1041 }

/-- [[B -/
def k9 : Class := { plain "[[B" (some 0) with kind := .array 6 (.array .byte), interfaces := #[3, 4], accessFlags := 1041 }
/-- the primitive char -/
def k10 : Class := { plain "char" none with kind := .primitive 'C', accessFlags := 0x411 }
/-- [C -/
def k11 : Class := { plain "[C" (some 0) with kind := .array 10 .char, interfaces := #[3, 4], accessFlags := 1041 }
/-- [[C -/
def k12 : Class := { plain "[[C" (some 0) with kind := .array 11 (.array .char), interfaces := #[3, 4], accessFlags := 1041 }

def heap : Heap := #[]
def classes : Array Class := #[k0, k1, k2, k3, k4, k5, k6, k7, k8, k9, k10, k11, k12]
def interned : List (Array UInt16 × Addr) := []
def slotsUsed : Nat := 0
def theMethod : MethodId := ⟨1, 2⟩
def args0 : Array Value := #[.int 3, .int 4, .int 5, .int 6]
def aboutOver (below : List Frame) : State where
  vm := { classes := classes, interned := interned.toArray }
  heap := heap
  slotsUsed := slotsUsed
  threads := #[{ frames := .invoking theMethod args0 :: below }]
def below0 : List Frame := [.native { method := ⟨0, 0⟩, args := #[] }]
def about1 : State := aboutOver below0
def p0 : Program := .bare "" "" ""
def e0 : Env := launch0.env 0 0 0
theorem w_frames : about1.frames = Frame.invoking theMethod args0 :: below0 := rfl
set_option maxRecDepth 65536 in
theorem w_args : argsFit about1.vm theMethod args0 = true := by decide +kernel
set_option maxRecDepth 65536 in
theorem w_heap : heapFits about1 = true := by decide +kernel
set_option maxRecDepth 65536 in
theorem w_runnable : about1.curStatus? = some .runnable := by decide +kernel
set_option maxRecDepth 65536 in
theorem w_alone : about1.alone = true := by decide +kernel
set_option maxRecDepth 65536 in
theorem w_named : about1.methodNamed? x = some theMethod := by decide +kernel
set_option maxRecDepth 65536 in
theorem w_hears : about1.hears theMethod below0 = true := by decide +kernel
set_option maxRecDepth 65536 in
theorem w_ripe : about1.ripe theMethod args0 below0 = true := by decide +kernel
theorem w_running : about1.status = .running := rfl
set_option maxRecDepth 65536 in
theorem w_room : about1.hasRoom e0.platform room_1 = true :=
  launch0.hasRoom_least _ room_1 (by decide +kernel) (by decide +kernel) (by decide +kernel) (by decide +kernel) (by decide +kernel) (by decide +kernel)
theorem allAtoms_all (ts : List Jvm.Cond) (a : Array Jvm.Value) (st : Jvm.State) : (allAtoms ts).before a st = ts.all (fun c => c.before a st) := by
  induction ts with
  | nil => rfl
  | cons c t ih =>
    show (Jvm.Cond.and c (allAtoms t)).before a st = _
    rw [Jvm.Cond.before_and, ih, List.all_cons]
def words1 : List Jvm.Cond := Jvm.Cond.code x code maxLocals ret :: tables_1
/-- a 'code' word, met by the world's own term for the bytes: nothing is compared byte by byte -/
theorem code_word {y : MethodName} {bytes : ByteArray} {mx : Nat} {rt : Option FieldType} {a : Array Value} {s : State} {m : MethodId} {meth : Method} {c : Code} (h1 : s.methodNamed? y = some m) (h2 : s.vm.method? m = some meth) (h3 : meth.code = some c) (h4 : c.code = bytes)
    (h5 : (c.maxLocals == mx && c.exceptionTable.isEmpty && decide (c.maxStack ≤ mostOperands) && decide (meth.sig.returnType = rt) && !meth.locks && decide (parseMethodDescriptor y.desc = some meth.sig)) = true) : (Jvm.Cond.code y bytes mx rt).before a s = true := by
  simp only [Bool.and_eq_true, beq_iff_eq, Bool.not_eq_true', decide_eq_true_eq] at h5
  obtain ⟨⟨⟨⟨⟨g1, g2⟩, g3⟩, g4⟩, g5⟩, g6⟩ := h5
  simp [Cond.before, Cond.holds, Cond.value, h1, h2, h3, h4, g1, g2, g3, g4, g5, g6]
def isCode : Jvm.Cond → Bool
  | .code _ _ _ _ => true
  | _ => false
theorem all_split {L : List Jvm.Cond} {P : Jvm.Cond → Bool} (h1 : L.all (fun c => isCode c || P c) = true) (h2 : ∀ c ∈ L.filter isCode, P c = true) : L.all P = true := by
  refine List.all_eq_true.mpr fun c hc => ?_
  have h := List.all_eq_true.mp h1 c hc
  rcases Bool.eq_false_or_eq_true (isCode c) with hi | hi
  · exact h2 c (List.mem_filter.mpr ⟨hc, hi⟩)
  · simpa [hi] using h
set_option maxRecDepth 65536 in
theorem w_c0 : (Jvm.Cond.code x code maxLocals ret).before args0 about1 = true := code_word (m := ⟨1, 2⟩) (meth := k1m2) (c := k1c2) (by decide +kernel) rfl rfl rfl (by decide +kernel)
set_option maxRecDepth 65536 in
theorem w_c1 : (Jvm.Cond.code ({ cls := "com/example/wee_match/weematch/Sieve$Windows", name := "<init>", desc := "()V" } : Jvm.MethodName) prog_20_method_1_code (1 : Nat) (Option.none : Option Jvm.ClassFile.FieldType)).before args0 about1 = true := code_word (m := ⟨2, 0⟩) (meth := k2m0) (c := k2c0) (by decide +kernel) rfl rfl rfl (by decide +kernel)
set_option maxRecDepth 65536 in
theorem w_c2 : (Jvm.Cond.code ({ cls := "java/lang/Object", name := "<init>", desc := "()V" } : Jvm.MethodName) object_method_1_code (1 : Nat) (Option.none : Option Jvm.ClassFile.FieldType)).before args0 about1 = true := code_word (m := ⟨0, 0⟩) (meth := k0m0) (c := k0c0) (by decide +kernel) rfl rfl rfl (by decide +kernel)
set_option maxRecDepth 65536 in
theorem w_c3 : (Jvm.Cond.code ({ cls := "com/example/wee_match/weematch/Sieve$Windows", name := "bytes", desc := "(II)[[B" } : Jvm.MethodName) prog_20_method_2_code (5 : Nat) (Option.some (Jvm.ClassFile.FieldType.array (Jvm.ClassFile.FieldType.array Jvm.ClassFile.FieldType.byte)))).before args0 about1 = true := code_word (m := ⟨2, 1⟩) (meth := k2m1) (c := k2c1) (by decide +kernel) rfl rfl rfl (by decide +kernel)
set_option maxRecDepth 65536 in
theorem w_c4 : (Jvm.Cond.code ({ cls := "com/example/wee_match/weematch/WindowsBytesPinLaw", name := "slot", desc := "([B[BIII)Z" } : Jvm.MethodName) method_2_code (6 : Nat) (Option.some Jvm.ClassFile.FieldType.boolean)).before args0 about1 = true := code_word (m := ⟨1, 1⟩) (meth := k1m1) (c := k1c1) (by decide +kernel) rfl rfl rfl (by decide +kernel)
def codes1 : List Jvm.Cond := [Jvm.Cond.code x code maxLocals ret, Jvm.Cond.code ({ cls := "com/example/wee_match/weematch/Sieve$Windows", name := "<init>", desc := "()V" } : Jvm.MethodName) prog_20_method_1_code (1 : Nat) (Option.none : Option Jvm.ClassFile.FieldType), Jvm.Cond.code ({ cls := "java/lang/Object", name := "<init>", desc := "()V" } : Jvm.MethodName) object_method_1_code (1 : Nat) (Option.none : Option Jvm.ClassFile.FieldType), Jvm.Cond.code ({ cls := "com/example/wee_match/weematch/Sieve$Windows", name := "bytes", desc := "(II)[[B" } : Jvm.MethodName) prog_20_method_2_code (5 : Nat) (Option.some (Jvm.ClassFile.FieldType.array (Jvm.ClassFile.FieldType.array Jvm.ClassFile.FieldType.byte))), Jvm.Cond.code ({ cls := "com/example/wee_match/weematch/WindowsBytesPinLaw", name := "slot", desc := "([B[BIII)Z" } : Jvm.MethodName) method_2_code (6 : Nat) (Option.some Jvm.ClassFile.FieldType.boolean)]
set_option maxRecDepth 65536 in
theorem codes_eq : words1.filter isCode = codes1 := rfl
theorem w_codes : ∀ c ∈ words1.filter isCode, c.before args0 about1 = true := by
  rw [codes_eq]
  intro c hc
  simp only [codes1, List.mem_cons, List.not_mem_nil, or_false] at hc
  rcases hc with rfl | rfl | rfl | rfl | rfl
  · exact w_c0
  · exact w_c1
  · exact w_c2
  · exact w_c3
  · exact w_c4
set_option maxRecDepth 65536 in
theorem w_t1 : (words1.take 24).all (fun c => isCode c || c.before args0 about1) = true := by decide +kernel
set_option maxRecDepth 65536 in
theorem w_t2 : (words1.drop 24).all (fun c => isCode c || c.before args0 about1) = true := by decide +kernel
theorem w_tables : (allAtoms (Jvm.Cond.code x code maxLocals ret :: tables_1)).before args0 about1 = true := by
  rw [allAtoms_all]
  show words1.all (fun c => c.before args0 about1) = true
  refine all_split ?_ w_codes
  rw [← List.take_append_drop 24 words1, List.all_append, w_t1, w_t2]
  rfl
set_option maxRecDepth 65536 in
theorem w_case : (Jvm.Cond.and given_1 narrow_1).before args0 about1 = true := by decide +kernel
theorem w_applies : (headSpec (Jvm.Cond.code x code maxLocals ret :: tables_1) room_1).applies x e0.platform about1 = true :=
  (Spec.applies_iff w_frames).mpr ⟨w_running, w_runnable, w_alone, w_named, w_hears, w_ripe, w_room, w_tables⟩
theorem atStart : AtStart classFile x code maxLocals ret World_1 tables_1 room_1 Calls_1 rest_1 Pre_1 launch0 p0 e0 about1 theMethod args0 below0 :=
  ⟨lists_1, trivial, launch0.admits_env _ _ _, launch0.least_env, fairChoices_fair.cas, fairChoices_fair.clock, w_frames, w_args, w_heap, w_applies, trivial, trivial, w_case⟩
end start1
theorem witness_1 : WitnessClaimed_1 := ⟨start1.p0, start1.e0, start1.about1, start1.theMethod, start1.args0, start1.below0, start1.atStart⟩
end Jvm.Pilot.@@N@@
