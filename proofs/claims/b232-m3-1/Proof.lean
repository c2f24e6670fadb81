import JvmDerived
import JvmDerived.Pilot.@@N@@Statement
import JvmDerived.Pilot.@@N@@Code
set_option linter.unusedVariables false
set_option linter.unusedSimpArgs false
namespace Jvm.Pilot.@@N@@
open Jvm Jvm.ClassFile Sem Op Lib Jvm.Free Jvm.Stand Jvm.LawKit Jvm.RoadKit Bundle Jvm.Pilot.@@N@@.Jvm.D
section OwnKit
variable {p : Program} {l : Launch} {e : Env} {R : Room} {s : State} {m : MethodId} {args : Array Value} {below : List Frame} {meth : Method} {c : Code} {T : State} {locs : List Loc} {cells slots : Nat} {Q : Option Value → Heap → List Loc → Prop} {C S : Nat}
/-- from x the run ends, returning, with what Q says -/
def own_End (p : Program) (e : Env) (below : List Frame) (s : State) (Q : Option Value → Heap → List Loc → Prop) (C S : Nat) (x : State) : Prop :=
  ∃ t o, Steps p.tables e below x t ∧ t.status = .running ∧ Ended t below o ∧ ∃ v L, o = .returned v ∧ Q v t.heap L ∧ FrameEnd s o t L C S
theorem own_go {x x' : State} (h : ∀ t, Steps p.tables e below x' t → Steps p.tables e below x t) (k : own_End p e below s Q C S x') : own_End p e below s Q C S x := by
  obtain ⟨t, o, h1, h2⟩ := k
  exact ⟨t, o, h t h1, h2⟩
theorem own_mono {Q' : Option Value → Heap → List Loc → Prop} {x : State} (h : ∀ v h L, Q v h L → Q' v h L) (k : own_End p e below s Q C S x) : own_End p e below s Q' C S x := by
  obtain ⟨t, o, h1, h2, h3, v, L, h4, h5, h6⟩ := k
  exact ⟨t, o, h1, h2, h3, v, L, h4, h _ _ _ h5, h6⟩
theorem own_out (X : Stand p l e R s m args below meth c T locs cells slots) (hlk : meth.locks = false) {v : Option Value} (hv : meth.sig.returnType = none → v = none) {x : State}
    (h : ∀ fs, (∀ (f : JFrame) (acts : List Action), f.method = m → f.locked = none → f.entered = [] → (doReturn e (T.setTop f) acts v).1 = T.setFrames fs) → Steps p.tables e below x (T.setFrames fs))
    (hq : Q v T.heap locs) (hc : cells ≤ C) (hs : slots ≤ S) : own_End p e below s Q C S x := by
  obtain ⟨fs, hr, hrun, hended, hW, hsame⟩ := X.leave hv hlk
  exact ⟨_, _, h fs hr, hrun, hended, _, _, rfl, hq, ⟨_, rfl⟩, hW, hsame.mono hc hs⟩
theorem own_retV (X : Stand p l e R s m args below meth c T locs cells slots) (hx : p.tables.exec = Jvm.exec) (hlk : meth.locks = false) {pc : Nat} {Ls : Array Slot} (hret : meth.sig.returnType = none) (hd : decode c.code pc = .ok (.return_, 1))
    (hq : Q none T.heap locs) (hc : cells ≤ C) (hs : slots ≤ S) : own_End p e below s Q C S (T.setTop (mkF m pc Ls [])) :=
  own_out X hlk (fun _ => rfl) (fun fs hr => X.returnOut hx hret hd hr) hq hc hs
theorem own_retN (X : Stand p l e R s m args below meth c T locs cells slots) (hx : p.tables.exec = Jvm.exec) (hlk : meth.locks = false) {pc : Nat} {Ls : Array Slot} {z w : Int32} {t : FieldType} {rest : List Value} (hret : meth.sig.returnType = some t) (ht : t = .boolean ∨ t = .byte ∨ t = .char ∨ t = .short) (hd : decode c.code pc = .ok (.ireturn, 1))
    (hz : nar t z = w) (hq : Q (some (.int w)) T.heap locs) (hc : cells ≤ C) (hs : slots ≤ S) : own_End p e below s Q C S (T.setTop (mkF m pc Ls (.int z :: rest))) := by
  subst hz
  exact own_out X hlk (fun h => by rw [hret] at h; cases h) (fun fs hr => retN X hx hret ht hd hr) hq hc hs
theorem own_retI (X : Stand p l e R s m args below meth c T locs cells slots) (hx : p.tables.exec = Jvm.exec) (hlk : meth.locks = false) {pc : Nat} {Ls : Array Slot} {z : Int32} {rest : List Value} (hret : meth.sig.returnType = some .int) (hd : decode c.code pc = .ok (.ireturn, 1))
    (hq : Q (some (.int z)) T.heap locs) (hc : cells ≤ C) (hs : slots ≤ S) : own_End p e below s Q C S (T.setTop (mkF m pc Ls (.int z :: rest))) :=
  own_out X hlk (fun h => by rw [hret] at h; cases h) (fun fs hr => retOut X hx hret rfl (Or.inl ⟨rfl, Or.inl rfl, _, rfl⟩) hd hr) hq hc hs
theorem own_retJ (X : Stand p l e R s m args below meth c T locs cells slots) (hx : p.tables.exec = Jvm.exec) (hlk : meth.locks = false) {pc : Nat} {Ls : Array Slot} {z : Int64} {rest : List Value} (hret : meth.sig.returnType = some .long) (hd : decode c.code pc = .ok (.lreturn, 1))
    (hq : Q (some (.long z)) T.heap locs) (hc : cells ≤ C) (hs : slots ≤ S) : own_End p e below s Q C S (T.setTop (mkF m pc Ls (.long z :: rest))) :=
  own_out X hlk (fun h => by rw [hret] at h; cases h) (fun fs hr => retOut X hx hret rfl (Or.inr (Or.inl ⟨rfl, rfl, _, rfl⟩)) hd hr) hq hc hs
theorem own_retR (X : Stand p l e R s m args below meth c T locs cells slots) (hx : p.tables.exec = Jvm.exec) (hlk : meth.locks = false) {pc : Nat} {Ls : Array Slot} {z : Value} {t : FieldType} {rest : List Value} (hret : meth.sig.returnType = some t) (ht : t.isReference = true) (hv : z.isRef = true) (hd : decode c.code pc = .ok (.areturn, 1))
    (hq : Q (some z) T.heap locs) (hc : cells ≤ C) (hs : slots ≤ S) : own_End p e below s Q C S (T.setTop (mkF m pc Ls (z :: rest))) :=
  own_out X hlk (fun h => by rw [hret] at h; cases h) (fun fs hr => retOut X hx hret (by cases t <;> first | rfl | cases ht) (Or.inr (Or.inr (Or.inr (Or.inr ⟨rfl, ht, hv⟩)))) hd hr) hq hc hs
theorem own_w {a0 : Array Value} {Z : State} (hw : ∀ d ∈ tables_1, d.before a0 Z = true) (i : Nat) {d : Jvm.Cond} (h : tables_1[i]? = some d) : d.before a0 Z = true := hw _ (List.mem_of_getElem? h)
end OwnKit
theorem own_nc (x : Int32) (h : 0 ≤ x.toInt ∧ x.toInt < 65536) : nar .char x = x := by
  have q := c_i2c x
  apply Int32.toInt_inj.mp
  show x.toUInt32.toUInt16.toUInt32.toInt32.toInt = x.toInt
  omega
theorem own_le {a b u : Int32} (h : ¬ a < u) (hab : a ≤ b) : ¬ b < u := fun q => h (Int32.lt_of_le_of_lt hab q)
/-- a length from 0 to 31 -/
def own_L (s : Int32) : Prop := ¬ s < 0 ∧ s.toNatClampNeg ≤ 31
theorem own_l31 (p : Int32) : own_L (p &&& (31 : Int32)) := by
  have h := c_mask p 31 5 (by decide) (by decide)
  have z : (0 : Int32).toInt = 0 := by decide
  refine ⟨mt Int32.lt_iff_toInt_lt.mp (by omega), ?_⟩
  simp only [Int32.toNatClampNeg]
  omega
theorem own_m5 (p : Int32) : (p &&& (2147483647 : Int32)) % (5 : Int32) = 0 ∨ (p &&& (2147483647 : Int32)) % (5 : Int32) = 1 ∨ (p &&& (2147483647 : Int32)) % (5 : Int32) = 2 ∨ (p &&& (2147483647 : Int32)) % (5 : Int32) = 3 ∨ (p &&& (2147483647 : Int32)) % (5 : Int32) = 4 := by
  have h1 := c_and p 2147483647 (by decide)
  have h2 := (c_irem (p &&& 2147483647) 5 5 (by decide)).1 h1.1
  have h3 : ((p &&& 2147483647) % 5).toInt = 0 ∨ ((p &&& 2147483647) % 5).toInt = 1 ∨ ((p &&& 2147483647) % 5).toInt = 2 ∨ ((p &&& 2147483647) % 5).toInt = 3 ∨ ((p &&& 2147483647) % 5).toInt = 4 := by omega
  rcases h3 with h | h | h | h | h
  · exact Or.inl (Int32.toInt_inj.mp h)
  · exact Or.inr (Or.inl (Int32.toInt_inj.mp h))
  · exact Or.inr (Or.inr (Or.inl (Int32.toInt_inj.mp h)))
  · exact Or.inr (Or.inr (Or.inr (Or.inl (Int32.toInt_inj.mp h))))
  · exact Or.inr (Or.inr (Or.inr (Or.inr (Int32.toInt_inj.mp h))))
theorem own_u4 (p : Int32) : ¬ (4 : Int32) < (p &&& (2147483647 : Int32)) % (5 : Int32) := by
  rcases own_m5 p with h | h | h | h | h <;> rw [h] <;> decide
theorem own_ch (p : Int32) : 0 ≤ ((p &&& (65535 : Int32)).toUInt32.toUInt16.toUInt32.toInt32).toInt ∧ ((p &&& (65535 : Int32)).toUInt32.toUInt16.toUInt32.toInt32).toInt < 65536 := (c_i2c _).2
/-- no place: any values -/
theorem own_vac {Z : State} {h : Heap} {a : Addr} {k : ClassId} {ty : FieldType} {n : Int32} {vs vs' : List Value} {d : Value} (V : Arv Z h a k ty n vs d) (hn : ¬ (0 : Int32) < n) : Arv Z h a k ty n vs' d := by
  obtain ⟨c, A, q, S, N, H, G⟩ := V
  have e : n.toNatClampNeg = 0 := by
    have t1 := mt Int32.lt_iff_toInt_lt.mpr hn
    have z : (0 : Int32).toInt = 0 := by decide
    simp only [Int32.toNatClampNeg]
    omega
  exact ⟨c, A, q, S, N, fun k hk => absurd hk (by rw [S, e]; exact Nat.not_lt_zero _), fun i hi => absurd hi (by rw [S, e]; exact Nat.not_lt_zero _)⟩
/-- a char[] and a char[][] are two arrays -/
theorem own_two {Z : State} {h : Heap} {a b : Addr} {k k' : ClassId} {n n' : Int32} {vs vs' : List Value} {d d' : Value} {t t' : FieldType} (V : Arv Z h a k t n vs d) (W : Arv Z h b k' t' n' vs' d') (ht : t ≠ t') : a ≠ b := fun e => by
  subst e
  obtain ⟨c, A, -⟩ := V
  obtain ⟨c', A', -⟩ := W
  cases A.1.symm.trans A'.1
  obtain ⟨-, k1, h1, c1, h2⟩ := A.2.1
  obtain ⟨-, k2, h3, c2, h4⟩ := A'.2.1
  cases h1.symm.trans h3
  rw [h2] at h4
  injection h4 with e1 e2
  exact ht e2
theorem own_pos {n : Int32} (h0 : ¬ n < 0) (h : ¬ n = 0) : (0 : Int32) < n := by
  have t1 := mt Int32.lt_iff_toInt_lt.mpr h0
  have t2 := mt Int32.toInt_inj.mp h
  have z : (0 : Int32).toInt = 0 := by decide
  exact Int32.lt_iff_toInt_lt.mpr (by omega)
def own_Rp (Z : State) (h : Heap) (z0 : Nat) (w : Value) (b : Addr) (j u n s : Int32) : Prop := (w = .ref b ∧ (¬ j < u ∨ ¬ n < s)) ∨ (∃ (c : Addr) (k : ClassId), w = .ref c ∧ z0 ≤ c ∧ Arv Z h c k .char s [] (.int (0 : Int32)) ∧ j < u ∧ n < s)
def own_Rn (Z : State) (h : Heap) (w : Value) (j u s : Int32) : Prop := (w = .null ∧ ¬ j < u) ∨ (∃ (c : Addr) (k : ClassId), w = .ref c ∧ Arv Z h c k .char s [] (.int (0 : Int32)) ∧ j < u)
theorem own_Rp.ref {Z : State} {h : Heap} {z0 : Nat} {w : Value} {b : Addr} {j u n s : Int32} (R : own_Rp Z h z0 w b j u n s) : w.isRef = true ∧ w.category = 1 := by
  rcases R with ⟨rfl, -⟩ | ⟨c, k, rfl, -⟩ <;> exact ⟨rfl, rfl⟩
theorem own_Rn.ref {Z : State} {h : Heap} {w : Value} {j u s : Int32} (R : own_Rn Z h w j u s) : w.isRef = true ∧ w.category = 1 := by
  rcases R with ⟨rfl, -⟩ | ⟨c, k, rfl, -⟩ <;> exact ⟨rfl, rfl⟩

theorem d1_0 : decode prog_20_method_1_code 0 = .ok (.aload_n 0, 1) := by decide +kernel
theorem d1_1 : decode prog_20_method_1_code 1 = .ok (.invokespecial 3, 3) := by decide +kernel
theorem d1_4 : decode prog_20_method_1_code 4 = .ok (.aload_n 0, 1) := by decide +kernel
theorem d1_5 : decode prog_20_method_1_code 5 = .ok (.iconst 4, 1) := by decide +kernel
theorem d1_6 : decode prog_20_method_1_code 6 = .ok (.anewarray 9, 3) := by decide +kernel
theorem d1_9 : decode prog_20_method_1_code 9 = .ok (.putfield 11, 3) := by decide +kernel
theorem d1_12 : decode prog_20_method_1_code 12 = .ok (.aload_n 0, 1) := by decide +kernel
theorem d1_13 : decode prog_20_method_1_code 13 = .ok (.iconst 4, 1) := by decide +kernel
theorem d1_14 : decode prog_20_method_1_code 14 = .ok (.anewarray 17, 3) := by decide +kernel
theorem d1_17 : decode prog_20_method_1_code 17 = .ok (.putfield 19, 3) := by decide +kernel
theorem d1_20 : decode prog_20_method_1_code 20 = .ok (.aload_n 0, 1) := by decide +kernel
theorem d1_21 : decode prog_20_method_1_code 21 = .ok (.sipush 136, 3) := by decide +kernel
theorem d1_24 : decode prog_20_method_1_code 24 = .ok (.newarray .int, 2) := by decide +kernel
theorem d1_26 : decode prog_20_method_1_code 26 = .ok (.putfield 23, 3) := by decide +kernel
theorem d1_29 : decode prog_20_method_1_code 29 = .ok (.return_, 1) := by decide +kernel
def Q_rm1 (Z : State) (ao0 : Addr) (h0 : Heap) (n0 : Nat) (v : Option Value) (h : Heap) (L : List Loc) : Prop := ∃ (ar : Addr) (kc : ClassId), v = none ∧ Fr n0 L ∧ Keep h0 h [ao0] ∧ h0.size ≤ ar ∧ n0 ≤ ar ∧ Exa Z h ao0 "com/example/wee_match/weematch/Sieve$Windows" ∧ Fld Z h ao0 "com/example/wee_match/weematch/Sieve$Windows" "chars" "[[C" (.ref ar) ∧ Arv Z h ar kc (.array .char) (4 : Int32) [.null, .null, .null, .null] .null ∧ OvrA Z kc .char "[C"
theorem pn_rm1 : plainName "com/example/wee_match/weematch/Sieve$Windows" = true := by first | (simp [plainName, overriddenIn]; done) | decide +kernel
theorem ef_rm1 (m : MethodId) (x0 : Addr) : entryFrame m #[(.ref x0)] 1 = mkF m 0 #[.val (.ref x0)] [] := by first | (simp [entryFrame, mkF, argsToLocals, Value.category]; done) | rfl
set_option maxRecDepth 65536 in
set_option maxHeartbeats 40000000 in
theorem rm1 (l : Launch) (Z : State) (a0 : Array Value) (hw : ∀ d ∈ tables_1, d.before a0 Z = true) (ws : List Jvm.Cond) (ao0 : Addr) (h0 : Heap) (n0 : Nat) (Z0 : n0 ≤ h0.size) (E_ao0 : Exa Z h0 ao0 "com/example/wee_match/weematch/Sieve$Windows") (F_ao0_bytes : Fld Z h0 ao0 "com/example/wee_match/weematch/Sieve$Windows" "bytes" "[[B" .null) (F_ao0_chars : Fld Z h0 ao0 "com/example/wee_match/weematch/Sieve$Windows" "chars" "[[C" .null) (F_ao0_starts : Fld Z h0 ao0 "com/example/wee_match/weematch/Sieve$Windows" "starts" "[I" .null) (g_ao0 : n0 ≤ ao0) :
    MetFree l (⟨"com/example/wee_match/weematch/Sieve$Windows", "<init>", "()V"⟩ : MethodName) (head1 (Jvm.Cond.code (⟨"com/example/wee_match/weematch/Sieve$Windows", "<init>", "()V"⟩ : MethodName) prog_20_method_1_code 1 none :: ws) ({ frames := 1, cells := 3, slots := 144, locals := 12 } : Room)) (fun a U => a = #[(.ref ao0)] ∧ Z.Warmed39 U.vm ∧ U.heap = h0) (fun _ _ _ _ _ => True) (fun _ U o U' => ∃ v L, o = .returned v ∧ (Q_rm1 Z ao0 h0 n0) v U'.heap L ∧ FrameEnd U o U' L ({ frames := 1, cells := 3, slots := 144, locals := 12 } : Room).cells ({ frames := 1, cells := 3, slots := 144, locals := 12 } : Room).slots) := by
  refine MetFree.of_bodySF (plainFor_of_name pn_rm1) hisR ?_
  intro p e s m args below meth c s₁ Bd hml0 hP hK
  obtain ⟨rfl, hZ, hh⟩ := hP
  have hx := Bd.exec
  have hby := Bd.bytes
  have hlk := BodyLoose.notSynchronized Bd
  have hret := Bd.returns
  have hml : c.maxLocals = 1 := hml0
  have hown : s.vm.findClass "com/example/wee_match/weematch/Sieve$Windows" = some m.cls := findClass_of_methodNamed Bd.named
  have hnm := (name_of_methodNamed Bd.named Bd.method).1
  have X0 : Stand p l e ({ frames := 1, cells := 3, slots := 144, locals := 12 } : Room) s m #[(.ref ao0)] below meth c s₁ [] 0 0 := Stand.of_body Bd
  have e0 : s₁.heap = h0 := by rw [← hh, Bd.state]; rfl
  have Nf := Fr.nil n0
  have Zs := Z0
  have Kp : Keep h0 h0 [ao0] := Keep.refl _ _
  show own_End p e below s (Q_rm1 Z ao0 h0 n0) ({ frames := 1, cells := 3, slots := 144, locals := 12 } : Room).cells ({ frames := 1, cells := 3, slots := 144, locals := 12 } : Room).slots (s₁.setTop (entryFrame m #[(.ref ao0)] 1))
  refine own_go (x' := s₁.setTop (mkF m 0 #[.val (.ref ao0)] [])) (fun t k => castTop (ef_rm1 m ao0) k) ?_
  refine own_go (x' := s₁.setTop (mkF m 1 #[.val (.ref ao0)] [(.ref ao0)])) (fun _ k => XS.aloadN X0.here hx rfl (hb hby d1_0) rfl rfl k) ?_
  obtain ⟨T1, X1, e1, st1⟩ := initO X0 hx hZ hown (own_w hw 8 rfl) (own_w hw 9 rfl) (own_w hw 10 rfl) e0 (g := (mkF m 1 #[.val (.ref ao0)] [(.ref ao0)])) rfl (by rw [hml]; rfl) rfl (hb hby d1_1) (by decide) (W := 0) (by show 2 * 0 + _ ≤ _; exact Nat.le_of_eq rfl) (by decide)
  refine own_go (x' := T1.setTop (mkF m 4 #[.val (.ref ao0)] [])) st1 ?_
  refine own_go (x' := T1.setTop (mkF m 6 #[.val (.ref ao0)] [(.int (4 : Int32)), (.ref ao0)])) (fun _ k => XS.aloadN X1.here hx rfl (hb hby d1_4) rfl rfl (XS.iconst X1.here hx rfl (hb hby d1_5) k)) ?_
  obtain ⟨T2, h2, k2, X2, e2, E2, A2, -, O2, st2⟩ := newRA X1 hx hZ hown (C := "[B") (ty := .byte) (by decide) (own_w hw 11 rfl) (own_w hw 12 rfl) e1 (g := (mkF m 6 #[.val (.ref ao0)] [(.int (4 : Int32)), (.ref ao0)])) rfl (hb hby d1_6) rfl (by decide) (cap := 4) (by decide) (by decide) (by decide) (by decide) rfl
  obtain ⟨b2, g2⟩ : ∃ z, z = h0.size := ⟨_, rfl⟩
  rw [← g2] at A2 st2
  have ne_ao0_b2 : ao0 ≠ b2 := Nat.ne_of_lt (Nat.lt_of_lt_of_le E_ao0.lt (Nat.le_of_eq g2.symm))
  have g_b2 : n0 ≤ b2 := Nat.le_trans Zs (Nat.le_of_eq g2.symm)
  have sz_b2 : h0.size ≤ b2 := Nat.le_trans Kp.1 (Nat.le_of_eq g2.symm)
  replace E_ao0 := Exa.ext E2 E_ao0
  replace F_ao0_bytes := Fld.ext E2 F_ao0_bytes
  replace F_ao0_chars := Fld.ext E2 F_ao0_chars
  replace F_ao0_starts := Fld.ext E2 F_ao0_starts
  replace Zs := Nat.le_trans Zs E2.1
  replace Kp := Kp.ext E2
  have V_b2 : Arv Z h2 b2 k2 (.array .byte) (4 : Int32) [.null, .null, .null, .null] .null := (Arv.new A2 (by decide)).pad (pad_rep [] .null 4)
  refine own_go (x' := T2.setTop (mkF m 9 #[.val (.ref ao0)] [(.ref b2), (.ref ao0)])) st2 ?_
  obtain ⟨T3, h3, X3, e3, W3, st3⟩ := putF X2 hx hZ hown (host := "") (Or.inl (own_w hw 13 rfl)) Via.refl e2 F_ao0_bytes E_ao0 (Or.inr ⟨(own_w hw 14 rfl), rfl, hnm⟩) (own_w hw 3 rfl) (ty := (.array (.array .byte))) (by decide) rfl rfl (g := (mkF m 9 #[.val (.ref ao0)] [(.ref b2), (.ref ao0)])) rfl rfl (hb hby d1_9)
  refine own_go (x' := T3.setTop (mkF m 12 #[.val (.ref ao0)] [])) st3 ?_
  replace E_ao0 := Exa.wr W3 E_ao0
  replace F_ao0_bytes := Fld.same W3 F_ao0_bytes
  replace F_ao0_chars := Fld.other W3 F_ao0_chars (Or.inr (slot_ne (Or.inr (own_w hw 18 rfl)) (Or.inr (own_w hw 14 rfl)) (by decide) (t := (.array (.array .char))) (t' := (.array (.array .byte))) (by decide) (by decide)))
  replace F_ao0_starts := Fld.other W3 F_ao0_starts (Or.inr (slot_ne (Or.inl (own_w hw 21 rfl)) (Or.inr (own_w hw 14 rfl)) (by decide) (t := (.array .int)) (t' := (.array (.array .byte))) (by decide) (by decide)))
  replace V_b2 := V_b2.other W3 (Ne.symm ne_ao0_b2)
  replace Zs := Nat.le_trans Zs (Keep.of_wr W3).1
  replace Nf := Fr.snoc X3 Nf g_ao0
  replace Kp := Kp.wr W3 (Or.inl (by simp))
  refine own_go (x' := T3.setTop (mkF m 14 #[.val (.ref ao0)] [(.int (4 : Int32)), (.ref ao0)])) (fun _ k => XS.aloadN X3.here hx rfl (hb hby d1_12) rfl rfl (XS.iconst X3.here hx rfl (hb hby d1_13) k)) ?_
  obtain ⟨T4, h4, k4, X4, e4, E4, A4, -, O4, st4⟩ := newRA X3 hx hZ hown (C := "[C") (ty := .char) (by decide) (own_w hw 15 rfl) (own_w hw 16 rfl) e3 (g := (mkF m 14 #[.val (.ref ao0)] [(.int (4 : Int32)), (.ref ao0)])) rfl (hb hby d1_14) rfl (by decide) (cap := 4) (by decide) (by decide) (by decide) (by decide) rfl
  obtain ⟨b4, g4⟩ : ∃ z, z = h3.size := ⟨_, rfl⟩
  rw [← g4] at A4 st4
  have ne_ao0_b4 : ao0 ≠ b4 := Nat.ne_of_lt (Nat.lt_of_lt_of_le E_ao0.lt (Nat.le_of_eq g4.symm))
  have ne_b2_b4 : b2 ≠ b4 := Nat.ne_of_lt (Nat.lt_of_lt_of_le V_b2.lt (Nat.le_of_eq g4.symm))
  have g_b4 : n0 ≤ b4 := Nat.le_trans Zs (Nat.le_of_eq g4.symm)
  have sz_b4 : h0.size ≤ b4 := Nat.le_trans Kp.1 (Nat.le_of_eq g4.symm)
  replace E_ao0 := Exa.ext E4 E_ao0
  replace F_ao0_bytes := Fld.ext E4 F_ao0_bytes
  replace F_ao0_chars := Fld.ext E4 F_ao0_chars
  replace F_ao0_starts := Fld.ext E4 F_ao0_starts
  replace V_b2 := V_b2.ext E4
  replace Zs := Nat.le_trans Zs E4.1
  replace Kp := Kp.ext E4
  have V_b4 : Arv Z h4 b4 k4 (.array .char) (4 : Int32) [.null, .null, .null, .null] .null := (Arv.new A4 (by decide)).pad (pad_rep [] .null 4)
  refine own_go (x' := T4.setTop (mkF m 17 #[.val (.ref ao0)] [(.ref b4), (.ref ao0)])) st4 ?_
  obtain ⟨T5, h5, X5, e5, W5, st5⟩ := putF X4 hx hZ hown (host := "") (Or.inl (own_w hw 17 rfl)) Via.refl e4 F_ao0_chars E_ao0 (Or.inr ⟨(own_w hw 18 rfl), rfl, hnm⟩) (own_w hw 3 rfl) (ty := (.array (.array .char))) (by decide) rfl rfl (g := (mkF m 17 #[.val (.ref ao0)] [(.ref b4), (.ref ao0)])) rfl rfl (hb hby d1_17)
  refine own_go (x' := T5.setTop (mkF m 20 #[.val (.ref ao0)] [])) st5 ?_
  replace E_ao0 := Exa.wr W5 E_ao0
  replace F_ao0_bytes := Fld.other W5 F_ao0_bytes (Or.inr (slot_ne (Or.inr (own_w hw 14 rfl)) (Or.inr (own_w hw 18 rfl)) (by decide) (t := (.array (.array .byte))) (t' := (.array (.array .char))) (by decide) (by decide)))
  replace F_ao0_chars := Fld.same W5 F_ao0_chars
  replace F_ao0_starts := Fld.other W5 F_ao0_starts (Or.inr (slot_ne (Or.inl (own_w hw 21 rfl)) (Or.inr (own_w hw 18 rfl)) (by decide) (t := (.array .int)) (t' := (.array (.array .char))) (by decide) (by decide)))
  replace V_b2 := V_b2.other W5 (Ne.symm ne_ao0_b2)
  replace V_b4 := V_b4.other W5 (Ne.symm ne_ao0_b4)
  replace Zs := Nat.le_trans Zs (Keep.of_wr W5).1
  replace Nf := Fr.snoc X5 Nf g_ao0
  replace Kp := Kp.wr W5 (Or.inl (by simp))
  refine own_go (x' := T5.setTop (mkF m 24 #[.val (.ref ao0)] [(.int (136 : Int32)), (.ref ao0)])) (fun _ k => XS.aloadN X5.here hx rfl (hb hby d1_20) rfl rfl (XS.sipush X5.here hx rfl (hb hby d1_21) k)) ?_
  obtain ⟨T6, h6, k6, X6, e6, E6, A6, st6⟩ := newP X5 hx hZ (own_w hw 19 rfl) e5 (g := (mkF m 24 #[.val (.ref ao0)] [(.int (136 : Int32)), (.ref ao0)])) rfl (hb hby d1_24) rfl (by decide) (cap := 136) (by decide) (by decide) (by decide) (by decide)
  obtain ⟨b6, g6⟩ : ∃ z, z = h5.size := ⟨_, rfl⟩
  rw [← g6] at A6 st6
  have ne_ao0_b6 : ao0 ≠ b6 := Nat.ne_of_lt (Nat.lt_of_lt_of_le E_ao0.lt (Nat.le_of_eq g6.symm))
  have ne_b2_b6 : b2 ≠ b6 := Nat.ne_of_lt (Nat.lt_of_lt_of_le V_b2.lt (Nat.le_of_eq g6.symm))
  have ne_b4_b6 : b4 ≠ b6 := Nat.ne_of_lt (Nat.lt_of_lt_of_le V_b4.lt (Nat.le_of_eq g6.symm))
  have g_b6 : n0 ≤ b6 := Nat.le_trans Zs (Nat.le_of_eq g6.symm)
  have sz_b6 : h0.size ≤ b6 := Nat.le_trans Kp.1 (Nat.le_of_eq g6.symm)
  replace E_ao0 := Exa.ext E6 E_ao0
  replace F_ao0_bytes := Fld.ext E6 F_ao0_bytes
  replace F_ao0_chars := Fld.ext E6 F_ao0_chars
  replace F_ao0_starts := Fld.ext E6 F_ao0_starts
  replace V_b2 := V_b2.ext E6
  replace V_b4 := V_b4.ext E6
  replace Zs := Nat.le_trans Zs E6.1
  replace Kp := Kp.ext E6
  have V_b6 : Arv Z h6 b6 k6 .int (136 : Int32) [] (.int (0 : Int32)) := Arv.new A6 (by decide)
  refine own_go (x' := T6.setTop (mkF m 26 #[.val (.ref ao0)] [(.ref b6), (.ref ao0)])) st6 ?_
  obtain ⟨T7, h7, X7, e7, W7, st7⟩ := putF X6 hx hZ hown (host := "") (Or.inl (own_w hw 20 rfl)) Via.refl e6 F_ao0_starts E_ao0 (Or.inl (own_w hw 21 rfl)) (own_w hw 3 rfl) (ty := (.array .int)) (by decide) rfl rfl (g := (mkF m 26 #[.val (.ref ao0)] [(.ref b6), (.ref ao0)])) rfl rfl (hb hby d1_26)
  refine own_go (x' := T7.setTop (mkF m 29 #[.val (.ref ao0)] [])) st7 ?_
  replace E_ao0 := Exa.wr W7 E_ao0
  replace F_ao0_bytes := Fld.other W7 F_ao0_bytes (Or.inr (slot_ne (Or.inr (own_w hw 14 rfl)) (Or.inl (own_w hw 21 rfl)) (by decide) (t := (.array (.array .byte))) (t' := (.array .int)) (by decide) (by decide)))
  replace F_ao0_chars := Fld.other W7 F_ao0_chars (Or.inr (slot_ne (Or.inr (own_w hw 18 rfl)) (Or.inl (own_w hw 21 rfl)) (by decide) (t := (.array (.array .char))) (t' := (.array .int)) (by decide) (by decide)))
  replace F_ao0_starts := Fld.same W7 F_ao0_starts
  replace V_b2 := V_b2.other W7 (Ne.symm ne_ao0_b2)
  replace V_b4 := V_b4.other W7 (Ne.symm ne_ao0_b4)
  replace V_b6 := V_b6.other W7 (Ne.symm ne_ao0_b6)
  replace Zs := Nat.le_trans Zs (Keep.of_wr W7).1
  replace Nf := Fr.snoc X7 Nf g_ao0
  replace Kp := Kp.wr W7 (Or.inl (by simp))
  refine own_retV X7 hx hlk hret (hb hby d1_29) ?_ (by decide) (by decide)
  rw [e7]
  exact ⟨b4, k4, rfl, Nf, Kp, sz_b4, g_b4, E_ao0, F_ao0_chars, V_b4, O4⟩
theorem d3_0 : decode prog_20_method_9_code 0 = .ok (.iconst 0, 1) := by decide +kernel
theorem d3_1 : decode prog_20_method_9_code 1 = .ok (.istore_n 3, 1) := by decide +kernel
theorem d3_2 : decode prog_20_method_9_code 2 = .ok (.iload_n 3, 1) := by decide +kernel
theorem d3_3 : decode prog_20_method_9_code 3 = .ok (.iload_n 1, 1) := by decide +kernel
theorem d3_4 : decode prog_20_method_9_code 4 = .ok (.if_icmp .ge 38, 3) := by decide +kernel
theorem d3_42 : decode prog_20_method_9_code 42 = .ok (.aload_n 0, 1) := by decide +kernel
theorem d3_43 : decode prog_20_method_9_code 43 = .ok (.getfield 19, 3) := by decide +kernel
theorem d3_46 : decode prog_20_method_9_code 46 = .ok (.areturn, 1) := by decide +kernel
def Q_rmF_0 (Z : State) (ao0 : Addr) (p2 : Int32) (ar : Addr) (kc : ClassId) (h0 : Heap) (n0 : Nat) (v : Option Value) (h : Heap) (L : List Loc) : Prop := v = some (.ref ar) ∧ Fr n0 L ∧ Keep h0 h [ar] ∧ Fld Z h ao0 "com/example/wee_match/weematch/Sieve$Windows" "chars" "[[C" (.ref ar) ∧ Arv Z h ar kc (.array .char) (4 : Int32) [.null, .null, .null, .null] .null
theorem pn_rmF_0 : plainName "com/example/wee_match/weematch/Sieve$Windows" = true := by first | (simp [plainName, overriddenIn]; done) | decide +kernel
theorem ef_rmF_0 (m : MethodId) (x0 : Addr) (x1 : Int32) (x2 : Int32) : entryFrame m #[(.ref x0), (.int x1), (.int x2)] 4 = mkF m 0 #[.val (.ref x0), .val (.int x1), .val (.int x2), .unset] [] := by first | (simp [entryFrame, mkF, argsToLocals, Value.category]; done) | rfl
set_option maxRecDepth 65536 in
set_option maxHeartbeats 40000000 in
theorem rmF_0 (l : Launch) (Z : State) (a0 : Array Value) (hw : ∀ d ∈ tables_1, d.before a0 Z = true) (ws : List Jvm.Cond) (ao0 : Addr) (p2 : Int32) (ar : Addr) (kc : ClassId) (h0 : Heap) (n0 : Nat) (Z0 : n0 ≤ h0.size) (F_ao0_chars : Fld Z h0 ao0 "com/example/wee_match/weematch/Sieve$Windows" "chars" "[[C" (.ref ar)) (V_ar : Arv Z h0 ar kc (.array .char) (4 : Int32) [.null, .null, .null, .null] .null) (O_ar : OvrA Z kc .char "[C") (ne_ao0_ar : ao0 ≠ ar) (g_ar : n0 ≤ ar) (hs : own_L p2) :
    MetFree l (⟨"com/example/wee_match/weematch/Sieve$Windows", "chars", "(II)[[C"⟩ : MethodName) (head1 (Jvm.Cond.code (⟨"com/example/wee_match/weematch/Sieve$Windows", "chars", "(II)[[C"⟩ : MethodName) prog_20_method_9_code 4 (some (.array (.array .char))) :: ws) ({ frames := 0, cells := 0, slots := 0, locals := 0 } : Room)) (fun a U => a = #[(.ref ao0), (.int (0 : Int32)), (.int p2)] ∧ Z.Warmed39 U.vm ∧ U.heap = h0) (fun _ _ _ _ _ => True) (fun _ U o U' => ∃ v L, o = .returned v ∧ (Q_rmF_0 Z ao0 p2 ar kc h0 n0) v U'.heap L ∧ FrameEnd U o U' L ({ frames := 0, cells := 0, slots := 0, locals := 0 } : Room).cells ({ frames := 0, cells := 0, slots := 0, locals := 0 } : Room).slots) := by
  refine MetFree.of_bodySF (plainFor_of_name pn_rmF_0) hisR ?_
  intro p e s m args below meth c s₁ Bd hml0 hP hK
  obtain ⟨rfl, hZ, hh⟩ := hP
  have hx := Bd.exec
  have hby := Bd.bytes
  have hlk := BodyLoose.notSynchronized Bd
  have hret := Bd.returns
  have hml : c.maxLocals = 4 := hml0
  have hown : s.vm.findClass "com/example/wee_match/weematch/Sieve$Windows" = some m.cls := findClass_of_methodNamed Bd.named
  have hnm := (name_of_methodNamed Bd.named Bd.method).1
  have X0 : Stand p l e ({ frames := 0, cells := 0, slots := 0, locals := 0 } : Room) s m #[(.ref ao0), (.int (0 : Int32)), (.int p2)] below meth c s₁ [] 0 0 := Stand.of_body Bd
  have e0 : s₁.heap = h0 := by rw [← hh, Bd.state]; rfl
  have Nf := Fr.nil n0
  have Zs := Z0
  have Kp : Keep h0 h0 [ar] := Keep.refl _ _
  show own_End p e below s (Q_rmF_0 Z ao0 p2 ar kc h0 n0) ({ frames := 0, cells := 0, slots := 0, locals := 0 } : Room).cells ({ frames := 0, cells := 0, slots := 0, locals := 0 } : Room).slots (s₁.setTop (entryFrame m #[(.ref ao0), (.int (0 : Int32)), (.int p2)] 4))
  refine own_go (x' := s₁.setTop (mkF m 0 #[.val (.ref ao0), .val (.int (0 : Int32)), .val (.int p2), .unset] [])) (fun t k => castTop (ef_rmF_0 m ao0 (0 : Int32) p2) k) ?_
  refine own_go (x' := s₁.setTop (mkF m 43 #[.val (.ref ao0), .val (.int (0 : Int32)), .val (.int p2), .val (.int (0 : Int32))] [(.ref ao0)])) (fun _ k => XS.iconst X0.here hx rfl (hb hby d3_0) (XS.istoreN X0.here hx rfl (hb hby d3_1) rfl (l' := #[.val (.ref ao0), .val (.int (0 : Int32)), .val (.int p2), .val (.int (0 : Int32))]) rfl (XS.iloadN X0.here hx rfl (hb hby d3_2) rfl (XS.iloadN X0.here hx rfl (hb hby d3_3) rfl (XS.icmpYes X0.here hx rfl (pc0 := 4) (pc' := 42) rfl (hb hby d3_4) rfl (flt (Int32.lt_irrefl)).2.1 (by decide) (by decide) (XS.aloadN X0.here hx rfl (hb hby d3_42) rfl rfl k)))))) ?_
  obtain ⟨T1, X1, e1, st1⟩ := getF X0 hx hZ hown (host := "") (Or.inl (own_w hw 17 rfl)) Via.refl e0 F_ao0_chars (g := (mkF m 43 #[.val (.ref ao0), .val (.int (0 : Int32)), .val (.int p2), .val (.int (0 : Int32))] [(.ref ao0)])) rfl rfl (hb hby d3_43)
  refine own_go (x' := T1.setTop (mkF m 46 #[.val (.ref ao0), .val (.int (0 : Int32)), .val (.int p2), .val (.int (0 : Int32))] [(.ref ar)])) st1 ?_
  refine own_retR X1 hx hlk hret rfl rfl (hb hby d3_46) ?_ (by decide) (by decide)
  rw [e1]
  exact ⟨rfl, Nf, Kp, F_ao0_chars, V_ar⟩
theorem d3_7 : decode prog_20_method_9_code 7 = .ok (.aload_n 0, 1) := by decide +kernel
theorem d3_8 : decode prog_20_method_9_code 8 = .ok (.getfield 19, 3) := by decide +kernel
theorem d3_11 : decode prog_20_method_9_code 11 = .ok (.iload_n 3, 1) := by decide +kernel
theorem d3_12 : decode prog_20_method_9_code 12 = .ok (.aaload, 1) := by decide +kernel
theorem d3_13 : decode prog_20_method_9_code 13 = .ok (.ifnull 14, 3) := by decide +kernel
theorem d3_27 : decode prog_20_method_9_code 27 = .ok (.aload_n 0, 1) := by decide +kernel
theorem d3_28 : decode prog_20_method_9_code 28 = .ok (.getfield 19, 3) := by decide +kernel
theorem d3_31 : decode prog_20_method_9_code 31 = .ok (.iload_n 3, 1) := by decide +kernel
theorem d3_32 : decode prog_20_method_9_code 32 = .ok (.iload_n 2, 1) := by decide +kernel
theorem d3_33 : decode prog_20_method_9_code 33 = .ok (.newarray .char, 2) := by decide +kernel
theorem d3_35 : decode prog_20_method_9_code 35 = .ok (.aastore, 1) := by decide +kernel
theorem d3_36 : decode prog_20_method_9_code 36 = .ok (.iinc 3 1, 3) := by decide +kernel
theorem d3_39 : decode prog_20_method_9_code 39 = .ok (.goto (-37), 3) := by decide +kernel
def Q_rmF_1 (Z : State) (ao0 : Addr) (p2 : Int32) (ar : Addr) (kc : ClassId) (h0 : Heap) (n0 : Nat) (v : Option Value) (h : Heap) (L : List Loc) : Prop := ∃ (b0 : Addr) (k0 : ClassId), v = some (.ref ar) ∧ Fr n0 L ∧ Keep h0 h [ar] ∧ Fld Z h ao0 "com/example/wee_match/weematch/Sieve$Windows" "chars" "[[C" (.ref ar) ∧ Arv Z h ar kc (.array .char) (4 : Int32) [.ref b0, .null, .null, .null] .null ∧ h0.size ≤ b0 ∧ n0 ≤ b0 ∧ Arv Z h b0 k0 .char p2 [] (.int (0 : Int32))
theorem pn_rmF_1 : plainName "com/example/wee_match/weematch/Sieve$Windows" = true := by first | (simp [plainName, overriddenIn]; done) | decide +kernel
theorem ef_rmF_1 (m : MethodId) (x0 : Addr) (x1 : Int32) (x2 : Int32) : entryFrame m #[(.ref x0), (.int x1), (.int x2)] 4 = mkF m 0 #[.val (.ref x0), .val (.int x1), .val (.int x2), .unset] [] := by first | (simp [entryFrame, mkF, argsToLocals, Value.category]; done) | rfl
set_option maxRecDepth 65536 in
set_option maxHeartbeats 40000000 in
theorem rmF_1 (l : Launch) (Z : State) (a0 : Array Value) (hw : ∀ d ∈ tables_1, d.before a0 Z = true) (ws : List Jvm.Cond) (ao0 : Addr) (p2 : Int32) (ar : Addr) (kc : ClassId) (h0 : Heap) (n0 : Nat) (Z0 : n0 ≤ h0.size) (F_ao0_chars : Fld Z h0 ao0 "com/example/wee_match/weematch/Sieve$Windows" "chars" "[[C" (.ref ar)) (V_ar : Arv Z h0 ar kc (.array .char) (4 : Int32) [.null, .null, .null, .null] .null) (O_ar : OvrA Z kc .char "[C") (ne_ao0_ar : ao0 ≠ ar) (g_ar : n0 ≤ ar) (hs : own_L p2) :
    MetFree l (⟨"com/example/wee_match/weematch/Sieve$Windows", "chars", "(II)[[C"⟩ : MethodName) (head1 (Jvm.Cond.code (⟨"com/example/wee_match/weematch/Sieve$Windows", "chars", "(II)[[C"⟩ : MethodName) prog_20_method_9_code 4 (some (.array (.array .char))) :: ws) ({ frames := 0, cells := 1, slots := 31, locals := 0 } : Room)) (fun a U => a = #[(.ref ao0), (.int (1 : Int32)), (.int p2)] ∧ Z.Warmed39 U.vm ∧ U.heap = h0) (fun _ _ _ _ _ => True) (fun _ U o U' => ∃ v L, o = .returned v ∧ (Q_rmF_1 Z ao0 p2 ar kc h0 n0) v U'.heap L ∧ FrameEnd U o U' L ({ frames := 0, cells := 1, slots := 31, locals := 0 } : Room).cells ({ frames := 0, cells := 1, slots := 31, locals := 0 } : Room).slots) := by
  refine MetFree.of_bodySF (plainFor_of_name pn_rmF_1) hisR ?_
  intro p e s m args below meth c s₁ Bd hml0 hP hK
  obtain ⟨rfl, hZ, hh⟩ := hP
  have hx := Bd.exec
  have hby := Bd.bytes
  have hlk := BodyLoose.notSynchronized Bd
  have hret := Bd.returns
  have hml : c.maxLocals = 4 := hml0
  have hown : s.vm.findClass "com/example/wee_match/weematch/Sieve$Windows" = some m.cls := findClass_of_methodNamed Bd.named
  have hnm := (name_of_methodNamed Bd.named Bd.method).1
  have X0 : Stand p l e ({ frames := 0, cells := 1, slots := 31, locals := 0 } : Room) s m #[(.ref ao0), (.int (1 : Int32)), (.int p2)] below meth c s₁ [] 0 0 := Stand.of_body Bd
  have e0 : s₁.heap = h0 := by rw [← hh, Bd.state]; rfl
  have Nf := Fr.nil n0
  have Zs := Z0
  have Kp : Keep h0 h0 [ar] := Keep.refl _ _
  show own_End p e below s (Q_rmF_1 Z ao0 p2 ar kc h0 n0) ({ frames := 0, cells := 1, slots := 31, locals := 0 } : Room).cells ({ frames := 0, cells := 1, slots := 31, locals := 0 } : Room).slots (s₁.setTop (entryFrame m #[(.ref ao0), (.int (1 : Int32)), (.int p2)] 4))
  refine own_go (x' := s₁.setTop (mkF m 0 #[.val (.ref ao0), .val (.int (1 : Int32)), .val (.int p2), .unset] [])) (fun t k => castTop (ef_rmF_1 m ao0 (1 : Int32) p2) k) ?_
  refine own_go (x' := s₁.setTop (mkF m 8 #[.val (.ref ao0), .val (.int (1 : Int32)), .val (.int p2), .val (.int (0 : Int32))] [(.ref ao0)])) (fun _ k => XS.iconst X0.here hx rfl (hb hby d3_0) (XS.istoreN X0.here hx rfl (hb hby d3_1) rfl (l' := #[.val (.ref ao0), .val (.int (1 : Int32)), .val (.int p2), .val (.int (0 : Int32))]) rfl (XS.iloadN X0.here hx rfl (hb hby d3_2) rfl (XS.iloadN X0.here hx rfl (hb hby d3_3) rfl (XS.icmpNo X0.here hx rfl (hb hby d3_4) rfl (tlt (by decide +kernel : ((0 : Int32) < (1 : Int32)))).2.1 (XS.aloadN X0.here hx rfl (hb hby d3_7) rfl rfl k)))))) ?_
  obtain ⟨T1, X1, e1, st1⟩ := getF X0 hx hZ hown (host := "") (Or.inl (own_w hw 17 rfl)) Via.refl e0 F_ao0_chars (g := (mkF m 8 #[.val (.ref ao0), .val (.int (1 : Int32)), .val (.int p2), .val (.int (0 : Int32))] [(.ref ao0)])) rfl rfl (hb hby d3_8)
  refine own_go (x' := T1.setTop (mkF m 11 #[.val (.ref ao0), .val (.int (1 : Int32)), .val (.int p2), .val (.int (0 : Int32))] [(.ref ar)])) st1 ?_
  refine own_go (x' := T1.setTop (mkF m 12 #[.val (.ref ao0), .val (.int (1 : Int32)), .val (.int p2), .val (.int (0 : Int32))] [(.int (0 : Int32)), (.ref ar)])) (fun _ k => XS.iloadN X1.here hx rfl (hb hby d3_11) rfl k) ?_
  obtain ⟨cl2, Ar2, q2, Sz2, Nn2, Hh2, Gg2⟩ := id V_ar
  have hin2 : ¬ ((0 : Int32) < 0 ∨ cl2.slots.size ≤ ((0 : Int32)).toNatClampNeg) := inb_of Sz2 ⟨by decide, by decide⟩
  refine own_go (x' := T1.setTop (mkF m 13 #[.val (.ref ao0), .val (.int (1 : Int32)), .val (.int p2), .val (.int (0 : Int32))] [.null])) (X1.aaload hx (j := (0 : Int32)) (v := .null) (Eq.trans (congrArg (fun h_ => h_[_]?) e1) Ar2.1) (State.isArrayOf_alike hZ.alike Ar2.2.1) rfl Ar2.2.2 hin2 (Hh2.at hin2 rfl) (g := (mkF m 12 #[.val (.ref ao0), .val (.int (1 : Int32)), .val (.int p2), .val (.int (0 : Int32))] [(.int (0 : Int32)), (.ref ar)])) rfl rfl (hb hby d3_12)) ?_
  refine own_go (x' := T1.setTop (mkF m 28 #[.val (.ref ao0), .val (.int (1 : Int32)), .val (.int p2), .val (.int (0 : Int32))] [(.ref ao0)])) (fun _ k => XS.ifnullYes X1.here hx rfl (pc0 := 13) (pc' := 27) rfl (hb hby d3_13) rfl (by decide) (by decide) (XS.aloadN X1.here hx rfl (hb hby d3_27) rfl rfl k)) ?_
  obtain ⟨T3, X3, e3, st3⟩ := getF X1 hx hZ hown (host := "") (Or.inl (own_w hw 17 rfl)) Via.refl e1 F_ao0_chars (g := (mkF m 28 #[.val (.ref ao0), .val (.int (1 : Int32)), .val (.int p2), .val (.int (0 : Int32))] [(.ref ao0)])) rfl rfl (hb hby d3_28)
  refine own_go (x' := T3.setTop (mkF m 31 #[.val (.ref ao0), .val (.int (1 : Int32)), .val (.int p2), .val (.int (0 : Int32))] [(.ref ar)])) st3 ?_
  refine own_go (x' := T3.setTop (mkF m 33 #[.val (.ref ao0), .val (.int (1 : Int32)), .val (.int p2), .val (.int (0 : Int32))] [(.int p2), (.int (0 : Int32)), (.ref ar)])) (fun _ k => XS.iloadN X3.here hx rfl (hb hby d3_31) rfl (XS.iloadN X3.here hx rfl (hb hby d3_32) rfl k)) ?_
  obtain ⟨T4, h4, k4, X4, e4, E4, A4, Q4, st4⟩ := newPE X3 hx hZ (own_w hw 34 rfl) e3 (g := (mkF m 33 #[.val (.ref ao0), .val (.int (1 : Int32)), .val (.int p2), .val (.int (0 : Int32))] [(.int p2), (.int (0 : Int32)), (.ref ar)])) rfl (hb hby d3_33) rfl hs.1 (cap := 31) hs.2 (by decide) (by decide) (by decide) (ad := "[C") (by decide)
  obtain ⟨b4, g4⟩ : ∃ z, z = h0.size := ⟨_, rfl⟩
  rw [← g4] at A4 st4
  rw [← g4] at Q4
  have ne_ao0_b4 : ao0 ≠ b4 := Nat.ne_of_lt (Nat.lt_of_lt_of_le F_ao0_chars.lt (Nat.le_of_eq g4.symm))
  have ne_ar_b4 : ar ≠ b4 := Nat.ne_of_lt (Nat.lt_of_lt_of_le V_ar.lt (Nat.le_of_eq g4.symm))
  have g_b4 : n0 ≤ b4 := Nat.le_trans Zs (Nat.le_of_eq g4.symm)
  have sz_b4 : h0.size ≤ b4 := Nat.le_trans Kp.1 (Nat.le_of_eq g4.symm)
  replace F_ao0_chars := Fld.ext E4 F_ao0_chars
  replace V_ar := V_ar.ext E4
  replace Zs := Nat.le_trans Zs E4.1
  replace Kp := Kp.ext E4
  have E_b4 := Q4
  have V_b4 : Arv Z h4 b4 k4 .char p2 [] (.int (0 : Int32)) := Arv.new A4 hs.1
  refine own_go (x' := T4.setTop (mkF m 35 #[.val (.ref ao0), .val (.int (1 : Int32)), .val (.int p2), .val (.int (0 : Int32))] [(.ref b4), (.int (0 : Int32)), (.ref ar)])) st4 ?_
  obtain ⟨cl5, Ar5, q5, Sz5, Nn5, Hh5, Gg5⟩ := V_ar
  have hin5 : ¬ ((0 : Int32) < 0 ∨ cl5.slots.size ≤ ((0 : Int32)).toNatClampNeg) := inb_of Sz5 ⟨by decide, by decide⟩
  obtain ⟨T5, h5, X5, e5, W5, st5⟩ := stR X4 hx hZ e4 Ar5 (j := (0 : Int32)) hin5 rfl (Sto.ofVA Ar5 q5 O_ar (Ins.self E_b4)) (g := (mkF m 35 #[.val (.ref ao0), .val (.int (1 : Int32)), .val (.int p2), .val (.int (0 : Int32))] [(.ref b4), (.int (0 : Int32)), (.ref ar)])) rfl rfl (hb hby d3_35)
  refine own_go (x' := T5.setTop (mkF m 36 #[.val (.ref ao0), .val (.int (1 : Int32)), .val (.int p2), .val (.int (0 : Int32))] [])) st5 ?_
  replace F_ao0_chars := Fld.other W5 F_ao0_chars (Or.inl ne_ao0_ar)
  replace E_b4 := Exa.wr W5 E_b4
  replace V_b4 := V_b4.other W5 (Ne.symm ne_ar_b4)
  replace Zs := Nat.le_trans Zs (Keep.of_wr W5).1
  replace Nf := Fr.snoc X5 Nf g_ar
  replace Kp := Kp.wr W5 (Or.inl (by simp))
  have V_ar : Arv Z h5 ar kc (.array .char) (4 : Int32) [(.ref b4), .null, .null, .null] .null := Arv.set Ar5 q5 Sz5 Nn5 Hh5 Gg5 rfl W5 0 rfl (Nat.le_of_ble_eq_true rfl)
  refine own_go (x' := T5.setTop (mkF m 2 #[.val (.ref ao0), .val (.int (1 : Int32)), .val (.int p2), .val (.int ((0 : Int32) + (1 : Int32)))] [])) (fun _ k => XS.iinc X5.here hx rfl (hb hby d3_36) rfl (l' := #[.val (.ref ao0), .val (.int (1 : Int32)), .val (.int p2), .val (.int ((0 : Int32) + (1 : Int32)))]) rfl (XS.goto X5.here hx rfl (pc0 := 39) (pc' := 2) rfl (hb hby d3_39) (by decide) (by decide) k)) ?_
  rw [show ((0 : Int32) + (1 : Int32)) = (1 : Int32) from by decide +kernel]
  refine own_go (x' := T5.setTop (mkF m 43 #[.val (.ref ao0), .val (.int (1 : Int32)), .val (.int p2), .val (.int (1 : Int32))] [(.ref ao0)])) (fun _ k => XS.iloadN X5.here hx rfl (hb hby d3_2) rfl (XS.iloadN X5.here hx rfl (hb hby d3_3) rfl (XS.icmpYes X5.here hx rfl (pc0 := 4) (pc' := 42) rfl (hb hby d3_4) rfl (flt (Int32.lt_irrefl)).2.1 (by decide) (by decide) (XS.aloadN X5.here hx rfl (hb hby d3_42) rfl rfl k)))) ?_
  obtain ⟨T6, X6, e6, st6⟩ := getF X5 hx hZ hown (host := "") (Or.inl (own_w hw 17 rfl)) Via.refl e5 F_ao0_chars (g := (mkF m 43 #[.val (.ref ao0), .val (.int (1 : Int32)), .val (.int p2), .val (.int (1 : Int32))] [(.ref ao0)])) rfl rfl (hb hby d3_43)
  refine own_go (x' := T6.setTop (mkF m 46 #[.val (.ref ao0), .val (.int (1 : Int32)), .val (.int p2), .val (.int (1 : Int32))] [(.ref ar)])) st6 ?_
  refine own_retR X6 hx hlk hret rfl rfl (hb hby d3_46) ?_ (by decide) (by decide)
  rw [e6]
  exact ⟨b4, k4, rfl, Nf, Kp, F_ao0_chars, V_ar, sz_b4, g_b4, V_b4⟩
def Q_rmF_2 (Z : State) (ao0 : Addr) (p2 : Int32) (ar : Addr) (kc : ClassId) (h0 : Heap) (n0 : Nat) (v : Option Value) (h : Heap) (L : List Loc) : Prop := ∃ (b0 : Addr) (k0 : ClassId) (b1 : Addr) (k1 : ClassId), v = some (.ref ar) ∧ Fr n0 L ∧ Keep h0 h [ar] ∧ Fld Z h ao0 "com/example/wee_match/weematch/Sieve$Windows" "chars" "[[C" (.ref ar) ∧ Arv Z h ar kc (.array .char) (4 : Int32) [.ref b0, .ref b1, .null, .null] .null ∧ h0.size ≤ b0 ∧ n0 ≤ b0 ∧ Arv Z h b0 k0 .char p2 [] (.int (0 : Int32)) ∧ h0.size ≤ b1 ∧ n0 ≤ b1 ∧ Arv Z h b1 k1 .char p2 [] (.int (0 : Int32)) ∧ b0 ≠ b1
theorem pn_rmF_2 : plainName "com/example/wee_match/weematch/Sieve$Windows" = true := by first | (simp [plainName, overriddenIn]; done) | decide +kernel
theorem ef_rmF_2 (m : MethodId) (x0 : Addr) (x1 : Int32) (x2 : Int32) : entryFrame m #[(.ref x0), (.int x1), (.int x2)] 4 = mkF m 0 #[.val (.ref x0), .val (.int x1), .val (.int x2), .unset] [] := by first | (simp [entryFrame, mkF, argsToLocals, Value.category]; done) | rfl
set_option maxRecDepth 65536 in
set_option maxHeartbeats 40000000 in
theorem rmF_2 (l : Launch) (Z : State) (a0 : Array Value) (hw : ∀ d ∈ tables_1, d.before a0 Z = true) (ws : List Jvm.Cond) (ao0 : Addr) (p2 : Int32) (ar : Addr) (kc : ClassId) (h0 : Heap) (n0 : Nat) (Z0 : n0 ≤ h0.size) (F_ao0_chars : Fld Z h0 ao0 "com/example/wee_match/weematch/Sieve$Windows" "chars" "[[C" (.ref ar)) (V_ar : Arv Z h0 ar kc (.array .char) (4 : Int32) [.null, .null, .null, .null] .null) (O_ar : OvrA Z kc .char "[C") (ne_ao0_ar : ao0 ≠ ar) (g_ar : n0 ≤ ar) (hs : own_L p2) :
    MetFree l (⟨"com/example/wee_match/weematch/Sieve$Windows", "chars", "(II)[[C"⟩ : MethodName) (head1 (Jvm.Cond.code (⟨"com/example/wee_match/weematch/Sieve$Windows", "chars", "(II)[[C"⟩ : MethodName) prog_20_method_9_code 4 (some (.array (.array .char))) :: ws) ({ frames := 0, cells := 2, slots := 62, locals := 0 } : Room)) (fun a U => a = #[(.ref ao0), (.int (2 : Int32)), (.int p2)] ∧ Z.Warmed39 U.vm ∧ U.heap = h0) (fun _ _ _ _ _ => True) (fun _ U o U' => ∃ v L, o = .returned v ∧ (Q_rmF_2 Z ao0 p2 ar kc h0 n0) v U'.heap L ∧ FrameEnd U o U' L ({ frames := 0, cells := 2, slots := 62, locals := 0 } : Room).cells ({ frames := 0, cells := 2, slots := 62, locals := 0 } : Room).slots) := by
  refine MetFree.of_bodySF (plainFor_of_name pn_rmF_2) hisR ?_
  intro p e s m args below meth c s₁ Bd hml0 hP hK
  obtain ⟨rfl, hZ, hh⟩ := hP
  have hx := Bd.exec
  have hby := Bd.bytes
  have hlk := BodyLoose.notSynchronized Bd
  have hret := Bd.returns
  have hml : c.maxLocals = 4 := hml0
  have hown : s.vm.findClass "com/example/wee_match/weematch/Sieve$Windows" = some m.cls := findClass_of_methodNamed Bd.named
  have hnm := (name_of_methodNamed Bd.named Bd.method).1
  have X0 : Stand p l e ({ frames := 0, cells := 2, slots := 62, locals := 0 } : Room) s m #[(.ref ao0), (.int (2 : Int32)), (.int p2)] below meth c s₁ [] 0 0 := Stand.of_body Bd
  have e0 : s₁.heap = h0 := by rw [← hh, Bd.state]; rfl
  have Nf := Fr.nil n0
  have Zs := Z0
  have Kp : Keep h0 h0 [ar] := Keep.refl _ _
  show own_End p e below s (Q_rmF_2 Z ao0 p2 ar kc h0 n0) ({ frames := 0, cells := 2, slots := 62, locals := 0 } : Room).cells ({ frames := 0, cells := 2, slots := 62, locals := 0 } : Room).slots (s₁.setTop (entryFrame m #[(.ref ao0), (.int (2 : Int32)), (.int p2)] 4))
  refine own_go (x' := s₁.setTop (mkF m 0 #[.val (.ref ao0), .val (.int (2 : Int32)), .val (.int p2), .unset] [])) (fun t k => castTop (ef_rmF_2 m ao0 (2 : Int32) p2) k) ?_
  refine own_go (x' := s₁.setTop (mkF m 8 #[.val (.ref ao0), .val (.int (2 : Int32)), .val (.int p2), .val (.int (0 : Int32))] [(.ref ao0)])) (fun _ k => XS.iconst X0.here hx rfl (hb hby d3_0) (XS.istoreN X0.here hx rfl (hb hby d3_1) rfl (l' := #[.val (.ref ao0), .val (.int (2 : Int32)), .val (.int p2), .val (.int (0 : Int32))]) rfl (XS.iloadN X0.here hx rfl (hb hby d3_2) rfl (XS.iloadN X0.here hx rfl (hb hby d3_3) rfl (XS.icmpNo X0.here hx rfl (hb hby d3_4) rfl (tlt (by decide +kernel : ((0 : Int32) < (2 : Int32)))).2.1 (XS.aloadN X0.here hx rfl (hb hby d3_7) rfl rfl k)))))) ?_
  obtain ⟨T1, X1, e1, st1⟩ := getF X0 hx hZ hown (host := "") (Or.inl (own_w hw 17 rfl)) Via.refl e0 F_ao0_chars (g := (mkF m 8 #[.val (.ref ao0), .val (.int (2 : Int32)), .val (.int p2), .val (.int (0 : Int32))] [(.ref ao0)])) rfl rfl (hb hby d3_8)
  refine own_go (x' := T1.setTop (mkF m 11 #[.val (.ref ao0), .val (.int (2 : Int32)), .val (.int p2), .val (.int (0 : Int32))] [(.ref ar)])) st1 ?_
  refine own_go (x' := T1.setTop (mkF m 12 #[.val (.ref ao0), .val (.int (2 : Int32)), .val (.int p2), .val (.int (0 : Int32))] [(.int (0 : Int32)), (.ref ar)])) (fun _ k => XS.iloadN X1.here hx rfl (hb hby d3_11) rfl k) ?_
  obtain ⟨cl2, Ar2, q2, Sz2, Nn2, Hh2, Gg2⟩ := id V_ar
  have hin2 : ¬ ((0 : Int32) < 0 ∨ cl2.slots.size ≤ ((0 : Int32)).toNatClampNeg) := inb_of Sz2 ⟨by decide, by decide⟩
  refine own_go (x' := T1.setTop (mkF m 13 #[.val (.ref ao0), .val (.int (2 : Int32)), .val (.int p2), .val (.int (0 : Int32))] [.null])) (X1.aaload hx (j := (0 : Int32)) (v := .null) (Eq.trans (congrArg (fun h_ => h_[_]?) e1) Ar2.1) (State.isArrayOf_alike hZ.alike Ar2.2.1) rfl Ar2.2.2 hin2 (Hh2.at hin2 rfl) (g := (mkF m 12 #[.val (.ref ao0), .val (.int (2 : Int32)), .val (.int p2), .val (.int (0 : Int32))] [(.int (0 : Int32)), (.ref ar)])) rfl rfl (hb hby d3_12)) ?_
  refine own_go (x' := T1.setTop (mkF m 28 #[.val (.ref ao0), .val (.int (2 : Int32)), .val (.int p2), .val (.int (0 : Int32))] [(.ref ao0)])) (fun _ k => XS.ifnullYes X1.here hx rfl (pc0 := 13) (pc' := 27) rfl (hb hby d3_13) rfl (by decide) (by decide) (XS.aloadN X1.here hx rfl (hb hby d3_27) rfl rfl k)) ?_
  obtain ⟨T3, X3, e3, st3⟩ := getF X1 hx hZ hown (host := "") (Or.inl (own_w hw 17 rfl)) Via.refl e1 F_ao0_chars (g := (mkF m 28 #[.val (.ref ao0), .val (.int (2 : Int32)), .val (.int p2), .val (.int (0 : Int32))] [(.ref ao0)])) rfl rfl (hb hby d3_28)
  refine own_go (x' := T3.setTop (mkF m 31 #[.val (.ref ao0), .val (.int (2 : Int32)), .val (.int p2), .val (.int (0 : Int32))] [(.ref ar)])) st3 ?_
  refine own_go (x' := T3.setTop (mkF m 33 #[.val (.ref ao0), .val (.int (2 : Int32)), .val (.int p2), .val (.int (0 : Int32))] [(.int p2), (.int (0 : Int32)), (.ref ar)])) (fun _ k => XS.iloadN X3.here hx rfl (hb hby d3_31) rfl (XS.iloadN X3.here hx rfl (hb hby d3_32) rfl k)) ?_
  obtain ⟨T4, h4, k4, X4, e4, E4, A4, Q4, st4⟩ := newPE X3 hx hZ (own_w hw 34 rfl) e3 (g := (mkF m 33 #[.val (.ref ao0), .val (.int (2 : Int32)), .val (.int p2), .val (.int (0 : Int32))] [(.int p2), (.int (0 : Int32)), (.ref ar)])) rfl (hb hby d3_33) rfl hs.1 (cap := 31) hs.2 (by decide) (by decide) (by decide) (ad := "[C") (by decide)
  obtain ⟨b4, g4⟩ : ∃ z, z = h0.size := ⟨_, rfl⟩
  rw [← g4] at A4 st4
  rw [← g4] at Q4
  have ne_ao0_b4 : ao0 ≠ b4 := Nat.ne_of_lt (Nat.lt_of_lt_of_le F_ao0_chars.lt (Nat.le_of_eq g4.symm))
  have ne_ar_b4 : ar ≠ b4 := Nat.ne_of_lt (Nat.lt_of_lt_of_le V_ar.lt (Nat.le_of_eq g4.symm))
  have g_b4 : n0 ≤ b4 := Nat.le_trans Zs (Nat.le_of_eq g4.symm)
  have sz_b4 : h0.size ≤ b4 := Nat.le_trans Kp.1 (Nat.le_of_eq g4.symm)
  replace F_ao0_chars := Fld.ext E4 F_ao0_chars
  replace V_ar := V_ar.ext E4
  replace Zs := Nat.le_trans Zs E4.1
  replace Kp := Kp.ext E4
  have E_b4 := Q4
  have V_b4 : Arv Z h4 b4 k4 .char p2 [] (.int (0 : Int32)) := Arv.new A4 hs.1
  refine own_go (x' := T4.setTop (mkF m 35 #[.val (.ref ao0), .val (.int (2 : Int32)), .val (.int p2), .val (.int (0 : Int32))] [(.ref b4), (.int (0 : Int32)), (.ref ar)])) st4 ?_
  obtain ⟨cl5, Ar5, q5, Sz5, Nn5, Hh5, Gg5⟩ := V_ar
  have hin5 : ¬ ((0 : Int32) < 0 ∨ cl5.slots.size ≤ ((0 : Int32)).toNatClampNeg) := inb_of Sz5 ⟨by decide, by decide⟩
  obtain ⟨T5, h5, X5, e5, W5, st5⟩ := stR X4 hx hZ e4 Ar5 (j := (0 : Int32)) hin5 rfl (Sto.ofVA Ar5 q5 O_ar (Ins.self E_b4)) (g := (mkF m 35 #[.val (.ref ao0), .val (.int (2 : Int32)), .val (.int p2), .val (.int (0 : Int32))] [(.ref b4), (.int (0 : Int32)), (.ref ar)])) rfl rfl (hb hby d3_35)
  refine own_go (x' := T5.setTop (mkF m 36 #[.val (.ref ao0), .val (.int (2 : Int32)), .val (.int p2), .val (.int (0 : Int32))] [])) st5 ?_
  replace F_ao0_chars := Fld.other W5 F_ao0_chars (Or.inl ne_ao0_ar)
  replace E_b4 := Exa.wr W5 E_b4
  replace V_b4 := V_b4.other W5 (Ne.symm ne_ar_b4)
  replace Zs := Nat.le_trans Zs (Keep.of_wr W5).1
  replace Nf := Fr.snoc X5 Nf g_ar
  replace Kp := Kp.wr W5 (Or.inl (by simp))
  have V_ar : Arv Z h5 ar kc (.array .char) (4 : Int32) [(.ref b4), .null, .null, .null] .null := Arv.set Ar5 q5 Sz5 Nn5 Hh5 Gg5 rfl W5 0 rfl (Nat.le_of_ble_eq_true rfl)
  refine own_go (x' := T5.setTop (mkF m 2 #[.val (.ref ao0), .val (.int (2 : Int32)), .val (.int p2), .val (.int ((0 : Int32) + (1 : Int32)))] [])) (fun _ k => XS.iinc X5.here hx rfl (hb hby d3_36) rfl (l' := #[.val (.ref ao0), .val (.int (2 : Int32)), .val (.int p2), .val (.int ((0 : Int32) + (1 : Int32)))]) rfl (XS.goto X5.here hx rfl (pc0 := 39) (pc' := 2) rfl (hb hby d3_39) (by decide) (by decide) k)) ?_
  rw [show ((0 : Int32) + (1 : Int32)) = (1 : Int32) from by decide +kernel]
  refine own_go (x' := T5.setTop (mkF m 8 #[.val (.ref ao0), .val (.int (2 : Int32)), .val (.int p2), .val (.int (1 : Int32))] [(.ref ao0)])) (fun _ k => XS.iloadN X5.here hx rfl (hb hby d3_2) rfl (XS.iloadN X5.here hx rfl (hb hby d3_3) rfl (XS.icmpNo X5.here hx rfl (hb hby d3_4) rfl (tlt (by decide +kernel : ((1 : Int32) < (2 : Int32)))).2.1 (XS.aloadN X5.here hx rfl (hb hby d3_7) rfl rfl k)))) ?_
  obtain ⟨T6, X6, e6, st6⟩ := getF X5 hx hZ hown (host := "") (Or.inl (own_w hw 17 rfl)) Via.refl e5 F_ao0_chars (g := (mkF m 8 #[.val (.ref ao0), .val (.int (2 : Int32)), .val (.int p2), .val (.int (1 : Int32))] [(.ref ao0)])) rfl rfl (hb hby d3_8)
  refine own_go (x' := T6.setTop (mkF m 11 #[.val (.ref ao0), .val (.int (2 : Int32)), .val (.int p2), .val (.int (1 : Int32))] [(.ref ar)])) st6 ?_
  refine own_go (x' := T6.setTop (mkF m 12 #[.val (.ref ao0), .val (.int (2 : Int32)), .val (.int p2), .val (.int (1 : Int32))] [(.int (1 : Int32)), (.ref ar)])) (fun _ k => XS.iloadN X6.here hx rfl (hb hby d3_11) rfl k) ?_
  obtain ⟨cl7, Ar7, q7, Sz7, Nn7, Hh7, Gg7⟩ := id V_ar
  have hin7 : ¬ ((1 : Int32) < 0 ∨ cl7.slots.size ≤ ((1 : Int32)).toNatClampNeg) := inb_of Sz7 ⟨by decide, by decide⟩
  refine own_go (x' := T6.setTop (mkF m 13 #[.val (.ref ao0), .val (.int (2 : Int32)), .val (.int p2), .val (.int (1 : Int32))] [.null])) (X6.aaload hx (j := (1 : Int32)) (v := .null) (Eq.trans (congrArg (fun h_ => h_[_]?) e6) Ar7.1) (State.isArrayOf_alike hZ.alike Ar7.2.1) rfl Ar7.2.2 hin7 (Hh7.at hin7 rfl) (g := (mkF m 12 #[.val (.ref ao0), .val (.int (2 : Int32)), .val (.int p2), .val (.int (1 : Int32))] [(.int (1 : Int32)), (.ref ar)])) rfl rfl (hb hby d3_12)) ?_
  refine own_go (x' := T6.setTop (mkF m 28 #[.val (.ref ao0), .val (.int (2 : Int32)), .val (.int p2), .val (.int (1 : Int32))] [(.ref ao0)])) (fun _ k => XS.ifnullYes X6.here hx rfl (pc0 := 13) (pc' := 27) rfl (hb hby d3_13) rfl (by decide) (by decide) (XS.aloadN X6.here hx rfl (hb hby d3_27) rfl rfl k)) ?_
  obtain ⟨T8, X8, e8, st8⟩ := getF X6 hx hZ hown (host := "") (Or.inl (own_w hw 17 rfl)) Via.refl e6 F_ao0_chars (g := (mkF m 28 #[.val (.ref ao0), .val (.int (2 : Int32)), .val (.int p2), .val (.int (1 : Int32))] [(.ref ao0)])) rfl rfl (hb hby d3_28)
  refine own_go (x' := T8.setTop (mkF m 31 #[.val (.ref ao0), .val (.int (2 : Int32)), .val (.int p2), .val (.int (1 : Int32))] [(.ref ar)])) st8 ?_
  refine own_go (x' := T8.setTop (mkF m 33 #[.val (.ref ao0), .val (.int (2 : Int32)), .val (.int p2), .val (.int (1 : Int32))] [(.int p2), (.int (1 : Int32)), (.ref ar)])) (fun _ k => XS.iloadN X8.here hx rfl (hb hby d3_31) rfl (XS.iloadN X8.here hx rfl (hb hby d3_32) rfl k)) ?_
  obtain ⟨T9, h9, k9, X9, e9, E9, A9, Q9, st9⟩ := newPE X8 hx hZ (own_w hw 34 rfl) e8 (g := (mkF m 33 #[.val (.ref ao0), .val (.int (2 : Int32)), .val (.int p2), .val (.int (1 : Int32))] [(.int p2), (.int (1 : Int32)), (.ref ar)])) rfl (hb hby d3_33) rfl hs.1 (cap := 31) hs.2 (by decide) (by decide) (by decide) (ad := "[C") (by decide)
  obtain ⟨b9, g9⟩ : ∃ z, z = h5.size := ⟨_, rfl⟩
  rw [← g9] at A9 st9
  rw [← g9] at Q9
  have ne_ao0_b9 : ao0 ≠ b9 := Nat.ne_of_lt (Nat.lt_of_lt_of_le F_ao0_chars.lt (Nat.le_of_eq g9.symm))
  have ne_b4_b9 : b4 ≠ b9 := Nat.ne_of_lt (Nat.lt_of_lt_of_le E_b4.lt (Nat.le_of_eq g9.symm))
  have ne_ar_b9 : ar ≠ b9 := Nat.ne_of_lt (Nat.lt_of_lt_of_le V_ar.lt (Nat.le_of_eq g9.symm))
  have g_b9 : n0 ≤ b9 := Nat.le_trans Zs (Nat.le_of_eq g9.symm)
  have sz_b9 : h0.size ≤ b9 := Nat.le_trans Kp.1 (Nat.le_of_eq g9.symm)
  replace F_ao0_chars := Fld.ext E9 F_ao0_chars
  replace E_b4 := Exa.ext E9 E_b4
  replace V_b4 := V_b4.ext E9
  replace V_ar := V_ar.ext E9
  replace Zs := Nat.le_trans Zs E9.1
  replace Kp := Kp.ext E9
  have E_b9 := Q9
  have V_b9 : Arv Z h9 b9 k9 .char p2 [] (.int (0 : Int32)) := Arv.new A9 hs.1
  refine own_go (x' := T9.setTop (mkF m 35 #[.val (.ref ao0), .val (.int (2 : Int32)), .val (.int p2), .val (.int (1 : Int32))] [(.ref b9), (.int (1 : Int32)), (.ref ar)])) st9 ?_
  obtain ⟨cl10, Ar10, q10, Sz10, Nn10, Hh10, Gg10⟩ := V_ar
  have hin10 : ¬ ((1 : Int32) < 0 ∨ cl10.slots.size ≤ ((1 : Int32)).toNatClampNeg) := inb_of Sz10 ⟨by decide, by decide⟩
  obtain ⟨T10, h10, X10, e10, W10, st10⟩ := stR X9 hx hZ e9 Ar10 (j := (1 : Int32)) hin10 rfl (Sto.ofVA Ar10 q10 O_ar (Ins.self E_b9)) (g := (mkF m 35 #[.val (.ref ao0), .val (.int (2 : Int32)), .val (.int p2), .val (.int (1 : Int32))] [(.ref b9), (.int (1 : Int32)), (.ref ar)])) rfl rfl (hb hby d3_35)
  refine own_go (x' := T10.setTop (mkF m 36 #[.val (.ref ao0), .val (.int (2 : Int32)), .val (.int p2), .val (.int (1 : Int32))] [])) st10 ?_
  replace F_ao0_chars := Fld.other W10 F_ao0_chars (Or.inl ne_ao0_ar)
  replace E_b4 := Exa.wr W10 E_b4
  replace V_b4 := V_b4.other W10 (Ne.symm ne_ar_b4)
  replace E_b9 := Exa.wr W10 E_b9
  replace V_b9 := V_b9.other W10 (Ne.symm ne_ar_b9)
  replace Zs := Nat.le_trans Zs (Keep.of_wr W10).1
  replace Nf := Fr.snoc X10 Nf g_ar
  replace Kp := Kp.wr W10 (Or.inl (by simp))
  have V_ar : Arv Z h10 ar kc (.array .char) (4 : Int32) [(.ref b4), (.ref b9), .null, .null] .null := Arv.set Ar10 q10 Sz10 Nn10 Hh10 Gg10 rfl W10 1 rfl (Nat.le_of_ble_eq_true rfl)
  refine own_go (x' := T10.setTop (mkF m 2 #[.val (.ref ao0), .val (.int (2 : Int32)), .val (.int p2), .val (.int ((1 : Int32) + (1 : Int32)))] [])) (fun _ k => XS.iinc X10.here hx rfl (hb hby d3_36) rfl (l' := #[.val (.ref ao0), .val (.int (2 : Int32)), .val (.int p2), .val (.int ((1 : Int32) + (1 : Int32)))]) rfl (XS.goto X10.here hx rfl (pc0 := 39) (pc' := 2) rfl (hb hby d3_39) (by decide) (by decide) k)) ?_
  rw [show ((1 : Int32) + (1 : Int32)) = (2 : Int32) from by decide +kernel]
  refine own_go (x' := T10.setTop (mkF m 43 #[.val (.ref ao0), .val (.int (2 : Int32)), .val (.int p2), .val (.int (2 : Int32))] [(.ref ao0)])) (fun _ k => XS.iloadN X10.here hx rfl (hb hby d3_2) rfl (XS.iloadN X10.here hx rfl (hb hby d3_3) rfl (XS.icmpYes X10.here hx rfl (pc0 := 4) (pc' := 42) rfl (hb hby d3_4) rfl (flt (Int32.lt_irrefl)).2.1 (by decide) (by decide) (XS.aloadN X10.here hx rfl (hb hby d3_42) rfl rfl k)))) ?_
  obtain ⟨T11, X11, e11, st11⟩ := getF X10 hx hZ hown (host := "") (Or.inl (own_w hw 17 rfl)) Via.refl e10 F_ao0_chars (g := (mkF m 43 #[.val (.ref ao0), .val (.int (2 : Int32)), .val (.int p2), .val (.int (2 : Int32))] [(.ref ao0)])) rfl rfl (hb hby d3_43)
  refine own_go (x' := T11.setTop (mkF m 46 #[.val (.ref ao0), .val (.int (2 : Int32)), .val (.int p2), .val (.int (2 : Int32))] [(.ref ar)])) st11 ?_
  refine own_retR X11 hx hlk hret rfl rfl (hb hby d3_46) ?_ (by decide) (by decide)
  rw [e11]
  exact ⟨b4, k4, b9, k9, rfl, Nf, Kp, F_ao0_chars, V_ar, sz_b4, g_b4, V_b4, sz_b9, g_b9, V_b9, ne_b4_b9⟩
def Q_rmF_3 (Z : State) (ao0 : Addr) (p2 : Int32) (ar : Addr) (kc : ClassId) (h0 : Heap) (n0 : Nat) (v : Option Value) (h : Heap) (L : List Loc) : Prop := ∃ (b0 : Addr) (k0 : ClassId) (b1 : Addr) (k1 : ClassId) (b2 : Addr) (k2 : ClassId), v = some (.ref ar) ∧ Fr n0 L ∧ Keep h0 h [ar] ∧ Fld Z h ao0 "com/example/wee_match/weematch/Sieve$Windows" "chars" "[[C" (.ref ar) ∧ Arv Z h ar kc (.array .char) (4 : Int32) [.ref b0, .ref b1, .ref b2, .null] .null ∧ h0.size ≤ b0 ∧ n0 ≤ b0 ∧ Arv Z h b0 k0 .char p2 [] (.int (0 : Int32)) ∧ h0.size ≤ b1 ∧ n0 ≤ b1 ∧ Arv Z h b1 k1 .char p2 [] (.int (0 : Int32)) ∧ h0.size ≤ b2 ∧ n0 ≤ b2 ∧ Arv Z h b2 k2 .char p2 [] (.int (0 : Int32)) ∧ b0 ≠ b1 ∧ b0 ≠ b2 ∧ b1 ≠ b2
theorem pn_rmF_3 : plainName "com/example/wee_match/weematch/Sieve$Windows" = true := by first | (simp [plainName, overriddenIn]; done) | decide +kernel
theorem ef_rmF_3 (m : MethodId) (x0 : Addr) (x1 : Int32) (x2 : Int32) : entryFrame m #[(.ref x0), (.int x1), (.int x2)] 4 = mkF m 0 #[.val (.ref x0), .val (.int x1), .val (.int x2), .unset] [] := by first | (simp [entryFrame, mkF, argsToLocals, Value.category]; done) | rfl
set_option maxRecDepth 65536 in
set_option maxHeartbeats 40000000 in
theorem rmF_3 (l : Launch) (Z : State) (a0 : Array Value) (hw : ∀ d ∈ tables_1, d.before a0 Z = true) (ws : List Jvm.Cond) (ao0 : Addr) (p2 : Int32) (ar : Addr) (kc : ClassId) (h0 : Heap) (n0 : Nat) (Z0 : n0 ≤ h0.size) (F_ao0_chars : Fld Z h0 ao0 "com/example/wee_match/weematch/Sieve$Windows" "chars" "[[C" (.ref ar)) (V_ar : Arv Z h0 ar kc (.array .char) (4 : Int32) [.null, .null, .null, .null] .null) (O_ar : OvrA Z kc .char "[C") (ne_ao0_ar : ao0 ≠ ar) (g_ar : n0 ≤ ar) (hs : own_L p2) :
    MetFree l (⟨"com/example/wee_match/weematch/Sieve$Windows", "chars", "(II)[[C"⟩ : MethodName) (head1 (Jvm.Cond.code (⟨"com/example/wee_match/weematch/Sieve$Windows", "chars", "(II)[[C"⟩ : MethodName) prog_20_method_9_code 4 (some (.array (.array .char))) :: ws) ({ frames := 0, cells := 3, slots := 93, locals := 0 } : Room)) (fun a U => a = #[(.ref ao0), (.int (3 : Int32)), (.int p2)] ∧ Z.Warmed39 U.vm ∧ U.heap = h0) (fun _ _ _ _ _ => True) (fun _ U o U' => ∃ v L, o = .returned v ∧ (Q_rmF_3 Z ao0 p2 ar kc h0 n0) v U'.heap L ∧ FrameEnd U o U' L ({ frames := 0, cells := 3, slots := 93, locals := 0 } : Room).cells ({ frames := 0, cells := 3, slots := 93, locals := 0 } : Room).slots) := by
  refine MetFree.of_bodySF (plainFor_of_name pn_rmF_3) hisR ?_
  intro p e s m args below meth c s₁ Bd hml0 hP hK
  obtain ⟨rfl, hZ, hh⟩ := hP
  have hx := Bd.exec
  have hby := Bd.bytes
  have hlk := BodyLoose.notSynchronized Bd
  have hret := Bd.returns
  have hml : c.maxLocals = 4 := hml0
  have hown : s.vm.findClass "com/example/wee_match/weematch/Sieve$Windows" = some m.cls := findClass_of_methodNamed Bd.named
  have hnm := (name_of_methodNamed Bd.named Bd.method).1
  have X0 : Stand p l e ({ frames := 0, cells := 3, slots := 93, locals := 0 } : Room) s m #[(.ref ao0), (.int (3 : Int32)), (.int p2)] below meth c s₁ [] 0 0 := Stand.of_body Bd
  have e0 : s₁.heap = h0 := by rw [← hh, Bd.state]; rfl
  have Nf := Fr.nil n0
  have Zs := Z0
  have Kp : Keep h0 h0 [ar] := Keep.refl _ _
  show own_End p e below s (Q_rmF_3 Z ao0 p2 ar kc h0 n0) ({ frames := 0, cells := 3, slots := 93, locals := 0 } : Room).cells ({ frames := 0, cells := 3, slots := 93, locals := 0 } : Room).slots (s₁.setTop (entryFrame m #[(.ref ao0), (.int (3 : Int32)), (.int p2)] 4))
  refine own_go (x' := s₁.setTop (mkF m 0 #[.val (.ref ao0), .val (.int (3 : Int32)), .val (.int p2), .unset] [])) (fun t k => castTop (ef_rmF_3 m ao0 (3 : Int32) p2) k) ?_
  refine own_go (x' := s₁.setTop (mkF m 8 #[.val (.ref ao0), .val (.int (3 : Int32)), .val (.int p2), .val (.int (0 : Int32))] [(.ref ao0)])) (fun _ k => XS.iconst X0.here hx rfl (hb hby d3_0) (XS.istoreN X0.here hx rfl (hb hby d3_1) rfl (l' := #[.val (.ref ao0), .val (.int (3 : Int32)), .val (.int p2), .val (.int (0 : Int32))]) rfl (XS.iloadN X0.here hx rfl (hb hby d3_2) rfl (XS.iloadN X0.here hx rfl (hb hby d3_3) rfl (XS.icmpNo X0.here hx rfl (hb hby d3_4) rfl (tlt (by decide +kernel : ((0 : Int32) < (3 : Int32)))).2.1 (XS.aloadN X0.here hx rfl (hb hby d3_7) rfl rfl k)))))) ?_
  obtain ⟨T1, X1, e1, st1⟩ := getF X0 hx hZ hown (host := "") (Or.inl (own_w hw 17 rfl)) Via.refl e0 F_ao0_chars (g := (mkF m 8 #[.val (.ref ao0), .val (.int (3 : Int32)), .val (.int p2), .val (.int (0 : Int32))] [(.ref ao0)])) rfl rfl (hb hby d3_8)
  refine own_go (x' := T1.setTop (mkF m 11 #[.val (.ref ao0), .val (.int (3 : Int32)), .val (.int p2), .val (.int (0 : Int32))] [(.ref ar)])) st1 ?_
  refine own_go (x' := T1.setTop (mkF m 12 #[.val (.ref ao0), .val (.int (3 : Int32)), .val (.int p2), .val (.int (0 : Int32))] [(.int (0 : Int32)), (.ref ar)])) (fun _ k => XS.iloadN X1.here hx rfl (hb hby d3_11) rfl k) ?_
  obtain ⟨cl2, Ar2, q2, Sz2, Nn2, Hh2, Gg2⟩ := id V_ar
  have hin2 : ¬ ((0 : Int32) < 0 ∨ cl2.slots.size ≤ ((0 : Int32)).toNatClampNeg) := inb_of Sz2 ⟨by decide, by decide⟩
  refine own_go (x' := T1.setTop (mkF m 13 #[.val (.ref ao0), .val (.int (3 : Int32)), .val (.int p2), .val (.int (0 : Int32))] [.null])) (X1.aaload hx (j := (0 : Int32)) (v := .null) (Eq.trans (congrArg (fun h_ => h_[_]?) e1) Ar2.1) (State.isArrayOf_alike hZ.alike Ar2.2.1) rfl Ar2.2.2 hin2 (Hh2.at hin2 rfl) (g := (mkF m 12 #[.val (.ref ao0), .val (.int (3 : Int32)), .val (.int p2), .val (.int (0 : Int32))] [(.int (0 : Int32)), (.ref ar)])) rfl rfl (hb hby d3_12)) ?_
  refine own_go (x' := T1.setTop (mkF m 28 #[.val (.ref ao0), .val (.int (3 : Int32)), .val (.int p2), .val (.int (0 : Int32))] [(.ref ao0)])) (fun _ k => XS.ifnullYes X1.here hx rfl (pc0 := 13) (pc' := 27) rfl (hb hby d3_13) rfl (by decide) (by decide) (XS.aloadN X1.here hx rfl (hb hby d3_27) rfl rfl k)) ?_
  obtain ⟨T3, X3, e3, st3⟩ := getF X1 hx hZ hown (host := "") (Or.inl (own_w hw 17 rfl)) Via.refl e1 F_ao0_chars (g := (mkF m 28 #[.val (.ref ao0), .val (.int (3 : Int32)), .val (.int p2), .val (.int (0 : Int32))] [(.ref ao0)])) rfl rfl (hb hby d3_28)
  refine own_go (x' := T3.setTop (mkF m 31 #[.val (.ref ao0), .val (.int (3 : Int32)), .val (.int p2), .val (.int (0 : Int32))] [(.ref ar)])) st3 ?_
  refine own_go (x' := T3.setTop (mkF m 33 #[.val (.ref ao0), .val (.int (3 : Int32)), .val (.int p2), .val (.int (0 : Int32))] [(.int p2), (.int (0 : Int32)), (.ref ar)])) (fun _ k => XS.iloadN X3.here hx rfl (hb hby d3_31) rfl (XS.iloadN X3.here hx rfl (hb hby d3_32) rfl k)) ?_
  obtain ⟨T4, h4, k4, X4, e4, E4, A4, Q4, st4⟩ := newPE X3 hx hZ (own_w hw 34 rfl) e3 (g := (mkF m 33 #[.val (.ref ao0), .val (.int (3 : Int32)), .val (.int p2), .val (.int (0 : Int32))] [(.int p2), (.int (0 : Int32)), (.ref ar)])) rfl (hb hby d3_33) rfl hs.1 (cap := 31) hs.2 (by decide) (by decide) (by decide) (ad := "[C") (by decide)
  obtain ⟨b4, g4⟩ : ∃ z, z = h0.size := ⟨_, rfl⟩
  rw [← g4] at A4 st4
  rw [← g4] at Q4
  have ne_ao0_b4 : ao0 ≠ b4 := Nat.ne_of_lt (Nat.lt_of_lt_of_le F_ao0_chars.lt (Nat.le_of_eq g4.symm))
  have ne_ar_b4 : ar ≠ b4 := Nat.ne_of_lt (Nat.lt_of_lt_of_le V_ar.lt (Nat.le_of_eq g4.symm))
  have g_b4 : n0 ≤ b4 := Nat.le_trans Zs (Nat.le_of_eq g4.symm)
  have sz_b4 : h0.size ≤ b4 := Nat.le_trans Kp.1 (Nat.le_of_eq g4.symm)
  replace F_ao0_chars := Fld.ext E4 F_ao0_chars
  replace V_ar := V_ar.ext E4
  replace Zs := Nat.le_trans Zs E4.1
  replace Kp := Kp.ext E4
  have E_b4 := Q4
  have V_b4 : Arv Z h4 b4 k4 .char p2 [] (.int (0 : Int32)) := Arv.new A4 hs.1
  refine own_go (x' := T4.setTop (mkF m 35 #[.val (.ref ao0), .val (.int (3 : Int32)), .val (.int p2), .val (.int (0 : Int32))] [(.ref b4), (.int (0 : Int32)), (.ref ar)])) st4 ?_
  obtain ⟨cl5, Ar5, q5, Sz5, Nn5, Hh5, Gg5⟩ := V_ar
  have hin5 : ¬ ((0 : Int32) < 0 ∨ cl5.slots.size ≤ ((0 : Int32)).toNatClampNeg) := inb_of Sz5 ⟨by decide, by decide⟩
  obtain ⟨T5, h5, X5, e5, W5, st5⟩ := stR X4 hx hZ e4 Ar5 (j := (0 : Int32)) hin5 rfl (Sto.ofVA Ar5 q5 O_ar (Ins.self E_b4)) (g := (mkF m 35 #[.val (.ref ao0), .val (.int (3 : Int32)), .val (.int p2), .val (.int (0 : Int32))] [(.ref b4), (.int (0 : Int32)), (.ref ar)])) rfl rfl (hb hby d3_35)
  refine own_go (x' := T5.setTop (mkF m 36 #[.val (.ref ao0), .val (.int (3 : Int32)), .val (.int p2), .val (.int (0 : Int32))] [])) st5 ?_
  replace F_ao0_chars := Fld.other W5 F_ao0_chars (Or.inl ne_ao0_ar)
  replace E_b4 := Exa.wr W5 E_b4
  replace V_b4 := V_b4.other W5 (Ne.symm ne_ar_b4)
  replace Zs := Nat.le_trans Zs (Keep.of_wr W5).1
  replace Nf := Fr.snoc X5 Nf g_ar
  replace Kp := Kp.wr W5 (Or.inl (by simp))
  have V_ar : Arv Z h5 ar kc (.array .char) (4 : Int32) [(.ref b4), .null, .null, .null] .null := Arv.set Ar5 q5 Sz5 Nn5 Hh5 Gg5 rfl W5 0 rfl (Nat.le_of_ble_eq_true rfl)
  refine own_go (x' := T5.setTop (mkF m 2 #[.val (.ref ao0), .val (.int (3 : Int32)), .val (.int p2), .val (.int ((0 : Int32) + (1 : Int32)))] [])) (fun _ k => XS.iinc X5.here hx rfl (hb hby d3_36) rfl (l' := #[.val (.ref ao0), .val (.int (3 : Int32)), .val (.int p2), .val (.int ((0 : Int32) + (1 : Int32)))]) rfl (XS.goto X5.here hx rfl (pc0 := 39) (pc' := 2) rfl (hb hby d3_39) (by decide) (by decide) k)) ?_
  rw [show ((0 : Int32) + (1 : Int32)) = (1 : Int32) from by decide +kernel]
  refine own_go (x' := T5.setTop (mkF m 8 #[.val (.ref ao0), .val (.int (3 : Int32)), .val (.int p2), .val (.int (1 : Int32))] [(.ref ao0)])) (fun _ k => XS.iloadN X5.here hx rfl (hb hby d3_2) rfl (XS.iloadN X5.here hx rfl (hb hby d3_3) rfl (XS.icmpNo X5.here hx rfl (hb hby d3_4) rfl (tlt (by decide +kernel : ((1 : Int32) < (3 : Int32)))).2.1 (XS.aloadN X5.here hx rfl (hb hby d3_7) rfl rfl k)))) ?_
  obtain ⟨T6, X6, e6, st6⟩ := getF X5 hx hZ hown (host := "") (Or.inl (own_w hw 17 rfl)) Via.refl e5 F_ao0_chars (g := (mkF m 8 #[.val (.ref ao0), .val (.int (3 : Int32)), .val (.int p2), .val (.int (1 : Int32))] [(.ref ao0)])) rfl rfl (hb hby d3_8)
  refine own_go (x' := T6.setTop (mkF m 11 #[.val (.ref ao0), .val (.int (3 : Int32)), .val (.int p2), .val (.int (1 : Int32))] [(.ref ar)])) st6 ?_
  refine own_go (x' := T6.setTop (mkF m 12 #[.val (.ref ao0), .val (.int (3 : Int32)), .val (.int p2), .val (.int (1 : Int32))] [(.int (1 : Int32)), (.ref ar)])) (fun _ k => XS.iloadN X6.here hx rfl (hb hby d3_11) rfl k) ?_
  obtain ⟨cl7, Ar7, q7, Sz7, Nn7, Hh7, Gg7⟩ := id V_ar
  have hin7 : ¬ ((1 : Int32) < 0 ∨ cl7.slots.size ≤ ((1 : Int32)).toNatClampNeg) := inb_of Sz7 ⟨by decide, by decide⟩
  refine own_go (x' := T6.setTop (mkF m 13 #[.val (.ref ao0), .val (.int (3 : Int32)), .val (.int p2), .val (.int (1 : Int32))] [.null])) (X6.aaload hx (j := (1 : Int32)) (v := .null) (Eq.trans (congrArg (fun h_ => h_[_]?) e6) Ar7.1) (State.isArrayOf_alike hZ.alike Ar7.2.1) rfl Ar7.2.2 hin7 (Hh7.at hin7 rfl) (g := (mkF m 12 #[.val (.ref ao0), .val (.int (3 : Int32)), .val (.int p2), .val (.int (1 : Int32))] [(.int (1 : Int32)), (.ref ar)])) rfl rfl (hb hby d3_12)) ?_
  refine own_go (x' := T6.setTop (mkF m 28 #[.val (.ref ao0), .val (.int (3 : Int32)), .val (.int p2), .val (.int (1 : Int32))] [(.ref ao0)])) (fun _ k => XS.ifnullYes X6.here hx rfl (pc0 := 13) (pc' := 27) rfl (hb hby d3_13) rfl (by decide) (by decide) (XS.aloadN X6.here hx rfl (hb hby d3_27) rfl rfl k)) ?_
  obtain ⟨T8, X8, e8, st8⟩ := getF X6 hx hZ hown (host := "") (Or.inl (own_w hw 17 rfl)) Via.refl e6 F_ao0_chars (g := (mkF m 28 #[.val (.ref ao0), .val (.int (3 : Int32)), .val (.int p2), .val (.int (1 : Int32))] [(.ref ao0)])) rfl rfl (hb hby d3_28)
  refine own_go (x' := T8.setTop (mkF m 31 #[.val (.ref ao0), .val (.int (3 : Int32)), .val (.int p2), .val (.int (1 : Int32))] [(.ref ar)])) st8 ?_
  refine own_go (x' := T8.setTop (mkF m 33 #[.val (.ref ao0), .val (.int (3 : Int32)), .val (.int p2), .val (.int (1 : Int32))] [(.int p2), (.int (1 : Int32)), (.ref ar)])) (fun _ k => XS.iloadN X8.here hx rfl (hb hby d3_31) rfl (XS.iloadN X8.here hx rfl (hb hby d3_32) rfl k)) ?_
  obtain ⟨T9, h9, k9, X9, e9, E9, A9, Q9, st9⟩ := newPE X8 hx hZ (own_w hw 34 rfl) e8 (g := (mkF m 33 #[.val (.ref ao0), .val (.int (3 : Int32)), .val (.int p2), .val (.int (1 : Int32))] [(.int p2), (.int (1 : Int32)), (.ref ar)])) rfl (hb hby d3_33) rfl hs.1 (cap := 31) hs.2 (by decide) (by decide) (by decide) (ad := "[C") (by decide)
  obtain ⟨b9, g9⟩ : ∃ z, z = h5.size := ⟨_, rfl⟩
  rw [← g9] at A9 st9
  rw [← g9] at Q9
  have ne_ao0_b9 : ao0 ≠ b9 := Nat.ne_of_lt (Nat.lt_of_lt_of_le F_ao0_chars.lt (Nat.le_of_eq g9.symm))
  have ne_b4_b9 : b4 ≠ b9 := Nat.ne_of_lt (Nat.lt_of_lt_of_le E_b4.lt (Nat.le_of_eq g9.symm))
  have ne_ar_b9 : ar ≠ b9 := Nat.ne_of_lt (Nat.lt_of_lt_of_le V_ar.lt (Nat.le_of_eq g9.symm))
  have g_b9 : n0 ≤ b9 := Nat.le_trans Zs (Nat.le_of_eq g9.symm)
  have sz_b9 : h0.size ≤ b9 := Nat.le_trans Kp.1 (Nat.le_of_eq g9.symm)
  replace F_ao0_chars := Fld.ext E9 F_ao0_chars
  replace E_b4 := Exa.ext E9 E_b4
  replace V_b4 := V_b4.ext E9
  replace V_ar := V_ar.ext E9
  replace Zs := Nat.le_trans Zs E9.1
  replace Kp := Kp.ext E9
  have E_b9 := Q9
  have V_b9 : Arv Z h9 b9 k9 .char p2 [] (.int (0 : Int32)) := Arv.new A9 hs.1
  refine own_go (x' := T9.setTop (mkF m 35 #[.val (.ref ao0), .val (.int (3 : Int32)), .val (.int p2), .val (.int (1 : Int32))] [(.ref b9), (.int (1 : Int32)), (.ref ar)])) st9 ?_
  obtain ⟨cl10, Ar10, q10, Sz10, Nn10, Hh10, Gg10⟩ := V_ar
  have hin10 : ¬ ((1 : Int32) < 0 ∨ cl10.slots.size ≤ ((1 : Int32)).toNatClampNeg) := inb_of Sz10 ⟨by decide, by decide⟩
  obtain ⟨T10, h10, X10, e10, W10, st10⟩ := stR X9 hx hZ e9 Ar10 (j := (1 : Int32)) hin10 rfl (Sto.ofVA Ar10 q10 O_ar (Ins.self E_b9)) (g := (mkF m 35 #[.val (.ref ao0), .val (.int (3 : Int32)), .val (.int p2), .val (.int (1 : Int32))] [(.ref b9), (.int (1 : Int32)), (.ref ar)])) rfl rfl (hb hby d3_35)
  refine own_go (x' := T10.setTop (mkF m 36 #[.val (.ref ao0), .val (.int (3 : Int32)), .val (.int p2), .val (.int (1 : Int32))] [])) st10 ?_
  replace F_ao0_chars := Fld.other W10 F_ao0_chars (Or.inl ne_ao0_ar)
  replace E_b4 := Exa.wr W10 E_b4
  replace V_b4 := V_b4.other W10 (Ne.symm ne_ar_b4)
  replace E_b9 := Exa.wr W10 E_b9
  replace V_b9 := V_b9.other W10 (Ne.symm ne_ar_b9)
  replace Zs := Nat.le_trans Zs (Keep.of_wr W10).1
  replace Nf := Fr.snoc X10 Nf g_ar
  replace Kp := Kp.wr W10 (Or.inl (by simp))
  have V_ar : Arv Z h10 ar kc (.array .char) (4 : Int32) [(.ref b4), (.ref b9), .null, .null] .null := Arv.set Ar10 q10 Sz10 Nn10 Hh10 Gg10 rfl W10 1 rfl (Nat.le_of_ble_eq_true rfl)
  refine own_go (x' := T10.setTop (mkF m 2 #[.val (.ref ao0), .val (.int (3 : Int32)), .val (.int p2), .val (.int ((1 : Int32) + (1 : Int32)))] [])) (fun _ k => XS.iinc X10.here hx rfl (hb hby d3_36) rfl (l' := #[.val (.ref ao0), .val (.int (3 : Int32)), .val (.int p2), .val (.int ((1 : Int32) + (1 : Int32)))]) rfl (XS.goto X10.here hx rfl (pc0 := 39) (pc' := 2) rfl (hb hby d3_39) (by decide) (by decide) k)) ?_
  rw [show ((1 : Int32) + (1 : Int32)) = (2 : Int32) from by decide +kernel]
  refine own_go (x' := T10.setTop (mkF m 8 #[.val (.ref ao0), .val (.int (3 : Int32)), .val (.int p2), .val (.int (2 : Int32))] [(.ref ao0)])) (fun _ k => XS.iloadN X10.here hx rfl (hb hby d3_2) rfl (XS.iloadN X10.here hx rfl (hb hby d3_3) rfl (XS.icmpNo X10.here hx rfl (hb hby d3_4) rfl (tlt (by decide +kernel : ((2 : Int32) < (3 : Int32)))).2.1 (XS.aloadN X10.here hx rfl (hb hby d3_7) rfl rfl k)))) ?_
  obtain ⟨T11, X11, e11, st11⟩ := getF X10 hx hZ hown (host := "") (Or.inl (own_w hw 17 rfl)) Via.refl e10 F_ao0_chars (g := (mkF m 8 #[.val (.ref ao0), .val (.int (3 : Int32)), .val (.int p2), .val (.int (2 : Int32))] [(.ref ao0)])) rfl rfl (hb hby d3_8)
  refine own_go (x' := T11.setTop (mkF m 11 #[.val (.ref ao0), .val (.int (3 : Int32)), .val (.int p2), .val (.int (2 : Int32))] [(.ref ar)])) st11 ?_
  refine own_go (x' := T11.setTop (mkF m 12 #[.val (.ref ao0), .val (.int (3 : Int32)), .val (.int p2), .val (.int (2 : Int32))] [(.int (2 : Int32)), (.ref ar)])) (fun _ k => XS.iloadN X11.here hx rfl (hb hby d3_11) rfl k) ?_
  obtain ⟨cl12, Ar12, q12, Sz12, Nn12, Hh12, Gg12⟩ := id V_ar
  have hin12 : ¬ ((2 : Int32) < 0 ∨ cl12.slots.size ≤ ((2 : Int32)).toNatClampNeg) := inb_of Sz12 ⟨by decide, by decide⟩
  refine own_go (x' := T11.setTop (mkF m 13 #[.val (.ref ao0), .val (.int (3 : Int32)), .val (.int p2), .val (.int (2 : Int32))] [.null])) (X11.aaload hx (j := (2 : Int32)) (v := .null) (Eq.trans (congrArg (fun h_ => h_[_]?) e11) Ar12.1) (State.isArrayOf_alike hZ.alike Ar12.2.1) rfl Ar12.2.2 hin12 (Hh12.at hin12 rfl) (g := (mkF m 12 #[.val (.ref ao0), .val (.int (3 : Int32)), .val (.int p2), .val (.int (2 : Int32))] [(.int (2 : Int32)), (.ref ar)])) rfl rfl (hb hby d3_12)) ?_
  refine own_go (x' := T11.setTop (mkF m 28 #[.val (.ref ao0), .val (.int (3 : Int32)), .val (.int p2), .val (.int (2 : Int32))] [(.ref ao0)])) (fun _ k => XS.ifnullYes X11.here hx rfl (pc0 := 13) (pc' := 27) rfl (hb hby d3_13) rfl (by decide) (by decide) (XS.aloadN X11.here hx rfl (hb hby d3_27) rfl rfl k)) ?_
  obtain ⟨T13, X13, e13, st13⟩ := getF X11 hx hZ hown (host := "") (Or.inl (own_w hw 17 rfl)) Via.refl e11 F_ao0_chars (g := (mkF m 28 #[.val (.ref ao0), .val (.int (3 : Int32)), .val (.int p2), .val (.int (2 : Int32))] [(.ref ao0)])) rfl rfl (hb hby d3_28)
  refine own_go (x' := T13.setTop (mkF m 31 #[.val (.ref ao0), .val (.int (3 : Int32)), .val (.int p2), .val (.int (2 : Int32))] [(.ref ar)])) st13 ?_
  refine own_go (x' := T13.setTop (mkF m 33 #[.val (.ref ao0), .val (.int (3 : Int32)), .val (.int p2), .val (.int (2 : Int32))] [(.int p2), (.int (2 : Int32)), (.ref ar)])) (fun _ k => XS.iloadN X13.here hx rfl (hb hby d3_31) rfl (XS.iloadN X13.here hx rfl (hb hby d3_32) rfl k)) ?_
  obtain ⟨T14, h14, k14, X14, e14, E14, A14, Q14, st14⟩ := newPE X13 hx hZ (own_w hw 34 rfl) e13 (g := (mkF m 33 #[.val (.ref ao0), .val (.int (3 : Int32)), .val (.int p2), .val (.int (2 : Int32))] [(.int p2), (.int (2 : Int32)), (.ref ar)])) rfl (hb hby d3_33) rfl hs.1 (cap := 31) hs.2 (by decide) (by decide) (by decide) (ad := "[C") (by decide)
  obtain ⟨b14, g14⟩ : ∃ z, z = h10.size := ⟨_, rfl⟩
  rw [← g14] at A14 st14
  rw [← g14] at Q14
  have ne_ao0_b14 : ao0 ≠ b14 := Nat.ne_of_lt (Nat.lt_of_lt_of_le F_ao0_chars.lt (Nat.le_of_eq g14.symm))
  have ne_b4_b14 : b4 ≠ b14 := Nat.ne_of_lt (Nat.lt_of_lt_of_le E_b4.lt (Nat.le_of_eq g14.symm))
  have ne_b9_b14 : b9 ≠ b14 := Nat.ne_of_lt (Nat.lt_of_lt_of_le E_b9.lt (Nat.le_of_eq g14.symm))
  have ne_ar_b14 : ar ≠ b14 := Nat.ne_of_lt (Nat.lt_of_lt_of_le V_ar.lt (Nat.le_of_eq g14.symm))
  have g_b14 : n0 ≤ b14 := Nat.le_trans Zs (Nat.le_of_eq g14.symm)
  have sz_b14 : h0.size ≤ b14 := Nat.le_trans Kp.1 (Nat.le_of_eq g14.symm)
  replace F_ao0_chars := Fld.ext E14 F_ao0_chars
  replace E_b4 := Exa.ext E14 E_b4
  replace V_b4 := V_b4.ext E14
  replace E_b9 := Exa.ext E14 E_b9
  replace V_b9 := V_b9.ext E14
  replace V_ar := V_ar.ext E14
  replace Zs := Nat.le_trans Zs E14.1
  replace Kp := Kp.ext E14
  have E_b14 := Q14
  have V_b14 : Arv Z h14 b14 k14 .char p2 [] (.int (0 : Int32)) := Arv.new A14 hs.1
  refine own_go (x' := T14.setTop (mkF m 35 #[.val (.ref ao0), .val (.int (3 : Int32)), .val (.int p2), .val (.int (2 : Int32))] [(.ref b14), (.int (2 : Int32)), (.ref ar)])) st14 ?_
  obtain ⟨cl15, Ar15, q15, Sz15, Nn15, Hh15, Gg15⟩ := V_ar
  have hin15 : ¬ ((2 : Int32) < 0 ∨ cl15.slots.size ≤ ((2 : Int32)).toNatClampNeg) := inb_of Sz15 ⟨by decide, by decide⟩
  obtain ⟨T15, h15, X15, e15, W15, st15⟩ := stR X14 hx hZ e14 Ar15 (j := (2 : Int32)) hin15 rfl (Sto.ofVA Ar15 q15 O_ar (Ins.self E_b14)) (g := (mkF m 35 #[.val (.ref ao0), .val (.int (3 : Int32)), .val (.int p2), .val (.int (2 : Int32))] [(.ref b14), (.int (2 : Int32)), (.ref ar)])) rfl rfl (hb hby d3_35)
  refine own_go (x' := T15.setTop (mkF m 36 #[.val (.ref ao0), .val (.int (3 : Int32)), .val (.int p2), .val (.int (2 : Int32))] [])) st15 ?_
  replace F_ao0_chars := Fld.other W15 F_ao0_chars (Or.inl ne_ao0_ar)
  replace E_b4 := Exa.wr W15 E_b4
  replace V_b4 := V_b4.other W15 (Ne.symm ne_ar_b4)
  replace E_b9 := Exa.wr W15 E_b9
  replace V_b9 := V_b9.other W15 (Ne.symm ne_ar_b9)
  replace E_b14 := Exa.wr W15 E_b14
  replace V_b14 := V_b14.other W15 (Ne.symm ne_ar_b14)
  replace Zs := Nat.le_trans Zs (Keep.of_wr W15).1
  replace Nf := Fr.snoc X15 Nf g_ar
  replace Kp := Kp.wr W15 (Or.inl (by simp))
  have V_ar : Arv Z h15 ar kc (.array .char) (4 : Int32) [(.ref b4), (.ref b9), (.ref b14), .null] .null := Arv.set Ar15 q15 Sz15 Nn15 Hh15 Gg15 rfl W15 2 rfl (Nat.le_of_ble_eq_true rfl)
  refine own_go (x' := T15.setTop (mkF m 2 #[.val (.ref ao0), .val (.int (3 : Int32)), .val (.int p2), .val (.int ((2 : Int32) + (1 : Int32)))] [])) (fun _ k => XS.iinc X15.here hx rfl (hb hby d3_36) rfl (l' := #[.val (.ref ao0), .val (.int (3 : Int32)), .val (.int p2), .val (.int ((2 : Int32) + (1 : Int32)))]) rfl (XS.goto X15.here hx rfl (pc0 := 39) (pc' := 2) rfl (hb hby d3_39) (by decide) (by decide) k)) ?_
  rw [show ((2 : Int32) + (1 : Int32)) = (3 : Int32) from by decide +kernel]
  refine own_go (x' := T15.setTop (mkF m 43 #[.val (.ref ao0), .val (.int (3 : Int32)), .val (.int p2), .val (.int (3 : Int32))] [(.ref ao0)])) (fun _ k => XS.iloadN X15.here hx rfl (hb hby d3_2) rfl (XS.iloadN X15.here hx rfl (hb hby d3_3) rfl (XS.icmpYes X15.here hx rfl (pc0 := 4) (pc' := 42) rfl (hb hby d3_4) rfl (flt (Int32.lt_irrefl)).2.1 (by decide) (by decide) (XS.aloadN X15.here hx rfl (hb hby d3_42) rfl rfl k)))) ?_
  obtain ⟨T16, X16, e16, st16⟩ := getF X15 hx hZ hown (host := "") (Or.inl (own_w hw 17 rfl)) Via.refl e15 F_ao0_chars (g := (mkF m 43 #[.val (.ref ao0), .val (.int (3 : Int32)), .val (.int p2), .val (.int (3 : Int32))] [(.ref ao0)])) rfl rfl (hb hby d3_43)
  refine own_go (x' := T16.setTop (mkF m 46 #[.val (.ref ao0), .val (.int (3 : Int32)), .val (.int p2), .val (.int (3 : Int32))] [(.ref ar)])) st16 ?_
  refine own_retR X16 hx hlk hret rfl rfl (hb hby d3_46) ?_ (by decide) (by decide)
  rw [e16]
  exact ⟨b4, k4, b9, k9, b14, k14, rfl, Nf, Kp, F_ao0_chars, V_ar, sz_b4, g_b4, V_b4, sz_b9, g_b9, V_b9, sz_b14, g_b14, V_b14, ne_b4_b9, ne_b4_b14, ne_b9_b14⟩
def Q_rmF_4 (Z : State) (ao0 : Addr) (p2 : Int32) (ar : Addr) (kc : ClassId) (h0 : Heap) (n0 : Nat) (v : Option Value) (h : Heap) (L : List Loc) : Prop := ∃ (b0 : Addr) (k0 : ClassId) (b1 : Addr) (k1 : ClassId) (b2 : Addr) (k2 : ClassId) (b3 : Addr) (k3 : ClassId), v = some (.ref ar) ∧ Fr n0 L ∧ Keep h0 h [ar] ∧ Fld Z h ao0 "com/example/wee_match/weematch/Sieve$Windows" "chars" "[[C" (.ref ar) ∧ Arv Z h ar kc (.array .char) (4 : Int32) [.ref b0, .ref b1, .ref b2, .ref b3] .null ∧ h0.size ≤ b0 ∧ n0 ≤ b0 ∧ Arv Z h b0 k0 .char p2 [] (.int (0 : Int32)) ∧ h0.size ≤ b1 ∧ n0 ≤ b1 ∧ Arv Z h b1 k1 .char p2 [] (.int (0 : Int32)) ∧ h0.size ≤ b2 ∧ n0 ≤ b2 ∧ Arv Z h b2 k2 .char p2 [] (.int (0 : Int32)) ∧ h0.size ≤ b3 ∧ n0 ≤ b3 ∧ Arv Z h b3 k3 .char p2 [] (.int (0 : Int32)) ∧ b0 ≠ b1 ∧ b0 ≠ b2 ∧ b0 ≠ b3 ∧ b1 ≠ b2 ∧ b1 ≠ b3 ∧ b2 ≠ b3
theorem pn_rmF_4 : plainName "com/example/wee_match/weematch/Sieve$Windows" = true := by first | (simp [plainName, overriddenIn]; done) | decide +kernel
theorem ef_rmF_4 (m : MethodId) (x0 : Addr) (x1 : Int32) (x2 : Int32) : entryFrame m #[(.ref x0), (.int x1), (.int x2)] 4 = mkF m 0 #[.val (.ref x0), .val (.int x1), .val (.int x2), .unset] [] := by first | (simp [entryFrame, mkF, argsToLocals, Value.category]; done) | rfl
set_option maxRecDepth 65536 in
set_option maxHeartbeats 40000000 in
theorem rmF_4 (l : Launch) (Z : State) (a0 : Array Value) (hw : ∀ d ∈ tables_1, d.before a0 Z = true) (ws : List Jvm.Cond) (ao0 : Addr) (p2 : Int32) (ar : Addr) (kc : ClassId) (h0 : Heap) (n0 : Nat) (Z0 : n0 ≤ h0.size) (F_ao0_chars : Fld Z h0 ao0 "com/example/wee_match/weematch/Sieve$Windows" "chars" "[[C" (.ref ar)) (V_ar : Arv Z h0 ar kc (.array .char) (4 : Int32) [.null, .null, .null, .null] .null) (O_ar : OvrA Z kc .char "[C") (ne_ao0_ar : ao0 ≠ ar) (g_ar : n0 ≤ ar) (hs : own_L p2) :
    MetFree l (⟨"com/example/wee_match/weematch/Sieve$Windows", "chars", "(II)[[C"⟩ : MethodName) (head1 (Jvm.Cond.code (⟨"com/example/wee_match/weematch/Sieve$Windows", "chars", "(II)[[C"⟩ : MethodName) prog_20_method_9_code 4 (some (.array (.array .char))) :: ws) ({ frames := 0, cells := 4, slots := 124, locals := 0 } : Room)) (fun a U => a = #[(.ref ao0), (.int (4 : Int32)), (.int p2)] ∧ Z.Warmed39 U.vm ∧ U.heap = h0) (fun _ _ _ _ _ => True) (fun _ U o U' => ∃ v L, o = .returned v ∧ (Q_rmF_4 Z ao0 p2 ar kc h0 n0) v U'.heap L ∧ FrameEnd U o U' L ({ frames := 0, cells := 4, slots := 124, locals := 0 } : Room).cells ({ frames := 0, cells := 4, slots := 124, locals := 0 } : Room).slots) := by
  refine MetFree.of_bodySF (plainFor_of_name pn_rmF_4) hisR ?_
  intro p e s m args below meth c s₁ Bd hml0 hP hK
  obtain ⟨rfl, hZ, hh⟩ := hP
  have hx := Bd.exec
  have hby := Bd.bytes
  have hlk := BodyLoose.notSynchronized Bd
  have hret := Bd.returns
  have hml : c.maxLocals = 4 := hml0
  have hown : s.vm.findClass "com/example/wee_match/weematch/Sieve$Windows" = some m.cls := findClass_of_methodNamed Bd.named
  have hnm := (name_of_methodNamed Bd.named Bd.method).1
  have X0 : Stand p l e ({ frames := 0, cells := 4, slots := 124, locals := 0 } : Room) s m #[(.ref ao0), (.int (4 : Int32)), (.int p2)] below meth c s₁ [] 0 0 := Stand.of_body Bd
  have e0 : s₁.heap = h0 := by rw [← hh, Bd.state]; rfl
  have Nf := Fr.nil n0
  have Zs := Z0
  have Kp : Keep h0 h0 [ar] := Keep.refl _ _
  show own_End p e below s (Q_rmF_4 Z ao0 p2 ar kc h0 n0) ({ frames := 0, cells := 4, slots := 124, locals := 0 } : Room).cells ({ frames := 0, cells := 4, slots := 124, locals := 0 } : Room).slots (s₁.setTop (entryFrame m #[(.ref ao0), (.int (4 : Int32)), (.int p2)] 4))
  refine own_go (x' := s₁.setTop (mkF m 0 #[.val (.ref ao0), .val (.int (4 : Int32)), .val (.int p2), .unset] [])) (fun t k => castTop (ef_rmF_4 m ao0 (4 : Int32) p2) k) ?_
  refine own_go (x' := s₁.setTop (mkF m 8 #[.val (.ref ao0), .val (.int (4 : Int32)), .val (.int p2), .val (.int (0 : Int32))] [(.ref ao0)])) (fun _ k => XS.iconst X0.here hx rfl (hb hby d3_0) (XS.istoreN X0.here hx rfl (hb hby d3_1) rfl (l' := #[.val (.ref ao0), .val (.int (4 : Int32)), .val (.int p2), .val (.int (0 : Int32))]) rfl (XS.iloadN X0.here hx rfl (hb hby d3_2) rfl (XS.iloadN X0.here hx rfl (hb hby d3_3) rfl (XS.icmpNo X0.here hx rfl (hb hby d3_4) rfl (tlt (by decide +kernel : ((0 : Int32) < (4 : Int32)))).2.1 (XS.aloadN X0.here hx rfl (hb hby d3_7) rfl rfl k)))))) ?_
  obtain ⟨T1, X1, e1, st1⟩ := getF X0 hx hZ hown (host := "") (Or.inl (own_w hw 17 rfl)) Via.refl e0 F_ao0_chars (g := (mkF m 8 #[.val (.ref ao0), .val (.int (4 : Int32)), .val (.int p2), .val (.int (0 : Int32))] [(.ref ao0)])) rfl rfl (hb hby d3_8)
  refine own_go (x' := T1.setTop (mkF m 11 #[.val (.ref ao0), .val (.int (4 : Int32)), .val (.int p2), .val (.int (0 : Int32))] [(.ref ar)])) st1 ?_
  refine own_go (x' := T1.setTop (mkF m 12 #[.val (.ref ao0), .val (.int (4 : Int32)), .val (.int p2), .val (.int (0 : Int32))] [(.int (0 : Int32)), (.ref ar)])) (fun _ k => XS.iloadN X1.here hx rfl (hb hby d3_11) rfl k) ?_
  obtain ⟨cl2, Ar2, q2, Sz2, Nn2, Hh2, Gg2⟩ := id V_ar
  have hin2 : ¬ ((0 : Int32) < 0 ∨ cl2.slots.size ≤ ((0 : Int32)).toNatClampNeg) := inb_of Sz2 ⟨by decide, by decide⟩
  refine own_go (x' := T1.setTop (mkF m 13 #[.val (.ref ao0), .val (.int (4 : Int32)), .val (.int p2), .val (.int (0 : Int32))] [.null])) (X1.aaload hx (j := (0 : Int32)) (v := .null) (Eq.trans (congrArg (fun h_ => h_[_]?) e1) Ar2.1) (State.isArrayOf_alike hZ.alike Ar2.2.1) rfl Ar2.2.2 hin2 (Hh2.at hin2 rfl) (g := (mkF m 12 #[.val (.ref ao0), .val (.int (4 : Int32)), .val (.int p2), .val (.int (0 : Int32))] [(.int (0 : Int32)), (.ref ar)])) rfl rfl (hb hby d3_12)) ?_
  refine own_go (x' := T1.setTop (mkF m 28 #[.val (.ref ao0), .val (.int (4 : Int32)), .val (.int p2), .val (.int (0 : Int32))] [(.ref ao0)])) (fun _ k => XS.ifnullYes X1.here hx rfl (pc0 := 13) (pc' := 27) rfl (hb hby d3_13) rfl (by decide) (by decide) (XS.aloadN X1.here hx rfl (hb hby d3_27) rfl rfl k)) ?_
  obtain ⟨T3, X3, e3, st3⟩ := getF X1 hx hZ hown (host := "") (Or.inl (own_w hw 17 rfl)) Via.refl e1 F_ao0_chars (g := (mkF m 28 #[.val (.ref ao0), .val (.int (4 : Int32)), .val (.int p2), .val (.int (0 : Int32))] [(.ref ao0)])) rfl rfl (hb hby d3_28)
  refine own_go (x' := T3.setTop (mkF m 31 #[.val (.ref ao0), .val (.int (4 : Int32)), .val (.int p2), .val (.int (0 : Int32))] [(.ref ar)])) st3 ?_
  refine own_go (x' := T3.setTop (mkF m 33 #[.val (.ref ao0), .val (.int (4 : Int32)), .val (.int p2), .val (.int (0 : Int32))] [(.int p2), (.int (0 : Int32)), (.ref ar)])) (fun _ k => XS.iloadN X3.here hx rfl (hb hby d3_31) rfl (XS.iloadN X3.here hx rfl (hb hby d3_32) rfl k)) ?_
  obtain ⟨T4, h4, k4, X4, e4, E4, A4, Q4, st4⟩ := newPE X3 hx hZ (own_w hw 34 rfl) e3 (g := (mkF m 33 #[.val (.ref ao0), .val (.int (4 : Int32)), .val (.int p2), .val (.int (0 : Int32))] [(.int p2), (.int (0 : Int32)), (.ref ar)])) rfl (hb hby d3_33) rfl hs.1 (cap := 31) hs.2 (by decide) (by decide) (by decide) (ad := "[C") (by decide)
  obtain ⟨b4, g4⟩ : ∃ z, z = h0.size := ⟨_, rfl⟩
  rw [← g4] at A4 st4
  rw [← g4] at Q4
  have ne_ao0_b4 : ao0 ≠ b4 := Nat.ne_of_lt (Nat.lt_of_lt_of_le F_ao0_chars.lt (Nat.le_of_eq g4.symm))
  have ne_ar_b4 : ar ≠ b4 := Nat.ne_of_lt (Nat.lt_of_lt_of_le V_ar.lt (Nat.le_of_eq g4.symm))
  have g_b4 : n0 ≤ b4 := Nat.le_trans Zs (Nat.le_of_eq g4.symm)
  have sz_b4 : h0.size ≤ b4 := Nat.le_trans Kp.1 (Nat.le_of_eq g4.symm)
  replace F_ao0_chars := Fld.ext E4 F_ao0_chars
  replace V_ar := V_ar.ext E4
  replace Zs := Nat.le_trans Zs E4.1
  replace Kp := Kp.ext E4
  have E_b4 := Q4
  have V_b4 : Arv Z h4 b4 k4 .char p2 [] (.int (0 : Int32)) := Arv.new A4 hs.1
  refine own_go (x' := T4.setTop (mkF m 35 #[.val (.ref ao0), .val (.int (4 : Int32)), .val (.int p2), .val (.int (0 : Int32))] [(.ref b4), (.int (0 : Int32)), (.ref ar)])) st4 ?_
  obtain ⟨cl5, Ar5, q5, Sz5, Nn5, Hh5, Gg5⟩ := V_ar
  have hin5 : ¬ ((0 : Int32) < 0 ∨ cl5.slots.size ≤ ((0 : Int32)).toNatClampNeg) := inb_of Sz5 ⟨by decide, by decide⟩
  obtain ⟨T5, h5, X5, e5, W5, st5⟩ := stR X4 hx hZ e4 Ar5 (j := (0 : Int32)) hin5 rfl (Sto.ofVA Ar5 q5 O_ar (Ins.self E_b4)) (g := (mkF m 35 #[.val (.ref ao0), .val (.int (4 : Int32)), .val (.int p2), .val (.int (0 : Int32))] [(.ref b4), (.int (0 : Int32)), (.ref ar)])) rfl rfl (hb hby d3_35)
  refine own_go (x' := T5.setTop (mkF m 36 #[.val (.ref ao0), .val (.int (4 : Int32)), .val (.int p2), .val (.int (0 : Int32))] [])) st5 ?_
  replace F_ao0_chars := Fld.other W5 F_ao0_chars (Or.inl ne_ao0_ar)
  replace E_b4 := Exa.wr W5 E_b4
  replace V_b4 := V_b4.other W5 (Ne.symm ne_ar_b4)
  replace Zs := Nat.le_trans Zs (Keep.of_wr W5).1
  replace Nf := Fr.snoc X5 Nf g_ar
  replace Kp := Kp.wr W5 (Or.inl (by simp))
  have V_ar : Arv Z h5 ar kc (.array .char) (4 : Int32) [(.ref b4), .null, .null, .null] .null := Arv.set Ar5 q5 Sz5 Nn5 Hh5 Gg5 rfl W5 0 rfl (Nat.le_of_ble_eq_true rfl)
  refine own_go (x' := T5.setTop (mkF m 2 #[.val (.ref ao0), .val (.int (4 : Int32)), .val (.int p2), .val (.int ((0 : Int32) + (1 : Int32)))] [])) (fun _ k => XS.iinc X5.here hx rfl (hb hby d3_36) rfl (l' := #[.val (.ref ao0), .val (.int (4 : Int32)), .val (.int p2), .val (.int ((0 : Int32) + (1 : Int32)))]) rfl (XS.goto X5.here hx rfl (pc0 := 39) (pc' := 2) rfl (hb hby d3_39) (by decide) (by decide) k)) ?_
  rw [show ((0 : Int32) + (1 : Int32)) = (1 : Int32) from by decide +kernel]
  refine own_go (x' := T5.setTop (mkF m 8 #[.val (.ref ao0), .val (.int (4 : Int32)), .val (.int p2), .val (.int (1 : Int32))] [(.ref ao0)])) (fun _ k => XS.iloadN X5.here hx rfl (hb hby d3_2) rfl (XS.iloadN X5.here hx rfl (hb hby d3_3) rfl (XS.icmpNo X5.here hx rfl (hb hby d3_4) rfl (tlt (by decide +kernel : ((1 : Int32) < (4 : Int32)))).2.1 (XS.aloadN X5.here hx rfl (hb hby d3_7) rfl rfl k)))) ?_
  obtain ⟨T6, X6, e6, st6⟩ := getF X5 hx hZ hown (host := "") (Or.inl (own_w hw 17 rfl)) Via.refl e5 F_ao0_chars (g := (mkF m 8 #[.val (.ref ao0), .val (.int (4 : Int32)), .val (.int p2), .val (.int (1 : Int32))] [(.ref ao0)])) rfl rfl (hb hby d3_8)
  refine own_go (x' := T6.setTop (mkF m 11 #[.val (.ref ao0), .val (.int (4 : Int32)), .val (.int p2), .val (.int (1 : Int32))] [(.ref ar)])) st6 ?_
  refine own_go (x' := T6.setTop (mkF m 12 #[.val (.ref ao0), .val (.int (4 : Int32)), .val (.int p2), .val (.int (1 : Int32))] [(.int (1 : Int32)), (.ref ar)])) (fun _ k => XS.iloadN X6.here hx rfl (hb hby d3_11) rfl k) ?_
  obtain ⟨cl7, Ar7, q7, Sz7, Nn7, Hh7, Gg7⟩ := id V_ar
  have hin7 : ¬ ((1 : Int32) < 0 ∨ cl7.slots.size ≤ ((1 : Int32)).toNatClampNeg) := inb_of Sz7 ⟨by decide, by decide⟩
  refine own_go (x' := T6.setTop (mkF m 13 #[.val (.ref ao0), .val (.int (4 : Int32)), .val (.int p2), .val (.int (1 : Int32))] [.null])) (X6.aaload hx (j := (1 : Int32)) (v := .null) (Eq.trans (congrArg (fun h_ => h_[_]?) e6) Ar7.1) (State.isArrayOf_alike hZ.alike Ar7.2.1) rfl Ar7.2.2 hin7 (Hh7.at hin7 rfl) (g := (mkF m 12 #[.val (.ref ao0), .val (.int (4 : Int32)), .val (.int p2), .val (.int (1 : Int32))] [(.int (1 : Int32)), (.ref ar)])) rfl rfl (hb hby d3_12)) ?_
  refine own_go (x' := T6.setTop (mkF m 28 #[.val (.ref ao0), .val (.int (4 : Int32)), .val (.int p2), .val (.int (1 : Int32))] [(.ref ao0)])) (fun _ k => XS.ifnullYes X6.here hx rfl (pc0 := 13) (pc' := 27) rfl (hb hby d3_13) rfl (by decide) (by decide) (XS.aloadN X6.here hx rfl (hb hby d3_27) rfl rfl k)) ?_
  obtain ⟨T8, X8, e8, st8⟩ := getF X6 hx hZ hown (host := "") (Or.inl (own_w hw 17 rfl)) Via.refl e6 F_ao0_chars (g := (mkF m 28 #[.val (.ref ao0), .val (.int (4 : Int32)), .val (.int p2), .val (.int (1 : Int32))] [(.ref ao0)])) rfl rfl (hb hby d3_28)
  refine own_go (x' := T8.setTop (mkF m 31 #[.val (.ref ao0), .val (.int (4 : Int32)), .val (.int p2), .val (.int (1 : Int32))] [(.ref ar)])) st8 ?_
  refine own_go (x' := T8.setTop (mkF m 33 #[.val (.ref ao0), .val (.int (4 : Int32)), .val (.int p2), .val (.int (1 : Int32))] [(.int p2), (.int (1 : Int32)), (.ref ar)])) (fun _ k => XS.iloadN X8.here hx rfl (hb hby d3_31) rfl (XS.iloadN X8.here hx rfl (hb hby d3_32) rfl k)) ?_
  obtain ⟨T9, h9, k9, X9, e9, E9, A9, Q9, st9⟩ := newPE X8 hx hZ (own_w hw 34 rfl) e8 (g := (mkF m 33 #[.val (.ref ao0), .val (.int (4 : Int32)), .val (.int p2), .val (.int (1 : Int32))] [(.int p2), (.int (1 : Int32)), (.ref ar)])) rfl (hb hby d3_33) rfl hs.1 (cap := 31) hs.2 (by decide) (by decide) (by decide) (ad := "[C") (by decide)
  obtain ⟨b9, g9⟩ : ∃ z, z = h5.size := ⟨_, rfl⟩
  rw [← g9] at A9 st9
  rw [← g9] at Q9
  have ne_ao0_b9 : ao0 ≠ b9 := Nat.ne_of_lt (Nat.lt_of_lt_of_le F_ao0_chars.lt (Nat.le_of_eq g9.symm))
  have ne_b4_b9 : b4 ≠ b9 := Nat.ne_of_lt (Nat.lt_of_lt_of_le E_b4.lt (Nat.le_of_eq g9.symm))
  have ne_ar_b9 : ar ≠ b9 := Nat.ne_of_lt (Nat.lt_of_lt_of_le V_ar.lt (Nat.le_of_eq g9.symm))
  have g_b9 : n0 ≤ b9 := Nat.le_trans Zs (Nat.le_of_eq g9.symm)
  have sz_b9 : h0.size ≤ b9 := Nat.le_trans Kp.1 (Nat.le_of_eq g9.symm)
  replace F_ao0_chars := Fld.ext E9 F_ao0_chars
  replace E_b4 := Exa.ext E9 E_b4
  replace V_b4 := V_b4.ext E9
  replace V_ar := V_ar.ext E9
  replace Zs := Nat.le_trans Zs E9.1
  replace Kp := Kp.ext E9
  have E_b9 := Q9
  have V_b9 : Arv Z h9 b9 k9 .char p2 [] (.int (0 : Int32)) := Arv.new A9 hs.1
  refine own_go (x' := T9.setTop (mkF m 35 #[.val (.ref ao0), .val (.int (4 : Int32)), .val (.int p2), .val (.int (1 : Int32))] [(.ref b9), (.int (1 : Int32)), (.ref ar)])) st9 ?_
  obtain ⟨cl10, Ar10, q10, Sz10, Nn10, Hh10, Gg10⟩ := V_ar
  have hin10 : ¬ ((1 : Int32) < 0 ∨ cl10.slots.size ≤ ((1 : Int32)).toNatClampNeg) := inb_of Sz10 ⟨by decide, by decide⟩
  obtain ⟨T10, h10, X10, e10, W10, st10⟩ := stR X9 hx hZ e9 Ar10 (j := (1 : Int32)) hin10 rfl (Sto.ofVA Ar10 q10 O_ar (Ins.self E_b9)) (g := (mkF m 35 #[.val (.ref ao0), .val (.int (4 : Int32)), .val (.int p2), .val (.int (1 : Int32))] [(.ref b9), (.int (1 : Int32)), (.ref ar)])) rfl rfl (hb hby d3_35)
  refine own_go (x' := T10.setTop (mkF m 36 #[.val (.ref ao0), .val (.int (4 : Int32)), .val (.int p2), .val (.int (1 : Int32))] [])) st10 ?_
  replace F_ao0_chars := Fld.other W10 F_ao0_chars (Or.inl ne_ao0_ar)
  replace E_b4 := Exa.wr W10 E_b4
  replace V_b4 := V_b4.other W10 (Ne.symm ne_ar_b4)
  replace E_b9 := Exa.wr W10 E_b9
  replace V_b9 := V_b9.other W10 (Ne.symm ne_ar_b9)
  replace Zs := Nat.le_trans Zs (Keep.of_wr W10).1
  replace Nf := Fr.snoc X10 Nf g_ar
  replace Kp := Kp.wr W10 (Or.inl (by simp))
  have V_ar : Arv Z h10 ar kc (.array .char) (4 : Int32) [(.ref b4), (.ref b9), .null, .null] .null := Arv.set Ar10 q10 Sz10 Nn10 Hh10 Gg10 rfl W10 1 rfl (Nat.le_of_ble_eq_true rfl)
  refine own_go (x' := T10.setTop (mkF m 2 #[.val (.ref ao0), .val (.int (4 : Int32)), .val (.int p2), .val (.int ((1 : Int32) + (1 : Int32)))] [])) (fun _ k => XS.iinc X10.here hx rfl (hb hby d3_36) rfl (l' := #[.val (.ref ao0), .val (.int (4 : Int32)), .val (.int p2), .val (.int ((1 : Int32) + (1 : Int32)))]) rfl (XS.goto X10.here hx rfl (pc0 := 39) (pc' := 2) rfl (hb hby d3_39) (by decide) (by decide) k)) ?_
  rw [show ((1 : Int32) + (1 : Int32)) = (2 : Int32) from by decide +kernel]
  refine own_go (x' := T10.setTop (mkF m 8 #[.val (.ref ao0), .val (.int (4 : Int32)), .val (.int p2), .val (.int (2 : Int32))] [(.ref ao0)])) (fun _ k => XS.iloadN X10.here hx rfl (hb hby d3_2) rfl (XS.iloadN X10.here hx rfl (hb hby d3_3) rfl (XS.icmpNo X10.here hx rfl (hb hby d3_4) rfl (tlt (by decide +kernel : ((2 : Int32) < (4 : Int32)))).2.1 (XS.aloadN X10.here hx rfl (hb hby d3_7) rfl rfl k)))) ?_
  obtain ⟨T11, X11, e11, st11⟩ := getF X10 hx hZ hown (host := "") (Or.inl (own_w hw 17 rfl)) Via.refl e10 F_ao0_chars (g := (mkF m 8 #[.val (.ref ao0), .val (.int (4 : Int32)), .val (.int p2), .val (.int (2 : Int32))] [(.ref ao0)])) rfl rfl (hb hby d3_8)
  refine own_go (x' := T11.setTop (mkF m 11 #[.val (.ref ao0), .val (.int (4 : Int32)), .val (.int p2), .val (.int (2 : Int32))] [(.ref ar)])) st11 ?_
  refine own_go (x' := T11.setTop (mkF m 12 #[.val (.ref ao0), .val (.int (4 : Int32)), .val (.int p2), .val (.int (2 : Int32))] [(.int (2 : Int32)), (.ref ar)])) (fun _ k => XS.iloadN X11.here hx rfl (hb hby d3_11) rfl k) ?_
  obtain ⟨cl12, Ar12, q12, Sz12, Nn12, Hh12, Gg12⟩ := id V_ar
  have hin12 : ¬ ((2 : Int32) < 0 ∨ cl12.slots.size ≤ ((2 : Int32)).toNatClampNeg) := inb_of Sz12 ⟨by decide, by decide⟩
  refine own_go (x' := T11.setTop (mkF m 13 #[.val (.ref ao0), .val (.int (4 : Int32)), .val (.int p2), .val (.int (2 : Int32))] [.null])) (X11.aaload hx (j := (2 : Int32)) (v := .null) (Eq.trans (congrArg (fun h_ => h_[_]?) e11) Ar12.1) (State.isArrayOf_alike hZ.alike Ar12.2.1) rfl Ar12.2.2 hin12 (Hh12.at hin12 rfl) (g := (mkF m 12 #[.val (.ref ao0), .val (.int (4 : Int32)), .val (.int p2), .val (.int (2 : Int32))] [(.int (2 : Int32)), (.ref ar)])) rfl rfl (hb hby d3_12)) ?_
  refine own_go (x' := T11.setTop (mkF m 28 #[.val (.ref ao0), .val (.int (4 : Int32)), .val (.int p2), .val (.int (2 : Int32))] [(.ref ao0)])) (fun _ k => XS.ifnullYes X11.here hx rfl (pc0 := 13) (pc' := 27) rfl (hb hby d3_13) rfl (by decide) (by decide) (XS.aloadN X11.here hx rfl (hb hby d3_27) rfl rfl k)) ?_
  obtain ⟨T13, X13, e13, st13⟩ := getF X11 hx hZ hown (host := "") (Or.inl (own_w hw 17 rfl)) Via.refl e11 F_ao0_chars (g := (mkF m 28 #[.val (.ref ao0), .val (.int (4 : Int32)), .val (.int p2), .val (.int (2 : Int32))] [(.ref ao0)])) rfl rfl (hb hby d3_28)
  refine own_go (x' := T13.setTop (mkF m 31 #[.val (.ref ao0), .val (.int (4 : Int32)), .val (.int p2), .val (.int (2 : Int32))] [(.ref ar)])) st13 ?_
  refine own_go (x' := T13.setTop (mkF m 33 #[.val (.ref ao0), .val (.int (4 : Int32)), .val (.int p2), .val (.int (2 : Int32))] [(.int p2), (.int (2 : Int32)), (.ref ar)])) (fun _ k => XS.iloadN X13.here hx rfl (hb hby d3_31) rfl (XS.iloadN X13.here hx rfl (hb hby d3_32) rfl k)) ?_
  obtain ⟨T14, h14, k14, X14, e14, E14, A14, Q14, st14⟩ := newPE X13 hx hZ (own_w hw 34 rfl) e13 (g := (mkF m 33 #[.val (.ref ao0), .val (.int (4 : Int32)), .val (.int p2), .val (.int (2 : Int32))] [(.int p2), (.int (2 : Int32)), (.ref ar)])) rfl (hb hby d3_33) rfl hs.1 (cap := 31) hs.2 (by decide) (by decide) (by decide) (ad := "[C") (by decide)
  obtain ⟨b14, g14⟩ : ∃ z, z = h10.size := ⟨_, rfl⟩
  rw [← g14] at A14 st14
  rw [← g14] at Q14
  have ne_ao0_b14 : ao0 ≠ b14 := Nat.ne_of_lt (Nat.lt_of_lt_of_le F_ao0_chars.lt (Nat.le_of_eq g14.symm))
  have ne_b4_b14 : b4 ≠ b14 := Nat.ne_of_lt (Nat.lt_of_lt_of_le E_b4.lt (Nat.le_of_eq g14.symm))
  have ne_b9_b14 : b9 ≠ b14 := Nat.ne_of_lt (Nat.lt_of_lt_of_le E_b9.lt (Nat.le_of_eq g14.symm))
  have ne_ar_b14 : ar ≠ b14 := Nat.ne_of_lt (Nat.lt_of_lt_of_le V_ar.lt (Nat.le_of_eq g14.symm))
  have g_b14 : n0 ≤ b14 := Nat.le_trans Zs (Nat.le_of_eq g14.symm)
  have sz_b14 : h0.size ≤ b14 := Nat.le_trans Kp.1 (Nat.le_of_eq g14.symm)
  replace F_ao0_chars := Fld.ext E14 F_ao0_chars
  replace E_b4 := Exa.ext E14 E_b4
  replace V_b4 := V_b4.ext E14
  replace E_b9 := Exa.ext E14 E_b9
  replace V_b9 := V_b9.ext E14
  replace V_ar := V_ar.ext E14
  replace Zs := Nat.le_trans Zs E14.1
  replace Kp := Kp.ext E14
  have E_b14 := Q14
  have V_b14 : Arv Z h14 b14 k14 .char p2 [] (.int (0 : Int32)) := Arv.new A14 hs.1
  refine own_go (x' := T14.setTop (mkF m 35 #[.val (.ref ao0), .val (.int (4 : Int32)), .val (.int p2), .val (.int (2 : Int32))] [(.ref b14), (.int (2 : Int32)), (.ref ar)])) st14 ?_
  obtain ⟨cl15, Ar15, q15, Sz15, Nn15, Hh15, Gg15⟩ := V_ar
  have hin15 : ¬ ((2 : Int32) < 0 ∨ cl15.slots.size ≤ ((2 : Int32)).toNatClampNeg) := inb_of Sz15 ⟨by decide, by decide⟩
  obtain ⟨T15, h15, X15, e15, W15, st15⟩ := stR X14 hx hZ e14 Ar15 (j := (2 : Int32)) hin15 rfl (Sto.ofVA Ar15 q15 O_ar (Ins.self E_b14)) (g := (mkF m 35 #[.val (.ref ao0), .val (.int (4 : Int32)), .val (.int p2), .val (.int (2 : Int32))] [(.ref b14), (.int (2 : Int32)), (.ref ar)])) rfl rfl (hb hby d3_35)
  refine own_go (x' := T15.setTop (mkF m 36 #[.val (.ref ao0), .val (.int (4 : Int32)), .val (.int p2), .val (.int (2 : Int32))] [])) st15 ?_
  replace F_ao0_chars := Fld.other W15 F_ao0_chars (Or.inl ne_ao0_ar)
  replace E_b4 := Exa.wr W15 E_b4
  replace V_b4 := V_b4.other W15 (Ne.symm ne_ar_b4)
  replace E_b9 := Exa.wr W15 E_b9
  replace V_b9 := V_b9.other W15 (Ne.symm ne_ar_b9)
  replace E_b14 := Exa.wr W15 E_b14
  replace V_b14 := V_b14.other W15 (Ne.symm ne_ar_b14)
  replace Zs := Nat.le_trans Zs (Keep.of_wr W15).1
  replace Nf := Fr.snoc X15 Nf g_ar
  replace Kp := Kp.wr W15 (Or.inl (by simp))
  have V_ar : Arv Z h15 ar kc (.array .char) (4 : Int32) [(.ref b4), (.ref b9), (.ref b14), .null] .null := Arv.set Ar15 q15 Sz15 Nn15 Hh15 Gg15 rfl W15 2 rfl (Nat.le_of_ble_eq_true rfl)
  refine own_go (x' := T15.setTop (mkF m 2 #[.val (.ref ao0), .val (.int (4 : Int32)), .val (.int p2), .val (.int ((2 : Int32) + (1 : Int32)))] [])) (fun _ k => XS.iinc X15.here hx rfl (hb hby d3_36) rfl (l' := #[.val (.ref ao0), .val (.int (4 : Int32)), .val (.int p2), .val (.int ((2 : Int32) + (1 : Int32)))]) rfl (XS.goto X15.here hx rfl (pc0 := 39) (pc' := 2) rfl (hb hby d3_39) (by decide) (by decide) k)) ?_
  rw [show ((2 : Int32) + (1 : Int32)) = (3 : Int32) from by decide +kernel]
  refine own_go (x' := T15.setTop (mkF m 8 #[.val (.ref ao0), .val (.int (4 : Int32)), .val (.int p2), .val (.int (3 : Int32))] [(.ref ao0)])) (fun _ k => XS.iloadN X15.here hx rfl (hb hby d3_2) rfl (XS.iloadN X15.here hx rfl (hb hby d3_3) rfl (XS.icmpNo X15.here hx rfl (hb hby d3_4) rfl (tlt (by decide +kernel : ((3 : Int32) < (4 : Int32)))).2.1 (XS.aloadN X15.here hx rfl (hb hby d3_7) rfl rfl k)))) ?_
  obtain ⟨T16, X16, e16, st16⟩ := getF X15 hx hZ hown (host := "") (Or.inl (own_w hw 17 rfl)) Via.refl e15 F_ao0_chars (g := (mkF m 8 #[.val (.ref ao0), .val (.int (4 : Int32)), .val (.int p2), .val (.int (3 : Int32))] [(.ref ao0)])) rfl rfl (hb hby d3_8)
  refine own_go (x' := T16.setTop (mkF m 11 #[.val (.ref ao0), .val (.int (4 : Int32)), .val (.int p2), .val (.int (3 : Int32))] [(.ref ar)])) st16 ?_
  refine own_go (x' := T16.setTop (mkF m 12 #[.val (.ref ao0), .val (.int (4 : Int32)), .val (.int p2), .val (.int (3 : Int32))] [(.int (3 : Int32)), (.ref ar)])) (fun _ k => XS.iloadN X16.here hx rfl (hb hby d3_11) rfl k) ?_
  obtain ⟨cl17, Ar17, q17, Sz17, Nn17, Hh17, Gg17⟩ := id V_ar
  have hin17 : ¬ ((3 : Int32) < 0 ∨ cl17.slots.size ≤ ((3 : Int32)).toNatClampNeg) := inb_of Sz17 ⟨by decide, by decide⟩
  refine own_go (x' := T16.setTop (mkF m 13 #[.val (.ref ao0), .val (.int (4 : Int32)), .val (.int p2), .val (.int (3 : Int32))] [.null])) (X16.aaload hx (j := (3 : Int32)) (v := .null) (Eq.trans (congrArg (fun h_ => h_[_]?) e16) Ar17.1) (State.isArrayOf_alike hZ.alike Ar17.2.1) rfl Ar17.2.2 hin17 (Hh17.at hin17 rfl) (g := (mkF m 12 #[.val (.ref ao0), .val (.int (4 : Int32)), .val (.int p2), .val (.int (3 : Int32))] [(.int (3 : Int32)), (.ref ar)])) rfl rfl (hb hby d3_12)) ?_
  refine own_go (x' := T16.setTop (mkF m 28 #[.val (.ref ao0), .val (.int (4 : Int32)), .val (.int p2), .val (.int (3 : Int32))] [(.ref ao0)])) (fun _ k => XS.ifnullYes X16.here hx rfl (pc0 := 13) (pc' := 27) rfl (hb hby d3_13) rfl (by decide) (by decide) (XS.aloadN X16.here hx rfl (hb hby d3_27) rfl rfl k)) ?_
  obtain ⟨T18, X18, e18, st18⟩ := getF X16 hx hZ hown (host := "") (Or.inl (own_w hw 17 rfl)) Via.refl e16 F_ao0_chars (g := (mkF m 28 #[.val (.ref ao0), .val (.int (4 : Int32)), .val (.int p2), .val (.int (3 : Int32))] [(.ref ao0)])) rfl rfl (hb hby d3_28)
  refine own_go (x' := T18.setTop (mkF m 31 #[.val (.ref ao0), .val (.int (4 : Int32)), .val (.int p2), .val (.int (3 : Int32))] [(.ref ar)])) st18 ?_
  refine own_go (x' := T18.setTop (mkF m 33 #[.val (.ref ao0), .val (.int (4 : Int32)), .val (.int p2), .val (.int (3 : Int32))] [(.int p2), (.int (3 : Int32)), (.ref ar)])) (fun _ k => XS.iloadN X18.here hx rfl (hb hby d3_31) rfl (XS.iloadN X18.here hx rfl (hb hby d3_32) rfl k)) ?_
  obtain ⟨T19, h19, k19, X19, e19, E19, A19, Q19, st19⟩ := newPE X18 hx hZ (own_w hw 34 rfl) e18 (g := (mkF m 33 #[.val (.ref ao0), .val (.int (4 : Int32)), .val (.int p2), .val (.int (3 : Int32))] [(.int p2), (.int (3 : Int32)), (.ref ar)])) rfl (hb hby d3_33) rfl hs.1 (cap := 31) hs.2 (by decide) (by decide) (by decide) (ad := "[C") (by decide)
  obtain ⟨b19, g19⟩ : ∃ z, z = h15.size := ⟨_, rfl⟩
  rw [← g19] at A19 st19
  rw [← g19] at Q19
  have ne_ao0_b19 : ao0 ≠ b19 := Nat.ne_of_lt (Nat.lt_of_lt_of_le F_ao0_chars.lt (Nat.le_of_eq g19.symm))
  have ne_b4_b19 : b4 ≠ b19 := Nat.ne_of_lt (Nat.lt_of_lt_of_le E_b4.lt (Nat.le_of_eq g19.symm))
  have ne_b9_b19 : b9 ≠ b19 := Nat.ne_of_lt (Nat.lt_of_lt_of_le E_b9.lt (Nat.le_of_eq g19.symm))
  have ne_b14_b19 : b14 ≠ b19 := Nat.ne_of_lt (Nat.lt_of_lt_of_le E_b14.lt (Nat.le_of_eq g19.symm))
  have ne_ar_b19 : ar ≠ b19 := Nat.ne_of_lt (Nat.lt_of_lt_of_le V_ar.lt (Nat.le_of_eq g19.symm))
  have g_b19 : n0 ≤ b19 := Nat.le_trans Zs (Nat.le_of_eq g19.symm)
  have sz_b19 : h0.size ≤ b19 := Nat.le_trans Kp.1 (Nat.le_of_eq g19.symm)
  replace F_ao0_chars := Fld.ext E19 F_ao0_chars
  replace E_b4 := Exa.ext E19 E_b4
  replace V_b4 := V_b4.ext E19
  replace E_b9 := Exa.ext E19 E_b9
  replace V_b9 := V_b9.ext E19
  replace E_b14 := Exa.ext E19 E_b14
  replace V_b14 := V_b14.ext E19
  replace V_ar := V_ar.ext E19
  replace Zs := Nat.le_trans Zs E19.1
  replace Kp := Kp.ext E19
  have E_b19 := Q19
  have V_b19 : Arv Z h19 b19 k19 .char p2 [] (.int (0 : Int32)) := Arv.new A19 hs.1
  refine own_go (x' := T19.setTop (mkF m 35 #[.val (.ref ao0), .val (.int (4 : Int32)), .val (.int p2), .val (.int (3 : Int32))] [(.ref b19), (.int (3 : Int32)), (.ref ar)])) st19 ?_
  obtain ⟨cl20, Ar20, q20, Sz20, Nn20, Hh20, Gg20⟩ := V_ar
  have hin20 : ¬ ((3 : Int32) < 0 ∨ cl20.slots.size ≤ ((3 : Int32)).toNatClampNeg) := inb_of Sz20 ⟨by decide, by decide⟩
  obtain ⟨T20, h20, X20, e20, W20, st20⟩ := stR X19 hx hZ e19 Ar20 (j := (3 : Int32)) hin20 rfl (Sto.ofVA Ar20 q20 O_ar (Ins.self E_b19)) (g := (mkF m 35 #[.val (.ref ao0), .val (.int (4 : Int32)), .val (.int p2), .val (.int (3 : Int32))] [(.ref b19), (.int (3 : Int32)), (.ref ar)])) rfl rfl (hb hby d3_35)
  refine own_go (x' := T20.setTop (mkF m 36 #[.val (.ref ao0), .val (.int (4 : Int32)), .val (.int p2), .val (.int (3 : Int32))] [])) st20 ?_
  replace F_ao0_chars := Fld.other W20 F_ao0_chars (Or.inl ne_ao0_ar)
  replace E_b4 := Exa.wr W20 E_b4
  replace V_b4 := V_b4.other W20 (Ne.symm ne_ar_b4)
  replace E_b9 := Exa.wr W20 E_b9
  replace V_b9 := V_b9.other W20 (Ne.symm ne_ar_b9)
  replace E_b14 := Exa.wr W20 E_b14
  replace V_b14 := V_b14.other W20 (Ne.symm ne_ar_b14)
  replace E_b19 := Exa.wr W20 E_b19
  replace V_b19 := V_b19.other W20 (Ne.symm ne_ar_b19)
  replace Zs := Nat.le_trans Zs (Keep.of_wr W20).1
  replace Nf := Fr.snoc X20 Nf g_ar
  replace Kp := Kp.wr W20 (Or.inl (by simp))
  have V_ar : Arv Z h20 ar kc (.array .char) (4 : Int32) [(.ref b4), (.ref b9), (.ref b14), (.ref b19)] .null := Arv.set Ar20 q20 Sz20 Nn20 Hh20 Gg20 rfl W20 3 rfl (Nat.le_of_ble_eq_true rfl)
  refine own_go (x' := T20.setTop (mkF m 2 #[.val (.ref ao0), .val (.int (4 : Int32)), .val (.int p2), .val (.int ((3 : Int32) + (1 : Int32)))] [])) (fun _ k => XS.iinc X20.here hx rfl (hb hby d3_36) rfl (l' := #[.val (.ref ao0), .val (.int (4 : Int32)), .val (.int p2), .val (.int ((3 : Int32) + (1 : Int32)))]) rfl (XS.goto X20.here hx rfl (pc0 := 39) (pc' := 2) rfl (hb hby d3_39) (by decide) (by decide) k)) ?_
  rw [show ((3 : Int32) + (1 : Int32)) = (4 : Int32) from by decide +kernel]
  refine own_go (x' := T20.setTop (mkF m 43 #[.val (.ref ao0), .val (.int (4 : Int32)), .val (.int p2), .val (.int (4 : Int32))] [(.ref ao0)])) (fun _ k => XS.iloadN X20.here hx rfl (hb hby d3_2) rfl (XS.iloadN X20.here hx rfl (hb hby d3_3) rfl (XS.icmpYes X20.here hx rfl (pc0 := 4) (pc' := 42) rfl (hb hby d3_4) rfl (flt (Int32.lt_irrefl)).2.1 (by decide) (by decide) (XS.aloadN X20.here hx rfl (hb hby d3_42) rfl rfl k)))) ?_
  obtain ⟨T21, X21, e21, st21⟩ := getF X20 hx hZ hown (host := "") (Or.inl (own_w hw 17 rfl)) Via.refl e20 F_ao0_chars (g := (mkF m 43 #[.val (.ref ao0), .val (.int (4 : Int32)), .val (.int p2), .val (.int (4 : Int32))] [(.ref ao0)])) rfl rfl (hb hby d3_43)
  refine own_go (x' := T21.setTop (mkF m 46 #[.val (.ref ao0), .val (.int (4 : Int32)), .val (.int p2), .val (.int (4 : Int32))] [(.ref ar)])) st21 ?_
  refine own_retR X21 hx hlk hret rfl rfl (hb hby d3_46) ?_ (by decide) (by decide)
  rw [e21]
  exact ⟨b4, k4, b9, k9, b14, k14, b19, k19, rfl, Nf, Kp, F_ao0_chars, V_ar, sz_b4, g_b4, V_b4, sz_b9, g_b9, V_b9, sz_b14, g_b14, V_b14, sz_b19, g_b19, V_b19, ne_b4_b9, ne_b4_b14, ne_b4_b19, ne_b9_b14, ne_b9_b19, ne_b14_b19⟩
def Q_rmS_0 (Z : State) (ao0 : Addr) (p1 : Int32) (p2 : Int32) (ar : Addr) (kc : ClassId) (n1 mm : Int32) (h0 : Heap) (n0 : Nat) (v : Option Value) (h : Heap) (L : List Loc) : Prop := ∃ w0 w1 w2 w3 : Value, v = some (.ref ar) ∧ Fr n0 L ∧ Keep h0 h [ar] ∧ Arv Z h ar kc (.array .char) (4 : Int32) [w0, w1, w2, w3] .null ∧ own_Rn Z h w0 (0 : Int32) p1 p2 ∧ own_Rn Z h w1 (1 : Int32) p1 p2 ∧ own_Rn Z h w2 (2 : Int32) p1 p2 ∧ own_Rn Z h w3 (3 : Int32) p1 p2
theorem pn_rmS_0 : plainName "com/example/wee_match/weematch/Sieve$Windows" = true := by first | (simp [plainName, overriddenIn]; done) | decide +kernel
theorem ef_rmS_0 (m : MethodId) (x0 : Addr) (x1 : Int32) (x2 : Int32) : entryFrame m #[(.ref x0), (.int x1), (.int x2)] 4 = mkF m 0 #[.val (.ref x0), .val (.int x1), .val (.int x2), .unset] [] := by first | (simp [entryFrame, mkF, argsToLocals, Value.category]; done) | rfl
set_option maxRecDepth 65536 in
set_option maxHeartbeats 40000000 in
theorem rmS_0 (l : Launch) (Z : State) (a0 : Array Value) (hw : ∀ d ∈ tables_1, d.before a0 Z = true) (ws : List Jvm.Cond) (ao0 : Addr) (p1 : Int32) (p2 : Int32) (ar : Addr) (kc : ClassId) (n1 mm : Int32) (h0 : Heap) (n0 : Nat) (Z0 : n0 ≤ h0.size) (F_ao0_chars : Fld Z h0 ao0 "com/example/wee_match/weematch/Sieve$Windows" "chars" "[[C" (.ref ar)) (V_ar : Arv Z h0 ar kc (.array .char) (4 : Int32) [.null, .null, .null, .null] .null) (O_ar : OvrA Z kc .char "[C") (ne_ao0_ar : ao0 ≠ ar) (g_ar : n0 ≤ ar) (hs : own_L p2) (hu : ¬ (4 : Int32) < p1) :
    MetFree l (⟨"com/example/wee_match/weematch/Sieve$Windows", "chars", "(II)[[C"⟩ : MethodName) (head1 (Jvm.Cond.code (⟨"com/example/wee_match/weematch/Sieve$Windows", "chars", "(II)[[C"⟩ : MethodName) prog_20_method_9_code 4 (some (.array (.array .char))) :: ws) ({ frames := 0, cells := 4, slots := 124, locals := 0 } : Room)) (fun a U => a = #[(.ref ao0), (.int p1), (.int p2)] ∧ Z.Warmed39 U.vm ∧ U.heap = h0) (fun _ _ _ _ _ => True) (fun _ U o U' => ∃ v L, o = .returned v ∧ (Q_rmS_0 Z ao0 p1 p2 ar kc n1 mm h0 n0) v U'.heap L ∧ FrameEnd U o U' L ({ frames := 0, cells := 4, slots := 124, locals := 0 } : Room).cells ({ frames := 0, cells := 4, slots := 124, locals := 0 } : Room).slots) := by
  refine MetFree.of_bodySF (plainFor_of_name pn_rmS_0) hisR ?_
  intro p e s m args below meth c s₁ Bd hml0 hP hK
  obtain ⟨rfl, hZ, hh⟩ := hP
  have hx := Bd.exec
  have hby := Bd.bytes
  have hlk := BodyLoose.notSynchronized Bd
  have hret := Bd.returns
  have hml : c.maxLocals = 4 := hml0
  have hown : s.vm.findClass "com/example/wee_match/weematch/Sieve$Windows" = some m.cls := findClass_of_methodNamed Bd.named
  have hnm := (name_of_methodNamed Bd.named Bd.method).1
  have X0 : Stand p l e ({ frames := 0, cells := 4, slots := 124, locals := 0 } : Room) s m #[(.ref ao0), (.int p1), (.int p2)] below meth c s₁ [] 0 0 := Stand.of_body Bd
  have e0 : s₁.heap = h0 := by rw [← hh, Bd.state]; rfl
  have Nf := Fr.nil n0
  have Zs := Z0
  have Kp : Keep h0 h0 [ar] := Keep.refl _ _
  show own_End p e below s (Q_rmS_0 Z ao0 p1 p2 ar kc n1 mm h0 n0) ({ frames := 0, cells := 4, slots := 124, locals := 0 } : Room).cells ({ frames := 0, cells := 4, slots := 124, locals := 0 } : Room).slots (s₁.setTop (entryFrame m #[(.ref ao0), (.int p1), (.int p2)] 4))
  refine own_go (x' := s₁.setTop (mkF m 0 #[.val (.ref ao0), .val (.int p1), .val (.int p2), .unset] [])) (fun t k => castTop (ef_rmS_0 m ao0 p1 p2) k) ?_
  refine own_go (x' := s₁.setTop (mkF m 4 #[.val (.ref ao0), .val (.int p1), .val (.int p2), .val (.int (0 : Int32))] [(.int p1), (.int (0 : Int32))])) (fun _ k => XS.iconst X0.here hx rfl (hb hby d3_0) (XS.istoreN X0.here hx rfl (hb hby d3_1) rfl (l' := #[.val (.ref ao0), .val (.int p1), .val (.int p2), .val (.int (0 : Int32))]) rfl (XS.iloadN X0.here hx rfl (hb hby d3_2) rfl (XS.iloadN X0.here hx rfl (hb hby d3_3) rfl k)))) ?_
  by_cases hc4 : (0 : Int32) < p1
  · refine own_go (x' := s₁.setTop (mkF m 8 #[.val (.ref ao0), .val (.int p1), .val (.int p2), .val (.int (0 : Int32))] [(.ref ao0)])) (fun _ k => XS.icmpNo X0.here hx rfl (hb hby d3_4) rfl (tlt hc4).2.1 (XS.aloadN X0.here hx rfl (hb hby d3_7) rfl rfl k)) ?_
    obtain ⟨T1, X1, e1, st1⟩ := getF X0 hx hZ hown (host := "") (Or.inl (own_w hw 17 rfl)) Via.refl e0 F_ao0_chars (g := (mkF m 8 #[.val (.ref ao0), .val (.int p1), .val (.int p2), .val (.int (0 : Int32))] [(.ref ao0)])) rfl rfl (hb hby d3_8)
    refine own_go (x' := T1.setTop (mkF m 11 #[.val (.ref ao0), .val (.int p1), .val (.int p2), .val (.int (0 : Int32))] [(.ref ar)])) st1 ?_
    refine own_go (x' := T1.setTop (mkF m 12 #[.val (.ref ao0), .val (.int p1), .val (.int p2), .val (.int (0 : Int32))] [(.int (0 : Int32)), (.ref ar)])) (fun _ k => XS.iloadN X1.here hx rfl (hb hby d3_11) rfl k) ?_
    obtain ⟨cl2, Ar2, q2, Sz2, Nn2, Hh2, Gg2⟩ := id V_ar
    have hin2 : ¬ ((0 : Int32) < 0 ∨ cl2.slots.size ≤ ((0 : Int32)).toNatClampNeg) := inb_of Sz2 ⟨by decide, by decide⟩
    refine own_go (x' := T1.setTop (mkF m 13 #[.val (.ref ao0), .val (.int p1), .val (.int p2), .val (.int (0 : Int32))] [.null])) (X1.aaload hx (j := (0 : Int32)) (v := .null) (Eq.trans (congrArg (fun h_ => h_[_]?) e1) Ar2.1) (State.isArrayOf_alike hZ.alike Ar2.2.1) rfl Ar2.2.2 hin2 (Hh2.at hin2 rfl) (g := (mkF m 12 #[.val (.ref ao0), .val (.int p1), .val (.int p2), .val (.int (0 : Int32))] [(.int (0 : Int32)), (.ref ar)])) rfl rfl (hb hby d3_12)) ?_
    refine own_go (x' := T1.setTop (mkF m 28 #[.val (.ref ao0), .val (.int p1), .val (.int p2), .val (.int (0 : Int32))] [(.ref ao0)])) (fun _ k => XS.ifnullYes X1.here hx rfl (pc0 := 13) (pc' := 27) rfl (hb hby d3_13) rfl (by decide) (by decide) (XS.aloadN X1.here hx rfl (hb hby d3_27) rfl rfl k)) ?_
    obtain ⟨T3, X3, e3, st3⟩ := getF X1 hx hZ hown (host := "") (Or.inl (own_w hw 17 rfl)) Via.refl e1 F_ao0_chars (g := (mkF m 28 #[.val (.ref ao0), .val (.int p1), .val (.int p2), .val (.int (0 : Int32))] [(.ref ao0)])) rfl rfl (hb hby d3_28)
    refine own_go (x' := T3.setTop (mkF m 31 #[.val (.ref ao0), .val (.int p1), .val (.int p2), .val (.int (0 : Int32))] [(.ref ar)])) st3 ?_
    refine own_go (x' := T3.setTop (mkF m 33 #[.val (.ref ao0), .val (.int p1), .val (.int p2), .val (.int (0 : Int32))] [(.int p2), (.int (0 : Int32)), (.ref ar)])) (fun _ k => XS.iloadN X3.here hx rfl (hb hby d3_31) rfl (XS.iloadN X3.here hx rfl (hb hby d3_32) rfl k)) ?_
    obtain ⟨T4, h4, k4, X4, e4, E4, A4, Q4, st4⟩ := newPE X3 hx hZ (own_w hw 34 rfl) e3 (g := (mkF m 33 #[.val (.ref ao0), .val (.int p1), .val (.int p2), .val (.int (0 : Int32))] [(.int p2), (.int (0 : Int32)), (.ref ar)])) rfl (hb hby d3_33) rfl hs.1 (cap := 31) hs.2 (by decide) (by decide) (by decide) (ad := "[C") (by decide)
    obtain ⟨b4, g4⟩ : ∃ z, z = h0.size := ⟨_, rfl⟩
    rw [← g4] at A4 st4
    rw [← g4] at Q4
    have ne_ao0_b4 : ao0 ≠ b4 := Nat.ne_of_lt (Nat.lt_of_lt_of_le F_ao0_chars.lt (Nat.le_of_eq g4.symm))
    have ne_ar_b4 : ar ≠ b4 := Nat.ne_of_lt (Nat.lt_of_lt_of_le V_ar.lt (Nat.le_of_eq g4.symm))
    have g_b4 : n0 ≤ b4 := Nat.le_trans Zs (Nat.le_of_eq g4.symm)
    have sz_b4 : h0.size ≤ b4 := Nat.le_trans Kp.1 (Nat.le_of_eq g4.symm)
    replace F_ao0_chars := Fld.ext E4 F_ao0_chars
    replace V_ar := V_ar.ext E4
    replace Zs := Nat.le_trans Zs E4.1
    replace Kp := Kp.ext E4
    have E_b4 := Q4
    have V_b4 : Arv Z h4 b4 k4 .char p2 [] (.int (0 : Int32)) := Arv.new A4 hs.1
    refine own_go (x' := T4.setTop (mkF m 35 #[.val (.ref ao0), .val (.int p1), .val (.int p2), .val (.int (0 : Int32))] [(.ref b4), (.int (0 : Int32)), (.ref ar)])) st4 ?_
    obtain ⟨cl5, Ar5, q5, Sz5, Nn5, Hh5, Gg5⟩ := V_ar
    have hin5 : ¬ ((0 : Int32) < 0 ∨ cl5.slots.size ≤ ((0 : Int32)).toNatClampNeg) := inb_of Sz5 ⟨by decide, by decide⟩
    obtain ⟨T5, h5, X5, e5, W5, st5⟩ := stR X4 hx hZ e4 Ar5 (j := (0 : Int32)) hin5 rfl (Sto.ofVA Ar5 q5 O_ar (Ins.self E_b4)) (g := (mkF m 35 #[.val (.ref ao0), .val (.int p1), .val (.int p2), .val (.int (0 : Int32))] [(.ref b4), (.int (0 : Int32)), (.ref ar)])) rfl rfl (hb hby d3_35)
    refine own_go (x' := T5.setTop (mkF m 36 #[.val (.ref ao0), .val (.int p1), .val (.int p2), .val (.int (0 : Int32))] [])) st5 ?_
    replace F_ao0_chars := Fld.other W5 F_ao0_chars (Or.inl ne_ao0_ar)
    replace E_b4 := Exa.wr W5 E_b4
    replace V_b4 := V_b4.other W5 (Ne.symm ne_ar_b4)
    replace Zs := Nat.le_trans Zs (Keep.of_wr W5).1
    replace Nf := Fr.snoc X5 Nf g_ar
    replace Kp := Kp.wr W5 (Or.inl (by simp))
    have V_ar : Arv Z h5 ar kc (.array .char) (4 : Int32) [(.ref b4), .null, .null, .null] .null := Arv.set Ar5 q5 Sz5 Nn5 Hh5 Gg5 rfl W5 0 rfl (Nat.le_of_ble_eq_true rfl)
    refine own_go (x' := T5.setTop (mkF m 2 #[.val (.ref ao0), .val (.int p1), .val (.int p2), .val (.int ((0 : Int32) + (1 : Int32)))] [])) (fun _ k => XS.iinc X5.here hx rfl (hb hby d3_36) rfl (l' := #[.val (.ref ao0), .val (.int p1), .val (.int p2), .val (.int ((0 : Int32) + (1 : Int32)))]) rfl (XS.goto X5.here hx rfl (pc0 := 39) (pc' := 2) rfl (hb hby d3_39) (by decide) (by decide) k)) ?_
    rw [show ((0 : Int32) + (1 : Int32)) = (1 : Int32) from by decide +kernel]
    refine own_go (x' := T5.setTop (mkF m 4 #[.val (.ref ao0), .val (.int p1), .val (.int p2), .val (.int (1 : Int32))] [(.int p1), (.int (1 : Int32))])) (fun _ k => XS.iloadN X5.here hx rfl (hb hby d3_2) rfl (XS.iloadN X5.here hx rfl (hb hby d3_3) rfl k)) ?_
    by_cases hc4_6 : (1 : Int32) < p1
    · refine own_go (x' := T5.setTop (mkF m 8 #[.val (.ref ao0), .val (.int p1), .val (.int p2), .val (.int (1 : Int32))] [(.ref ao0)])) (fun _ k => XS.icmpNo X5.here hx rfl (hb hby d3_4) rfl (tlt hc4_6).2.1 (XS.aloadN X5.here hx rfl (hb hby d3_7) rfl rfl k)) ?_
      obtain ⟨T7, X7, e7, st7⟩ := getF X5 hx hZ hown (host := "") (Or.inl (own_w hw 17 rfl)) Via.refl e5 F_ao0_chars (g := (mkF m 8 #[.val (.ref ao0), .val (.int p1), .val (.int p2), .val (.int (1 : Int32))] [(.ref ao0)])) rfl rfl (hb hby d3_8)
      refine own_go (x' := T7.setTop (mkF m 11 #[.val (.ref ao0), .val (.int p1), .val (.int p2), .val (.int (1 : Int32))] [(.ref ar)])) st7 ?_
      refine own_go (x' := T7.setTop (mkF m 12 #[.val (.ref ao0), .val (.int p1), .val (.int p2), .val (.int (1 : Int32))] [(.int (1 : Int32)), (.ref ar)])) (fun _ k => XS.iloadN X7.here hx rfl (hb hby d3_11) rfl k) ?_
      obtain ⟨cl8, Ar8, q8, Sz8, Nn8, Hh8, Gg8⟩ := id V_ar
      have hin8 : ¬ ((1 : Int32) < 0 ∨ cl8.slots.size ≤ ((1 : Int32)).toNatClampNeg) := inb_of Sz8 ⟨by decide, by decide⟩
      refine own_go (x' := T7.setTop (mkF m 13 #[.val (.ref ao0), .val (.int p1), .val (.int p2), .val (.int (1 : Int32))] [.null])) (X7.aaload hx (j := (1 : Int32)) (v := .null) (Eq.trans (congrArg (fun h_ => h_[_]?) e7) Ar8.1) (State.isArrayOf_alike hZ.alike Ar8.2.1) rfl Ar8.2.2 hin8 (Hh8.at hin8 rfl) (g := (mkF m 12 #[.val (.ref ao0), .val (.int p1), .val (.int p2), .val (.int (1 : Int32))] [(.int (1 : Int32)), (.ref ar)])) rfl rfl (hb hby d3_12)) ?_
      refine own_go (x' := T7.setTop (mkF m 28 #[.val (.ref ao0), .val (.int p1), .val (.int p2), .val (.int (1 : Int32))] [(.ref ao0)])) (fun _ k => XS.ifnullYes X7.here hx rfl (pc0 := 13) (pc' := 27) rfl (hb hby d3_13) rfl (by decide) (by decide) (XS.aloadN X7.here hx rfl (hb hby d3_27) rfl rfl k)) ?_
      obtain ⟨T9, X9, e9, st9⟩ := getF X7 hx hZ hown (host := "") (Or.inl (own_w hw 17 rfl)) Via.refl e7 F_ao0_chars (g := (mkF m 28 #[.val (.ref ao0), .val (.int p1), .val (.int p2), .val (.int (1 : Int32))] [(.ref ao0)])) rfl rfl (hb hby d3_28)
      refine own_go (x' := T9.setTop (mkF m 31 #[.val (.ref ao0), .val (.int p1), .val (.int p2), .val (.int (1 : Int32))] [(.ref ar)])) st9 ?_
      refine own_go (x' := T9.setTop (mkF m 33 #[.val (.ref ao0), .val (.int p1), .val (.int p2), .val (.int (1 : Int32))] [(.int p2), (.int (1 : Int32)), (.ref ar)])) (fun _ k => XS.iloadN X9.here hx rfl (hb hby d3_31) rfl (XS.iloadN X9.here hx rfl (hb hby d3_32) rfl k)) ?_
      obtain ⟨T10, h10, k10, X10, e10, E10, A10, Q10, st10⟩ := newPE X9 hx hZ (own_w hw 34 rfl) e9 (g := (mkF m 33 #[.val (.ref ao0), .val (.int p1), .val (.int p2), .val (.int (1 : Int32))] [(.int p2), (.int (1 : Int32)), (.ref ar)])) rfl (hb hby d3_33) rfl hs.1 (cap := 31) hs.2 (by decide) (by decide) (by decide) (ad := "[C") (by decide)
      obtain ⟨b10, g10⟩ : ∃ z, z = h5.size := ⟨_, rfl⟩
      rw [← g10] at A10 st10
      rw [← g10] at Q10
      have ne_ao0_b10 : ao0 ≠ b10 := Nat.ne_of_lt (Nat.lt_of_lt_of_le F_ao0_chars.lt (Nat.le_of_eq g10.symm))
      have ne_b4_b10 : b4 ≠ b10 := Nat.ne_of_lt (Nat.lt_of_lt_of_le E_b4.lt (Nat.le_of_eq g10.symm))
      have ne_ar_b10 : ar ≠ b10 := Nat.ne_of_lt (Nat.lt_of_lt_of_le V_ar.lt (Nat.le_of_eq g10.symm))
      have g_b10 : n0 ≤ b10 := Nat.le_trans Zs (Nat.le_of_eq g10.symm)
      have sz_b10 : h0.size ≤ b10 := Nat.le_trans Kp.1 (Nat.le_of_eq g10.symm)
      replace F_ao0_chars := Fld.ext E10 F_ao0_chars
      replace E_b4 := Exa.ext E10 E_b4
      replace V_b4 := V_b4.ext E10
      replace V_ar := V_ar.ext E10
      replace Zs := Nat.le_trans Zs E10.1
      replace Kp := Kp.ext E10
      have E_b10 := Q10
      have V_b10 : Arv Z h10 b10 k10 .char p2 [] (.int (0 : Int32)) := Arv.new A10 hs.1
      refine own_go (x' := T10.setTop (mkF m 35 #[.val (.ref ao0), .val (.int p1), .val (.int p2), .val (.int (1 : Int32))] [(.ref b10), (.int (1 : Int32)), (.ref ar)])) st10 ?_
      obtain ⟨cl11, Ar11, q11, Sz11, Nn11, Hh11, Gg11⟩ := V_ar
      have hin11 : ¬ ((1 : Int32) < 0 ∨ cl11.slots.size ≤ ((1 : Int32)).toNatClampNeg) := inb_of Sz11 ⟨by decide, by decide⟩
      obtain ⟨T11, h11, X11, e11, W11, st11⟩ := stR X10 hx hZ e10 Ar11 (j := (1 : Int32)) hin11 rfl (Sto.ofVA Ar11 q11 O_ar (Ins.self E_b10)) (g := (mkF m 35 #[.val (.ref ao0), .val (.int p1), .val (.int p2), .val (.int (1 : Int32))] [(.ref b10), (.int (1 : Int32)), (.ref ar)])) rfl rfl (hb hby d3_35)
      refine own_go (x' := T11.setTop (mkF m 36 #[.val (.ref ao0), .val (.int p1), .val (.int p2), .val (.int (1 : Int32))] [])) st11 ?_
      replace F_ao0_chars := Fld.other W11 F_ao0_chars (Or.inl ne_ao0_ar)
      replace E_b4 := Exa.wr W11 E_b4
      replace V_b4 := V_b4.other W11 (Ne.symm ne_ar_b4)
      replace E_b10 := Exa.wr W11 E_b10
      replace V_b10 := V_b10.other W11 (Ne.symm ne_ar_b10)
      replace Zs := Nat.le_trans Zs (Keep.of_wr W11).1
      replace Nf := Fr.snoc X11 Nf g_ar
      replace Kp := Kp.wr W11 (Or.inl (by simp))
      have V_ar : Arv Z h11 ar kc (.array .char) (4 : Int32) [(.ref b4), (.ref b10), .null, .null] .null := Arv.set Ar11 q11 Sz11 Nn11 Hh11 Gg11 rfl W11 1 rfl (Nat.le_of_ble_eq_true rfl)
      refine own_go (x' := T11.setTop (mkF m 2 #[.val (.ref ao0), .val (.int p1), .val (.int p2), .val (.int ((1 : Int32) + (1 : Int32)))] [])) (fun _ k => XS.iinc X11.here hx rfl (hb hby d3_36) rfl (l' := #[.val (.ref ao0), .val (.int p1), .val (.int p2), .val (.int ((1 : Int32) + (1 : Int32)))]) rfl (XS.goto X11.here hx rfl (pc0 := 39) (pc' := 2) rfl (hb hby d3_39) (by decide) (by decide) k)) ?_
      rw [show ((1 : Int32) + (1 : Int32)) = (2 : Int32) from by decide +kernel]
      refine own_go (x' := T11.setTop (mkF m 4 #[.val (.ref ao0), .val (.int p1), .val (.int p2), .val (.int (2 : Int32))] [(.int p1), (.int (2 : Int32))])) (fun _ k => XS.iloadN X11.here hx rfl (hb hby d3_2) rfl (XS.iloadN X11.here hx rfl (hb hby d3_3) rfl k)) ?_
      by_cases hc4_12 : (2 : Int32) < p1
      · refine own_go (x' := T11.setTop (mkF m 8 #[.val (.ref ao0), .val (.int p1), .val (.int p2), .val (.int (2 : Int32))] [(.ref ao0)])) (fun _ k => XS.icmpNo X11.here hx rfl (hb hby d3_4) rfl (tlt hc4_12).2.1 (XS.aloadN X11.here hx rfl (hb hby d3_7) rfl rfl k)) ?_
        obtain ⟨T13, X13, e13, st13⟩ := getF X11 hx hZ hown (host := "") (Or.inl (own_w hw 17 rfl)) Via.refl e11 F_ao0_chars (g := (mkF m 8 #[.val (.ref ao0), .val (.int p1), .val (.int p2), .val (.int (2 : Int32))] [(.ref ao0)])) rfl rfl (hb hby d3_8)
        refine own_go (x' := T13.setTop (mkF m 11 #[.val (.ref ao0), .val (.int p1), .val (.int p2), .val (.int (2 : Int32))] [(.ref ar)])) st13 ?_
        refine own_go (x' := T13.setTop (mkF m 12 #[.val (.ref ao0), .val (.int p1), .val (.int p2), .val (.int (2 : Int32))] [(.int (2 : Int32)), (.ref ar)])) (fun _ k => XS.iloadN X13.here hx rfl (hb hby d3_11) rfl k) ?_
        obtain ⟨cl14, Ar14, q14, Sz14, Nn14, Hh14, Gg14⟩ := id V_ar
        have hin14 : ¬ ((2 : Int32) < 0 ∨ cl14.slots.size ≤ ((2 : Int32)).toNatClampNeg) := inb_of Sz14 ⟨by decide, by decide⟩
        refine own_go (x' := T13.setTop (mkF m 13 #[.val (.ref ao0), .val (.int p1), .val (.int p2), .val (.int (2 : Int32))] [.null])) (X13.aaload hx (j := (2 : Int32)) (v := .null) (Eq.trans (congrArg (fun h_ => h_[_]?) e13) Ar14.1) (State.isArrayOf_alike hZ.alike Ar14.2.1) rfl Ar14.2.2 hin14 (Hh14.at hin14 rfl) (g := (mkF m 12 #[.val (.ref ao0), .val (.int p1), .val (.int p2), .val (.int (2 : Int32))] [(.int (2 : Int32)), (.ref ar)])) rfl rfl (hb hby d3_12)) ?_
        refine own_go (x' := T13.setTop (mkF m 28 #[.val (.ref ao0), .val (.int p1), .val (.int p2), .val (.int (2 : Int32))] [(.ref ao0)])) (fun _ k => XS.ifnullYes X13.here hx rfl (pc0 := 13) (pc' := 27) rfl (hb hby d3_13) rfl (by decide) (by decide) (XS.aloadN X13.here hx rfl (hb hby d3_27) rfl rfl k)) ?_
        obtain ⟨T15, X15, e15, st15⟩ := getF X13 hx hZ hown (host := "") (Or.inl (own_w hw 17 rfl)) Via.refl e13 F_ao0_chars (g := (mkF m 28 #[.val (.ref ao0), .val (.int p1), .val (.int p2), .val (.int (2 : Int32))] [(.ref ao0)])) rfl rfl (hb hby d3_28)
        refine own_go (x' := T15.setTop (mkF m 31 #[.val (.ref ao0), .val (.int p1), .val (.int p2), .val (.int (2 : Int32))] [(.ref ar)])) st15 ?_
        refine own_go (x' := T15.setTop (mkF m 33 #[.val (.ref ao0), .val (.int p1), .val (.int p2), .val (.int (2 : Int32))] [(.int p2), (.int (2 : Int32)), (.ref ar)])) (fun _ k => XS.iloadN X15.here hx rfl (hb hby d3_31) rfl (XS.iloadN X15.here hx rfl (hb hby d3_32) rfl k)) ?_
        obtain ⟨T16, h16, k16, X16, e16, E16, A16, Q16, st16⟩ := newPE X15 hx hZ (own_w hw 34 rfl) e15 (g := (mkF m 33 #[.val (.ref ao0), .val (.int p1), .val (.int p2), .val (.int (2 : Int32))] [(.int p2), (.int (2 : Int32)), (.ref ar)])) rfl (hb hby d3_33) rfl hs.1 (cap := 31) hs.2 (by decide) (by decide) (by decide) (ad := "[C") (by decide)
        obtain ⟨b16, g16⟩ : ∃ z, z = h11.size := ⟨_, rfl⟩
        rw [← g16] at A16 st16
        rw [← g16] at Q16
        have ne_ao0_b16 : ao0 ≠ b16 := Nat.ne_of_lt (Nat.lt_of_lt_of_le F_ao0_chars.lt (Nat.le_of_eq g16.symm))
        have ne_b4_b16 : b4 ≠ b16 := Nat.ne_of_lt (Nat.lt_of_lt_of_le E_b4.lt (Nat.le_of_eq g16.symm))
        have ne_b10_b16 : b10 ≠ b16 := Nat.ne_of_lt (Nat.lt_of_lt_of_le E_b10.lt (Nat.le_of_eq g16.symm))
        have ne_ar_b16 : ar ≠ b16 := Nat.ne_of_lt (Nat.lt_of_lt_of_le V_ar.lt (Nat.le_of_eq g16.symm))
        have g_b16 : n0 ≤ b16 := Nat.le_trans Zs (Nat.le_of_eq g16.symm)
        have sz_b16 : h0.size ≤ b16 := Nat.le_trans Kp.1 (Nat.le_of_eq g16.symm)
        replace F_ao0_chars := Fld.ext E16 F_ao0_chars
        replace E_b4 := Exa.ext E16 E_b4
        replace V_b4 := V_b4.ext E16
        replace E_b10 := Exa.ext E16 E_b10
        replace V_b10 := V_b10.ext E16
        replace V_ar := V_ar.ext E16
        replace Zs := Nat.le_trans Zs E16.1
        replace Kp := Kp.ext E16
        have E_b16 := Q16
        have V_b16 : Arv Z h16 b16 k16 .char p2 [] (.int (0 : Int32)) := Arv.new A16 hs.1
        refine own_go (x' := T16.setTop (mkF m 35 #[.val (.ref ao0), .val (.int p1), .val (.int p2), .val (.int (2 : Int32))] [(.ref b16), (.int (2 : Int32)), (.ref ar)])) st16 ?_
        obtain ⟨cl17, Ar17, q17, Sz17, Nn17, Hh17, Gg17⟩ := V_ar
        have hin17 : ¬ ((2 : Int32) < 0 ∨ cl17.slots.size ≤ ((2 : Int32)).toNatClampNeg) := inb_of Sz17 ⟨by decide, by decide⟩
        obtain ⟨T17, h17, X17, e17, W17, st17⟩ := stR X16 hx hZ e16 Ar17 (j := (2 : Int32)) hin17 rfl (Sto.ofVA Ar17 q17 O_ar (Ins.self E_b16)) (g := (mkF m 35 #[.val (.ref ao0), .val (.int p1), .val (.int p2), .val (.int (2 : Int32))] [(.ref b16), (.int (2 : Int32)), (.ref ar)])) rfl rfl (hb hby d3_35)
        refine own_go (x' := T17.setTop (mkF m 36 #[.val (.ref ao0), .val (.int p1), .val (.int p2), .val (.int (2 : Int32))] [])) st17 ?_
        replace F_ao0_chars := Fld.other W17 F_ao0_chars (Or.inl ne_ao0_ar)
        replace E_b4 := Exa.wr W17 E_b4
        replace V_b4 := V_b4.other W17 (Ne.symm ne_ar_b4)
        replace E_b10 := Exa.wr W17 E_b10
        replace V_b10 := V_b10.other W17 (Ne.symm ne_ar_b10)
        replace E_b16 := Exa.wr W17 E_b16
        replace V_b16 := V_b16.other W17 (Ne.symm ne_ar_b16)
        replace Zs := Nat.le_trans Zs (Keep.of_wr W17).1
        replace Nf := Fr.snoc X17 Nf g_ar
        replace Kp := Kp.wr W17 (Or.inl (by simp))
        have V_ar : Arv Z h17 ar kc (.array .char) (4 : Int32) [(.ref b4), (.ref b10), (.ref b16), .null] .null := Arv.set Ar17 q17 Sz17 Nn17 Hh17 Gg17 rfl W17 2 rfl (Nat.le_of_ble_eq_true rfl)
        refine own_go (x' := T17.setTop (mkF m 2 #[.val (.ref ao0), .val (.int p1), .val (.int p2), .val (.int ((2 : Int32) + (1 : Int32)))] [])) (fun _ k => XS.iinc X17.here hx rfl (hb hby d3_36) rfl (l' := #[.val (.ref ao0), .val (.int p1), .val (.int p2), .val (.int ((2 : Int32) + (1 : Int32)))]) rfl (XS.goto X17.here hx rfl (pc0 := 39) (pc' := 2) rfl (hb hby d3_39) (by decide) (by decide) k)) ?_
        rw [show ((2 : Int32) + (1 : Int32)) = (3 : Int32) from by decide +kernel]
        refine own_go (x' := T17.setTop (mkF m 4 #[.val (.ref ao0), .val (.int p1), .val (.int p2), .val (.int (3 : Int32))] [(.int p1), (.int (3 : Int32))])) (fun _ k => XS.iloadN X17.here hx rfl (hb hby d3_2) rfl (XS.iloadN X17.here hx rfl (hb hby d3_3) rfl k)) ?_
        by_cases hc4_18 : (3 : Int32) < p1
        · refine own_go (x' := T17.setTop (mkF m 8 #[.val (.ref ao0), .val (.int p1), .val (.int p2), .val (.int (3 : Int32))] [(.ref ao0)])) (fun _ k => XS.icmpNo X17.here hx rfl (hb hby d3_4) rfl (tlt hc4_18).2.1 (XS.aloadN X17.here hx rfl (hb hby d3_7) rfl rfl k)) ?_
          obtain ⟨T19, X19, e19, st19⟩ := getF X17 hx hZ hown (host := "") (Or.inl (own_w hw 17 rfl)) Via.refl e17 F_ao0_chars (g := (mkF m 8 #[.val (.ref ao0), .val (.int p1), .val (.int p2), .val (.int (3 : Int32))] [(.ref ao0)])) rfl rfl (hb hby d3_8)
          refine own_go (x' := T19.setTop (mkF m 11 #[.val (.ref ao0), .val (.int p1), .val (.int p2), .val (.int (3 : Int32))] [(.ref ar)])) st19 ?_
          refine own_go (x' := T19.setTop (mkF m 12 #[.val (.ref ao0), .val (.int p1), .val (.int p2), .val (.int (3 : Int32))] [(.int (3 : Int32)), (.ref ar)])) (fun _ k => XS.iloadN X19.here hx rfl (hb hby d3_11) rfl k) ?_
          obtain ⟨cl20, Ar20, q20, Sz20, Nn20, Hh20, Gg20⟩ := id V_ar
          have hin20 : ¬ ((3 : Int32) < 0 ∨ cl20.slots.size ≤ ((3 : Int32)).toNatClampNeg) := inb_of Sz20 ⟨by decide, by decide⟩
          refine own_go (x' := T19.setTop (mkF m 13 #[.val (.ref ao0), .val (.int p1), .val (.int p2), .val (.int (3 : Int32))] [.null])) (X19.aaload hx (j := (3 : Int32)) (v := .null) (Eq.trans (congrArg (fun h_ => h_[_]?) e19) Ar20.1) (State.isArrayOf_alike hZ.alike Ar20.2.1) rfl Ar20.2.2 hin20 (Hh20.at hin20 rfl) (g := (mkF m 12 #[.val (.ref ao0), .val (.int p1), .val (.int p2), .val (.int (3 : Int32))] [(.int (3 : Int32)), (.ref ar)])) rfl rfl (hb hby d3_12)) ?_
          refine own_go (x' := T19.setTop (mkF m 28 #[.val (.ref ao0), .val (.int p1), .val (.int p2), .val (.int (3 : Int32))] [(.ref ao0)])) (fun _ k => XS.ifnullYes X19.here hx rfl (pc0 := 13) (pc' := 27) rfl (hb hby d3_13) rfl (by decide) (by decide) (XS.aloadN X19.here hx rfl (hb hby d3_27) rfl rfl k)) ?_
          obtain ⟨T21, X21, e21, st21⟩ := getF X19 hx hZ hown (host := "") (Or.inl (own_w hw 17 rfl)) Via.refl e19 F_ao0_chars (g := (mkF m 28 #[.val (.ref ao0), .val (.int p1), .val (.int p2), .val (.int (3 : Int32))] [(.ref ao0)])) rfl rfl (hb hby d3_28)
          refine own_go (x' := T21.setTop (mkF m 31 #[.val (.ref ao0), .val (.int p1), .val (.int p2), .val (.int (3 : Int32))] [(.ref ar)])) st21 ?_
          refine own_go (x' := T21.setTop (mkF m 33 #[.val (.ref ao0), .val (.int p1), .val (.int p2), .val (.int (3 : Int32))] [(.int p2), (.int (3 : Int32)), (.ref ar)])) (fun _ k => XS.iloadN X21.here hx rfl (hb hby d3_31) rfl (XS.iloadN X21.here hx rfl (hb hby d3_32) rfl k)) ?_
          obtain ⟨T22, h22, k22, X22, e22, E22, A22, Q22, st22⟩ := newPE X21 hx hZ (own_w hw 34 rfl) e21 (g := (mkF m 33 #[.val (.ref ao0), .val (.int p1), .val (.int p2), .val (.int (3 : Int32))] [(.int p2), (.int (3 : Int32)), (.ref ar)])) rfl (hb hby d3_33) rfl hs.1 (cap := 31) hs.2 (by decide) (by decide) (by decide) (ad := "[C") (by decide)
          obtain ⟨b22, g22⟩ : ∃ z, z = h17.size := ⟨_, rfl⟩
          rw [← g22] at A22 st22
          rw [← g22] at Q22
          have ne_ao0_b22 : ao0 ≠ b22 := Nat.ne_of_lt (Nat.lt_of_lt_of_le F_ao0_chars.lt (Nat.le_of_eq g22.symm))
          have ne_b4_b22 : b4 ≠ b22 := Nat.ne_of_lt (Nat.lt_of_lt_of_le E_b4.lt (Nat.le_of_eq g22.symm))
          have ne_b10_b22 : b10 ≠ b22 := Nat.ne_of_lt (Nat.lt_of_lt_of_le E_b10.lt (Nat.le_of_eq g22.symm))
          have ne_b16_b22 : b16 ≠ b22 := Nat.ne_of_lt (Nat.lt_of_lt_of_le E_b16.lt (Nat.le_of_eq g22.symm))
          have ne_ar_b22 : ar ≠ b22 := Nat.ne_of_lt (Nat.lt_of_lt_of_le V_ar.lt (Nat.le_of_eq g22.symm))
          have g_b22 : n0 ≤ b22 := Nat.le_trans Zs (Nat.le_of_eq g22.symm)
          have sz_b22 : h0.size ≤ b22 := Nat.le_trans Kp.1 (Nat.le_of_eq g22.symm)
          replace F_ao0_chars := Fld.ext E22 F_ao0_chars
          replace E_b4 := Exa.ext E22 E_b4
          replace V_b4 := V_b4.ext E22
          replace E_b10 := Exa.ext E22 E_b10
          replace V_b10 := V_b10.ext E22
          replace E_b16 := Exa.ext E22 E_b16
          replace V_b16 := V_b16.ext E22
          replace V_ar := V_ar.ext E22
          replace Zs := Nat.le_trans Zs E22.1
          replace Kp := Kp.ext E22
          have E_b22 := Q22
          have V_b22 : Arv Z h22 b22 k22 .char p2 [] (.int (0 : Int32)) := Arv.new A22 hs.1
          refine own_go (x' := T22.setTop (mkF m 35 #[.val (.ref ao0), .val (.int p1), .val (.int p2), .val (.int (3 : Int32))] [(.ref b22), (.int (3 : Int32)), (.ref ar)])) st22 ?_
          obtain ⟨cl23, Ar23, q23, Sz23, Nn23, Hh23, Gg23⟩ := V_ar
          have hin23 : ¬ ((3 : Int32) < 0 ∨ cl23.slots.size ≤ ((3 : Int32)).toNatClampNeg) := inb_of Sz23 ⟨by decide, by decide⟩
          obtain ⟨T23, h23, X23, e23, W23, st23⟩ := stR X22 hx hZ e22 Ar23 (j := (3 : Int32)) hin23 rfl (Sto.ofVA Ar23 q23 O_ar (Ins.self E_b22)) (g := (mkF m 35 #[.val (.ref ao0), .val (.int p1), .val (.int p2), .val (.int (3 : Int32))] [(.ref b22), (.int (3 : Int32)), (.ref ar)])) rfl rfl (hb hby d3_35)
          refine own_go (x' := T23.setTop (mkF m 36 #[.val (.ref ao0), .val (.int p1), .val (.int p2), .val (.int (3 : Int32))] [])) st23 ?_
          replace F_ao0_chars := Fld.other W23 F_ao0_chars (Or.inl ne_ao0_ar)
          replace E_b4 := Exa.wr W23 E_b4
          replace V_b4 := V_b4.other W23 (Ne.symm ne_ar_b4)
          replace E_b10 := Exa.wr W23 E_b10
          replace V_b10 := V_b10.other W23 (Ne.symm ne_ar_b10)
          replace E_b16 := Exa.wr W23 E_b16
          replace V_b16 := V_b16.other W23 (Ne.symm ne_ar_b16)
          replace E_b22 := Exa.wr W23 E_b22
          replace V_b22 := V_b22.other W23 (Ne.symm ne_ar_b22)
          replace Zs := Nat.le_trans Zs (Keep.of_wr W23).1
          replace Nf := Fr.snoc X23 Nf g_ar
          replace Kp := Kp.wr W23 (Or.inl (by simp))
          have V_ar : Arv Z h23 ar kc (.array .char) (4 : Int32) [(.ref b4), (.ref b10), (.ref b16), (.ref b22)] .null := Arv.set Ar23 q23 Sz23 Nn23 Hh23 Gg23 rfl W23 3 rfl (Nat.le_of_ble_eq_true rfl)
          refine own_go (x' := T23.setTop (mkF m 2 #[.val (.ref ao0), .val (.int p1), .val (.int p2), .val (.int ((3 : Int32) + (1 : Int32)))] [])) (fun _ k => XS.iinc X23.here hx rfl (hb hby d3_36) rfl (l' := #[.val (.ref ao0), .val (.int p1), .val (.int p2), .val (.int ((3 : Int32) + (1 : Int32)))]) rfl (XS.goto X23.here hx rfl (pc0 := 39) (pc' := 2) rfl (hb hby d3_39) (by decide) (by decide) k)) ?_
          rw [show ((3 : Int32) + (1 : Int32)) = (4 : Int32) from by decide +kernel]
          refine own_go (x' := T23.setTop (mkF m 43 #[.val (.ref ao0), .val (.int p1), .val (.int p2), .val (.int (4 : Int32))] [(.ref ao0)])) (fun _ k => XS.iloadN X23.here hx rfl (hb hby d3_2) rfl (XS.iloadN X23.here hx rfl (hb hby d3_3) rfl (XS.icmpYes X23.here hx rfl (pc0 := 4) (pc' := 42) rfl (hb hby d3_4) rfl (flt hu).2.1 (by decide) (by decide) (XS.aloadN X23.here hx rfl (hb hby d3_42) rfl rfl k)))) ?_
          obtain ⟨T24, X24, e24, st24⟩ := getF X23 hx hZ hown (host := "") (Or.inl (own_w hw 17 rfl)) Via.refl e23 F_ao0_chars (g := (mkF m 43 #[.val (.ref ao0), .val (.int p1), .val (.int p2), .val (.int (4 : Int32))] [(.ref ao0)])) rfl rfl (hb hby d3_43)
          refine own_go (x' := T24.setTop (mkF m 46 #[.val (.ref ao0), .val (.int p1), .val (.int p2), .val (.int (4 : Int32))] [(.ref ar)])) st24 ?_
          refine own_retR X24 hx hlk hret rfl rfl (hb hby d3_46) ?_ (by decide) (by decide)
          rw [e24]
          exact ⟨(.ref b4), (.ref b10), (.ref b16), (.ref b22), rfl, Nf, Kp, V_ar, Or.inr ⟨b4, k4, rfl, V_b4, hc4⟩, Or.inr ⟨b10, k10, rfl, V_b10, hc4_6⟩, Or.inr ⟨b16, k16, rfl, V_b16, hc4_12⟩, Or.inr ⟨b22, k22, rfl, V_b22, hc4_18⟩⟩
        · refine own_go (x' := T17.setTop (mkF m 43 #[.val (.ref ao0), .val (.int p1), .val (.int p2), .val (.int (3 : Int32))] [(.ref ao0)])) (fun _ k => XS.icmpYes X17.here hx rfl (pc0 := 4) (pc' := 42) rfl (hb hby d3_4) rfl (flt hc4_18).2.1 (by decide) (by decide) (XS.aloadN X17.here hx rfl (hb hby d3_42) rfl rfl k)) ?_
          obtain ⟨T25, X25, e25, st25⟩ := getF X17 hx hZ hown (host := "") (Or.inl (own_w hw 17 rfl)) Via.refl e17 F_ao0_chars (g := (mkF m 43 #[.val (.ref ao0), .val (.int p1), .val (.int p2), .val (.int (3 : Int32))] [(.ref ao0)])) rfl rfl (hb hby d3_43)
          refine own_go (x' := T25.setTop (mkF m 46 #[.val (.ref ao0), .val (.int p1), .val (.int p2), .val (.int (3 : Int32))] [(.ref ar)])) st25 ?_
          refine own_retR X25 hx hlk hret rfl rfl (hb hby d3_46) ?_ (by decide) (by decide)
          rw [e25]
          exact ⟨(.ref b4), (.ref b10), (.ref b16), .null, rfl, Nf, Kp, V_ar, Or.inr ⟨b4, k4, rfl, V_b4, hc4⟩, Or.inr ⟨b10, k10, rfl, V_b10, hc4_6⟩, Or.inr ⟨b16, k16, rfl, V_b16, hc4_12⟩, Or.inl ⟨rfl, hc4_18⟩⟩
      · refine own_go (x' := T11.setTop (mkF m 43 #[.val (.ref ao0), .val (.int p1), .val (.int p2), .val (.int (2 : Int32))] [(.ref ao0)])) (fun _ k => XS.icmpYes X11.here hx rfl (pc0 := 4) (pc' := 42) rfl (hb hby d3_4) rfl (flt hc4_12).2.1 (by decide) (by decide) (XS.aloadN X11.here hx rfl (hb hby d3_42) rfl rfl k)) ?_
        obtain ⟨T26, X26, e26, st26⟩ := getF X11 hx hZ hown (host := "") (Or.inl (own_w hw 17 rfl)) Via.refl e11 F_ao0_chars (g := (mkF m 43 #[.val (.ref ao0), .val (.int p1), .val (.int p2), .val (.int (2 : Int32))] [(.ref ao0)])) rfl rfl (hb hby d3_43)
        refine own_go (x' := T26.setTop (mkF m 46 #[.val (.ref ao0), .val (.int p1), .val (.int p2), .val (.int (2 : Int32))] [(.ref ar)])) st26 ?_
        refine own_retR X26 hx hlk hret rfl rfl (hb hby d3_46) ?_ (by decide) (by decide)
        rw [e26]
        exact ⟨(.ref b4), (.ref b10), .null, .null, rfl, Nf, Kp, V_ar, Or.inr ⟨b4, k4, rfl, V_b4, hc4⟩, Or.inr ⟨b10, k10, rfl, V_b10, hc4_6⟩, Or.inl ⟨rfl, hc4_12⟩, Or.inl ⟨rfl, (own_le hc4_12 (by decide))⟩⟩
    · refine own_go (x' := T5.setTop (mkF m 43 #[.val (.ref ao0), .val (.int p1), .val (.int p2), .val (.int (1 : Int32))] [(.ref ao0)])) (fun _ k => XS.icmpYes X5.here hx rfl (pc0 := 4) (pc' := 42) rfl (hb hby d3_4) rfl (flt hc4_6).2.1 (by decide) (by decide) (XS.aloadN X5.here hx rfl (hb hby d3_42) rfl rfl k)) ?_
      obtain ⟨T27, X27, e27, st27⟩ := getF X5 hx hZ hown (host := "") (Or.inl (own_w hw 17 rfl)) Via.refl e5 F_ao0_chars (g := (mkF m 43 #[.val (.ref ao0), .val (.int p1), .val (.int p2), .val (.int (1 : Int32))] [(.ref ao0)])) rfl rfl (hb hby d3_43)
      refine own_go (x' := T27.setTop (mkF m 46 #[.val (.ref ao0), .val (.int p1), .val (.int p2), .val (.int (1 : Int32))] [(.ref ar)])) st27 ?_
      refine own_retR X27 hx hlk hret rfl rfl (hb hby d3_46) ?_ (by decide) (by decide)
      rw [e27]
      exact ⟨(.ref b4), .null, .null, .null, rfl, Nf, Kp, V_ar, Or.inr ⟨b4, k4, rfl, V_b4, hc4⟩, Or.inl ⟨rfl, hc4_6⟩, Or.inl ⟨rfl, (own_le hc4_6 (by decide))⟩, Or.inl ⟨rfl, (own_le hc4_6 (by decide))⟩⟩
  · refine own_go (x' := s₁.setTop (mkF m 43 #[.val (.ref ao0), .val (.int p1), .val (.int p2), .val (.int (0 : Int32))] [(.ref ao0)])) (fun _ k => XS.icmpYes X0.here hx rfl (pc0 := 4) (pc' := 42) rfl (hb hby d3_4) rfl (flt hc4).2.1 (by decide) (by decide) (XS.aloadN X0.here hx rfl (hb hby d3_42) rfl rfl k)) ?_
    obtain ⟨T28, X28, e28, st28⟩ := getF X0 hx hZ hown (host := "") (Or.inl (own_w hw 17 rfl)) Via.refl e0 F_ao0_chars (g := (mkF m 43 #[.val (.ref ao0), .val (.int p1), .val (.int p2), .val (.int (0 : Int32))] [(.ref ao0)])) rfl rfl (hb hby d3_43)
    refine own_go (x' := T28.setTop (mkF m 46 #[.val (.ref ao0), .val (.int p1), .val (.int p2), .val (.int (0 : Int32))] [(.ref ar)])) st28 ?_
    refine own_retR X28 hx hlk hret rfl rfl (hb hby d3_46) ?_ (by decide) (by decide)
    rw [e28]
    exact ⟨.null, .null, .null, .null, rfl, Nf, Kp, V_ar, Or.inl ⟨rfl, hc4⟩, Or.inl ⟨rfl, (own_le hc4 (by decide))⟩, Or.inl ⟨rfl, (own_le hc4 (by decide))⟩, Or.inl ⟨rfl, (own_le hc4 (by decide))⟩⟩
theorem d3_16 : decode prog_20_method_9_code 16 = .ok (.aload_n 0, 1) := by decide +kernel
theorem d3_17 : decode prog_20_method_9_code 17 = .ok (.getfield 19, 3) := by decide +kernel
theorem d3_20 : decode prog_20_method_9_code 20 = .ok (.iload_n 3, 1) := by decide +kernel
theorem d3_21 : decode prog_20_method_9_code 21 = .ok (.aaload, 1) := by decide +kernel
theorem d3_22 : decode prog_20_method_9_code 22 = .ok (.arraylength, 1) := by decide +kernel
theorem d3_23 : decode prog_20_method_9_code 23 = .ok (.iload_n 2, 1) := by decide +kernel
theorem d3_24 : decode prog_20_method_9_code 24 = .ok (.if_icmp .ge 12, 3) := by decide +kernel
def Q_rmS_1 (Z : State) (ao0 : Addr) (p1 : Int32) (p2 : Int32) (ar : Addr) (kc : ClassId) (n1 mm : Int32) (b0 : Addr) (k0 : ClassId) (h0 : Heap) (n0 : Nat) (v : Option Value) (h : Heap) (L : List Loc) : Prop := ∃ w0 w1 w2 w3 : Value, v = some (.ref ar) ∧ Fr n0 L ∧ Keep h0 h [ar] ∧ Arv Z h ar kc (.array .char) (4 : Int32) [w0, w1, w2, w3] .null ∧ own_Rp Z h h0.size w0 b0 (0 : Int32) p1 n1 p2 ∧ own_Rn Z h w1 (1 : Int32) p1 p2 ∧ own_Rn Z h w2 (2 : Int32) p1 p2 ∧ own_Rn Z h w3 (3 : Int32) p1 p2
theorem pn_rmS_1 : plainName "com/example/wee_match/weematch/Sieve$Windows" = true := by first | (simp [plainName, overriddenIn]; done) | decide +kernel
theorem ef_rmS_1 (m : MethodId) (x0 : Addr) (x1 : Int32) (x2 : Int32) : entryFrame m #[(.ref x0), (.int x1), (.int x2)] 4 = mkF m 0 #[.val (.ref x0), .val (.int x1), .val (.int x2), .unset] [] := by first | (simp [entryFrame, mkF, argsToLocals, Value.category]; done) | rfl
set_option maxRecDepth 65536 in
set_option maxHeartbeats 40000000 in
theorem rmS_1 (l : Launch) (Z : State) (a0 : Array Value) (hw : ∀ d ∈ tables_1, d.before a0 Z = true) (ws : List Jvm.Cond) (ao0 : Addr) (p1 : Int32) (p2 : Int32) (ar : Addr) (kc : ClassId) (n1 mm : Int32) (b0 : Addr) (k0 : ClassId) (h0 : Heap) (n0 : Nat) (Z0 : n0 ≤ h0.size) (F_ao0_chars : Fld Z h0 ao0 "com/example/wee_match/weematch/Sieve$Windows" "chars" "[[C" (.ref ar)) (V_ar : Arv Z h0 ar kc (.array .char) (4 : Int32) [.ref b0, .null, .null, .null] .null) (O_ar : OvrA Z kc .char "[C") (ne_ao0_ar : ao0 ≠ ar) (g_ar : n0 ≤ ar) (hs : own_L p2) (hu : ¬ (4 : Int32) < p1) (V_b0 : Arv Z h0 b0 k0 .char n1 [.int mm] (.int (0 : Int32))) (ne_b0_ar : b0 ≠ ar) :
    MetFree l (⟨"com/example/wee_match/weematch/Sieve$Windows", "chars", "(II)[[C"⟩ : MethodName) (head1 (Jvm.Cond.code (⟨"com/example/wee_match/weematch/Sieve$Windows", "chars", "(II)[[C"⟩ : MethodName) prog_20_method_9_code 4 (some (.array (.array .char))) :: ws) ({ frames := 0, cells := 4, slots := 124, locals := 0 } : Room)) (fun a U => a = #[(.ref ao0), (.int p1), (.int p2)] ∧ Z.Warmed39 U.vm ∧ U.heap = h0) (fun _ _ _ _ _ => True) (fun _ U o U' => ∃ v L, o = .returned v ∧ (Q_rmS_1 Z ao0 p1 p2 ar kc n1 mm b0 k0 h0 n0) v U'.heap L ∧ FrameEnd U o U' L ({ frames := 0, cells := 4, slots := 124, locals := 0 } : Room).cells ({ frames := 0, cells := 4, slots := 124, locals := 0 } : Room).slots) := by
  refine MetFree.of_bodySF (plainFor_of_name pn_rmS_1) hisR ?_
  intro p e s m args below meth c s₁ Bd hml0 hP hK
  obtain ⟨rfl, hZ, hh⟩ := hP
  have hx := Bd.exec
  have hby := Bd.bytes
  have hlk := BodyLoose.notSynchronized Bd
  have hret := Bd.returns
  have hml : c.maxLocals = 4 := hml0
  have hown : s.vm.findClass "com/example/wee_match/weematch/Sieve$Windows" = some m.cls := findClass_of_methodNamed Bd.named
  have hnm := (name_of_methodNamed Bd.named Bd.method).1
  have X0 : Stand p l e ({ frames := 0, cells := 4, slots := 124, locals := 0 } : Room) s m #[(.ref ao0), (.int p1), (.int p2)] below meth c s₁ [] 0 0 := Stand.of_body Bd
  have e0 : s₁.heap = h0 := by rw [← hh, Bd.state]; rfl
  have Nf := Fr.nil n0
  have Zs := Z0
  have Kp : Keep h0 h0 [ar] := Keep.refl _ _
  show own_End p e below s (Q_rmS_1 Z ao0 p1 p2 ar kc n1 mm b0 k0 h0 n0) ({ frames := 0, cells := 4, slots := 124, locals := 0 } : Room).cells ({ frames := 0, cells := 4, slots := 124, locals := 0 } : Room).slots (s₁.setTop (entryFrame m #[(.ref ao0), (.int p1), (.int p2)] 4))
  refine own_go (x' := s₁.setTop (mkF m 0 #[.val (.ref ao0), .val (.int p1), .val (.int p2), .unset] [])) (fun t k => castTop (ef_rmS_1 m ao0 p1 p2) k) ?_
  refine own_go (x' := s₁.setTop (mkF m 4 #[.val (.ref ao0), .val (.int p1), .val (.int p2), .val (.int (0 : Int32))] [(.int p1), (.int (0 : Int32))])) (fun _ k => XS.iconst X0.here hx rfl (hb hby d3_0) (XS.istoreN X0.here hx rfl (hb hby d3_1) rfl (l' := #[.val (.ref ao0), .val (.int p1), .val (.int p2), .val (.int (0 : Int32))]) rfl (XS.iloadN X0.here hx rfl (hb hby d3_2) rfl (XS.iloadN X0.here hx rfl (hb hby d3_3) rfl k)))) ?_
  by_cases hc4 : (0 : Int32) < p1
  · refine own_go (x' := s₁.setTop (mkF m 8 #[.val (.ref ao0), .val (.int p1), .val (.int p2), .val (.int (0 : Int32))] [(.ref ao0)])) (fun _ k => XS.icmpNo X0.here hx rfl (hb hby d3_4) rfl (tlt hc4).2.1 (XS.aloadN X0.here hx rfl (hb hby d3_7) rfl rfl k)) ?_
    obtain ⟨T1, X1, e1, st1⟩ := getF X0 hx hZ hown (host := "") (Or.inl (own_w hw 17 rfl)) Via.refl e0 F_ao0_chars (g := (mkF m 8 #[.val (.ref ao0), .val (.int p1), .val (.int p2), .val (.int (0 : Int32))] [(.ref ao0)])) rfl rfl (hb hby d3_8)
    refine own_go (x' := T1.setTop (mkF m 11 #[.val (.ref ao0), .val (.int p1), .val (.int p2), .val (.int (0 : Int32))] [(.ref ar)])) st1 ?_
    refine own_go (x' := T1.setTop (mkF m 12 #[.val (.ref ao0), .val (.int p1), .val (.int p2), .val (.int (0 : Int32))] [(.int (0 : Int32)), (.ref ar)])) (fun _ k => XS.iloadN X1.here hx rfl (hb hby d3_11) rfl k) ?_
    obtain ⟨cl2, Ar2, q2, Sz2, Nn2, Hh2, Gg2⟩ := id V_ar
    have hin2 : ¬ ((0 : Int32) < 0 ∨ cl2.slots.size ≤ ((0 : Int32)).toNatClampNeg) := inb_of Sz2 ⟨by decide, by decide⟩
    refine own_go (x' := T1.setTop (mkF m 13 #[.val (.ref ao0), .val (.int p1), .val (.int p2), .val (.int (0 : Int32))] [(.ref b0)])) (X1.aaload hx (j := (0 : Int32)) (v := (.ref b0)) (Eq.trans (congrArg (fun h_ => h_[_]?) e1) Ar2.1) (State.isArrayOf_alike hZ.alike Ar2.2.1) rfl Ar2.2.2 hin2 (Hh2.at hin2 rfl) (g := (mkF m 12 #[.val (.ref ao0), .val (.int p1), .val (.int p2), .val (.int (0 : Int32))] [(.int (0 : Int32)), (.ref ar)])) rfl rfl (hb hby d3_12)) ?_
    refine own_go (x' := T1.setTop (mkF m 17 #[.val (.ref ao0), .val (.int p1), .val (.int p2), .val (.int (0 : Int32))] [(.ref ao0)])) (fun _ k => XS.ifnullNo X1.here hx rfl (hb hby d3_13) rfl (XS.aloadN X1.here hx rfl (hb hby d3_16) rfl rfl k)) ?_
    obtain ⟨T3, X3, e3, st3⟩ := getF X1 hx hZ hown (host := "") (Or.inl (own_w hw 17 rfl)) Via.refl e1 F_ao0_chars (g := (mkF m 17 #[.val (.ref ao0), .val (.int p1), .val (.int p2), .val (.int (0 : Int32))] [(.ref ao0)])) rfl rfl (hb hby d3_17)
    refine own_go (x' := T3.setTop (mkF m 20 #[.val (.ref ao0), .val (.int p1), .val (.int p2), .val (.int (0 : Int32))] [(.ref ar)])) st3 ?_
    refine own_go (x' := T3.setTop (mkF m 21 #[.val (.ref ao0), .val (.int p1), .val (.int p2), .val (.int (0 : Int32))] [(.int (0 : Int32)), (.ref ar)])) (fun _ k => XS.iloadN X3.here hx rfl (hb hby d3_20) rfl k) ?_
    obtain ⟨cl4, Ar4, q4, Sz4, Nn4, Hh4, Gg4⟩ := id V_ar
    have hin4 : ¬ ((0 : Int32) < 0 ∨ cl4.slots.size ≤ ((0 : Int32)).toNatClampNeg) := inb_of Sz4 ⟨by decide, by decide⟩
    refine own_go (x' := T3.setTop (mkF m 22 #[.val (.ref ao0), .val (.int p1), .val (.int p2), .val (.int (0 : Int32))] [(.ref b0)])) (X3.aaload hx (j := (0 : Int32)) (v := (.ref b0)) (Eq.trans (congrArg (fun h_ => h_[_]?) e3) Ar4.1) (State.isArrayOf_alike hZ.alike Ar4.2.1) rfl Ar4.2.2 hin4 (Hh4.at hin4 rfl) (g := (mkF m 21 #[.val (.ref ao0), .val (.int p1), .val (.int p2), .val (.int (0 : Int32))] [(.int (0 : Int32)), (.ref ar)])) rfl rfl (hb hby d3_21)) ?_
    obtain ⟨cl5, Ar5, -, Sz5, Nn5, -, -⟩ := id V_b0
    refine own_go (x' := T3.setTop (mkF m 23 #[.val (.ref ao0), .val (.int p1), .val (.int p2), .val (.int (0 : Int32))] [(.int n1)])) (fun t k => X3.arraylength hx (Eq.trans (congrArg (fun h_ => h_[_]?) e3) Ar5.1) (State.isArrayOf_alike hZ.alike Ar5.2.1) (g := (mkF m 22 #[.val (.ref ao0), .val (.int p1), .val (.int p2), .val (.int (0 : Int32))] [(.ref b0)])) rfl rfl (hb hby d3_22) t (by rw [len_of Sz5 Nn5]; exact k)) ?_
    refine own_go (x' := T3.setTop (mkF m 24 #[.val (.ref ao0), .val (.int p1), .val (.int p2), .val (.int (0 : Int32))] [(.int p2), (.int n1)])) (fun _ k => XS.iloadN X3.here hx rfl (hb hby d3_23) rfl k) ?_
    by_cases hc24 : n1 < p2
    · refine own_go (x' := T3.setTop (mkF m 28 #[.val (.ref ao0), .val (.int p1), .val (.int p2), .val (.int (0 : Int32))] [(.ref ao0)])) (fun _ k => XS.icmpNo X3.here hx rfl (hb hby d3_24) rfl (tlt hc24).2.1 (XS.aloadN X3.here hx rfl (hb hby d3_27) rfl rfl k)) ?_
      obtain ⟨T6, X6, e6, st6⟩ := getF X3 hx hZ hown (host := "") (Or.inl (own_w hw 17 rfl)) Via.refl e3 F_ao0_chars (g := (mkF m 28 #[.val (.ref ao0), .val (.int p1), .val (.int p2), .val (.int (0 : Int32))] [(.ref ao0)])) rfl rfl (hb hby d3_28)
      refine own_go (x' := T6.setTop (mkF m 31 #[.val (.ref ao0), .val (.int p1), .val (.int p2), .val (.int (0 : Int32))] [(.ref ar)])) st6 ?_
      refine own_go (x' := T6.setTop (mkF m 33 #[.val (.ref ao0), .val (.int p1), .val (.int p2), .val (.int (0 : Int32))] [(.int p2), (.int (0 : Int32)), (.ref ar)])) (fun _ k => XS.iloadN X6.here hx rfl (hb hby d3_31) rfl (XS.iloadN X6.here hx rfl (hb hby d3_32) rfl k)) ?_
      obtain ⟨T7, h7, k7, X7, e7, E7, A7, Q7, st7⟩ := newPE X6 hx hZ (own_w hw 34 rfl) e6 (g := (mkF m 33 #[.val (.ref ao0), .val (.int p1), .val (.int p2), .val (.int (0 : Int32))] [(.int p2), (.int (0 : Int32)), (.ref ar)])) rfl (hb hby d3_33) rfl hs.1 (cap := 31) hs.2 (by decide) (by decide) (by decide) (ad := "[C") (by decide)
      obtain ⟨b7, g7⟩ : ∃ z, z = h0.size := ⟨_, rfl⟩
      rw [← g7] at A7 st7
      rw [← g7] at Q7
      have ne_ao0_b7 : ao0 ≠ b7 := Nat.ne_of_lt (Nat.lt_of_lt_of_le F_ao0_chars.lt (Nat.le_of_eq g7.symm))
      have ne_ar_b7 : ar ≠ b7 := Nat.ne_of_lt (Nat.lt_of_lt_of_le V_ar.lt (Nat.le_of_eq g7.symm))
      have ne_b0_b7 : b0 ≠ b7 := Nat.ne_of_lt (Nat.lt_of_lt_of_le V_b0.lt (Nat.le_of_eq g7.symm))
      have g_b7 : n0 ≤ b7 := Nat.le_trans Zs (Nat.le_of_eq g7.symm)
      have sz_b7 : h0.size ≤ b7 := Nat.le_trans Kp.1 (Nat.le_of_eq g7.symm)
      replace F_ao0_chars := Fld.ext E7 F_ao0_chars
      replace V_ar := V_ar.ext E7
      replace V_b0 := V_b0.ext E7
      replace Zs := Nat.le_trans Zs E7.1
      replace Kp := Kp.ext E7
      have E_b7 := Q7
      have V_b7 : Arv Z h7 b7 k7 .char p2 [] (.int (0 : Int32)) := Arv.new A7 hs.1
      refine own_go (x' := T7.setTop (mkF m 35 #[.val (.ref ao0), .val (.int p1), .val (.int p2), .val (.int (0 : Int32))] [(.ref b7), (.int (0 : Int32)), (.ref ar)])) st7 ?_
      obtain ⟨cl8, Ar8, q8, Sz8, Nn8, Hh8, Gg8⟩ := V_ar
      have hin8 : ¬ ((0 : Int32) < 0 ∨ cl8.slots.size ≤ ((0 : Int32)).toNatClampNeg) := inb_of Sz8 ⟨by decide, by decide⟩
      obtain ⟨T8, h8, X8, e8, W8, st8⟩ := stR X7 hx hZ e7 Ar8 (j := (0 : Int32)) hin8 rfl (Sto.ofVA Ar8 q8 O_ar (Ins.self E_b7)) (g := (mkF m 35 #[.val (.ref ao0), .val (.int p1), .val (.int p2), .val (.int (0 : Int32))] [(.ref b7), (.int (0 : Int32)), (.ref ar)])) rfl rfl (hb hby d3_35)
      refine own_go (x' := T8.setTop (mkF m 36 #[.val (.ref ao0), .val (.int p1), .val (.int p2), .val (.int (0 : Int32))] [])) st8 ?_
      replace F_ao0_chars := Fld.other W8 F_ao0_chars (Or.inl ne_ao0_ar)
      replace V_b0 := V_b0.other W8 ne_b0_ar
      replace E_b7 := Exa.wr W8 E_b7
      replace V_b7 := V_b7.other W8 (Ne.symm ne_ar_b7)
      replace Zs := Nat.le_trans Zs (Keep.of_wr W8).1
      replace Nf := Fr.snoc X8 Nf g_ar
      replace Kp := Kp.wr W8 (Or.inl (by simp))
      have V_ar : Arv Z h8 ar kc (.array .char) (4 : Int32) [(.ref b7), .null, .null, .null] .null := Arv.set Ar8 q8 Sz8 Nn8 Hh8 Gg8 rfl W8 0 rfl (Nat.le_of_ble_eq_true rfl)
      refine own_go (x' := T8.setTop (mkF m 2 #[.val (.ref ao0), .val (.int p1), .val (.int p2), .val (.int ((0 : Int32) + (1 : Int32)))] [])) (fun _ k => XS.iinc X8.here hx rfl (hb hby d3_36) rfl (l' := #[.val (.ref ao0), .val (.int p1), .val (.int p2), .val (.int ((0 : Int32) + (1 : Int32)))]) rfl (XS.goto X8.here hx rfl (pc0 := 39) (pc' := 2) rfl (hb hby d3_39) (by decide) (by decide) k)) ?_
      rw [show ((0 : Int32) + (1 : Int32)) = (1 : Int32) from by decide +kernel]
      refine own_go (x' := T8.setTop (mkF m 4 #[.val (.ref ao0), .val (.int p1), .val (.int p2), .val (.int (1 : Int32))] [(.int p1), (.int (1 : Int32))])) (fun _ k => XS.iloadN X8.here hx rfl (hb hby d3_2) rfl (XS.iloadN X8.here hx rfl (hb hby d3_3) rfl k)) ?_
      by_cases hc4_9 : (1 : Int32) < p1
      · refine own_go (x' := T8.setTop (mkF m 8 #[.val (.ref ao0), .val (.int p1), .val (.int p2), .val (.int (1 : Int32))] [(.ref ao0)])) (fun _ k => XS.icmpNo X8.here hx rfl (hb hby d3_4) rfl (tlt hc4_9).2.1 (XS.aloadN X8.here hx rfl (hb hby d3_7) rfl rfl k)) ?_
        obtain ⟨T10, X10, e10, st10⟩ := getF X8 hx hZ hown (host := "") (Or.inl (own_w hw 17 rfl)) Via.refl e8 F_ao0_chars (g := (mkF m 8 #[.val (.ref ao0), .val (.int p1), .val (.int p2), .val (.int (1 : Int32))] [(.ref ao0)])) rfl rfl (hb hby d3_8)
        refine own_go (x' := T10.setTop (mkF m 11 #[.val (.ref ao0), .val (.int p1), .val (.int p2), .val (.int (1 : Int32))] [(.ref ar)])) st10 ?_
        refine own_go (x' := T10.setTop (mkF m 12 #[.val (.ref ao0), .val (.int p1), .val (.int p2), .val (.int (1 : Int32))] [(.int (1 : Int32)), (.ref ar)])) (fun _ k => XS.iloadN X10.here hx rfl (hb hby d3_11) rfl k) ?_
        obtain ⟨cl11, Ar11, q11, Sz11, Nn11, Hh11, Gg11⟩ := id V_ar
        have hin11 : ¬ ((1 : Int32) < 0 ∨ cl11.slots.size ≤ ((1 : Int32)).toNatClampNeg) := inb_of Sz11 ⟨by decide, by decide⟩
        refine own_go (x' := T10.setTop (mkF m 13 #[.val (.ref ao0), .val (.int p1), .val (.int p2), .val (.int (1 : Int32))] [.null])) (X10.aaload hx (j := (1 : Int32)) (v := .null) (Eq.trans (congrArg (fun h_ => h_[_]?) e10) Ar11.1) (State.isArrayOf_alike hZ.alike Ar11.2.1) rfl Ar11.2.2 hin11 (Hh11.at hin11 rfl) (g := (mkF m 12 #[.val (.ref ao0), .val (.int p1), .val (.int p2), .val (.int (1 : Int32))] [(.int (1 : Int32)), (.ref ar)])) rfl rfl (hb hby d3_12)) ?_
        refine own_go (x' := T10.setTop (mkF m 28 #[.val (.ref ao0), .val (.int p1), .val (.int p2), .val (.int (1 : Int32))] [(.ref ao0)])) (fun _ k => XS.ifnullYes X10.here hx rfl (pc0 := 13) (pc' := 27) rfl (hb hby d3_13) rfl (by decide) (by decide) (XS.aloadN X10.here hx rfl (hb hby d3_27) rfl rfl k)) ?_
        obtain ⟨T12, X12, e12, st12⟩ := getF X10 hx hZ hown (host := "") (Or.inl (own_w hw 17 rfl)) Via.refl e10 F_ao0_chars (g := (mkF m 28 #[.val (.ref ao0), .val (.int p1), .val (.int p2), .val (.int (1 : Int32))] [(.ref ao0)])) rfl rfl (hb hby d3_28)
        refine own_go (x' := T12.setTop (mkF m 31 #[.val (.ref ao0), .val (.int p1), .val (.int p2), .val (.int (1 : Int32))] [(.ref ar)])) st12 ?_
        refine own_go (x' := T12.setTop (mkF m 33 #[.val (.ref ao0), .val (.int p1), .val (.int p2), .val (.int (1 : Int32))] [(.int p2), (.int (1 : Int32)), (.ref ar)])) (fun _ k => XS.iloadN X12.here hx rfl (hb hby d3_31) rfl (XS.iloadN X12.here hx rfl (hb hby d3_32) rfl k)) ?_
        obtain ⟨T13, h13, k13, X13, e13, E13, A13, Q13, st13⟩ := newPE X12 hx hZ (own_w hw 34 rfl) e12 (g := (mkF m 33 #[.val (.ref ao0), .val (.int p1), .val (.int p2), .val (.int (1 : Int32))] [(.int p2), (.int (1 : Int32)), (.ref ar)])) rfl (hb hby d3_33) rfl hs.1 (cap := 31) hs.2 (by decide) (by decide) (by decide) (ad := "[C") (by decide)
        obtain ⟨b13, g13⟩ : ∃ z, z = h8.size := ⟨_, rfl⟩
        rw [← g13] at A13 st13
        rw [← g13] at Q13
        have ne_ao0_b13 : ao0 ≠ b13 := Nat.ne_of_lt (Nat.lt_of_lt_of_le F_ao0_chars.lt (Nat.le_of_eq g13.symm))
        have ne_b0_b13 : b0 ≠ b13 := Nat.ne_of_lt (Nat.lt_of_lt_of_le V_b0.lt (Nat.le_of_eq g13.symm))
        have ne_b7_b13 : b7 ≠ b13 := Nat.ne_of_lt (Nat.lt_of_lt_of_le E_b7.lt (Nat.le_of_eq g13.symm))
        have ne_ar_b13 : ar ≠ b13 := Nat.ne_of_lt (Nat.lt_of_lt_of_le V_ar.lt (Nat.le_of_eq g13.symm))
        have g_b13 : n0 ≤ b13 := Nat.le_trans Zs (Nat.le_of_eq g13.symm)
        have sz_b13 : h0.size ≤ b13 := Nat.le_trans Kp.1 (Nat.le_of_eq g13.symm)
        replace F_ao0_chars := Fld.ext E13 F_ao0_chars
        replace V_b0 := V_b0.ext E13
        replace E_b7 := Exa.ext E13 E_b7
        replace V_b7 := V_b7.ext E13
        replace V_ar := V_ar.ext E13
        replace Zs := Nat.le_trans Zs E13.1
        replace Kp := Kp.ext E13
        have E_b13 := Q13
        have V_b13 : Arv Z h13 b13 k13 .char p2 [] (.int (0 : Int32)) := Arv.new A13 hs.1
        refine own_go (x' := T13.setTop (mkF m 35 #[.val (.ref ao0), .val (.int p1), .val (.int p2), .val (.int (1 : Int32))] [(.ref b13), (.int (1 : Int32)), (.ref ar)])) st13 ?_
        obtain ⟨cl14, Ar14, q14, Sz14, Nn14, Hh14, Gg14⟩ := V_ar
        have hin14 : ¬ ((1 : Int32) < 0 ∨ cl14.slots.size ≤ ((1 : Int32)).toNatClampNeg) := inb_of Sz14 ⟨by decide, by decide⟩
        obtain ⟨T14, h14, X14, e14, W14, st14⟩ := stR X13 hx hZ e13 Ar14 (j := (1 : Int32)) hin14 rfl (Sto.ofVA Ar14 q14 O_ar (Ins.self E_b13)) (g := (mkF m 35 #[.val (.ref ao0), .val (.int p1), .val (.int p2), .val (.int (1 : Int32))] [(.ref b13), (.int (1 : Int32)), (.ref ar)])) rfl rfl (hb hby d3_35)
        refine own_go (x' := T14.setTop (mkF m 36 #[.val (.ref ao0), .val (.int p1), .val (.int p2), .val (.int (1 : Int32))] [])) st14 ?_
        replace F_ao0_chars := Fld.other W14 F_ao0_chars (Or.inl ne_ao0_ar)
        replace V_b0 := V_b0.other W14 ne_b0_ar
        replace E_b7 := Exa.wr W14 E_b7
        replace V_b7 := V_b7.other W14 (Ne.symm ne_ar_b7)
        replace E_b13 := Exa.wr W14 E_b13
        replace V_b13 := V_b13.other W14 (Ne.symm ne_ar_b13)
        replace Zs := Nat.le_trans Zs (Keep.of_wr W14).1
        replace Nf := Fr.snoc X14 Nf g_ar
        replace Kp := Kp.wr W14 (Or.inl (by simp))
        have V_ar : Arv Z h14 ar kc (.array .char) (4 : Int32) [(.ref b7), (.ref b13), .null, .null] .null := Arv.set Ar14 q14 Sz14 Nn14 Hh14 Gg14 rfl W14 1 rfl (Nat.le_of_ble_eq_true rfl)
        refine own_go (x' := T14.setTop (mkF m 2 #[.val (.ref ao0), .val (.int p1), .val (.int p2), .val (.int ((1 : Int32) + (1 : Int32)))] [])) (fun _ k => XS.iinc X14.here hx rfl (hb hby d3_36) rfl (l' := #[.val (.ref ao0), .val (.int p1), .val (.int p2), .val (.int ((1 : Int32) + (1 : Int32)))]) rfl (XS.goto X14.here hx rfl (pc0 := 39) (pc' := 2) rfl (hb hby d3_39) (by decide) (by decide) k)) ?_
        rw [show ((1 : Int32) + (1 : Int32)) = (2 : Int32) from by decide +kernel]
        refine own_go (x' := T14.setTop (mkF m 4 #[.val (.ref ao0), .val (.int p1), .val (.int p2), .val (.int (2 : Int32))] [(.int p1), (.int (2 : Int32))])) (fun _ k => XS.iloadN X14.here hx rfl (hb hby d3_2) rfl (XS.iloadN X14.here hx rfl (hb hby d3_3) rfl k)) ?_
        by_cases hc4_15 : (2 : Int32) < p1
        · refine own_go (x' := T14.setTop (mkF m 8 #[.val (.ref ao0), .val (.int p1), .val (.int p2), .val (.int (2 : Int32))] [(.ref ao0)])) (fun _ k => XS.icmpNo X14.here hx rfl (hb hby d3_4) rfl (tlt hc4_15).2.1 (XS.aloadN X14.here hx rfl (hb hby d3_7) rfl rfl k)) ?_
          obtain ⟨T16, X16, e16, st16⟩ := getF X14 hx hZ hown (host := "") (Or.inl (own_w hw 17 rfl)) Via.refl e14 F_ao0_chars (g := (mkF m 8 #[.val (.ref ao0), .val (.int p1), .val (.int p2), .val (.int (2 : Int32))] [(.ref ao0)])) rfl rfl (hb hby d3_8)
          refine own_go (x' := T16.setTop (mkF m 11 #[.val (.ref ao0), .val (.int p1), .val (.int p2), .val (.int (2 : Int32))] [(.ref ar)])) st16 ?_
          refine own_go (x' := T16.setTop (mkF m 12 #[.val (.ref ao0), .val (.int p1), .val (.int p2), .val (.int (2 : Int32))] [(.int (2 : Int32)), (.ref ar)])) (fun _ k => XS.iloadN X16.here hx rfl (hb hby d3_11) rfl k) ?_
          obtain ⟨cl17, Ar17, q17, Sz17, Nn17, Hh17, Gg17⟩ := id V_ar
          have hin17 : ¬ ((2 : Int32) < 0 ∨ cl17.slots.size ≤ ((2 : Int32)).toNatClampNeg) := inb_of Sz17 ⟨by decide, by decide⟩
          refine own_go (x' := T16.setTop (mkF m 13 #[.val (.ref ao0), .val (.int p1), .val (.int p2), .val (.int (2 : Int32))] [.null])) (X16.aaload hx (j := (2 : Int32)) (v := .null) (Eq.trans (congrArg (fun h_ => h_[_]?) e16) Ar17.1) (State.isArrayOf_alike hZ.alike Ar17.2.1) rfl Ar17.2.2 hin17 (Hh17.at hin17 rfl) (g := (mkF m 12 #[.val (.ref ao0), .val (.int p1), .val (.int p2), .val (.int (2 : Int32))] [(.int (2 : Int32)), (.ref ar)])) rfl rfl (hb hby d3_12)) ?_
          refine own_go (x' := T16.setTop (mkF m 28 #[.val (.ref ao0), .val (.int p1), .val (.int p2), .val (.int (2 : Int32))] [(.ref ao0)])) (fun _ k => XS.ifnullYes X16.here hx rfl (pc0 := 13) (pc' := 27) rfl (hb hby d3_13) rfl (by decide) (by decide) (XS.aloadN X16.here hx rfl (hb hby d3_27) rfl rfl k)) ?_
          obtain ⟨T18, X18, e18, st18⟩ := getF X16 hx hZ hown (host := "") (Or.inl (own_w hw 17 rfl)) Via.refl e16 F_ao0_chars (g := (mkF m 28 #[.val (.ref ao0), .val (.int p1), .val (.int p2), .val (.int (2 : Int32))] [(.ref ao0)])) rfl rfl (hb hby d3_28)
          refine own_go (x' := T18.setTop (mkF m 31 #[.val (.ref ao0), .val (.int p1), .val (.int p2), .val (.int (2 : Int32))] [(.ref ar)])) st18 ?_
          refine own_go (x' := T18.setTop (mkF m 33 #[.val (.ref ao0), .val (.int p1), .val (.int p2), .val (.int (2 : Int32))] [(.int p2), (.int (2 : Int32)), (.ref ar)])) (fun _ k => XS.iloadN X18.here hx rfl (hb hby d3_31) rfl (XS.iloadN X18.here hx rfl (hb hby d3_32) rfl k)) ?_
          obtain ⟨T19, h19, k19, X19, e19, E19, A19, Q19, st19⟩ := newPE X18 hx hZ (own_w hw 34 rfl) e18 (g := (mkF m 33 #[.val (.ref ao0), .val (.int p1), .val (.int p2), .val (.int (2 : Int32))] [(.int p2), (.int (2 : Int32)), (.ref ar)])) rfl (hb hby d3_33) rfl hs.1 (cap := 31) hs.2 (by decide) (by decide) (by decide) (ad := "[C") (by decide)
          obtain ⟨b19, g19⟩ : ∃ z, z = h14.size := ⟨_, rfl⟩
          rw [← g19] at A19 st19
          rw [← g19] at Q19
          have ne_ao0_b19 : ao0 ≠ b19 := Nat.ne_of_lt (Nat.lt_of_lt_of_le F_ao0_chars.lt (Nat.le_of_eq g19.symm))
          have ne_b0_b19 : b0 ≠ b19 := Nat.ne_of_lt (Nat.lt_of_lt_of_le V_b0.lt (Nat.le_of_eq g19.symm))
          have ne_b7_b19 : b7 ≠ b19 := Nat.ne_of_lt (Nat.lt_of_lt_of_le E_b7.lt (Nat.le_of_eq g19.symm))
          have ne_b13_b19 : b13 ≠ b19 := Nat.ne_of_lt (Nat.lt_of_lt_of_le E_b13.lt (Nat.le_of_eq g19.symm))
          have ne_ar_b19 : ar ≠ b19 := Nat.ne_of_lt (Nat.lt_of_lt_of_le V_ar.lt (Nat.le_of_eq g19.symm))
          have g_b19 : n0 ≤ b19 := Nat.le_trans Zs (Nat.le_of_eq g19.symm)
          have sz_b19 : h0.size ≤ b19 := Nat.le_trans Kp.1 (Nat.le_of_eq g19.symm)
          replace F_ao0_chars := Fld.ext E19 F_ao0_chars
          replace V_b0 := V_b0.ext E19
          replace E_b7 := Exa.ext E19 E_b7
          replace V_b7 := V_b7.ext E19
          replace E_b13 := Exa.ext E19 E_b13
          replace V_b13 := V_b13.ext E19
          replace V_ar := V_ar.ext E19
          replace Zs := Nat.le_trans Zs E19.1
          replace Kp := Kp.ext E19
          have E_b19 := Q19
          have V_b19 : Arv Z h19 b19 k19 .char p2 [] (.int (0 : Int32)) := Arv.new A19 hs.1
          refine own_go (x' := T19.setTop (mkF m 35 #[.val (.ref ao0), .val (.int p1), .val (.int p2), .val (.int (2 : Int32))] [(.ref b19), (.int (2 : Int32)), (.ref ar)])) st19 ?_
          obtain ⟨cl20, Ar20, q20, Sz20, Nn20, Hh20, Gg20⟩ := V_ar
          have hin20 : ¬ ((2 : Int32) < 0 ∨ cl20.slots.size ≤ ((2 : Int32)).toNatClampNeg) := inb_of Sz20 ⟨by decide, by decide⟩
          obtain ⟨T20, h20, X20, e20, W20, st20⟩ := stR X19 hx hZ e19 Ar20 (j := (2 : Int32)) hin20 rfl (Sto.ofVA Ar20 q20 O_ar (Ins.self E_b19)) (g := (mkF m 35 #[.val (.ref ao0), .val (.int p1), .val (.int p2), .val (.int (2 : Int32))] [(.ref b19), (.int (2 : Int32)), (.ref ar)])) rfl rfl (hb hby d3_35)
          refine own_go (x' := T20.setTop (mkF m 36 #[.val (.ref ao0), .val (.int p1), .val (.int p2), .val (.int (2 : Int32))] [])) st20 ?_
          replace F_ao0_chars := Fld.other W20 F_ao0_chars (Or.inl ne_ao0_ar)
          replace V_b0 := V_b0.other W20 ne_b0_ar
          replace E_b7 := Exa.wr W20 E_b7
          replace V_b7 := V_b7.other W20 (Ne.symm ne_ar_b7)
          replace E_b13 := Exa.wr W20 E_b13
          replace V_b13 := V_b13.other W20 (Ne.symm ne_ar_b13)
          replace E_b19 := Exa.wr W20 E_b19
          replace V_b19 := V_b19.other W20 (Ne.symm ne_ar_b19)
          replace Zs := Nat.le_trans Zs (Keep.of_wr W20).1
          replace Nf := Fr.snoc X20 Nf g_ar
          replace Kp := Kp.wr W20 (Or.inl (by simp))
          have V_ar : Arv Z h20 ar kc (.array .char) (4 : Int32) [(.ref b7), (.ref b13), (.ref b19), .null] .null := Arv.set Ar20 q20 Sz20 Nn20 Hh20 Gg20 rfl W20 2 rfl (Nat.le_of_ble_eq_true rfl)
          refine own_go (x' := T20.setTop (mkF m 2 #[.val (.ref ao0), .val (.int p1), .val (.int p2), .val (.int ((2 : Int32) + (1 : Int32)))] [])) (fun _ k => XS.iinc X20.here hx rfl (hb hby d3_36) rfl (l' := #[.val (.ref ao0), .val (.int p1), .val (.int p2), .val (.int ((2 : Int32) + (1 : Int32)))]) rfl (XS.goto X20.here hx rfl (pc0 := 39) (pc' := 2) rfl (hb hby d3_39) (by decide) (by decide) k)) ?_
          rw [show ((2 : Int32) + (1 : Int32)) = (3 : Int32) from by decide +kernel]
          refine own_go (x' := T20.setTop (mkF m 4 #[.val (.ref ao0), .val (.int p1), .val (.int p2), .val (.int (3 : Int32))] [(.int p1), (.int (3 : Int32))])) (fun _ k => XS.iloadN X20.here hx rfl (hb hby d3_2) rfl (XS.iloadN X20.here hx rfl (hb hby d3_3) rfl k)) ?_
          by_cases hc4_21 : (3 : Int32) < p1
          · refine own_go (x' := T20.setTop (mkF m 8 #[.val (.ref ao0), .val (.int p1), .val (.int p2), .val (.int (3 : Int32))] [(.ref ao0)])) (fun _ k => XS.icmpNo X20.here hx rfl (hb hby d3_4) rfl (tlt hc4_21).2.1 (XS.aloadN X20.here hx rfl (hb hby d3_7) rfl rfl k)) ?_
            obtain ⟨T22, X22, e22, st22⟩ := getF X20 hx hZ hown (host := "") (Or.inl (own_w hw 17 rfl)) Via.refl e20 F_ao0_chars (g := (mkF m 8 #[.val (.ref ao0), .val (.int p1), .val (.int p2), .val (.int (3 : Int32))] [(.ref ao0)])) rfl rfl (hb hby d3_8)
            refine own_go (x' := T22.setTop (mkF m 11 #[.val (.ref ao0), .val (.int p1), .val (.int p2), .val (.int (3 : Int32))] [(.ref ar)])) st22 ?_
            refine own_go (x' := T22.setTop (mkF m 12 #[.val (.ref ao0), .val (.int p1), .val (.int p2), .val (.int (3 : Int32))] [(.int (3 : Int32)), (.ref ar)])) (fun _ k => XS.iloadN X22.here hx rfl (hb hby d3_11) rfl k) ?_
            obtain ⟨cl23, Ar23, q23, Sz23, Nn23, Hh23, Gg23⟩ := id V_ar
            have hin23 : ¬ ((3 : Int32) < 0 ∨ cl23.slots.size ≤ ((3 : Int32)).toNatClampNeg) := inb_of Sz23 ⟨by decide, by decide⟩
            refine own_go (x' := T22.setTop (mkF m 13 #[.val (.ref ao0), .val (.int p1), .val (.int p2), .val (.int (3 : Int32))] [.null])) (X22.aaload hx (j := (3 : Int32)) (v := .null) (Eq.trans (congrArg (fun h_ => h_[_]?) e22) Ar23.1) (State.isArrayOf_alike hZ.alike Ar23.2.1) rfl Ar23.2.2 hin23 (Hh23.at hin23 rfl) (g := (mkF m 12 #[.val (.ref ao0), .val (.int p1), .val (.int p2), .val (.int (3 : Int32))] [(.int (3 : Int32)), (.ref ar)])) rfl rfl (hb hby d3_12)) ?_
            refine own_go (x' := T22.setTop (mkF m 28 #[.val (.ref ao0), .val (.int p1), .val (.int p2), .val (.int (3 : Int32))] [(.ref ao0)])) (fun _ k => XS.ifnullYes X22.here hx rfl (pc0 := 13) (pc' := 27) rfl (hb hby d3_13) rfl (by decide) (by decide) (XS.aloadN X22.here hx rfl (hb hby d3_27) rfl rfl k)) ?_
            obtain ⟨T24, X24, e24, st24⟩ := getF X22 hx hZ hown (host := "") (Or.inl (own_w hw 17 rfl)) Via.refl e22 F_ao0_chars (g := (mkF m 28 #[.val (.ref ao0), .val (.int p1), .val (.int p2), .val (.int (3 : Int32))] [(.ref ao0)])) rfl rfl (hb hby d3_28)
            refine own_go (x' := T24.setTop (mkF m 31 #[.val (.ref ao0), .val (.int p1), .val (.int p2), .val (.int (3 : Int32))] [(.ref ar)])) st24 ?_
            refine own_go (x' := T24.setTop (mkF m 33 #[.val (.ref ao0), .val (.int p1), .val (.int p2), .val (.int (3 : Int32))] [(.int p2), (.int (3 : Int32)), (.ref ar)])) (fun _ k => XS.iloadN X24.here hx rfl (hb hby d3_31) rfl (XS.iloadN X24.here hx rfl (hb hby d3_32) rfl k)) ?_
            obtain ⟨T25, h25, k25, X25, e25, E25, A25, Q25, st25⟩ := newPE X24 hx hZ (own_w hw 34 rfl) e24 (g := (mkF m 33 #[.val (.ref ao0), .val (.int p1), .val (.int p2), .val (.int (3 : Int32))] [(.int p2), (.int (3 : Int32)), (.ref ar)])) rfl (hb hby d3_33) rfl hs.1 (cap := 31) hs.2 (by decide) (by decide) (by decide) (ad := "[C") (by decide)
            obtain ⟨b25, g25⟩ : ∃ z, z = h20.size := ⟨_, rfl⟩
            rw [← g25] at A25 st25
            rw [← g25] at Q25
            have ne_ao0_b25 : ao0 ≠ b25 := Nat.ne_of_lt (Nat.lt_of_lt_of_le F_ao0_chars.lt (Nat.le_of_eq g25.symm))
            have ne_b0_b25 : b0 ≠ b25 := Nat.ne_of_lt (Nat.lt_of_lt_of_le V_b0.lt (Nat.le_of_eq g25.symm))
            have ne_b7_b25 : b7 ≠ b25 := Nat.ne_of_lt (Nat.lt_of_lt_of_le E_b7.lt (Nat.le_of_eq g25.symm))
            have ne_b13_b25 : b13 ≠ b25 := Nat.ne_of_lt (Nat.lt_of_lt_of_le E_b13.lt (Nat.le_of_eq g25.symm))
            have ne_b19_b25 : b19 ≠ b25 := Nat.ne_of_lt (Nat.lt_of_lt_of_le E_b19.lt (Nat.le_of_eq g25.symm))
            have ne_ar_b25 : ar ≠ b25 := Nat.ne_of_lt (Nat.lt_of_lt_of_le V_ar.lt (Nat.le_of_eq g25.symm))
            have g_b25 : n0 ≤ b25 := Nat.le_trans Zs (Nat.le_of_eq g25.symm)
            have sz_b25 : h0.size ≤ b25 := Nat.le_trans Kp.1 (Nat.le_of_eq g25.symm)
            replace F_ao0_chars := Fld.ext E25 F_ao0_chars
            replace V_b0 := V_b0.ext E25
            replace E_b7 := Exa.ext E25 E_b7
            replace V_b7 := V_b7.ext E25
            replace E_b13 := Exa.ext E25 E_b13
            replace V_b13 := V_b13.ext E25
            replace E_b19 := Exa.ext E25 E_b19
            replace V_b19 := V_b19.ext E25
            replace V_ar := V_ar.ext E25
            replace Zs := Nat.le_trans Zs E25.1
            replace Kp := Kp.ext E25
            have E_b25 := Q25
            have V_b25 : Arv Z h25 b25 k25 .char p2 [] (.int (0 : Int32)) := Arv.new A25 hs.1
            refine own_go (x' := T25.setTop (mkF m 35 #[.val (.ref ao0), .val (.int p1), .val (.int p2), .val (.int (3 : Int32))] [(.ref b25), (.int (3 : Int32)), (.ref ar)])) st25 ?_
            obtain ⟨cl26, Ar26, q26, Sz26, Nn26, Hh26, Gg26⟩ := V_ar
            have hin26 : ¬ ((3 : Int32) < 0 ∨ cl26.slots.size ≤ ((3 : Int32)).toNatClampNeg) := inb_of Sz26 ⟨by decide, by decide⟩
            obtain ⟨T26, h26, X26, e26, W26, st26⟩ := stR X25 hx hZ e25 Ar26 (j := (3 : Int32)) hin26 rfl (Sto.ofVA Ar26 q26 O_ar (Ins.self E_b25)) (g := (mkF m 35 #[.val (.ref ao0), .val (.int p1), .val (.int p2), .val (.int (3 : Int32))] [(.ref b25), (.int (3 : Int32)), (.ref ar)])) rfl rfl (hb hby d3_35)
            refine own_go (x' := T26.setTop (mkF m 36 #[.val (.ref ao0), .val (.int p1), .val (.int p2), .val (.int (3 : Int32))] [])) st26 ?_
            replace F_ao0_chars := Fld.other W26 F_ao0_chars (Or.inl ne_ao0_ar)
            replace V_b0 := V_b0.other W26 ne_b0_ar
            replace E_b7 := Exa.wr W26 E_b7
            replace V_b7 := V_b7.other W26 (Ne.symm ne_ar_b7)
            replace E_b13 := Exa.wr W26 E_b13
            replace V_b13 := V_b13.other W26 (Ne.symm ne_ar_b13)
            replace E_b19 := Exa.wr W26 E_b19
            replace V_b19 := V_b19.other W26 (Ne.symm ne_ar_b19)
            replace E_b25 := Exa.wr W26 E_b25
            replace V_b25 := V_b25.other W26 (Ne.symm ne_ar_b25)
            replace Zs := Nat.le_trans Zs (Keep.of_wr W26).1
            replace Nf := Fr.snoc X26 Nf g_ar
            replace Kp := Kp.wr W26 (Or.inl (by simp))
            have V_ar : Arv Z h26 ar kc (.array .char) (4 : Int32) [(.ref b7), (.ref b13), (.ref b19), (.ref b25)] .null := Arv.set Ar26 q26 Sz26 Nn26 Hh26 Gg26 rfl W26 3 rfl (Nat.le_of_ble_eq_true rfl)
            refine own_go (x' := T26.setTop (mkF m 2 #[.val (.ref ao0), .val (.int p1), .val (.int p2), .val (.int ((3 : Int32) + (1 : Int32)))] [])) (fun _ k => XS.iinc X26.here hx rfl (hb hby d3_36) rfl (l' := #[.val (.ref ao0), .val (.int p1), .val (.int p2), .val (.int ((3 : Int32) + (1 : Int32)))]) rfl (XS.goto X26.here hx rfl (pc0 := 39) (pc' := 2) rfl (hb hby d3_39) (by decide) (by decide) k)) ?_
            rw [show ((3 : Int32) + (1 : Int32)) = (4 : Int32) from by decide +kernel]
            refine own_go (x' := T26.setTop (mkF m 43 #[.val (.ref ao0), .val (.int p1), .val (.int p2), .val (.int (4 : Int32))] [(.ref ao0)])) (fun _ k => XS.iloadN X26.here hx rfl (hb hby d3_2) rfl (XS.iloadN X26.here hx rfl (hb hby d3_3) rfl (XS.icmpYes X26.here hx rfl (pc0 := 4) (pc' := 42) rfl (hb hby d3_4) rfl (flt hu).2.1 (by decide) (by decide) (XS.aloadN X26.here hx rfl (hb hby d3_42) rfl rfl k)))) ?_
            obtain ⟨T27, X27, e27, st27⟩ := getF X26 hx hZ hown (host := "") (Or.inl (own_w hw 17 rfl)) Via.refl e26 F_ao0_chars (g := (mkF m 43 #[.val (.ref ao0), .val (.int p1), .val (.int p2), .val (.int (4 : Int32))] [(.ref ao0)])) rfl rfl (hb hby d3_43)
            refine own_go (x' := T27.setTop (mkF m 46 #[.val (.ref ao0), .val (.int p1), .val (.int p2), .val (.int (4 : Int32))] [(.ref ar)])) st27 ?_
            refine own_retR X27 hx hlk hret rfl rfl (hb hby d3_46) ?_ (by decide) (by decide)
            rw [e27]
            exact ⟨(.ref b7), (.ref b13), (.ref b19), (.ref b25), rfl, Nf, Kp, V_ar, Or.inr ⟨b7, k7, rfl, sz_b7, V_b7, hc4, hc24⟩, Or.inr ⟨b13, k13, rfl, V_b13, hc4_9⟩, Or.inr ⟨b19, k19, rfl, V_b19, hc4_15⟩, Or.inr ⟨b25, k25, rfl, V_b25, hc4_21⟩⟩
          · refine own_go (x' := T20.setTop (mkF m 43 #[.val (.ref ao0), .val (.int p1), .val (.int p2), .val (.int (3 : Int32))] [(.ref ao0)])) (fun _ k => XS.icmpYes X20.here hx rfl (pc0 := 4) (pc' := 42) rfl (hb hby d3_4) rfl (flt hc4_21).2.1 (by decide) (by decide) (XS.aloadN X20.here hx rfl (hb hby d3_42) rfl rfl k)) ?_
            obtain ⟨T28, X28, e28, st28⟩ := getF X20 hx hZ hown (host := "") (Or.inl (own_w hw 17 rfl)) Via.refl e20 F_ao0_chars (g := (mkF m 43 #[.val (.ref ao0), .val (.int p1), .val (.int p2), .val (.int (3 : Int32))] [(.ref ao0)])) rfl rfl (hb hby d3_43)
            refine own_go (x' := T28.setTop (mkF m 46 #[.val (.ref ao0), .val (.int p1), .val (.int p2), .val (.int (3 : Int32))] [(.ref ar)])) st28 ?_
            refine own_retR X28 hx hlk hret rfl rfl (hb hby d3_46) ?_ (by decide) (by decide)
            rw [e28]
            exact ⟨(.ref b7), (.ref b13), (.ref b19), .null, rfl, Nf, Kp, V_ar, Or.inr ⟨b7, k7, rfl, sz_b7, V_b7, hc4, hc24⟩, Or.inr ⟨b13, k13, rfl, V_b13, hc4_9⟩, Or.inr ⟨b19, k19, rfl, V_b19, hc4_15⟩, Or.inl ⟨rfl, hc4_21⟩⟩
        · refine own_go (x' := T14.setTop (mkF m 43 #[.val (.ref ao0), .val (.int p1), .val (.int p2), .val (.int (2 : Int32))] [(.ref ao0)])) (fun _ k => XS.icmpYes X14.here hx rfl (pc0 := 4) (pc' := 42) rfl (hb hby d3_4) rfl (flt hc4_15).2.1 (by decide) (by decide) (XS.aloadN X14.here hx rfl (hb hby d3_42) rfl rfl k)) ?_
          obtain ⟨T29, X29, e29, st29⟩ := getF X14 hx hZ hown (host := "") (Or.inl (own_w hw 17 rfl)) Via.refl e14 F_ao0_chars (g := (mkF m 43 #[.val (.ref ao0), .val (.int p1), .val (.int p2), .val (.int (2 : Int32))] [(.ref ao0)])) rfl rfl (hb hby d3_43)
          refine own_go (x' := T29.setTop (mkF m 46 #[.val (.ref ao0), .val (.int p1), .val (.int p2), .val (.int (2 : Int32))] [(.ref ar)])) st29 ?_
          refine own_retR X29 hx hlk hret rfl rfl (hb hby d3_46) ?_ (by decide) (by decide)
          rw [e29]
          exact ⟨(.ref b7), (.ref b13), .null, .null, rfl, Nf, Kp, V_ar, Or.inr ⟨b7, k7, rfl, sz_b7, V_b7, hc4, hc24⟩, Or.inr ⟨b13, k13, rfl, V_b13, hc4_9⟩, Or.inl ⟨rfl, hc4_15⟩, Or.inl ⟨rfl, (own_le hc4_15 (by decide))⟩⟩
      · refine own_go (x' := T8.setTop (mkF m 43 #[.val (.ref ao0), .val (.int p1), .val (.int p2), .val (.int (1 : Int32))] [(.ref ao0)])) (fun _ k => XS.icmpYes X8.here hx rfl (pc0 := 4) (pc' := 42) rfl (hb hby d3_4) rfl (flt hc4_9).2.1 (by decide) (by decide) (XS.aloadN X8.here hx rfl (hb hby d3_42) rfl rfl k)) ?_
        obtain ⟨T30, X30, e30, st30⟩ := getF X8 hx hZ hown (host := "") (Or.inl (own_w hw 17 rfl)) Via.refl e8 F_ao0_chars (g := (mkF m 43 #[.val (.ref ao0), .val (.int p1), .val (.int p2), .val (.int (1 : Int32))] [(.ref ao0)])) rfl rfl (hb hby d3_43)
        refine own_go (x' := T30.setTop (mkF m 46 #[.val (.ref ao0), .val (.int p1), .val (.int p2), .val (.int (1 : Int32))] [(.ref ar)])) st30 ?_
        refine own_retR X30 hx hlk hret rfl rfl (hb hby d3_46) ?_ (by decide) (by decide)
        rw [e30]
        exact ⟨(.ref b7), .null, .null, .null, rfl, Nf, Kp, V_ar, Or.inr ⟨b7, k7, rfl, sz_b7, V_b7, hc4, hc24⟩, Or.inl ⟨rfl, hc4_9⟩, Or.inl ⟨rfl, (own_le hc4_9 (by decide))⟩, Or.inl ⟨rfl, (own_le hc4_9 (by decide))⟩⟩
    · refine own_go (x' := T3.setTop (mkF m 2 #[.val (.ref ao0), .val (.int p1), .val (.int p2), .val (.int ((0 : Int32) + (1 : Int32)))] [])) (fun _ k => XS.icmpYes X3.here hx rfl (pc0 := 24) (pc' := 36) rfl (hb hby d3_24) rfl (flt hc24).2.1 (by decide) (by decide) (XS.iinc X3.here hx rfl (hb hby d3_36) rfl (l' := #[.val (.ref ao0), .val (.int p1), .val (.int p2), .val (.int ((0 : Int32) + (1 : Int32)))]) rfl (XS.goto X3.here hx rfl (pc0 := 39) (pc' := 2) rfl (hb hby d3_39) (by decide) (by decide) k))) ?_
      rw [show ((0 : Int32) + (1 : Int32)) = (1 : Int32) from by decide +kernel]
      refine own_go (x' := T3.setTop (mkF m 4 #[.val (.ref ao0), .val (.int p1), .val (.int p2), .val (.int (1 : Int32))] [(.int p1), (.int (1 : Int32))])) (fun _ k => XS.iloadN X3.here hx rfl (hb hby d3_2) rfl (XS.iloadN X3.here hx rfl (hb hby d3_3) rfl k)) ?_
      by_cases hc4_31 : (1 : Int32) < p1
      · refine own_go (x' := T3.setTop (mkF m 8 #[.val (.ref ao0), .val (.int p1), .val (.int p2), .val (.int (1 : Int32))] [(.ref ao0)])) (fun _ k => XS.icmpNo X3.here hx rfl (hb hby d3_4) rfl (tlt hc4_31).2.1 (XS.aloadN X3.here hx rfl (hb hby d3_7) rfl rfl k)) ?_
        obtain ⟨T32, X32, e32, st32⟩ := getF X3 hx hZ hown (host := "") (Or.inl (own_w hw 17 rfl)) Via.refl e3 F_ao0_chars (g := (mkF m 8 #[.val (.ref ao0), .val (.int p1), .val (.int p2), .val (.int (1 : Int32))] [(.ref ao0)])) rfl rfl (hb hby d3_8)
        refine own_go (x' := T32.setTop (mkF m 11 #[.val (.ref ao0), .val (.int p1), .val (.int p2), .val (.int (1 : Int32))] [(.ref ar)])) st32 ?_
        refine own_go (x' := T32.setTop (mkF m 12 #[.val (.ref ao0), .val (.int p1), .val (.int p2), .val (.int (1 : Int32))] [(.int (1 : Int32)), (.ref ar)])) (fun _ k => XS.iloadN X32.here hx rfl (hb hby d3_11) rfl k) ?_
        obtain ⟨cl33, Ar33, q33, Sz33, Nn33, Hh33, Gg33⟩ := id V_ar
        have hin33 : ¬ ((1 : Int32) < 0 ∨ cl33.slots.size ≤ ((1 : Int32)).toNatClampNeg) := inb_of Sz33 ⟨by decide, by decide⟩
        refine own_go (x' := T32.setTop (mkF m 13 #[.val (.ref ao0), .val (.int p1), .val (.int p2), .val (.int (1 : Int32))] [.null])) (X32.aaload hx (j := (1 : Int32)) (v := .null) (Eq.trans (congrArg (fun h_ => h_[_]?) e32) Ar33.1) (State.isArrayOf_alike hZ.alike Ar33.2.1) rfl Ar33.2.2 hin33 (Hh33.at hin33 rfl) (g := (mkF m 12 #[.val (.ref ao0), .val (.int p1), .val (.int p2), .val (.int (1 : Int32))] [(.int (1 : Int32)), (.ref ar)])) rfl rfl (hb hby d3_12)) ?_
        refine own_go (x' := T32.setTop (mkF m 28 #[.val (.ref ao0), .val (.int p1), .val (.int p2), .val (.int (1 : Int32))] [(.ref ao0)])) (fun _ k => XS.ifnullYes X32.here hx rfl (pc0 := 13) (pc' := 27) rfl (hb hby d3_13) rfl (by decide) (by decide) (XS.aloadN X32.here hx rfl (hb hby d3_27) rfl rfl k)) ?_
        obtain ⟨T34, X34, e34, st34⟩ := getF X32 hx hZ hown (host := "") (Or.inl (own_w hw 17 rfl)) Via.refl e32 F_ao0_chars (g := (mkF m 28 #[.val (.ref ao0), .val (.int p1), .val (.int p2), .val (.int (1 : Int32))] [(.ref ao0)])) rfl rfl (hb hby d3_28)
        refine own_go (x' := T34.setTop (mkF m 31 #[.val (.ref ao0), .val (.int p1), .val (.int p2), .val (.int (1 : Int32))] [(.ref ar)])) st34 ?_
        refine own_go (x' := T34.setTop (mkF m 33 #[.val (.ref ao0), .val (.int p1), .val (.int p2), .val (.int (1 : Int32))] [(.int p2), (.int (1 : Int32)), (.ref ar)])) (fun _ k => XS.iloadN X34.here hx rfl (hb hby d3_31) rfl (XS.iloadN X34.here hx rfl (hb hby d3_32) rfl k)) ?_
        obtain ⟨T35, h35, k35, X35, e35, E35, A35, Q35, st35⟩ := newPE X34 hx hZ (own_w hw 34 rfl) e34 (g := (mkF m 33 #[.val (.ref ao0), .val (.int p1), .val (.int p2), .val (.int (1 : Int32))] [(.int p2), (.int (1 : Int32)), (.ref ar)])) rfl (hb hby d3_33) rfl hs.1 (cap := 31) hs.2 (by decide) (by decide) (by decide) (ad := "[C") (by decide)
        obtain ⟨b35, g35⟩ : ∃ z, z = h0.size := ⟨_, rfl⟩
        rw [← g35] at A35 st35
        rw [← g35] at Q35
        have ne_ao0_b35 : ao0 ≠ b35 := Nat.ne_of_lt (Nat.lt_of_lt_of_le F_ao0_chars.lt (Nat.le_of_eq g35.symm))
        have ne_ar_b35 : ar ≠ b35 := Nat.ne_of_lt (Nat.lt_of_lt_of_le V_ar.lt (Nat.le_of_eq g35.symm))
        have ne_b0_b35 : b0 ≠ b35 := Nat.ne_of_lt (Nat.lt_of_lt_of_le V_b0.lt (Nat.le_of_eq g35.symm))
        have g_b35 : n0 ≤ b35 := Nat.le_trans Zs (Nat.le_of_eq g35.symm)
        have sz_b35 : h0.size ≤ b35 := Nat.le_trans Kp.1 (Nat.le_of_eq g35.symm)
        replace F_ao0_chars := Fld.ext E35 F_ao0_chars
        replace V_ar := V_ar.ext E35
        replace V_b0 := V_b0.ext E35
        replace Zs := Nat.le_trans Zs E35.1
        replace Kp := Kp.ext E35
        have E_b35 := Q35
        have V_b35 : Arv Z h35 b35 k35 .char p2 [] (.int (0 : Int32)) := Arv.new A35 hs.1
        refine own_go (x' := T35.setTop (mkF m 35 #[.val (.ref ao0), .val (.int p1), .val (.int p2), .val (.int (1 : Int32))] [(.ref b35), (.int (1 : Int32)), (.ref ar)])) st35 ?_
        obtain ⟨cl36, Ar36, q36, Sz36, Nn36, Hh36, Gg36⟩ := V_ar
        have hin36 : ¬ ((1 : Int32) < 0 ∨ cl36.slots.size ≤ ((1 : Int32)).toNatClampNeg) := inb_of Sz36 ⟨by decide, by decide⟩
        obtain ⟨T36, h36, X36, e36, W36, st36⟩ := stR X35 hx hZ e35 Ar36 (j := (1 : Int32)) hin36 rfl (Sto.ofVA Ar36 q36 O_ar (Ins.self E_b35)) (g := (mkF m 35 #[.val (.ref ao0), .val (.int p1), .val (.int p2), .val (.int (1 : Int32))] [(.ref b35), (.int (1 : Int32)), (.ref ar)])) rfl rfl (hb hby d3_35)
        refine own_go (x' := T36.setTop (mkF m 36 #[.val (.ref ao0), .val (.int p1), .val (.int p2), .val (.int (1 : Int32))] [])) st36 ?_
        replace F_ao0_chars := Fld.other W36 F_ao0_chars (Or.inl ne_ao0_ar)
        replace V_b0 := V_b0.other W36 ne_b0_ar
        replace E_b35 := Exa.wr W36 E_b35
        replace V_b35 := V_b35.other W36 (Ne.symm ne_ar_b35)
        replace Zs := Nat.le_trans Zs (Keep.of_wr W36).1
        replace Nf := Fr.snoc X36 Nf g_ar
        replace Kp := Kp.wr W36 (Or.inl (by simp))
        have V_ar : Arv Z h36 ar kc (.array .char) (4 : Int32) [(.ref b0), (.ref b35), .null, .null] .null := Arv.set Ar36 q36 Sz36 Nn36 Hh36 Gg36 rfl W36 1 rfl (Nat.le_of_ble_eq_true rfl)
        refine own_go (x' := T36.setTop (mkF m 2 #[.val (.ref ao0), .val (.int p1), .val (.int p2), .val (.int ((1 : Int32) + (1 : Int32)))] [])) (fun _ k => XS.iinc X36.here hx rfl (hb hby d3_36) rfl (l' := #[.val (.ref ao0), .val (.int p1), .val (.int p2), .val (.int ((1 : Int32) + (1 : Int32)))]) rfl (XS.goto X36.here hx rfl (pc0 := 39) (pc' := 2) rfl (hb hby d3_39) (by decide) (by decide) k)) ?_
        rw [show ((1 : Int32) + (1 : Int32)) = (2 : Int32) from by decide +kernel]
        refine own_go (x' := T36.setTop (mkF m 4 #[.val (.ref ao0), .val (.int p1), .val (.int p2), .val (.int (2 : Int32))] [(.int p1), (.int (2 : Int32))])) (fun _ k => XS.iloadN X36.here hx rfl (hb hby d3_2) rfl (XS.iloadN X36.here hx rfl (hb hby d3_3) rfl k)) ?_
        by_cases hc4_37 : (2 : Int32) < p1
        · refine own_go (x' := T36.setTop (mkF m 8 #[.val (.ref ao0), .val (.int p1), .val (.int p2), .val (.int (2 : Int32))] [(.ref ao0)])) (fun _ k => XS.icmpNo X36.here hx rfl (hb hby d3_4) rfl (tlt hc4_37).2.1 (XS.aloadN X36.here hx rfl (hb hby d3_7) rfl rfl k)) ?_
          obtain ⟨T38, X38, e38, st38⟩ := getF X36 hx hZ hown (host := "") (Or.inl (own_w hw 17 rfl)) Via.refl e36 F_ao0_chars (g := (mkF m 8 #[.val (.ref ao0), .val (.int p1), .val (.int p2), .val (.int (2 : Int32))] [(.ref ao0)])) rfl rfl (hb hby d3_8)
          refine own_go (x' := T38.setTop (mkF m 11 #[.val (.ref ao0), .val (.int p1), .val (.int p2), .val (.int (2 : Int32))] [(.ref ar)])) st38 ?_
          refine own_go (x' := T38.setTop (mkF m 12 #[.val (.ref ao0), .val (.int p1), .val (.int p2), .val (.int (2 : Int32))] [(.int (2 : Int32)), (.ref ar)])) (fun _ k => XS.iloadN X38.here hx rfl (hb hby d3_11) rfl k) ?_
          obtain ⟨cl39, Ar39, q39, Sz39, Nn39, Hh39, Gg39⟩ := id V_ar
          have hin39 : ¬ ((2 : Int32) < 0 ∨ cl39.slots.size ≤ ((2 : Int32)).toNatClampNeg) := inb_of Sz39 ⟨by decide, by decide⟩
          refine own_go (x' := T38.setTop (mkF m 13 #[.val (.ref ao0), .val (.int p1), .val (.int p2), .val (.int (2 : Int32))] [.null])) (X38.aaload hx (j := (2 : Int32)) (v := .null) (Eq.trans (congrArg (fun h_ => h_[_]?) e38) Ar39.1) (State.isArrayOf_alike hZ.alike Ar39.2.1) rfl Ar39.2.2 hin39 (Hh39.at hin39 rfl) (g := (mkF m 12 #[.val (.ref ao0), .val (.int p1), .val (.int p2), .val (.int (2 : Int32))] [(.int (2 : Int32)), (.ref ar)])) rfl rfl (hb hby d3_12)) ?_
          refine own_go (x' := T38.setTop (mkF m 28 #[.val (.ref ao0), .val (.int p1), .val (.int p2), .val (.int (2 : Int32))] [(.ref ao0)])) (fun _ k => XS.ifnullYes X38.here hx rfl (pc0 := 13) (pc' := 27) rfl (hb hby d3_13) rfl (by decide) (by decide) (XS.aloadN X38.here hx rfl (hb hby d3_27) rfl rfl k)) ?_
          obtain ⟨T40, X40, e40, st40⟩ := getF X38 hx hZ hown (host := "") (Or.inl (own_w hw 17 rfl)) Via.refl e38 F_ao0_chars (g := (mkF m 28 #[.val (.ref ao0), .val (.int p1), .val (.int p2), .val (.int (2 : Int32))] [(.ref ao0)])) rfl rfl (hb hby d3_28)
          refine own_go (x' := T40.setTop (mkF m 31 #[.val (.ref ao0), .val (.int p1), .val (.int p2), .val (.int (2 : Int32))] [(.ref ar)])) st40 ?_
          refine own_go (x' := T40.setTop (mkF m 33 #[.val (.ref ao0), .val (.int p1), .val (.int p2), .val (.int (2 : Int32))] [(.int p2), (.int (2 : Int32)), (.ref ar)])) (fun _ k => XS.iloadN X40.here hx rfl (hb hby d3_31) rfl (XS.iloadN X40.here hx rfl (hb hby d3_32) rfl k)) ?_
          obtain ⟨T41, h41, k41, X41, e41, E41, A41, Q41, st41⟩ := newPE X40 hx hZ (own_w hw 34 rfl) e40 (g := (mkF m 33 #[.val (.ref ao0), .val (.int p1), .val (.int p2), .val (.int (2 : Int32))] [(.int p2), (.int (2 : Int32)), (.ref ar)])) rfl (hb hby d3_33) rfl hs.1 (cap := 31) hs.2 (by decide) (by decide) (by decide) (ad := "[C") (by decide)
          obtain ⟨b41, g41⟩ : ∃ z, z = h36.size := ⟨_, rfl⟩
          rw [← g41] at A41 st41
          rw [← g41] at Q41
          have ne_ao0_b41 : ao0 ≠ b41 := Nat.ne_of_lt (Nat.lt_of_lt_of_le F_ao0_chars.lt (Nat.le_of_eq g41.symm))
          have ne_b0_b41 : b0 ≠ b41 := Nat.ne_of_lt (Nat.lt_of_lt_of_le V_b0.lt (Nat.le_of_eq g41.symm))
          have ne_b35_b41 : b35 ≠ b41 := Nat.ne_of_lt (Nat.lt_of_lt_of_le E_b35.lt (Nat.le_of_eq g41.symm))
          have ne_ar_b41 : ar ≠ b41 := Nat.ne_of_lt (Nat.lt_of_lt_of_le V_ar.lt (Nat.le_of_eq g41.symm))
          have g_b41 : n0 ≤ b41 := Nat.le_trans Zs (Nat.le_of_eq g41.symm)
          have sz_b41 : h0.size ≤ b41 := Nat.le_trans Kp.1 (Nat.le_of_eq g41.symm)
          replace F_ao0_chars := Fld.ext E41 F_ao0_chars
          replace V_b0 := V_b0.ext E41
          replace E_b35 := Exa.ext E41 E_b35
          replace V_b35 := V_b35.ext E41
          replace V_ar := V_ar.ext E41
          replace Zs := Nat.le_trans Zs E41.1
          replace Kp := Kp.ext E41
          have E_b41 := Q41
          have V_b41 : Arv Z h41 b41 k41 .char p2 [] (.int (0 : Int32)) := Arv.new A41 hs.1
          refine own_go (x' := T41.setTop (mkF m 35 #[.val (.ref ao0), .val (.int p1), .val (.int p2), .val (.int (2 : Int32))] [(.ref b41), (.int (2 : Int32)), (.ref ar)])) st41 ?_
          obtain ⟨cl42, Ar42, q42, Sz42, Nn42, Hh42, Gg42⟩ := V_ar
          have hin42 : ¬ ((2 : Int32) < 0 ∨ cl42.slots.size ≤ ((2 : Int32)).toNatClampNeg) := inb_of Sz42 ⟨by decide, by decide⟩
          obtain ⟨T42, h42, X42, e42, W42, st42⟩ := stR X41 hx hZ e41 Ar42 (j := (2 : Int32)) hin42 rfl (Sto.ofVA Ar42 q42 O_ar (Ins.self E_b41)) (g := (mkF m 35 #[.val (.ref ao0), .val (.int p1), .val (.int p2), .val (.int (2 : Int32))] [(.ref b41), (.int (2 : Int32)), (.ref ar)])) rfl rfl (hb hby d3_35)
          refine own_go (x' := T42.setTop (mkF m 36 #[.val (.ref ao0), .val (.int p1), .val (.int p2), .val (.int (2 : Int32))] [])) st42 ?_
          replace F_ao0_chars := Fld.other W42 F_ao0_chars (Or.inl ne_ao0_ar)
          replace V_b0 := V_b0.other W42 ne_b0_ar
          replace E_b35 := Exa.wr W42 E_b35
          replace V_b35 := V_b35.other W42 (Ne.symm ne_ar_b35)
          replace E_b41 := Exa.wr W42 E_b41
          replace V_b41 := V_b41.other W42 (Ne.symm ne_ar_b41)
          replace Zs := Nat.le_trans Zs (Keep.of_wr W42).1
          replace Nf := Fr.snoc X42 Nf g_ar
          replace Kp := Kp.wr W42 (Or.inl (by simp))
          have V_ar : Arv Z h42 ar kc (.array .char) (4 : Int32) [(.ref b0), (.ref b35), (.ref b41), .null] .null := Arv.set Ar42 q42 Sz42 Nn42 Hh42 Gg42 rfl W42 2 rfl (Nat.le_of_ble_eq_true rfl)
          refine own_go (x' := T42.setTop (mkF m 2 #[.val (.ref ao0), .val (.int p1), .val (.int p2), .val (.int ((2 : Int32) + (1 : Int32)))] [])) (fun _ k => XS.iinc X42.here hx rfl (hb hby d3_36) rfl (l' := #[.val (.ref ao0), .val (.int p1), .val (.int p2), .val (.int ((2 : Int32) + (1 : Int32)))]) rfl (XS.goto X42.here hx rfl (pc0 := 39) (pc' := 2) rfl (hb hby d3_39) (by decide) (by decide) k)) ?_
          rw [show ((2 : Int32) + (1 : Int32)) = (3 : Int32) from by decide +kernel]
          refine own_go (x' := T42.setTop (mkF m 4 #[.val (.ref ao0), .val (.int p1), .val (.int p2), .val (.int (3 : Int32))] [(.int p1), (.int (3 : Int32))])) (fun _ k => XS.iloadN X42.here hx rfl (hb hby d3_2) rfl (XS.iloadN X42.here hx rfl (hb hby d3_3) rfl k)) ?_
          by_cases hc4_43 : (3 : Int32) < p1
          · refine own_go (x' := T42.setTop (mkF m 8 #[.val (.ref ao0), .val (.int p1), .val (.int p2), .val (.int (3 : Int32))] [(.ref ao0)])) (fun _ k => XS.icmpNo X42.here hx rfl (hb hby d3_4) rfl (tlt hc4_43).2.1 (XS.aloadN X42.here hx rfl (hb hby d3_7) rfl rfl k)) ?_
            obtain ⟨T44, X44, e44, st44⟩ := getF X42 hx hZ hown (host := "") (Or.inl (own_w hw 17 rfl)) Via.refl e42 F_ao0_chars (g := (mkF m 8 #[.val (.ref ao0), .val (.int p1), .val (.int p2), .val (.int (3 : Int32))] [(.ref ao0)])) rfl rfl (hb hby d3_8)
            refine own_go (x' := T44.setTop (mkF m 11 #[.val (.ref ao0), .val (.int p1), .val (.int p2), .val (.int (3 : Int32))] [(.ref ar)])) st44 ?_
            refine own_go (x' := T44.setTop (mkF m 12 #[.val (.ref ao0), .val (.int p1), .val (.int p2), .val (.int (3 : Int32))] [(.int (3 : Int32)), (.ref ar)])) (fun _ k => XS.iloadN X44.here hx rfl (hb hby d3_11) rfl k) ?_
            obtain ⟨cl45, Ar45, q45, Sz45, Nn45, Hh45, Gg45⟩ := id V_ar
            have hin45 : ¬ ((3 : Int32) < 0 ∨ cl45.slots.size ≤ ((3 : Int32)).toNatClampNeg) := inb_of Sz45 ⟨by decide, by decide⟩
            refine own_go (x' := T44.setTop (mkF m 13 #[.val (.ref ao0), .val (.int p1), .val (.int p2), .val (.int (3 : Int32))] [.null])) (X44.aaload hx (j := (3 : Int32)) (v := .null) (Eq.trans (congrArg (fun h_ => h_[_]?) e44) Ar45.1) (State.isArrayOf_alike hZ.alike Ar45.2.1) rfl Ar45.2.2 hin45 (Hh45.at hin45 rfl) (g := (mkF m 12 #[.val (.ref ao0), .val (.int p1), .val (.int p2), .val (.int (3 : Int32))] [(.int (3 : Int32)), (.ref ar)])) rfl rfl (hb hby d3_12)) ?_
            refine own_go (x' := T44.setTop (mkF m 28 #[.val (.ref ao0), .val (.int p1), .val (.int p2), .val (.int (3 : Int32))] [(.ref ao0)])) (fun _ k => XS.ifnullYes X44.here hx rfl (pc0 := 13) (pc' := 27) rfl (hb hby d3_13) rfl (by decide) (by decide) (XS.aloadN X44.here hx rfl (hb hby d3_27) rfl rfl k)) ?_
            obtain ⟨T46, X46, e46, st46⟩ := getF X44 hx hZ hown (host := "") (Or.inl (own_w hw 17 rfl)) Via.refl e44 F_ao0_chars (g := (mkF m 28 #[.val (.ref ao0), .val (.int p1), .val (.int p2), .val (.int (3 : Int32))] [(.ref ao0)])) rfl rfl (hb hby d3_28)
            refine own_go (x' := T46.setTop (mkF m 31 #[.val (.ref ao0), .val (.int p1), .val (.int p2), .val (.int (3 : Int32))] [(.ref ar)])) st46 ?_
            refine own_go (x' := T46.setTop (mkF m 33 #[.val (.ref ao0), .val (.int p1), .val (.int p2), .val (.int (3 : Int32))] [(.int p2), (.int (3 : Int32)), (.ref ar)])) (fun _ k => XS.iloadN X46.here hx rfl (hb hby d3_31) rfl (XS.iloadN X46.here hx rfl (hb hby d3_32) rfl k)) ?_
            obtain ⟨T47, h47, k47, X47, e47, E47, A47, Q47, st47⟩ := newPE X46 hx hZ (own_w hw 34 rfl) e46 (g := (mkF m 33 #[.val (.ref ao0), .val (.int p1), .val (.int p2), .val (.int (3 : Int32))] [(.int p2), (.int (3 : Int32)), (.ref ar)])) rfl (hb hby d3_33) rfl hs.1 (cap := 31) hs.2 (by decide) (by decide) (by decide) (ad := "[C") (by decide)
            obtain ⟨b47, g47⟩ : ∃ z, z = h42.size := ⟨_, rfl⟩
            rw [← g47] at A47 st47
            rw [← g47] at Q47
            have ne_ao0_b47 : ao0 ≠ b47 := Nat.ne_of_lt (Nat.lt_of_lt_of_le F_ao0_chars.lt (Nat.le_of_eq g47.symm))
            have ne_b0_b47 : b0 ≠ b47 := Nat.ne_of_lt (Nat.lt_of_lt_of_le V_b0.lt (Nat.le_of_eq g47.symm))
            have ne_b35_b47 : b35 ≠ b47 := Nat.ne_of_lt (Nat.lt_of_lt_of_le E_b35.lt (Nat.le_of_eq g47.symm))
            have ne_b41_b47 : b41 ≠ b47 := Nat.ne_of_lt (Nat.lt_of_lt_of_le E_b41.lt (Nat.le_of_eq g47.symm))
            have ne_ar_b47 : ar ≠ b47 := Nat.ne_of_lt (Nat.lt_of_lt_of_le V_ar.lt (Nat.le_of_eq g47.symm))
            have g_b47 : n0 ≤ b47 := Nat.le_trans Zs (Nat.le_of_eq g47.symm)
            have sz_b47 : h0.size ≤ b47 := Nat.le_trans Kp.1 (Nat.le_of_eq g47.symm)
            replace F_ao0_chars := Fld.ext E47 F_ao0_chars
            replace V_b0 := V_b0.ext E47
            replace E_b35 := Exa.ext E47 E_b35
            replace V_b35 := V_b35.ext E47
            replace E_b41 := Exa.ext E47 E_b41
            replace V_b41 := V_b41.ext E47
            replace V_ar := V_ar.ext E47
            replace Zs := Nat.le_trans Zs E47.1
            replace Kp := Kp.ext E47
            have E_b47 := Q47
            have V_b47 : Arv Z h47 b47 k47 .char p2 [] (.int (0 : Int32)) := Arv.new A47 hs.1
            refine own_go (x' := T47.setTop (mkF m 35 #[.val (.ref ao0), .val (.int p1), .val (.int p2), .val (.int (3 : Int32))] [(.ref b47), (.int (3 : Int32)), (.ref ar)])) st47 ?_
            obtain ⟨cl48, Ar48, q48, Sz48, Nn48, Hh48, Gg48⟩ := V_ar
            have hin48 : ¬ ((3 : Int32) < 0 ∨ cl48.slots.size ≤ ((3 : Int32)).toNatClampNeg) := inb_of Sz48 ⟨by decide, by decide⟩
            obtain ⟨T48, h48, X48, e48, W48, st48⟩ := stR X47 hx hZ e47 Ar48 (j := (3 : Int32)) hin48 rfl (Sto.ofVA Ar48 q48 O_ar (Ins.self E_b47)) (g := (mkF m 35 #[.val (.ref ao0), .val (.int p1), .val (.int p2), .val (.int (3 : Int32))] [(.ref b47), (.int (3 : Int32)), (.ref ar)])) rfl rfl (hb hby d3_35)
            refine own_go (x' := T48.setTop (mkF m 36 #[.val (.ref ao0), .val (.int p1), .val (.int p2), .val (.int (3 : Int32))] [])) st48 ?_
            replace F_ao0_chars := Fld.other W48 F_ao0_chars (Or.inl ne_ao0_ar)
            replace V_b0 := V_b0.other W48 ne_b0_ar
            replace E_b35 := Exa.wr W48 E_b35
            replace V_b35 := V_b35.other W48 (Ne.symm ne_ar_b35)
            replace E_b41 := Exa.wr W48 E_b41
            replace V_b41 := V_b41.other W48 (Ne.symm ne_ar_b41)
            replace E_b47 := Exa.wr W48 E_b47
            replace V_b47 := V_b47.other W48 (Ne.symm ne_ar_b47)
            replace Zs := Nat.le_trans Zs (Keep.of_wr W48).1
            replace Nf := Fr.snoc X48 Nf g_ar
            replace Kp := Kp.wr W48 (Or.inl (by simp))
            have V_ar : Arv Z h48 ar kc (.array .char) (4 : Int32) [(.ref b0), (.ref b35), (.ref b41), (.ref b47)] .null := Arv.set Ar48 q48 Sz48 Nn48 Hh48 Gg48 rfl W48 3 rfl (Nat.le_of_ble_eq_true rfl)
            refine own_go (x' := T48.setTop (mkF m 2 #[.val (.ref ao0), .val (.int p1), .val (.int p2), .val (.int ((3 : Int32) + (1 : Int32)))] [])) (fun _ k => XS.iinc X48.here hx rfl (hb hby d3_36) rfl (l' := #[.val (.ref ao0), .val (.int p1), .val (.int p2), .val (.int ((3 : Int32) + (1 : Int32)))]) rfl (XS.goto X48.here hx rfl (pc0 := 39) (pc' := 2) rfl (hb hby d3_39) (by decide) (by decide) k)) ?_
            rw [show ((3 : Int32) + (1 : Int32)) = (4 : Int32) from by decide +kernel]
            refine own_go (x' := T48.setTop (mkF m 43 #[.val (.ref ao0), .val (.int p1), .val (.int p2), .val (.int (4 : Int32))] [(.ref ao0)])) (fun _ k => XS.iloadN X48.here hx rfl (hb hby d3_2) rfl (XS.iloadN X48.here hx rfl (hb hby d3_3) rfl (XS.icmpYes X48.here hx rfl (pc0 := 4) (pc' := 42) rfl (hb hby d3_4) rfl (flt hu).2.1 (by decide) (by decide) (XS.aloadN X48.here hx rfl (hb hby d3_42) rfl rfl k)))) ?_
            obtain ⟨T49, X49, e49, st49⟩ := getF X48 hx hZ hown (host := "") (Or.inl (own_w hw 17 rfl)) Via.refl e48 F_ao0_chars (g := (mkF m 43 #[.val (.ref ao0), .val (.int p1), .val (.int p2), .val (.int (4 : Int32))] [(.ref ao0)])) rfl rfl (hb hby d3_43)
            refine own_go (x' := T49.setTop (mkF m 46 #[.val (.ref ao0), .val (.int p1), .val (.int p2), .val (.int (4 : Int32))] [(.ref ar)])) st49 ?_
            refine own_retR X49 hx hlk hret rfl rfl (hb hby d3_46) ?_ (by decide) (by decide)
            rw [e49]
            exact ⟨(.ref b0), (.ref b35), (.ref b41), (.ref b47), rfl, Nf, Kp, V_ar, Or.inl ⟨rfl, Or.inr hc24⟩, Or.inr ⟨b35, k35, rfl, V_b35, hc4_31⟩, Or.inr ⟨b41, k41, rfl, V_b41, hc4_37⟩, Or.inr ⟨b47, k47, rfl, V_b47, hc4_43⟩⟩
          · refine own_go (x' := T42.setTop (mkF m 43 #[.val (.ref ao0), .val (.int p1), .val (.int p2), .val (.int (3 : Int32))] [(.ref ao0)])) (fun _ k => XS.icmpYes X42.here hx rfl (pc0 := 4) (pc' := 42) rfl (hb hby d3_4) rfl (flt hc4_43).2.1 (by decide) (by decide) (XS.aloadN X42.here hx rfl (hb hby d3_42) rfl rfl k)) ?_
            obtain ⟨T50, X50, e50, st50⟩ := getF X42 hx hZ hown (host := "") (Or.inl (own_w hw 17 rfl)) Via.refl e42 F_ao0_chars (g := (mkF m 43 #[.val (.ref ao0), .val (.int p1), .val (.int p2), .val (.int (3 : Int32))] [(.ref ao0)])) rfl rfl (hb hby d3_43)
            refine own_go (x' := T50.setTop (mkF m 46 #[.val (.ref ao0), .val (.int p1), .val (.int p2), .val (.int (3 : Int32))] [(.ref ar)])) st50 ?_
            refine own_retR X50 hx hlk hret rfl rfl (hb hby d3_46) ?_ (by decide) (by decide)
            rw [e50]
            exact ⟨(.ref b0), (.ref b35), (.ref b41), .null, rfl, Nf, Kp, V_ar, Or.inl ⟨rfl, Or.inr hc24⟩, Or.inr ⟨b35, k35, rfl, V_b35, hc4_31⟩, Or.inr ⟨b41, k41, rfl, V_b41, hc4_37⟩, Or.inl ⟨rfl, hc4_43⟩⟩
        · refine own_go (x' := T36.setTop (mkF m 43 #[.val (.ref ao0), .val (.int p1), .val (.int p2), .val (.int (2 : Int32))] [(.ref ao0)])) (fun _ k => XS.icmpYes X36.here hx rfl (pc0 := 4) (pc' := 42) rfl (hb hby d3_4) rfl (flt hc4_37).2.1 (by decide) (by decide) (XS.aloadN X36.here hx rfl (hb hby d3_42) rfl rfl k)) ?_
          obtain ⟨T51, X51, e51, st51⟩ := getF X36 hx hZ hown (host := "") (Or.inl (own_w hw 17 rfl)) Via.refl e36 F_ao0_chars (g := (mkF m 43 #[.val (.ref ao0), .val (.int p1), .val (.int p2), .val (.int (2 : Int32))] [(.ref ao0)])) rfl rfl (hb hby d3_43)
          refine own_go (x' := T51.setTop (mkF m 46 #[.val (.ref ao0), .val (.int p1), .val (.int p2), .val (.int (2 : Int32))] [(.ref ar)])) st51 ?_
          refine own_retR X51 hx hlk hret rfl rfl (hb hby d3_46) ?_ (by decide) (by decide)
          rw [e51]
          exact ⟨(.ref b0), (.ref b35), .null, .null, rfl, Nf, Kp, V_ar, Or.inl ⟨rfl, Or.inr hc24⟩, Or.inr ⟨b35, k35, rfl, V_b35, hc4_31⟩, Or.inl ⟨rfl, hc4_37⟩, Or.inl ⟨rfl, (own_le hc4_37 (by decide))⟩⟩
      · refine own_go (x' := T3.setTop (mkF m 43 #[.val (.ref ao0), .val (.int p1), .val (.int p2), .val (.int (1 : Int32))] [(.ref ao0)])) (fun _ k => XS.icmpYes X3.here hx rfl (pc0 := 4) (pc' := 42) rfl (hb hby d3_4) rfl (flt hc4_31).2.1 (by decide) (by decide) (XS.aloadN X3.here hx rfl (hb hby d3_42) rfl rfl k)) ?_
        obtain ⟨T52, X52, e52, st52⟩ := getF X3 hx hZ hown (host := "") (Or.inl (own_w hw 17 rfl)) Via.refl e3 F_ao0_chars (g := (mkF m 43 #[.val (.ref ao0), .val (.int p1), .val (.int p2), .val (.int (1 : Int32))] [(.ref ao0)])) rfl rfl (hb hby d3_43)
        refine own_go (x' := T52.setTop (mkF m 46 #[.val (.ref ao0), .val (.int p1), .val (.int p2), .val (.int (1 : Int32))] [(.ref ar)])) st52 ?_
        refine own_retR X52 hx hlk hret rfl rfl (hb hby d3_46) ?_ (by decide) (by decide)
        rw [e52]
        exact ⟨(.ref b0), .null, .null, .null, rfl, Nf, Kp, V_ar, Or.inl ⟨rfl, Or.inr hc24⟩, Or.inl ⟨rfl, hc4_31⟩, Or.inl ⟨rfl, (own_le hc4_31 (by decide))⟩, Or.inl ⟨rfl, (own_le hc4_31 (by decide))⟩⟩
  · refine own_go (x' := s₁.setTop (mkF m 43 #[.val (.ref ao0), .val (.int p1), .val (.int p2), .val (.int (0 : Int32))] [(.ref ao0)])) (fun _ k => XS.icmpYes X0.here hx rfl (pc0 := 4) (pc' := 42) rfl (hb hby d3_4) rfl (flt hc4).2.1 (by decide) (by decide) (XS.aloadN X0.here hx rfl (hb hby d3_42) rfl rfl k)) ?_
    obtain ⟨T53, X53, e53, st53⟩ := getF X0 hx hZ hown (host := "") (Or.inl (own_w hw 17 rfl)) Via.refl e0 F_ao0_chars (g := (mkF m 43 #[.val (.ref ao0), .val (.int p1), .val (.int p2), .val (.int (0 : Int32))] [(.ref ao0)])) rfl rfl (hb hby d3_43)
    refine own_go (x' := T53.setTop (mkF m 46 #[.val (.ref ao0), .val (.int p1), .val (.int p2), .val (.int (0 : Int32))] [(.ref ar)])) st53 ?_
    refine own_retR X53 hx hlk hret rfl rfl (hb hby d3_46) ?_ (by decide) (by decide)
    rw [e53]
    exact ⟨(.ref b0), .null, .null, .null, rfl, Nf, Kp, V_ar, Or.inl ⟨rfl, Or.inl hc4⟩, Or.inl ⟨rfl, (own_le hc4 (by decide))⟩, Or.inl ⟨rfl, (own_le hc4 (by decide))⟩, Or.inl ⟨rfl, (own_le hc4 (by decide))⟩⟩
def Q_rmS_2 (Z : State) (ao0 : Addr) (p1 : Int32) (p2 : Int32) (ar : Addr) (kc : ClassId) (n1 mm : Int32) (b0 : Addr) (k0 : ClassId) (b1 : Addr) (k1 : ClassId) (h0 : Heap) (n0 : Nat) (v : Option Value) (h : Heap) (L : List Loc) : Prop := ∃ w0 w1 w2 w3 : Value, v = some (.ref ar) ∧ Fr n0 L ∧ Keep h0 h [ar] ∧ Arv Z h ar kc (.array .char) (4 : Int32) [w0, w1, w2, w3] .null ∧ own_Rp Z h h0.size w0 b0 (0 : Int32) p1 n1 p2 ∧ own_Rp Z h h0.size w1 b1 (1 : Int32) p1 n1 p2 ∧ own_Rn Z h w2 (2 : Int32) p1 p2 ∧ own_Rn Z h w3 (3 : Int32) p1 p2
theorem pn_rmS_2 : plainName "com/example/wee_match/weematch/Sieve$Windows" = true := by first | (simp [plainName, overriddenIn]; done) | decide +kernel
theorem ef_rmS_2 (m : MethodId) (x0 : Addr) (x1 : Int32) (x2 : Int32) : entryFrame m #[(.ref x0), (.int x1), (.int x2)] 4 = mkF m 0 #[.val (.ref x0), .val (.int x1), .val (.int x2), .unset] [] := by first | (simp [entryFrame, mkF, argsToLocals, Value.category]; done) | rfl
set_option maxRecDepth 65536 in
set_option maxHeartbeats 40000000 in
theorem rmS_2 (l : Launch) (Z : State) (a0 : Array Value) (hw : ∀ d ∈ tables_1, d.before a0 Z = true) (ws : List Jvm.Cond) (ao0 : Addr) (p1 : Int32) (p2 : Int32) (ar : Addr) (kc : ClassId) (n1 mm : Int32) (b0 : Addr) (k0 : ClassId) (b1 : Addr) (k1 : ClassId) (h0 : Heap) (n0 : Nat) (Z0 : n0 ≤ h0.size) (F_ao0_chars : Fld Z h0 ao0 "com/example/wee_match/weematch/Sieve$Windows" "chars" "[[C" (.ref ar)) (V_ar : Arv Z h0 ar kc (.array .char) (4 : Int32) [.ref b0, .ref b1, .null, .null] .null) (O_ar : OvrA Z kc .char "[C") (ne_ao0_ar : ao0 ≠ ar) (g_ar : n0 ≤ ar) (hs : own_L p2) (hu : ¬ (4 : Int32) < p1) (V_b0 : Arv Z h0 b0 k0 .char n1 [.int mm] (.int (0 : Int32))) (V_b1 : Arv Z h0 b1 k1 .char n1 [.int mm] (.int (0 : Int32))) (ne_b0_ar : b0 ≠ ar) (ne_b1_ar : b1 ≠ ar) :
    MetFree l (⟨"com/example/wee_match/weematch/Sieve$Windows", "chars", "(II)[[C"⟩ : MethodName) (head1 (Jvm.Cond.code (⟨"com/example/wee_match/weematch/Sieve$Windows", "chars", "(II)[[C"⟩ : MethodName) prog_20_method_9_code 4 (some (.array (.array .char))) :: ws) ({ frames := 0, cells := 4, slots := 124, locals := 0 } : Room)) (fun a U => a = #[(.ref ao0), (.int p1), (.int p2)] ∧ Z.Warmed39 U.vm ∧ U.heap = h0) (fun _ _ _ _ _ => True) (fun _ U o U' => ∃ v L, o = .returned v ∧ (Q_rmS_2 Z ao0 p1 p2 ar kc n1 mm b0 k0 b1 k1 h0 n0) v U'.heap L ∧ FrameEnd U o U' L ({ frames := 0, cells := 4, slots := 124, locals := 0 } : Room).cells ({ frames := 0, cells := 4, slots := 124, locals := 0 } : Room).slots) := by
  refine MetFree.of_bodySF (plainFor_of_name pn_rmS_2) hisR ?_
  intro p e s m args below meth c s₁ Bd hml0 hP hK
  obtain ⟨rfl, hZ, hh⟩ := hP
  have hx := Bd.exec
  have hby := Bd.bytes
  have hlk := BodyLoose.notSynchronized Bd
  have hret := Bd.returns
  have hml : c.maxLocals = 4 := hml0
  have hown : s.vm.findClass "com/example/wee_match/weematch/Sieve$Windows" = some m.cls := findClass_of_methodNamed Bd.named
  have hnm := (name_of_methodNamed Bd.named Bd.method).1
  have X0 : Stand p l e ({ frames := 0, cells := 4, slots := 124, locals := 0 } : Room) s m #[(.ref ao0), (.int p1), (.int p2)] below meth c s₁ [] 0 0 := Stand.of_body Bd
  have e0 : s₁.heap = h0 := by rw [← hh, Bd.state]; rfl
  have Nf := Fr.nil n0
  have Zs := Z0
  have Kp : Keep h0 h0 [ar] := Keep.refl _ _
  show own_End p e below s (Q_rmS_2 Z ao0 p1 p2 ar kc n1 mm b0 k0 b1 k1 h0 n0) ({ frames := 0, cells := 4, slots := 124, locals := 0 } : Room).cells ({ frames := 0, cells := 4, slots := 124, locals := 0 } : Room).slots (s₁.setTop (entryFrame m #[(.ref ao0), (.int p1), (.int p2)] 4))
  refine own_go (x' := s₁.setTop (mkF m 0 #[.val (.ref ao0), .val (.int p1), .val (.int p2), .unset] [])) (fun t k => castTop (ef_rmS_2 m ao0 p1 p2) k) ?_
  refine own_go (x' := s₁.setTop (mkF m 4 #[.val (.ref ao0), .val (.int p1), .val (.int p2), .val (.int (0 : Int32))] [(.int p1), (.int (0 : Int32))])) (fun _ k => XS.iconst X0.here hx rfl (hb hby d3_0) (XS.istoreN X0.here hx rfl (hb hby d3_1) rfl (l' := #[.val (.ref ao0), .val (.int p1), .val (.int p2), .val (.int (0 : Int32))]) rfl (XS.iloadN X0.here hx rfl (hb hby d3_2) rfl (XS.iloadN X0.here hx rfl (hb hby d3_3) rfl k)))) ?_
  by_cases hc4 : (0 : Int32) < p1
  · refine own_go (x' := s₁.setTop (mkF m 8 #[.val (.ref ao0), .val (.int p1), .val (.int p2), .val (.int (0 : Int32))] [(.ref ao0)])) (fun _ k => XS.icmpNo X0.here hx rfl (hb hby d3_4) rfl (tlt hc4).2.1 (XS.aloadN X0.here hx rfl (hb hby d3_7) rfl rfl k)) ?_
    obtain ⟨T1, X1, e1, st1⟩ := getF X0 hx hZ hown (host := "") (Or.inl (own_w hw 17 rfl)) Via.refl e0 F_ao0_chars (g := (mkF m 8 #[.val (.ref ao0), .val (.int p1), .val (.int p2), .val (.int (0 : Int32))] [(.ref ao0)])) rfl rfl (hb hby d3_8)
    refine own_go (x' := T1.setTop (mkF m 11 #[.val (.ref ao0), .val (.int p1), .val (.int p2), .val (.int (0 : Int32))] [(.ref ar)])) st1 ?_
    refine own_go (x' := T1.setTop (mkF m 12 #[.val (.ref ao0), .val (.int p1), .val (.int p2), .val (.int (0 : Int32))] [(.int (0 : Int32)), (.ref ar)])) (fun _ k => XS.iloadN X1.here hx rfl (hb hby d3_11) rfl k) ?_
    obtain ⟨cl2, Ar2, q2, Sz2, Nn2, Hh2, Gg2⟩ := id V_ar
    have hin2 : ¬ ((0 : Int32) < 0 ∨ cl2.slots.size ≤ ((0 : Int32)).toNatClampNeg) := inb_of Sz2 ⟨by decide, by decide⟩
    refine own_go (x' := T1.setTop (mkF m 13 #[.val (.ref ao0), .val (.int p1), .val (.int p2), .val (.int (0 : Int32))] [(.ref b0)])) (X1.aaload hx (j := (0 : Int32)) (v := (.ref b0)) (Eq.trans (congrArg (fun h_ => h_[_]?) e1) Ar2.1) (State.isArrayOf_alike hZ.alike Ar2.2.1) rfl Ar2.2.2 hin2 (Hh2.at hin2 rfl) (g := (mkF m 12 #[.val (.ref ao0), .val (.int p1), .val (.int p2), .val (.int (0 : Int32))] [(.int (0 : Int32)), (.ref ar)])) rfl rfl (hb hby d3_12)) ?_
    refine own_go (x' := T1.setTop (mkF m 17 #[.val (.ref ao0), .val (.int p1), .val (.int p2), .val (.int (0 : Int32))] [(.ref ao0)])) (fun _ k => XS.ifnullNo X1.here hx rfl (hb hby d3_13) rfl (XS.aloadN X1.here hx rfl (hb hby d3_16) rfl rfl k)) ?_
    obtain ⟨T3, X3, e3, st3⟩ := getF X1 hx hZ hown (host := "") (Or.inl (own_w hw 17 rfl)) Via.refl e1 F_ao0_chars (g := (mkF m 17 #[.val (.ref ao0), .val (.int p1), .val (.int p2), .val (.int (0 : Int32))] [(.ref ao0)])) rfl rfl (hb hby d3_17)
    refine own_go (x' := T3.setTop (mkF m 20 #[.val (.ref ao0), .val (.int p1), .val (.int p2), .val (.int (0 : Int32))] [(.ref ar)])) st3 ?_
    refine own_go (x' := T3.setTop (mkF m 21 #[.val (.ref ao0), .val (.int p1), .val (.int p2), .val (.int (0 : Int32))] [(.int (0 : Int32)), (.ref ar)])) (fun _ k => XS.iloadN X3.here hx rfl (hb hby d3_20) rfl k) ?_
    obtain ⟨cl4, Ar4, q4, Sz4, Nn4, Hh4, Gg4⟩ := id V_ar
    have hin4 : ¬ ((0 : Int32) < 0 ∨ cl4.slots.size ≤ ((0 : Int32)).toNatClampNeg) := inb_of Sz4 ⟨by decide, by decide⟩
    refine own_go (x' := T3.setTop (mkF m 22 #[.val (.ref ao0), .val (.int p1), .val (.int p2), .val (.int (0 : Int32))] [(.ref b0)])) (X3.aaload hx (j := (0 : Int32)) (v := (.ref b0)) (Eq.trans (congrArg (fun h_ => h_[_]?) e3) Ar4.1) (State.isArrayOf_alike hZ.alike Ar4.2.1) rfl Ar4.2.2 hin4 (Hh4.at hin4 rfl) (g := (mkF m 21 #[.val (.ref ao0), .val (.int p1), .val (.int p2), .val (.int (0 : Int32))] [(.int (0 : Int32)), (.ref ar)])) rfl rfl (hb hby d3_21)) ?_
    obtain ⟨cl5, Ar5, -, Sz5, Nn5, -, -⟩ := id V_b0
    refine own_go (x' := T3.setTop (mkF m 23 #[.val (.ref ao0), .val (.int p1), .val (.int p2), .val (.int (0 : Int32))] [(.int n1)])) (fun t k => X3.arraylength hx (Eq.trans (congrArg (fun h_ => h_[_]?) e3) Ar5.1) (State.isArrayOf_alike hZ.alike Ar5.2.1) (g := (mkF m 22 #[.val (.ref ao0), .val (.int p1), .val (.int p2), .val (.int (0 : Int32))] [(.ref b0)])) rfl rfl (hb hby d3_22) t (by rw [len_of Sz5 Nn5]; exact k)) ?_
    refine own_go (x' := T3.setTop (mkF m 24 #[.val (.ref ao0), .val (.int p1), .val (.int p2), .val (.int (0 : Int32))] [(.int p2), (.int n1)])) (fun _ k => XS.iloadN X3.here hx rfl (hb hby d3_23) rfl k) ?_
    by_cases hc24 : n1 < p2
    · refine own_go (x' := T3.setTop (mkF m 28 #[.val (.ref ao0), .val (.int p1), .val (.int p2), .val (.int (0 : Int32))] [(.ref ao0)])) (fun _ k => XS.icmpNo X3.here hx rfl (hb hby d3_24) rfl (tlt hc24).2.1 (XS.aloadN X3.here hx rfl (hb hby d3_27) rfl rfl k)) ?_
      obtain ⟨T6, X6, e6, st6⟩ := getF X3 hx hZ hown (host := "") (Or.inl (own_w hw 17 rfl)) Via.refl e3 F_ao0_chars (g := (mkF m 28 #[.val (.ref ao0), .val (.int p1), .val (.int p2), .val (.int (0 : Int32))] [(.ref ao0)])) rfl rfl (hb hby d3_28)
      refine own_go (x' := T6.setTop (mkF m 31 #[.val (.ref ao0), .val (.int p1), .val (.int p2), .val (.int (0 : Int32))] [(.ref ar)])) st6 ?_
      refine own_go (x' := T6.setTop (mkF m 33 #[.val (.ref ao0), .val (.int p1), .val (.int p2), .val (.int (0 : Int32))] [(.int p2), (.int (0 : Int32)), (.ref ar)])) (fun _ k => XS.iloadN X6.here hx rfl (hb hby d3_31) rfl (XS.iloadN X6.here hx rfl (hb hby d3_32) rfl k)) ?_
      obtain ⟨T7, h7, k7, X7, e7, E7, A7, Q7, st7⟩ := newPE X6 hx hZ (own_w hw 34 rfl) e6 (g := (mkF m 33 #[.val (.ref ao0), .val (.int p1), .val (.int p2), .val (.int (0 : Int32))] [(.int p2), (.int (0 : Int32)), (.ref ar)])) rfl (hb hby d3_33) rfl hs.1 (cap := 31) hs.2 (by decide) (by decide) (by decide) (ad := "[C") (by decide)
      obtain ⟨b7, g7⟩ : ∃ z, z = h0.size := ⟨_, rfl⟩
      rw [← g7] at A7 st7
      rw [← g7] at Q7
      have ne_ao0_b7 : ao0 ≠ b7 := Nat.ne_of_lt (Nat.lt_of_lt_of_le F_ao0_chars.lt (Nat.le_of_eq g7.symm))
      have ne_ar_b7 : ar ≠ b7 := Nat.ne_of_lt (Nat.lt_of_lt_of_le V_ar.lt (Nat.le_of_eq g7.symm))
      have ne_b0_b7 : b0 ≠ b7 := Nat.ne_of_lt (Nat.lt_of_lt_of_le V_b0.lt (Nat.le_of_eq g7.symm))
      have ne_b1_b7 : b1 ≠ b7 := Nat.ne_of_lt (Nat.lt_of_lt_of_le V_b1.lt (Nat.le_of_eq g7.symm))
      have g_b7 : n0 ≤ b7 := Nat.le_trans Zs (Nat.le_of_eq g7.symm)
      have sz_b7 : h0.size ≤ b7 := Nat.le_trans Kp.1 (Nat.le_of_eq g7.symm)
      replace F_ao0_chars := Fld.ext E7 F_ao0_chars
      replace V_ar := V_ar.ext E7
      replace V_b0 := V_b0.ext E7
      replace V_b1 := V_b1.ext E7
      replace Zs := Nat.le_trans Zs E7.1
      replace Kp := Kp.ext E7
      have E_b7 := Q7
      have V_b7 : Arv Z h7 b7 k7 .char p2 [] (.int (0 : Int32)) := Arv.new A7 hs.1
      refine own_go (x' := T7.setTop (mkF m 35 #[.val (.ref ao0), .val (.int p1), .val (.int p2), .val (.int (0 : Int32))] [(.ref b7), (.int (0 : Int32)), (.ref ar)])) st7 ?_
      obtain ⟨cl8, Ar8, q8, Sz8, Nn8, Hh8, Gg8⟩ := V_ar
      have hin8 : ¬ ((0 : Int32) < 0 ∨ cl8.slots.size ≤ ((0 : Int32)).toNatClampNeg) := inb_of Sz8 ⟨by decide, by decide⟩
      obtain ⟨T8, h8, X8, e8, W8, st8⟩ := stR X7 hx hZ e7 Ar8 (j := (0 : Int32)) hin8 rfl (Sto.ofVA Ar8 q8 O_ar (Ins.self E_b7)) (g := (mkF m 35 #[.val (.ref ao0), .val (.int p1), .val (.int p2), .val (.int (0 : Int32))] [(.ref b7), (.int (0 : Int32)), (.ref ar)])) rfl rfl (hb hby d3_35)
      refine own_go (x' := T8.setTop (mkF m 36 #[.val (.ref ao0), .val (.int p1), .val (.int p2), .val (.int (0 : Int32))] [])) st8 ?_
      replace F_ao0_chars := Fld.other W8 F_ao0_chars (Or.inl ne_ao0_ar)
      replace V_b0 := V_b0.other W8 ne_b0_ar
      replace V_b1 := V_b1.other W8 ne_b1_ar
      replace E_b7 := Exa.wr W8 E_b7
      replace V_b7 := V_b7.other W8 (Ne.symm ne_ar_b7)
      replace Zs := Nat.le_trans Zs (Keep.of_wr W8).1
      replace Nf := Fr.snoc X8 Nf g_ar
      replace Kp := Kp.wr W8 (Or.inl (by simp))
      have V_ar : Arv Z h8 ar kc (.array .char) (4 : Int32) [(.ref b7), (.ref b1), .null, .null] .null := Arv.set Ar8 q8 Sz8 Nn8 Hh8 Gg8 rfl W8 0 rfl (Nat.le_of_ble_eq_true rfl)
      refine own_go (x' := T8.setTop (mkF m 2 #[.val (.ref ao0), .val (.int p1), .val (.int p2), .val (.int ((0 : Int32) + (1 : Int32)))] [])) (fun _ k => XS.iinc X8.here hx rfl (hb hby d3_36) rfl (l' := #[.val (.ref ao0), .val (.int p1), .val (.int p2), .val (.int ((0 : Int32) + (1 : Int32)))]) rfl (XS.goto X8.here hx rfl (pc0 := 39) (pc' := 2) rfl (hb hby d3_39) (by decide) (by decide) k)) ?_
      rw [show ((0 : Int32) + (1 : Int32)) = (1 : Int32) from by decide +kernel]
      refine own_go (x' := T8.setTop (mkF m 4 #[.val (.ref ao0), .val (.int p1), .val (.int p2), .val (.int (1 : Int32))] [(.int p1), (.int (1 : Int32))])) (fun _ k => XS.iloadN X8.here hx rfl (hb hby d3_2) rfl (XS.iloadN X8.here hx rfl (hb hby d3_3) rfl k)) ?_
      by_cases hc4_9 : (1 : Int32) < p1
      · refine own_go (x' := T8.setTop (mkF m 8 #[.val (.ref ao0), .val (.int p1), .val (.int p2), .val (.int (1 : Int32))] [(.ref ao0)])) (fun _ k => XS.icmpNo X8.here hx rfl (hb hby d3_4) rfl (tlt hc4_9).2.1 (XS.aloadN X8.here hx rfl (hb hby d3_7) rfl rfl k)) ?_
        obtain ⟨T10, X10, e10, st10⟩ := getF X8 hx hZ hown (host := "") (Or.inl (own_w hw 17 rfl)) Via.refl e8 F_ao0_chars (g := (mkF m 8 #[.val (.ref ao0), .val (.int p1), .val (.int p2), .val (.int (1 : Int32))] [(.ref ao0)])) rfl rfl (hb hby d3_8)
        refine own_go (x' := T10.setTop (mkF m 11 #[.val (.ref ao0), .val (.int p1), .val (.int p2), .val (.int (1 : Int32))] [(.ref ar)])) st10 ?_
        refine own_go (x' := T10.setTop (mkF m 12 #[.val (.ref ao0), .val (.int p1), .val (.int p2), .val (.int (1 : Int32))] [(.int (1 : Int32)), (.ref ar)])) (fun _ k => XS.iloadN X10.here hx rfl (hb hby d3_11) rfl k) ?_
        obtain ⟨cl11, Ar11, q11, Sz11, Nn11, Hh11, Gg11⟩ := id V_ar
        have hin11 : ¬ ((1 : Int32) < 0 ∨ cl11.slots.size ≤ ((1 : Int32)).toNatClampNeg) := inb_of Sz11 ⟨by decide, by decide⟩
        refine own_go (x' := T10.setTop (mkF m 13 #[.val (.ref ao0), .val (.int p1), .val (.int p2), .val (.int (1 : Int32))] [(.ref b1)])) (X10.aaload hx (j := (1 : Int32)) (v := (.ref b1)) (Eq.trans (congrArg (fun h_ => h_[_]?) e10) Ar11.1) (State.isArrayOf_alike hZ.alike Ar11.2.1) rfl Ar11.2.2 hin11 (Hh11.at hin11 rfl) (g := (mkF m 12 #[.val (.ref ao0), .val (.int p1), .val (.int p2), .val (.int (1 : Int32))] [(.int (1 : Int32)), (.ref ar)])) rfl rfl (hb hby d3_12)) ?_
        refine own_go (x' := T10.setTop (mkF m 17 #[.val (.ref ao0), .val (.int p1), .val (.int p2), .val (.int (1 : Int32))] [(.ref ao0)])) (fun _ k => XS.ifnullNo X10.here hx rfl (hb hby d3_13) rfl (XS.aloadN X10.here hx rfl (hb hby d3_16) rfl rfl k)) ?_
        obtain ⟨T12, X12, e12, st12⟩ := getF X10 hx hZ hown (host := "") (Or.inl (own_w hw 17 rfl)) Via.refl e10 F_ao0_chars (g := (mkF m 17 #[.val (.ref ao0), .val (.int p1), .val (.int p2), .val (.int (1 : Int32))] [(.ref ao0)])) rfl rfl (hb hby d3_17)
        refine own_go (x' := T12.setTop (mkF m 20 #[.val (.ref ao0), .val (.int p1), .val (.int p2), .val (.int (1 : Int32))] [(.ref ar)])) st12 ?_
        refine own_go (x' := T12.setTop (mkF m 21 #[.val (.ref ao0), .val (.int p1), .val (.int p2), .val (.int (1 : Int32))] [(.int (1 : Int32)), (.ref ar)])) (fun _ k => XS.iloadN X12.here hx rfl (hb hby d3_20) rfl k) ?_
        obtain ⟨cl13, Ar13, q13, Sz13, Nn13, Hh13, Gg13⟩ := id V_ar
        have hin13 : ¬ ((1 : Int32) < 0 ∨ cl13.slots.size ≤ ((1 : Int32)).toNatClampNeg) := inb_of Sz13 ⟨by decide, by decide⟩
        refine own_go (x' := T12.setTop (mkF m 22 #[.val (.ref ao0), .val (.int p1), .val (.int p2), .val (.int (1 : Int32))] [(.ref b1)])) (X12.aaload hx (j := (1 : Int32)) (v := (.ref b1)) (Eq.trans (congrArg (fun h_ => h_[_]?) e12) Ar13.1) (State.isArrayOf_alike hZ.alike Ar13.2.1) rfl Ar13.2.2 hin13 (Hh13.at hin13 rfl) (g := (mkF m 21 #[.val (.ref ao0), .val (.int p1), .val (.int p2), .val (.int (1 : Int32))] [(.int (1 : Int32)), (.ref ar)])) rfl rfl (hb hby d3_21)) ?_
        obtain ⟨cl14, Ar14, -, Sz14, Nn14, -, -⟩ := id V_b1
        refine own_go (x' := T12.setTop (mkF m 23 #[.val (.ref ao0), .val (.int p1), .val (.int p2), .val (.int (1 : Int32))] [(.int n1)])) (fun t k => X12.arraylength hx (Eq.trans (congrArg (fun h_ => h_[_]?) e12) Ar14.1) (State.isArrayOf_alike hZ.alike Ar14.2.1) (g := (mkF m 22 #[.val (.ref ao0), .val (.int p1), .val (.int p2), .val (.int (1 : Int32))] [(.ref b1)])) rfl rfl (hb hby d3_22) t (by rw [len_of Sz14 Nn14]; exact k)) ?_
        refine own_go (x' := T12.setTop (mkF m 28 #[.val (.ref ao0), .val (.int p1), .val (.int p2), .val (.int (1 : Int32))] [(.ref ao0)])) (fun _ k => XS.iloadN X12.here hx rfl (hb hby d3_23) rfl (XS.icmpNo X12.here hx rfl (hb hby d3_24) rfl (tlt hc24).2.1 (XS.aloadN X12.here hx rfl (hb hby d3_27) rfl rfl k))) ?_
        obtain ⟨T15, X15, e15, st15⟩ := getF X12 hx hZ hown (host := "") (Or.inl (own_w hw 17 rfl)) Via.refl e12 F_ao0_chars (g := (mkF m 28 #[.val (.ref ao0), .val (.int p1), .val (.int p2), .val (.int (1 : Int32))] [(.ref ao0)])) rfl rfl (hb hby d3_28)
        refine own_go (x' := T15.setTop (mkF m 31 #[.val (.ref ao0), .val (.int p1), .val (.int p2), .val (.int (1 : Int32))] [(.ref ar)])) st15 ?_
        refine own_go (x' := T15.setTop (mkF m 33 #[.val (.ref ao0), .val (.int p1), .val (.int p2), .val (.int (1 : Int32))] [(.int p2), (.int (1 : Int32)), (.ref ar)])) (fun _ k => XS.iloadN X15.here hx rfl (hb hby d3_31) rfl (XS.iloadN X15.here hx rfl (hb hby d3_32) rfl k)) ?_
        obtain ⟨T16, h16, k16, X16, e16, E16, A16, Q16, st16⟩ := newPE X15 hx hZ (own_w hw 34 rfl) e15 (g := (mkF m 33 #[.val (.ref ao0), .val (.int p1), .val (.int p2), .val (.int (1 : Int32))] [(.int p2), (.int (1 : Int32)), (.ref ar)])) rfl (hb hby d3_33) rfl hs.1 (cap := 31) hs.2 (by decide) (by decide) (by decide) (ad := "[C") (by decide)
        obtain ⟨b16, g16⟩ : ∃ z, z = h8.size := ⟨_, rfl⟩
        rw [← g16] at A16 st16
        rw [← g16] at Q16
        have ne_ao0_b16 : ao0 ≠ b16 := Nat.ne_of_lt (Nat.lt_of_lt_of_le F_ao0_chars.lt (Nat.le_of_eq g16.symm))
        have ne_b0_b16 : b0 ≠ b16 := Nat.ne_of_lt (Nat.lt_of_lt_of_le V_b0.lt (Nat.le_of_eq g16.symm))
        have ne_b1_b16 : b1 ≠ b16 := Nat.ne_of_lt (Nat.lt_of_lt_of_le V_b1.lt (Nat.le_of_eq g16.symm))
        have ne_b7_b16 : b7 ≠ b16 := Nat.ne_of_lt (Nat.lt_of_lt_of_le E_b7.lt (Nat.le_of_eq g16.symm))
        have ne_ar_b16 : ar ≠ b16 := Nat.ne_of_lt (Nat.lt_of_lt_of_le V_ar.lt (Nat.le_of_eq g16.symm))
        have g_b16 : n0 ≤ b16 := Nat.le_trans Zs (Nat.le_of_eq g16.symm)
        have sz_b16 : h0.size ≤ b16 := Nat.le_trans Kp.1 (Nat.le_of_eq g16.symm)
        replace F_ao0_chars := Fld.ext E16 F_ao0_chars
        replace V_b0 := V_b0.ext E16
        replace V_b1 := V_b1.ext E16
        replace E_b7 := Exa.ext E16 E_b7
        replace V_b7 := V_b7.ext E16
        replace V_ar := V_ar.ext E16
        replace Zs := Nat.le_trans Zs E16.1
        replace Kp := Kp.ext E16
        have E_b16 := Q16
        have V_b16 : Arv Z h16 b16 k16 .char p2 [] (.int (0 : Int32)) := Arv.new A16 hs.1
        refine own_go (x' := T16.setTop (mkF m 35 #[.val (.ref ao0), .val (.int p1), .val (.int p2), .val (.int (1 : Int32))] [(.ref b16), (.int (1 : Int32)), (.ref ar)])) st16 ?_
        obtain ⟨cl17, Ar17, q17, Sz17, Nn17, Hh17, Gg17⟩ := V_ar
        have hin17 : ¬ ((1 : Int32) < 0 ∨ cl17.slots.size ≤ ((1 : Int32)).toNatClampNeg) := inb_of Sz17 ⟨by decide, by decide⟩
        obtain ⟨T17, h17, X17, e17, W17, st17⟩ := stR X16 hx hZ e16 Ar17 (j := (1 : Int32)) hin17 rfl (Sto.ofVA Ar17 q17 O_ar (Ins.self E_b16)) (g := (mkF m 35 #[.val (.ref ao0), .val (.int p1), .val (.int p2), .val (.int (1 : Int32))] [(.ref b16), (.int (1 : Int32)), (.ref ar)])) rfl rfl (hb hby d3_35)
        refine own_go (x' := T17.setTop (mkF m 36 #[.val (.ref ao0), .val (.int p1), .val (.int p2), .val (.int (1 : Int32))] [])) st17 ?_
        replace F_ao0_chars := Fld.other W17 F_ao0_chars (Or.inl ne_ao0_ar)
        replace V_b0 := V_b0.other W17 ne_b0_ar
        replace V_b1 := V_b1.other W17 ne_b1_ar
        replace E_b7 := Exa.wr W17 E_b7
        replace V_b7 := V_b7.other W17 (Ne.symm ne_ar_b7)
        replace E_b16 := Exa.wr W17 E_b16
        replace V_b16 := V_b16.other W17 (Ne.symm ne_ar_b16)
        replace Zs := Nat.le_trans Zs (Keep.of_wr W17).1
        replace Nf := Fr.snoc X17 Nf g_ar
        replace Kp := Kp.wr W17 (Or.inl (by simp))
        have V_ar : Arv Z h17 ar kc (.array .char) (4 : Int32) [(.ref b7), (.ref b16), .null, .null] .null := Arv.set Ar17 q17 Sz17 Nn17 Hh17 Gg17 rfl W17 1 rfl (Nat.le_of_ble_eq_true rfl)
        refine own_go (x' := T17.setTop (mkF m 2 #[.val (.ref ao0), .val (.int p1), .val (.int p2), .val (.int ((1 : Int32) + (1 : Int32)))] [])) (fun _ k => XS.iinc X17.here hx rfl (hb hby d3_36) rfl (l' := #[.val (.ref ao0), .val (.int p1), .val (.int p2), .val (.int ((1 : Int32) + (1 : Int32)))]) rfl (XS.goto X17.here hx rfl (pc0 := 39) (pc' := 2) rfl (hb hby d3_39) (by decide) (by decide) k)) ?_
        rw [show ((1 : Int32) + (1 : Int32)) = (2 : Int32) from by decide +kernel]
        refine own_go (x' := T17.setTop (mkF m 4 #[.val (.ref ao0), .val (.int p1), .val (.int p2), .val (.int (2 : Int32))] [(.int p1), (.int (2 : Int32))])) (fun _ k => XS.iloadN X17.here hx rfl (hb hby d3_2) rfl (XS.iloadN X17.here hx rfl (hb hby d3_3) rfl k)) ?_
        by_cases hc4_18 : (2 : Int32) < p1
        · refine own_go (x' := T17.setTop (mkF m 8 #[.val (.ref ao0), .val (.int p1), .val (.int p2), .val (.int (2 : Int32))] [(.ref ao0)])) (fun _ k => XS.icmpNo X17.here hx rfl (hb hby d3_4) rfl (tlt hc4_18).2.1 (XS.aloadN X17.here hx rfl (hb hby d3_7) rfl rfl k)) ?_
          obtain ⟨T19, X19, e19, st19⟩ := getF X17 hx hZ hown (host := "") (Or.inl (own_w hw 17 rfl)) Via.refl e17 F_ao0_chars (g := (mkF m 8 #[.val (.ref ao0), .val (.int p1), .val (.int p2), .val (.int (2 : Int32))] [(.ref ao0)])) rfl rfl (hb hby d3_8)
          refine own_go (x' := T19.setTop (mkF m 11 #[.val (.ref ao0), .val (.int p1), .val (.int p2), .val (.int (2 : Int32))] [(.ref ar)])) st19 ?_
          refine own_go (x' := T19.setTop (mkF m 12 #[.val (.ref ao0), .val (.int p1), .val (.int p2), .val (.int (2 : Int32))] [(.int (2 : Int32)), (.ref ar)])) (fun _ k => XS.iloadN X19.here hx rfl (hb hby d3_11) rfl k) ?_
          obtain ⟨cl20, Ar20, q20, Sz20, Nn20, Hh20, Gg20⟩ := id V_ar
          have hin20 : ¬ ((2 : Int32) < 0 ∨ cl20.slots.size ≤ ((2 : Int32)).toNatClampNeg) := inb_of Sz20 ⟨by decide, by decide⟩
          refine own_go (x' := T19.setTop (mkF m 13 #[.val (.ref ao0), .val (.int p1), .val (.int p2), .val (.int (2 : Int32))] [.null])) (X19.aaload hx (j := (2 : Int32)) (v := .null) (Eq.trans (congrArg (fun h_ => h_[_]?) e19) Ar20.1) (State.isArrayOf_alike hZ.alike Ar20.2.1) rfl Ar20.2.2 hin20 (Hh20.at hin20 rfl) (g := (mkF m 12 #[.val (.ref ao0), .val (.int p1), .val (.int p2), .val (.int (2 : Int32))] [(.int (2 : Int32)), (.ref ar)])) rfl rfl (hb hby d3_12)) ?_
          refine own_go (x' := T19.setTop (mkF m 28 #[.val (.ref ao0), .val (.int p1), .val (.int p2), .val (.int (2 : Int32))] [(.ref ao0)])) (fun _ k => XS.ifnullYes X19.here hx rfl (pc0 := 13) (pc' := 27) rfl (hb hby d3_13) rfl (by decide) (by decide) (XS.aloadN X19.here hx rfl (hb hby d3_27) rfl rfl k)) ?_
          obtain ⟨T21, X21, e21, st21⟩ := getF X19 hx hZ hown (host := "") (Or.inl (own_w hw 17 rfl)) Via.refl e19 F_ao0_chars (g := (mkF m 28 #[.val (.ref ao0), .val (.int p1), .val (.int p2), .val (.int (2 : Int32))] [(.ref ao0)])) rfl rfl (hb hby d3_28)
          refine own_go (x' := T21.setTop (mkF m 31 #[.val (.ref ao0), .val (.int p1), .val (.int p2), .val (.int (2 : Int32))] [(.ref ar)])) st21 ?_
          refine own_go (x' := T21.setTop (mkF m 33 #[.val (.ref ao0), .val (.int p1), .val (.int p2), .val (.int (2 : Int32))] [(.int p2), (.int (2 : Int32)), (.ref ar)])) (fun _ k => XS.iloadN X21.here hx rfl (hb hby d3_31) rfl (XS.iloadN X21.here hx rfl (hb hby d3_32) rfl k)) ?_
          obtain ⟨T22, h22, k22, X22, e22, E22, A22, Q22, st22⟩ := newPE X21 hx hZ (own_w hw 34 rfl) e21 (g := (mkF m 33 #[.val (.ref ao0), .val (.int p1), .val (.int p2), .val (.int (2 : Int32))] [(.int p2), (.int (2 : Int32)), (.ref ar)])) rfl (hb hby d3_33) rfl hs.1 (cap := 31) hs.2 (by decide) (by decide) (by decide) (ad := "[C") (by decide)
          obtain ⟨b22, g22⟩ : ∃ z, z = h17.size := ⟨_, rfl⟩
          rw [← g22] at A22 st22
          rw [← g22] at Q22
          have ne_ao0_b22 : ao0 ≠ b22 := Nat.ne_of_lt (Nat.lt_of_lt_of_le F_ao0_chars.lt (Nat.le_of_eq g22.symm))
          have ne_b0_b22 : b0 ≠ b22 := Nat.ne_of_lt (Nat.lt_of_lt_of_le V_b0.lt (Nat.le_of_eq g22.symm))
          have ne_b1_b22 : b1 ≠ b22 := Nat.ne_of_lt (Nat.lt_of_lt_of_le V_b1.lt (Nat.le_of_eq g22.symm))
          have ne_b7_b22 : b7 ≠ b22 := Nat.ne_of_lt (Nat.lt_of_lt_of_le E_b7.lt (Nat.le_of_eq g22.symm))
          have ne_b16_b22 : b16 ≠ b22 := Nat.ne_of_lt (Nat.lt_of_lt_of_le E_b16.lt (Nat.le_of_eq g22.symm))
          have ne_ar_b22 : ar ≠ b22 := Nat.ne_of_lt (Nat.lt_of_lt_of_le V_ar.lt (Nat.le_of_eq g22.symm))
          have g_b22 : n0 ≤ b22 := Nat.le_trans Zs (Nat.le_of_eq g22.symm)
          have sz_b22 : h0.size ≤ b22 := Nat.le_trans Kp.1 (Nat.le_of_eq g22.symm)
          replace F_ao0_chars := Fld.ext E22 F_ao0_chars
          replace V_b0 := V_b0.ext E22
          replace V_b1 := V_b1.ext E22
          replace E_b7 := Exa.ext E22 E_b7
          replace V_b7 := V_b7.ext E22
          replace E_b16 := Exa.ext E22 E_b16
          replace V_b16 := V_b16.ext E22
          replace V_ar := V_ar.ext E22
          replace Zs := Nat.le_trans Zs E22.1
          replace Kp := Kp.ext E22
          have E_b22 := Q22
          have V_b22 : Arv Z h22 b22 k22 .char p2 [] (.int (0 : Int32)) := Arv.new A22 hs.1
          refine own_go (x' := T22.setTop (mkF m 35 #[.val (.ref ao0), .val (.int p1), .val (.int p2), .val (.int (2 : Int32))] [(.ref b22), (.int (2 : Int32)), (.ref ar)])) st22 ?_
          obtain ⟨cl23, Ar23, q23, Sz23, Nn23, Hh23, Gg23⟩ := V_ar
          have hin23 : ¬ ((2 : Int32) < 0 ∨ cl23.slots.size ≤ ((2 : Int32)).toNatClampNeg) := inb_of Sz23 ⟨by decide, by decide⟩
          obtain ⟨T23, h23, X23, e23, W23, st23⟩ := stR X22 hx hZ e22 Ar23 (j := (2 : Int32)) hin23 rfl (Sto.ofVA Ar23 q23 O_ar (Ins.self E_b22)) (g := (mkF m 35 #[.val (.ref ao0), .val (.int p1), .val (.int p2), .val (.int (2 : Int32))] [(.ref b22), (.int (2 : Int32)), (.ref ar)])) rfl rfl (hb hby d3_35)
          refine own_go (x' := T23.setTop (mkF m 36 #[.val (.ref ao0), .val (.int p1), .val (.int p2), .val (.int (2 : Int32))] [])) st23 ?_
          replace F_ao0_chars := Fld.other W23 F_ao0_chars (Or.inl ne_ao0_ar)
          replace V_b0 := V_b0.other W23 ne_b0_ar
          replace V_b1 := V_b1.other W23 ne_b1_ar
          replace E_b7 := Exa.wr W23 E_b7
          replace V_b7 := V_b7.other W23 (Ne.symm ne_ar_b7)
          replace E_b16 := Exa.wr W23 E_b16
          replace V_b16 := V_b16.other W23 (Ne.symm ne_ar_b16)
          replace E_b22 := Exa.wr W23 E_b22
          replace V_b22 := V_b22.other W23 (Ne.symm ne_ar_b22)
          replace Zs := Nat.le_trans Zs (Keep.of_wr W23).1
          replace Nf := Fr.snoc X23 Nf g_ar
          replace Kp := Kp.wr W23 (Or.inl (by simp))
          have V_ar : Arv Z h23 ar kc (.array .char) (4 : Int32) [(.ref b7), (.ref b16), (.ref b22), .null] .null := Arv.set Ar23 q23 Sz23 Nn23 Hh23 Gg23 rfl W23 2 rfl (Nat.le_of_ble_eq_true rfl)
          refine own_go (x' := T23.setTop (mkF m 2 #[.val (.ref ao0), .val (.int p1), .val (.int p2), .val (.int ((2 : Int32) + (1 : Int32)))] [])) (fun _ k => XS.iinc X23.here hx rfl (hb hby d3_36) rfl (l' := #[.val (.ref ao0), .val (.int p1), .val (.int p2), .val (.int ((2 : Int32) + (1 : Int32)))]) rfl (XS.goto X23.here hx rfl (pc0 := 39) (pc' := 2) rfl (hb hby d3_39) (by decide) (by decide) k)) ?_
          rw [show ((2 : Int32) + (1 : Int32)) = (3 : Int32) from by decide +kernel]
          refine own_go (x' := T23.setTop (mkF m 4 #[.val (.ref ao0), .val (.int p1), .val (.int p2), .val (.int (3 : Int32))] [(.int p1), (.int (3 : Int32))])) (fun _ k => XS.iloadN X23.here hx rfl (hb hby d3_2) rfl (XS.iloadN X23.here hx rfl (hb hby d3_3) rfl k)) ?_
          by_cases hc4_24 : (3 : Int32) < p1
          · refine own_go (x' := T23.setTop (mkF m 8 #[.val (.ref ao0), .val (.int p1), .val (.int p2), .val (.int (3 : Int32))] [(.ref ao0)])) (fun _ k => XS.icmpNo X23.here hx rfl (hb hby d3_4) rfl (tlt hc4_24).2.1 (XS.aloadN X23.here hx rfl (hb hby d3_7) rfl rfl k)) ?_
            obtain ⟨T25, X25, e25, st25⟩ := getF X23 hx hZ hown (host := "") (Or.inl (own_w hw 17 rfl)) Via.refl e23 F_ao0_chars (g := (mkF m 8 #[.val (.ref ao0), .val (.int p1), .val (.int p2), .val (.int (3 : Int32))] [(.ref ao0)])) rfl rfl (hb hby d3_8)
            refine own_go (x' := T25.setTop (mkF m 11 #[.val (.ref ao0), .val (.int p1), .val (.int p2), .val (.int (3 : Int32))] [(.ref ar)])) st25 ?_
            refine own_go (x' := T25.setTop (mkF m 12 #[.val (.ref ao0), .val (.int p1), .val (.int p2), .val (.int (3 : Int32))] [(.int (3 : Int32)), (.ref ar)])) (fun _ k => XS.iloadN X25.here hx rfl (hb hby d3_11) rfl k) ?_
            obtain ⟨cl26, Ar26, q26, Sz26, Nn26, Hh26, Gg26⟩ := id V_ar
            have hin26 : ¬ ((3 : Int32) < 0 ∨ cl26.slots.size ≤ ((3 : Int32)).toNatClampNeg) := inb_of Sz26 ⟨by decide, by decide⟩
            refine own_go (x' := T25.setTop (mkF m 13 #[.val (.ref ao0), .val (.int p1), .val (.int p2), .val (.int (3 : Int32))] [.null])) (X25.aaload hx (j := (3 : Int32)) (v := .null) (Eq.trans (congrArg (fun h_ => h_[_]?) e25) Ar26.1) (State.isArrayOf_alike hZ.alike Ar26.2.1) rfl Ar26.2.2 hin26 (Hh26.at hin26 rfl) (g := (mkF m 12 #[.val (.ref ao0), .val (.int p1), .val (.int p2), .val (.int (3 : Int32))] [(.int (3 : Int32)), (.ref ar)])) rfl rfl (hb hby d3_12)) ?_
            refine own_go (x' := T25.setTop (mkF m 28 #[.val (.ref ao0), .val (.int p1), .val (.int p2), .val (.int (3 : Int32))] [(.ref ao0)])) (fun _ k => XS.ifnullYes X25.here hx rfl (pc0 := 13) (pc' := 27) rfl (hb hby d3_13) rfl (by decide) (by decide) (XS.aloadN X25.here hx rfl (hb hby d3_27) rfl rfl k)) ?_
            obtain ⟨T27, X27, e27, st27⟩ := getF X25 hx hZ hown (host := "") (Or.inl (own_w hw 17 rfl)) Via.refl e25 F_ao0_chars (g := (mkF m 28 #[.val (.ref ao0), .val (.int p1), .val (.int p2), .val (.int (3 : Int32))] [(.ref ao0)])) rfl rfl (hb hby d3_28)
            refine own_go (x' := T27.setTop (mkF m 31 #[.val (.ref ao0), .val (.int p1), .val (.int p2), .val (.int (3 : Int32))] [(.ref ar)])) st27 ?_
            refine own_go (x' := T27.setTop (mkF m 33 #[.val (.ref ao0), .val (.int p1), .val (.int p2), .val (.int (3 : Int32))] [(.int p2), (.int (3 : Int32)), (.ref ar)])) (fun _ k => XS.iloadN X27.here hx rfl (hb hby d3_31) rfl (XS.iloadN X27.here hx rfl (hb hby d3_32) rfl k)) ?_
            obtain ⟨T28, h28, k28, X28, e28, E28, A28, Q28, st28⟩ := newPE X27 hx hZ (own_w hw 34 rfl) e27 (g := (mkF m 33 #[.val (.ref ao0), .val (.int p1), .val (.int p2), .val (.int (3 : Int32))] [(.int p2), (.int (3 : Int32)), (.ref ar)])) rfl (hb hby d3_33) rfl hs.1 (cap := 31) hs.2 (by decide) (by decide) (by decide) (ad := "[C") (by decide)
            obtain ⟨b28, g28⟩ : ∃ z, z = h23.size := ⟨_, rfl⟩
            rw [← g28] at A28 st28
            rw [← g28] at Q28
            have ne_ao0_b28 : ao0 ≠ b28 := Nat.ne_of_lt (Nat.lt_of_lt_of_le F_ao0_chars.lt (Nat.le_of_eq g28.symm))
            have ne_b0_b28 : b0 ≠ b28 := Nat.ne_of_lt (Nat.lt_of_lt_of_le V_b0.lt (Nat.le_of_eq g28.symm))
            have ne_b1_b28 : b1 ≠ b28 := Nat.ne_of_lt (Nat.lt_of_lt_of_le V_b1.lt (Nat.le_of_eq g28.symm))
            have ne_b7_b28 : b7 ≠ b28 := Nat.ne_of_lt (Nat.lt_of_lt_of_le E_b7.lt (Nat.le_of_eq g28.symm))
            have ne_b16_b28 : b16 ≠ b28 := Nat.ne_of_lt (Nat.lt_of_lt_of_le E_b16.lt (Nat.le_of_eq g28.symm))
            have ne_b22_b28 : b22 ≠ b28 := Nat.ne_of_lt (Nat.lt_of_lt_of_le E_b22.lt (Nat.le_of_eq g28.symm))
            have ne_ar_b28 : ar ≠ b28 := Nat.ne_of_lt (Nat.lt_of_lt_of_le V_ar.lt (Nat.le_of_eq g28.symm))
            have g_b28 : n0 ≤ b28 := Nat.le_trans Zs (Nat.le_of_eq g28.symm)
            have sz_b28 : h0.size ≤ b28 := Nat.le_trans Kp.1 (Nat.le_of_eq g28.symm)
            replace F_ao0_chars := Fld.ext E28 F_ao0_chars
            replace V_b0 := V_b0.ext E28
            replace V_b1 := V_b1.ext E28
            replace E_b7 := Exa.ext E28 E_b7
            replace V_b7 := V_b7.ext E28
            replace E_b16 := Exa.ext E28 E_b16
            replace V_b16 := V_b16.ext E28
            replace E_b22 := Exa.ext E28 E_b22
            replace V_b22 := V_b22.ext E28
            replace V_ar := V_ar.ext E28
            replace Zs := Nat.le_trans Zs E28.1
            replace Kp := Kp.ext E28
            have E_b28 := Q28
            have V_b28 : Arv Z h28 b28 k28 .char p2 [] (.int (0 : Int32)) := Arv.new A28 hs.1
            refine own_go (x' := T28.setTop (mkF m 35 #[.val (.ref ao0), .val (.int p1), .val (.int p2), .val (.int (3 : Int32))] [(.ref b28), (.int (3 : Int32)), (.ref ar)])) st28 ?_
            obtain ⟨cl29, Ar29, q29, Sz29, Nn29, Hh29, Gg29⟩ := V_ar
            have hin29 : ¬ ((3 : Int32) < 0 ∨ cl29.slots.size ≤ ((3 : Int32)).toNatClampNeg) := inb_of Sz29 ⟨by decide, by decide⟩
            obtain ⟨T29, h29, X29, e29, W29, st29⟩ := stR X28 hx hZ e28 Ar29 (j := (3 : Int32)) hin29 rfl (Sto.ofVA Ar29 q29 O_ar (Ins.self E_b28)) (g := (mkF m 35 #[.val (.ref ao0), .val (.int p1), .val (.int p2), .val (.int (3 : Int32))] [(.ref b28), (.int (3 : Int32)), (.ref ar)])) rfl rfl (hb hby d3_35)
            refine own_go (x' := T29.setTop (mkF m 36 #[.val (.ref ao0), .val (.int p1), .val (.int p2), .val (.int (3 : Int32))] [])) st29 ?_
            replace F_ao0_chars := Fld.other W29 F_ao0_chars (Or.inl ne_ao0_ar)
            replace V_b0 := V_b0.other W29 ne_b0_ar
            replace V_b1 := V_b1.other W29 ne_b1_ar
            replace E_b7 := Exa.wr W29 E_b7
            replace V_b7 := V_b7.other W29 (Ne.symm ne_ar_b7)
            replace E_b16 := Exa.wr W29 E_b16
            replace V_b16 := V_b16.other W29 (Ne.symm ne_ar_b16)
            replace E_b22 := Exa.wr W29 E_b22
            replace V_b22 := V_b22.other W29 (Ne.symm ne_ar_b22)
            replace E_b28 := Exa.wr W29 E_b28
            replace V_b28 := V_b28.other W29 (Ne.symm ne_ar_b28)
            replace Zs := Nat.le_trans Zs (Keep.of_wr W29).1
            replace Nf := Fr.snoc X29 Nf g_ar
            replace Kp := Kp.wr W29 (Or.inl (by simp))
            have V_ar : Arv Z h29 ar kc (.array .char) (4 : Int32) [(.ref b7), (.ref b16), (.ref b22), (.ref b28)] .null := Arv.set Ar29 q29 Sz29 Nn29 Hh29 Gg29 rfl W29 3 rfl (Nat.le_of_ble_eq_true rfl)
            refine own_go (x' := T29.setTop (mkF m 2 #[.val (.ref ao0), .val (.int p1), .val (.int p2), .val (.int ((3 : Int32) + (1 : Int32)))] [])) (fun _ k => XS.iinc X29.here hx rfl (hb hby d3_36) rfl (l' := #[.val (.ref ao0), .val (.int p1), .val (.int p2), .val (.int ((3 : Int32) + (1 : Int32)))]) rfl (XS.goto X29.here hx rfl (pc0 := 39) (pc' := 2) rfl (hb hby d3_39) (by decide) (by decide) k)) ?_
            rw [show ((3 : Int32) + (1 : Int32)) = (4 : Int32) from by decide +kernel]
            refine own_go (x' := T29.setTop (mkF m 43 #[.val (.ref ao0), .val (.int p1), .val (.int p2), .val (.int (4 : Int32))] [(.ref ao0)])) (fun _ k => XS.iloadN X29.here hx rfl (hb hby d3_2) rfl (XS.iloadN X29.here hx rfl (hb hby d3_3) rfl (XS.icmpYes X29.here hx rfl (pc0 := 4) (pc' := 42) rfl (hb hby d3_4) rfl (flt hu).2.1 (by decide) (by decide) (XS.aloadN X29.here hx rfl (hb hby d3_42) rfl rfl k)))) ?_
            obtain ⟨T30, X30, e30, st30⟩ := getF X29 hx hZ hown (host := "") (Or.inl (own_w hw 17 rfl)) Via.refl e29 F_ao0_chars (g := (mkF m 43 #[.val (.ref ao0), .val (.int p1), .val (.int p2), .val (.int (4 : Int32))] [(.ref ao0)])) rfl rfl (hb hby d3_43)
            refine own_go (x' := T30.setTop (mkF m 46 #[.val (.ref ao0), .val (.int p1), .val (.int p2), .val (.int (4 : Int32))] [(.ref ar)])) st30 ?_
            refine own_retR X30 hx hlk hret rfl rfl (hb hby d3_46) ?_ (by decide) (by decide)
            rw [e30]
            exact ⟨(.ref b7), (.ref b16), (.ref b22), (.ref b28), rfl, Nf, Kp, V_ar, Or.inr ⟨b7, k7, rfl, sz_b7, V_b7, hc4, hc24⟩, Or.inr ⟨b16, k16, rfl, sz_b16, V_b16, hc4_9, hc24⟩, Or.inr ⟨b22, k22, rfl, V_b22, hc4_18⟩, Or.inr ⟨b28, k28, rfl, V_b28, hc4_24⟩⟩
          · refine own_go (x' := T23.setTop (mkF m 43 #[.val (.ref ao0), .val (.int p1), .val (.int p2), .val (.int (3 : Int32))] [(.ref ao0)])) (fun _ k => XS.icmpYes X23.here hx rfl (pc0 := 4) (pc' := 42) rfl (hb hby d3_4) rfl (flt hc4_24).2.1 (by decide) (by decide) (XS.aloadN X23.here hx rfl (hb hby d3_42) rfl rfl k)) ?_
            obtain ⟨T31, X31, e31, st31⟩ := getF X23 hx hZ hown (host := "") (Or.inl (own_w hw 17 rfl)) Via.refl e23 F_ao0_chars (g := (mkF m 43 #[.val (.ref ao0), .val (.int p1), .val (.int p2), .val (.int (3 : Int32))] [(.ref ao0)])) rfl rfl (hb hby d3_43)
            refine own_go (x' := T31.setTop (mkF m 46 #[.val (.ref ao0), .val (.int p1), .val (.int p2), .val (.int (3 : Int32))] [(.ref ar)])) st31 ?_
            refine own_retR X31 hx hlk hret rfl rfl (hb hby d3_46) ?_ (by decide) (by decide)
            rw [e31]
            exact ⟨(.ref b7), (.ref b16), (.ref b22), .null, rfl, Nf, Kp, V_ar, Or.inr ⟨b7, k7, rfl, sz_b7, V_b7, hc4, hc24⟩, Or.inr ⟨b16, k16, rfl, sz_b16, V_b16, hc4_9, hc24⟩, Or.inr ⟨b22, k22, rfl, V_b22, hc4_18⟩, Or.inl ⟨rfl, hc4_24⟩⟩
        · refine own_go (x' := T17.setTop (mkF m 43 #[.val (.ref ao0), .val (.int p1), .val (.int p2), .val (.int (2 : Int32))] [(.ref ao0)])) (fun _ k => XS.icmpYes X17.here hx rfl (pc0 := 4) (pc' := 42) rfl (hb hby d3_4) rfl (flt hc4_18).2.1 (by decide) (by decide) (XS.aloadN X17.here hx rfl (hb hby d3_42) rfl rfl k)) ?_
          obtain ⟨T32, X32, e32, st32⟩ := getF X17 hx hZ hown (host := "") (Or.inl (own_w hw 17 rfl)) Via.refl e17 F_ao0_chars (g := (mkF m 43 #[.val (.ref ao0), .val (.int p1), .val (.int p2), .val (.int (2 : Int32))] [(.ref ao0)])) rfl rfl (hb hby d3_43)
          refine own_go (x' := T32.setTop (mkF m 46 #[.val (.ref ao0), .val (.int p1), .val (.int p2), .val (.int (2 : Int32))] [(.ref ar)])) st32 ?_
          refine own_retR X32 hx hlk hret rfl rfl (hb hby d3_46) ?_ (by decide) (by decide)
          rw [e32]
          exact ⟨(.ref b7), (.ref b16), .null, .null, rfl, Nf, Kp, V_ar, Or.inr ⟨b7, k7, rfl, sz_b7, V_b7, hc4, hc24⟩, Or.inr ⟨b16, k16, rfl, sz_b16, V_b16, hc4_9, hc24⟩, Or.inl ⟨rfl, hc4_18⟩, Or.inl ⟨rfl, (own_le hc4_18 (by decide))⟩⟩
      · refine own_go (x' := T8.setTop (mkF m 43 #[.val (.ref ao0), .val (.int p1), .val (.int p2), .val (.int (1 : Int32))] [(.ref ao0)])) (fun _ k => XS.icmpYes X8.here hx rfl (pc0 := 4) (pc' := 42) rfl (hb hby d3_4) rfl (flt hc4_9).2.1 (by decide) (by decide) (XS.aloadN X8.here hx rfl (hb hby d3_42) rfl rfl k)) ?_
        obtain ⟨T33, X33, e33, st33⟩ := getF X8 hx hZ hown (host := "") (Or.inl (own_w hw 17 rfl)) Via.refl e8 F_ao0_chars (g := (mkF m 43 #[.val (.ref ao0), .val (.int p1), .val (.int p2), .val (.int (1 : Int32))] [(.ref ao0)])) rfl rfl (hb hby d3_43)
        refine own_go (x' := T33.setTop (mkF m 46 #[.val (.ref ao0), .val (.int p1), .val (.int p2), .val (.int (1 : Int32))] [(.ref ar)])) st33 ?_
        refine own_retR X33 hx hlk hret rfl rfl (hb hby d3_46) ?_ (by decide) (by decide)
        rw [e33]
        exact ⟨(.ref b7), (.ref b1), .null, .null, rfl, Nf, Kp, V_ar, Or.inr ⟨b7, k7, rfl, sz_b7, V_b7, hc4, hc24⟩, Or.inl ⟨rfl, Or.inl hc4_9⟩, Or.inl ⟨rfl, (own_le hc4_9 (by decide))⟩, Or.inl ⟨rfl, (own_le hc4_9 (by decide))⟩⟩
    · refine own_go (x' := T3.setTop (mkF m 2 #[.val (.ref ao0), .val (.int p1), .val (.int p2), .val (.int ((0 : Int32) + (1 : Int32)))] [])) (fun _ k => XS.icmpYes X3.here hx rfl (pc0 := 24) (pc' := 36) rfl (hb hby d3_24) rfl (flt hc24).2.1 (by decide) (by decide) (XS.iinc X3.here hx rfl (hb hby d3_36) rfl (l' := #[.val (.ref ao0), .val (.int p1), .val (.int p2), .val (.int ((0 : Int32) + (1 : Int32)))]) rfl (XS.goto X3.here hx rfl (pc0 := 39) (pc' := 2) rfl (hb hby d3_39) (by decide) (by decide) k))) ?_
      rw [show ((0 : Int32) + (1 : Int32)) = (1 : Int32) from by decide +kernel]
      refine own_go (x' := T3.setTop (mkF m 4 #[.val (.ref ao0), .val (.int p1), .val (.int p2), .val (.int (1 : Int32))] [(.int p1), (.int (1 : Int32))])) (fun _ k => XS.iloadN X3.here hx rfl (hb hby d3_2) rfl (XS.iloadN X3.here hx rfl (hb hby d3_3) rfl k)) ?_
      by_cases hc4_34 : (1 : Int32) < p1
      · refine own_go (x' := T3.setTop (mkF m 8 #[.val (.ref ao0), .val (.int p1), .val (.int p2), .val (.int (1 : Int32))] [(.ref ao0)])) (fun _ k => XS.icmpNo X3.here hx rfl (hb hby d3_4) rfl (tlt hc4_34).2.1 (XS.aloadN X3.here hx rfl (hb hby d3_7) rfl rfl k)) ?_
        obtain ⟨T35, X35, e35, st35⟩ := getF X3 hx hZ hown (host := "") (Or.inl (own_w hw 17 rfl)) Via.refl e3 F_ao0_chars (g := (mkF m 8 #[.val (.ref ao0), .val (.int p1), .val (.int p2), .val (.int (1 : Int32))] [(.ref ao0)])) rfl rfl (hb hby d3_8)
        refine own_go (x' := T35.setTop (mkF m 11 #[.val (.ref ao0), .val (.int p1), .val (.int p2), .val (.int (1 : Int32))] [(.ref ar)])) st35 ?_
        refine own_go (x' := T35.setTop (mkF m 12 #[.val (.ref ao0), .val (.int p1), .val (.int p2), .val (.int (1 : Int32))] [(.int (1 : Int32)), (.ref ar)])) (fun _ k => XS.iloadN X35.here hx rfl (hb hby d3_11) rfl k) ?_
        obtain ⟨cl36, Ar36, q36, Sz36, Nn36, Hh36, Gg36⟩ := id V_ar
        have hin36 : ¬ ((1 : Int32) < 0 ∨ cl36.slots.size ≤ ((1 : Int32)).toNatClampNeg) := inb_of Sz36 ⟨by decide, by decide⟩
        refine own_go (x' := T35.setTop (mkF m 13 #[.val (.ref ao0), .val (.int p1), .val (.int p2), .val (.int (1 : Int32))] [(.ref b1)])) (X35.aaload hx (j := (1 : Int32)) (v := (.ref b1)) (Eq.trans (congrArg (fun h_ => h_[_]?) e35) Ar36.1) (State.isArrayOf_alike hZ.alike Ar36.2.1) rfl Ar36.2.2 hin36 (Hh36.at hin36 rfl) (g := (mkF m 12 #[.val (.ref ao0), .val (.int p1), .val (.int p2), .val (.int (1 : Int32))] [(.int (1 : Int32)), (.ref ar)])) rfl rfl (hb hby d3_12)) ?_
        refine own_go (x' := T35.setTop (mkF m 17 #[.val (.ref ao0), .val (.int p1), .val (.int p2), .val (.int (1 : Int32))] [(.ref ao0)])) (fun _ k => XS.ifnullNo X35.here hx rfl (hb hby d3_13) rfl (XS.aloadN X35.here hx rfl (hb hby d3_16) rfl rfl k)) ?_
        obtain ⟨T37, X37, e37, st37⟩ := getF X35 hx hZ hown (host := "") (Or.inl (own_w hw 17 rfl)) Via.refl e35 F_ao0_chars (g := (mkF m 17 #[.val (.ref ao0), .val (.int p1), .val (.int p2), .val (.int (1 : Int32))] [(.ref ao0)])) rfl rfl (hb hby d3_17)
        refine own_go (x' := T37.setTop (mkF m 20 #[.val (.ref ao0), .val (.int p1), .val (.int p2), .val (.int (1 : Int32))] [(.ref ar)])) st37 ?_
        refine own_go (x' := T37.setTop (mkF m 21 #[.val (.ref ao0), .val (.int p1), .val (.int p2), .val (.int (1 : Int32))] [(.int (1 : Int32)), (.ref ar)])) (fun _ k => XS.iloadN X37.here hx rfl (hb hby d3_20) rfl k) ?_
        obtain ⟨cl38, Ar38, q38, Sz38, Nn38, Hh38, Gg38⟩ := id V_ar
        have hin38 : ¬ ((1 : Int32) < 0 ∨ cl38.slots.size ≤ ((1 : Int32)).toNatClampNeg) := inb_of Sz38 ⟨by decide, by decide⟩
        refine own_go (x' := T37.setTop (mkF m 22 #[.val (.ref ao0), .val (.int p1), .val (.int p2), .val (.int (1 : Int32))] [(.ref b1)])) (X37.aaload hx (j := (1 : Int32)) (v := (.ref b1)) (Eq.trans (congrArg (fun h_ => h_[_]?) e37) Ar38.1) (State.isArrayOf_alike hZ.alike Ar38.2.1) rfl Ar38.2.2 hin38 (Hh38.at hin38 rfl) (g := (mkF m 21 #[.val (.ref ao0), .val (.int p1), .val (.int p2), .val (.int (1 : Int32))] [(.int (1 : Int32)), (.ref ar)])) rfl rfl (hb hby d3_21)) ?_
        obtain ⟨cl39, Ar39, -, Sz39, Nn39, -, -⟩ := id V_b1
        refine own_go (x' := T37.setTop (mkF m 23 #[.val (.ref ao0), .val (.int p1), .val (.int p2), .val (.int (1 : Int32))] [(.int n1)])) (fun t k => X37.arraylength hx (Eq.trans (congrArg (fun h_ => h_[_]?) e37) Ar39.1) (State.isArrayOf_alike hZ.alike Ar39.2.1) (g := (mkF m 22 #[.val (.ref ao0), .val (.int p1), .val (.int p2), .val (.int (1 : Int32))] [(.ref b1)])) rfl rfl (hb hby d3_22) t (by rw [len_of Sz39 Nn39]; exact k)) ?_
        refine own_go (x' := T37.setTop (mkF m 2 #[.val (.ref ao0), .val (.int p1), .val (.int p2), .val (.int ((1 : Int32) + (1 : Int32)))] [])) (fun _ k => XS.iloadN X37.here hx rfl (hb hby d3_23) rfl (XS.icmpYes X37.here hx rfl (pc0 := 24) (pc' := 36) rfl (hb hby d3_24) rfl (flt hc24).2.1 (by decide) (by decide) (XS.iinc X37.here hx rfl (hb hby d3_36) rfl (l' := #[.val (.ref ao0), .val (.int p1), .val (.int p2), .val (.int ((1 : Int32) + (1 : Int32)))]) rfl (XS.goto X37.here hx rfl (pc0 := 39) (pc' := 2) rfl (hb hby d3_39) (by decide) (by decide) k)))) ?_
        rw [show ((1 : Int32) + (1 : Int32)) = (2 : Int32) from by decide +kernel]
        refine own_go (x' := T37.setTop (mkF m 4 #[.val (.ref ao0), .val (.int p1), .val (.int p2), .val (.int (2 : Int32))] [(.int p1), (.int (2 : Int32))])) (fun _ k => XS.iloadN X37.here hx rfl (hb hby d3_2) rfl (XS.iloadN X37.here hx rfl (hb hby d3_3) rfl k)) ?_
        by_cases hc4_40 : (2 : Int32) < p1
        · refine own_go (x' := T37.setTop (mkF m 8 #[.val (.ref ao0), .val (.int p1), .val (.int p2), .val (.int (2 : Int32))] [(.ref ao0)])) (fun _ k => XS.icmpNo X37.here hx rfl (hb hby d3_4) rfl (tlt hc4_40).2.1 (XS.aloadN X37.here hx rfl (hb hby d3_7) rfl rfl k)) ?_
          obtain ⟨T41, X41, e41, st41⟩ := getF X37 hx hZ hown (host := "") (Or.inl (own_w hw 17 rfl)) Via.refl e37 F_ao0_chars (g := (mkF m 8 #[.val (.ref ao0), .val (.int p1), .val (.int p2), .val (.int (2 : Int32))] [(.ref ao0)])) rfl rfl (hb hby d3_8)
          refine own_go (x' := T41.setTop (mkF m 11 #[.val (.ref ao0), .val (.int p1), .val (.int p2), .val (.int (2 : Int32))] [(.ref ar)])) st41 ?_
          refine own_go (x' := T41.setTop (mkF m 12 #[.val (.ref ao0), .val (.int p1), .val (.int p2), .val (.int (2 : Int32))] [(.int (2 : Int32)), (.ref ar)])) (fun _ k => XS.iloadN X41.here hx rfl (hb hby d3_11) rfl k) ?_
          obtain ⟨cl42, Ar42, q42, Sz42, Nn42, Hh42, Gg42⟩ := id V_ar
          have hin42 : ¬ ((2 : Int32) < 0 ∨ cl42.slots.size ≤ ((2 : Int32)).toNatClampNeg) := inb_of Sz42 ⟨by decide, by decide⟩
          refine own_go (x' := T41.setTop (mkF m 13 #[.val (.ref ao0), .val (.int p1), .val (.int p2), .val (.int (2 : Int32))] [.null])) (X41.aaload hx (j := (2 : Int32)) (v := .null) (Eq.trans (congrArg (fun h_ => h_[_]?) e41) Ar42.1) (State.isArrayOf_alike hZ.alike Ar42.2.1) rfl Ar42.2.2 hin42 (Hh42.at hin42 rfl) (g := (mkF m 12 #[.val (.ref ao0), .val (.int p1), .val (.int p2), .val (.int (2 : Int32))] [(.int (2 : Int32)), (.ref ar)])) rfl rfl (hb hby d3_12)) ?_
          refine own_go (x' := T41.setTop (mkF m 28 #[.val (.ref ao0), .val (.int p1), .val (.int p2), .val (.int (2 : Int32))] [(.ref ao0)])) (fun _ k => XS.ifnullYes X41.here hx rfl (pc0 := 13) (pc' := 27) rfl (hb hby d3_13) rfl (by decide) (by decide) (XS.aloadN X41.here hx rfl (hb hby d3_27) rfl rfl k)) ?_
          obtain ⟨T43, X43, e43, st43⟩ := getF X41 hx hZ hown (host := "") (Or.inl (own_w hw 17 rfl)) Via.refl e41 F_ao0_chars (g := (mkF m 28 #[.val (.ref ao0), .val (.int p1), .val (.int p2), .val (.int (2 : Int32))] [(.ref ao0)])) rfl rfl (hb hby d3_28)
          refine own_go (x' := T43.setTop (mkF m 31 #[.val (.ref ao0), .val (.int p1), .val (.int p2), .val (.int (2 : Int32))] [(.ref ar)])) st43 ?_
          refine own_go (x' := T43.setTop (mkF m 33 #[.val (.ref ao0), .val (.int p1), .val (.int p2), .val (.int (2 : Int32))] [(.int p2), (.int (2 : Int32)), (.ref ar)])) (fun _ k => XS.iloadN X43.here hx rfl (hb hby d3_31) rfl (XS.iloadN X43.here hx rfl (hb hby d3_32) rfl k)) ?_
          obtain ⟨T44, h44, k44, X44, e44, E44, A44, Q44, st44⟩ := newPE X43 hx hZ (own_w hw 34 rfl) e43 (g := (mkF m 33 #[.val (.ref ao0), .val (.int p1), .val (.int p2), .val (.int (2 : Int32))] [(.int p2), (.int (2 : Int32)), (.ref ar)])) rfl (hb hby d3_33) rfl hs.1 (cap := 31) hs.2 (by decide) (by decide) (by decide) (ad := "[C") (by decide)
          obtain ⟨b44, g44⟩ : ∃ z, z = h0.size := ⟨_, rfl⟩
          rw [← g44] at A44 st44
          rw [← g44] at Q44
          have ne_ao0_b44 : ao0 ≠ b44 := Nat.ne_of_lt (Nat.lt_of_lt_of_le F_ao0_chars.lt (Nat.le_of_eq g44.symm))
          have ne_ar_b44 : ar ≠ b44 := Nat.ne_of_lt (Nat.lt_of_lt_of_le V_ar.lt (Nat.le_of_eq g44.symm))
          have ne_b0_b44 : b0 ≠ b44 := Nat.ne_of_lt (Nat.lt_of_lt_of_le V_b0.lt (Nat.le_of_eq g44.symm))
          have ne_b1_b44 : b1 ≠ b44 := Nat.ne_of_lt (Nat.lt_of_lt_of_le V_b1.lt (Nat.le_of_eq g44.symm))
          have g_b44 : n0 ≤ b44 := Nat.le_trans Zs (Nat.le_of_eq g44.symm)
          have sz_b44 : h0.size ≤ b44 := Nat.le_trans Kp.1 (Nat.le_of_eq g44.symm)
          replace F_ao0_chars := Fld.ext E44 F_ao0_chars
          replace V_ar := V_ar.ext E44
          replace V_b0 := V_b0.ext E44
          replace V_b1 := V_b1.ext E44
          replace Zs := Nat.le_trans Zs E44.1
          replace Kp := Kp.ext E44
          have E_b44 := Q44
          have V_b44 : Arv Z h44 b44 k44 .char p2 [] (.int (0 : Int32)) := Arv.new A44 hs.1
          refine own_go (x' := T44.setTop (mkF m 35 #[.val (.ref ao0), .val (.int p1), .val (.int p2), .val (.int (2 : Int32))] [(.ref b44), (.int (2 : Int32)), (.ref ar)])) st44 ?_
          obtain ⟨cl45, Ar45, q45, Sz45, Nn45, Hh45, Gg45⟩ := V_ar
          have hin45 : ¬ ((2 : Int32) < 0 ∨ cl45.slots.size ≤ ((2 : Int32)).toNatClampNeg) := inb_of Sz45 ⟨by decide, by decide⟩
          obtain ⟨T45, h45, X45, e45, W45, st45⟩ := stR X44 hx hZ e44 Ar45 (j := (2 : Int32)) hin45 rfl (Sto.ofVA Ar45 q45 O_ar (Ins.self E_b44)) (g := (mkF m 35 #[.val (.ref ao0), .val (.int p1), .val (.int p2), .val (.int (2 : Int32))] [(.ref b44), (.int (2 : Int32)), (.ref ar)])) rfl rfl (hb hby d3_35)
          refine own_go (x' := T45.setTop (mkF m 36 #[.val (.ref ao0), .val (.int p1), .val (.int p2), .val (.int (2 : Int32))] [])) st45 ?_
          replace F_ao0_chars := Fld.other W45 F_ao0_chars (Or.inl ne_ao0_ar)
          replace V_b0 := V_b0.other W45 ne_b0_ar
          replace V_b1 := V_b1.other W45 ne_b1_ar
          replace E_b44 := Exa.wr W45 E_b44
          replace V_b44 := V_b44.other W45 (Ne.symm ne_ar_b44)
          replace Zs := Nat.le_trans Zs (Keep.of_wr W45).1
          replace Nf := Fr.snoc X45 Nf g_ar
          replace Kp := Kp.wr W45 (Or.inl (by simp))
          have V_ar : Arv Z h45 ar kc (.array .char) (4 : Int32) [(.ref b0), (.ref b1), (.ref b44), .null] .null := Arv.set Ar45 q45 Sz45 Nn45 Hh45 Gg45 rfl W45 2 rfl (Nat.le_of_ble_eq_true rfl)
          refine own_go (x' := T45.setTop (mkF m 2 #[.val (.ref ao0), .val (.int p1), .val (.int p2), .val (.int ((2 : Int32) + (1 : Int32)))] [])) (fun _ k => XS.iinc X45.here hx rfl (hb hby d3_36) rfl (l' := #[.val (.ref ao0), .val (.int p1), .val (.int p2), .val (.int ((2 : Int32) + (1 : Int32)))]) rfl (XS.goto X45.here hx rfl (pc0 := 39) (pc' := 2) rfl (hb hby d3_39) (by decide) (by decide) k)) ?_
          rw [show ((2 : Int32) + (1 : Int32)) = (3 : Int32) from by decide +kernel]
          refine own_go (x' := T45.setTop (mkF m 4 #[.val (.ref ao0), .val (.int p1), .val (.int p2), .val (.int (3 : Int32))] [(.int p1), (.int (3 : Int32))])) (fun _ k => XS.iloadN X45.here hx rfl (hb hby d3_2) rfl (XS.iloadN X45.here hx rfl (hb hby d3_3) rfl k)) ?_
          by_cases hc4_46 : (3 : Int32) < p1
          · refine own_go (x' := T45.setTop (mkF m 8 #[.val (.ref ao0), .val (.int p1), .val (.int p2), .val (.int (3 : Int32))] [(.ref ao0)])) (fun _ k => XS.icmpNo X45.here hx rfl (hb hby d3_4) rfl (tlt hc4_46).2.1 (XS.aloadN X45.here hx rfl (hb hby d3_7) rfl rfl k)) ?_
            obtain ⟨T47, X47, e47, st47⟩ := getF X45 hx hZ hown (host := "") (Or.inl (own_w hw 17 rfl)) Via.refl e45 F_ao0_chars (g := (mkF m 8 #[.val (.ref ao0), .val (.int p1), .val (.int p2), .val (.int (3 : Int32))] [(.ref ao0)])) rfl rfl (hb hby d3_8)
            refine own_go (x' := T47.setTop (mkF m 11 #[.val (.ref ao0), .val (.int p1), .val (.int p2), .val (.int (3 : Int32))] [(.ref ar)])) st47 ?_
            refine own_go (x' := T47.setTop (mkF m 12 #[.val (.ref ao0), .val (.int p1), .val (.int p2), .val (.int (3 : Int32))] [(.int (3 : Int32)), (.ref ar)])) (fun _ k => XS.iloadN X47.here hx rfl (hb hby d3_11) rfl k) ?_
            obtain ⟨cl48, Ar48, q48, Sz48, Nn48, Hh48, Gg48⟩ := id V_ar
            have hin48 : ¬ ((3 : Int32) < 0 ∨ cl48.slots.size ≤ ((3 : Int32)).toNatClampNeg) := inb_of Sz48 ⟨by decide, by decide⟩
            refine own_go (x' := T47.setTop (mkF m 13 #[.val (.ref ao0), .val (.int p1), .val (.int p2), .val (.int (3 : Int32))] [.null])) (X47.aaload hx (j := (3 : Int32)) (v := .null) (Eq.trans (congrArg (fun h_ => h_[_]?) e47) Ar48.1) (State.isArrayOf_alike hZ.alike Ar48.2.1) rfl Ar48.2.2 hin48 (Hh48.at hin48 rfl) (g := (mkF m 12 #[.val (.ref ao0), .val (.int p1), .val (.int p2), .val (.int (3 : Int32))] [(.int (3 : Int32)), (.ref ar)])) rfl rfl (hb hby d3_12)) ?_
            refine own_go (x' := T47.setTop (mkF m 28 #[.val (.ref ao0), .val (.int p1), .val (.int p2), .val (.int (3 : Int32))] [(.ref ao0)])) (fun _ k => XS.ifnullYes X47.here hx rfl (pc0 := 13) (pc' := 27) rfl (hb hby d3_13) rfl (by decide) (by decide) (XS.aloadN X47.here hx rfl (hb hby d3_27) rfl rfl k)) ?_
            obtain ⟨T49, X49, e49, st49⟩ := getF X47 hx hZ hown (host := "") (Or.inl (own_w hw 17 rfl)) Via.refl e47 F_ao0_chars (g := (mkF m 28 #[.val (.ref ao0), .val (.int p1), .val (.int p2), .val (.int (3 : Int32))] [(.ref ao0)])) rfl rfl (hb hby d3_28)
            refine own_go (x' := T49.setTop (mkF m 31 #[.val (.ref ao0), .val (.int p1), .val (.int p2), .val (.int (3 : Int32))] [(.ref ar)])) st49 ?_
            refine own_go (x' := T49.setTop (mkF m 33 #[.val (.ref ao0), .val (.int p1), .val (.int p2), .val (.int (3 : Int32))] [(.int p2), (.int (3 : Int32)), (.ref ar)])) (fun _ k => XS.iloadN X49.here hx rfl (hb hby d3_31) rfl (XS.iloadN X49.here hx rfl (hb hby d3_32) rfl k)) ?_
            obtain ⟨T50, h50, k50, X50, e50, E50, A50, Q50, st50⟩ := newPE X49 hx hZ (own_w hw 34 rfl) e49 (g := (mkF m 33 #[.val (.ref ao0), .val (.int p1), .val (.int p2), .val (.int (3 : Int32))] [(.int p2), (.int (3 : Int32)), (.ref ar)])) rfl (hb hby d3_33) rfl hs.1 (cap := 31) hs.2 (by decide) (by decide) (by decide) (ad := "[C") (by decide)
            obtain ⟨b50, g50⟩ : ∃ z, z = h45.size := ⟨_, rfl⟩
            rw [← g50] at A50 st50
            rw [← g50] at Q50
            have ne_ao0_b50 : ao0 ≠ b50 := Nat.ne_of_lt (Nat.lt_of_lt_of_le F_ao0_chars.lt (Nat.le_of_eq g50.symm))
            have ne_b0_b50 : b0 ≠ b50 := Nat.ne_of_lt (Nat.lt_of_lt_of_le V_b0.lt (Nat.le_of_eq g50.symm))
            have ne_b1_b50 : b1 ≠ b50 := Nat.ne_of_lt (Nat.lt_of_lt_of_le V_b1.lt (Nat.le_of_eq g50.symm))
            have ne_b44_b50 : b44 ≠ b50 := Nat.ne_of_lt (Nat.lt_of_lt_of_le E_b44.lt (Nat.le_of_eq g50.symm))
            have ne_ar_b50 : ar ≠ b50 := Nat.ne_of_lt (Nat.lt_of_lt_of_le V_ar.lt (Nat.le_of_eq g50.symm))
            have g_b50 : n0 ≤ b50 := Nat.le_trans Zs (Nat.le_of_eq g50.symm)
            have sz_b50 : h0.size ≤ b50 := Nat.le_trans Kp.1 (Nat.le_of_eq g50.symm)
            replace F_ao0_chars := Fld.ext E50 F_ao0_chars
            replace V_b0 := V_b0.ext E50
            replace V_b1 := V_b1.ext E50
            replace E_b44 := Exa.ext E50 E_b44
            replace V_b44 := V_b44.ext E50
            replace V_ar := V_ar.ext E50
            replace Zs := Nat.le_trans Zs E50.1
            replace Kp := Kp.ext E50
            have E_b50 := Q50
            have V_b50 : Arv Z h50 b50 k50 .char p2 [] (.int (0 : Int32)) := Arv.new A50 hs.1
            refine own_go (x' := T50.setTop (mkF m 35 #[.val (.ref ao0), .val (.int p1), .val (.int p2), .val (.int (3 : Int32))] [(.ref b50), (.int (3 : Int32)), (.ref ar)])) st50 ?_
            obtain ⟨cl51, Ar51, q51, Sz51, Nn51, Hh51, Gg51⟩ := V_ar
            have hin51 : ¬ ((3 : Int32) < 0 ∨ cl51.slots.size ≤ ((3 : Int32)).toNatClampNeg) := inb_of Sz51 ⟨by decide, by decide⟩
            obtain ⟨T51, h51, X51, e51, W51, st51⟩ := stR X50 hx hZ e50 Ar51 (j := (3 : Int32)) hin51 rfl (Sto.ofVA Ar51 q51 O_ar (Ins.self E_b50)) (g := (mkF m 35 #[.val (.ref ao0), .val (.int p1), .val (.int p2), .val (.int (3 : Int32))] [(.ref b50), (.int (3 : Int32)), (.ref ar)])) rfl rfl (hb hby d3_35)
            refine own_go (x' := T51.setTop (mkF m 36 #[.val (.ref ao0), .val (.int p1), .val (.int p2), .val (.int (3 : Int32))] [])) st51 ?_
            replace F_ao0_chars := Fld.other W51 F_ao0_chars (Or.inl ne_ao0_ar)
            replace V_b0 := V_b0.other W51 ne_b0_ar
            replace V_b1 := V_b1.other W51 ne_b1_ar
            replace E_b44 := Exa.wr W51 E_b44
            replace V_b44 := V_b44.other W51 (Ne.symm ne_ar_b44)
            replace E_b50 := Exa.wr W51 E_b50
            replace V_b50 := V_b50.other W51 (Ne.symm ne_ar_b50)
            replace Zs := Nat.le_trans Zs (Keep.of_wr W51).1
            replace Nf := Fr.snoc X51 Nf g_ar
            replace Kp := Kp.wr W51 (Or.inl (by simp))
            have V_ar : Arv Z h51 ar kc (.array .char) (4 : Int32) [(.ref b0), (.ref b1), (.ref b44), (.ref b50)] .null := Arv.set Ar51 q51 Sz51 Nn51 Hh51 Gg51 rfl W51 3 rfl (Nat.le_of_ble_eq_true rfl)
            refine own_go (x' := T51.setTop (mkF m 2 #[.val (.ref ao0), .val (.int p1), .val (.int p2), .val (.int ((3 : Int32) + (1 : Int32)))] [])) (fun _ k => XS.iinc X51.here hx rfl (hb hby d3_36) rfl (l' := #[.val (.ref ao0), .val (.int p1), .val (.int p2), .val (.int ((3 : Int32) + (1 : Int32)))]) rfl (XS.goto X51.here hx rfl (pc0 := 39) (pc' := 2) rfl (hb hby d3_39) (by decide) (by decide) k)) ?_
            rw [show ((3 : Int32) + (1 : Int32)) = (4 : Int32) from by decide +kernel]
            refine own_go (x' := T51.setTop (mkF m 43 #[.val (.ref ao0), .val (.int p1), .val (.int p2), .val (.int (4 : Int32))] [(.ref ao0)])) (fun _ k => XS.iloadN X51.here hx rfl (hb hby d3_2) rfl (XS.iloadN X51.here hx rfl (hb hby d3_3) rfl (XS.icmpYes X51.here hx rfl (pc0 := 4) (pc' := 42) rfl (hb hby d3_4) rfl (flt hu).2.1 (by decide) (by decide) (XS.aloadN X51.here hx rfl (hb hby d3_42) rfl rfl k)))) ?_
            obtain ⟨T52, X52, e52, st52⟩ := getF X51 hx hZ hown (host := "") (Or.inl (own_w hw 17 rfl)) Via.refl e51 F_ao0_chars (g := (mkF m 43 #[.val (.ref ao0), .val (.int p1), .val (.int p2), .val (.int (4 : Int32))] [(.ref ao0)])) rfl rfl (hb hby d3_43)
            refine own_go (x' := T52.setTop (mkF m 46 #[.val (.ref ao0), .val (.int p1), .val (.int p2), .val (.int (4 : Int32))] [(.ref ar)])) st52 ?_
            refine own_retR X52 hx hlk hret rfl rfl (hb hby d3_46) ?_ (by decide) (by decide)
            rw [e52]
            exact ⟨(.ref b0), (.ref b1), (.ref b44), (.ref b50), rfl, Nf, Kp, V_ar, Or.inl ⟨rfl, Or.inr hc24⟩, Or.inl ⟨rfl, Or.inr hc24⟩, Or.inr ⟨b44, k44, rfl, V_b44, hc4_40⟩, Or.inr ⟨b50, k50, rfl, V_b50, hc4_46⟩⟩
          · refine own_go (x' := T45.setTop (mkF m 43 #[.val (.ref ao0), .val (.int p1), .val (.int p2), .val (.int (3 : Int32))] [(.ref ao0)])) (fun _ k => XS.icmpYes X45.here hx rfl (pc0 := 4) (pc' := 42) rfl (hb hby d3_4) rfl (flt hc4_46).2.1 (by decide) (by decide) (XS.aloadN X45.here hx rfl (hb hby d3_42) rfl rfl k)) ?_
            obtain ⟨T53, X53, e53, st53⟩ := getF X45 hx hZ hown (host := "") (Or.inl (own_w hw 17 rfl)) Via.refl e45 F_ao0_chars (g := (mkF m 43 #[.val (.ref ao0), .val (.int p1), .val (.int p2), .val (.int (3 : Int32))] [(.ref ao0)])) rfl rfl (hb hby d3_43)
            refine own_go (x' := T53.setTop (mkF m 46 #[.val (.ref ao0), .val (.int p1), .val (.int p2), .val (.int (3 : Int32))] [(.ref ar)])) st53 ?_
            refine own_retR X53 hx hlk hret rfl rfl (hb hby d3_46) ?_ (by decide) (by decide)
            rw [e53]
            exact ⟨(.ref b0), (.ref b1), (.ref b44), .null, rfl, Nf, Kp, V_ar, Or.inl ⟨rfl, Or.inr hc24⟩, Or.inl ⟨rfl, Or.inr hc24⟩, Or.inr ⟨b44, k44, rfl, V_b44, hc4_40⟩, Or.inl ⟨rfl, hc4_46⟩⟩
        · refine own_go (x' := T37.setTop (mkF m 43 #[.val (.ref ao0), .val (.int p1), .val (.int p2), .val (.int (2 : Int32))] [(.ref ao0)])) (fun _ k => XS.icmpYes X37.here hx rfl (pc0 := 4) (pc' := 42) rfl (hb hby d3_4) rfl (flt hc4_40).2.1 (by decide) (by decide) (XS.aloadN X37.here hx rfl (hb hby d3_42) rfl rfl k)) ?_
          obtain ⟨T54, X54, e54, st54⟩ := getF X37 hx hZ hown (host := "") (Or.inl (own_w hw 17 rfl)) Via.refl e37 F_ao0_chars (g := (mkF m 43 #[.val (.ref ao0), .val (.int p1), .val (.int p2), .val (.int (2 : Int32))] [(.ref ao0)])) rfl rfl (hb hby d3_43)
          refine own_go (x' := T54.setTop (mkF m 46 #[.val (.ref ao0), .val (.int p1), .val (.int p2), .val (.int (2 : Int32))] [(.ref ar)])) st54 ?_
          refine own_retR X54 hx hlk hret rfl rfl (hb hby d3_46) ?_ (by decide) (by decide)
          rw [e54]
          exact ⟨(.ref b0), (.ref b1), .null, .null, rfl, Nf, Kp, V_ar, Or.inl ⟨rfl, Or.inr hc24⟩, Or.inl ⟨rfl, Or.inr hc24⟩, Or.inl ⟨rfl, hc4_40⟩, Or.inl ⟨rfl, (own_le hc4_40 (by decide))⟩⟩
      · refine own_go (x' := T3.setTop (mkF m 43 #[.val (.ref ao0), .val (.int p1), .val (.int p2), .val (.int (1 : Int32))] [(.ref ao0)])) (fun _ k => XS.icmpYes X3.here hx rfl (pc0 := 4) (pc' := 42) rfl (hb hby d3_4) rfl (flt hc4_34).2.1 (by decide) (by decide) (XS.aloadN X3.here hx rfl (hb hby d3_42) rfl rfl k)) ?_
        obtain ⟨T55, X55, e55, st55⟩ := getF X3 hx hZ hown (host := "") (Or.inl (own_w hw 17 rfl)) Via.refl e3 F_ao0_chars (g := (mkF m 43 #[.val (.ref ao0), .val (.int p1), .val (.int p2), .val (.int (1 : Int32))] [(.ref ao0)])) rfl rfl (hb hby d3_43)
        refine own_go (x' := T55.setTop (mkF m 46 #[.val (.ref ao0), .val (.int p1), .val (.int p2), .val (.int (1 : Int32))] [(.ref ar)])) st55 ?_
        refine own_retR X55 hx hlk hret rfl rfl (hb hby d3_46) ?_ (by decide) (by decide)
        rw [e55]
        exact ⟨(.ref b0), (.ref b1), .null, .null, rfl, Nf, Kp, V_ar, Or.inl ⟨rfl, Or.inr hc24⟩, Or.inl ⟨rfl, Or.inl hc4_34⟩, Or.inl ⟨rfl, (own_le hc4_34 (by decide))⟩, Or.inl ⟨rfl, (own_le hc4_34 (by decide))⟩⟩
  · refine own_go (x' := s₁.setTop (mkF m 43 #[.val (.ref ao0), .val (.int p1), .val (.int p2), .val (.int (0 : Int32))] [(.ref ao0)])) (fun _ k => XS.icmpYes X0.here hx rfl (pc0 := 4) (pc' := 42) rfl (hb hby d3_4) rfl (flt hc4).2.1 (by decide) (by decide) (XS.aloadN X0.here hx rfl (hb hby d3_42) rfl rfl k)) ?_
    obtain ⟨T56, X56, e56, st56⟩ := getF X0 hx hZ hown (host := "") (Or.inl (own_w hw 17 rfl)) Via.refl e0 F_ao0_chars (g := (mkF m 43 #[.val (.ref ao0), .val (.int p1), .val (.int p2), .val (.int (0 : Int32))] [(.ref ao0)])) rfl rfl (hb hby d3_43)
    refine own_go (x' := T56.setTop (mkF m 46 #[.val (.ref ao0), .val (.int p1), .val (.int p2), .val (.int (0 : Int32))] [(.ref ar)])) st56 ?_
    refine own_retR X56 hx hlk hret rfl rfl (hb hby d3_46) ?_ (by decide) (by decide)
    rw [e56]
    exact ⟨(.ref b0), (.ref b1), .null, .null, rfl, Nf, Kp, V_ar, Or.inl ⟨rfl, Or.inl hc4⟩, Or.inl ⟨rfl, Or.inl (own_le hc4 (by decide))⟩, Or.inl ⟨rfl, (own_le hc4 (by decide))⟩, Or.inl ⟨rfl, (own_le hc4 (by decide))⟩⟩
def Q_rmS_3 (Z : State) (ao0 : Addr) (p1 : Int32) (p2 : Int32) (ar : Addr) (kc : ClassId) (n1 mm : Int32) (b0 : Addr) (k0 : ClassId) (b1 : Addr) (k1 : ClassId) (b2 : Addr) (k2 : ClassId) (h0 : Heap) (n0 : Nat) (v : Option Value) (h : Heap) (L : List Loc) : Prop := ∃ w0 w1 w2 w3 : Value, v = some (.ref ar) ∧ Fr n0 L ∧ Keep h0 h [ar] ∧ Arv Z h ar kc (.array .char) (4 : Int32) [w0, w1, w2, w3] .null ∧ own_Rp Z h h0.size w0 b0 (0 : Int32) p1 n1 p2 ∧ own_Rp Z h h0.size w1 b1 (1 : Int32) p1 n1 p2 ∧ own_Rp Z h h0.size w2 b2 (2 : Int32) p1 n1 p2 ∧ own_Rn Z h w3 (3 : Int32) p1 p2
theorem pn_rmS_3 : plainName "com/example/wee_match/weematch/Sieve$Windows" = true := by first | (simp [plainName, overriddenIn]; done) | decide +kernel
theorem ef_rmS_3 (m : MethodId) (x0 : Addr) (x1 : Int32) (x2 : Int32) : entryFrame m #[(.ref x0), (.int x1), (.int x2)] 4 = mkF m 0 #[.val (.ref x0), .val (.int x1), .val (.int x2), .unset] [] := by first | (simp [entryFrame, mkF, argsToLocals, Value.category]; done) | rfl
set_option maxRecDepth 65536 in
set_option maxHeartbeats 40000000 in
theorem rmS_3 (l : Launch) (Z : State) (a0 : Array Value) (hw : ∀ d ∈ tables_1, d.before a0 Z = true) (ws : List Jvm.Cond) (ao0 : Addr) (p1 : Int32) (p2 : Int32) (ar : Addr) (kc : ClassId) (n1 mm : Int32) (b0 : Addr) (k0 : ClassId) (b1 : Addr) (k1 : ClassId) (b2 : Addr) (k2 : ClassId) (h0 : Heap) (n0 : Nat) (Z0 : n0 ≤ h0.size) (F_ao0_chars : Fld Z h0 ao0 "com/example/wee_match/weematch/Sieve$Windows" "chars" "[[C" (.ref ar)) (V_ar : Arv Z h0 ar kc (.array .char) (4 : Int32) [.ref b0, .ref b1, .ref b2, .null] .null) (O_ar : OvrA Z kc .char "[C") (ne_ao0_ar : ao0 ≠ ar) (g_ar : n0 ≤ ar) (hs : own_L p2) (hu : ¬ (4 : Int32) < p1) (V_b0 : Arv Z h0 b0 k0 .char n1 [.int mm] (.int (0 : Int32))) (V_b1 : Arv Z h0 b1 k1 .char n1 [.int mm] (.int (0 : Int32))) (V_b2 : Arv Z h0 b2 k2 .char n1 [.int mm] (.int (0 : Int32))) (ne_b0_ar : b0 ≠ ar) (ne_b1_ar : b1 ≠ ar) (ne_b2_ar : b2 ≠ ar) :
    MetFree l (⟨"com/example/wee_match/weematch/Sieve$Windows", "chars", "(II)[[C"⟩ : MethodName) (head1 (Jvm.Cond.code (⟨"com/example/wee_match/weematch/Sieve$Windows", "chars", "(II)[[C"⟩ : MethodName) prog_20_method_9_code 4 (some (.array (.array .char))) :: ws) ({ frames := 0, cells := 4, slots := 124, locals := 0 } : Room)) (fun a U => a = #[(.ref ao0), (.int p1), (.int p2)] ∧ Z.Warmed39 U.vm ∧ U.heap = h0) (fun _ _ _ _ _ => True) (fun _ U o U' => ∃ v L, o = .returned v ∧ (Q_rmS_3 Z ao0 p1 p2 ar kc n1 mm b0 k0 b1 k1 b2 k2 h0 n0) v U'.heap L ∧ FrameEnd U o U' L ({ frames := 0, cells := 4, slots := 124, locals := 0 } : Room).cells ({ frames := 0, cells := 4, slots := 124, locals := 0 } : Room).slots) := by
  refine MetFree.of_bodySF (plainFor_of_name pn_rmS_3) hisR ?_
  intro p e s m args below meth c s₁ Bd hml0 hP hK
  obtain ⟨rfl, hZ, hh⟩ := hP
  have hx := Bd.exec
  have hby := Bd.bytes
  have hlk := BodyLoose.notSynchronized Bd
  have hret := Bd.returns
  have hml : c.maxLocals = 4 := hml0
  have hown : s.vm.findClass "com/example/wee_match/weematch/Sieve$Windows" = some m.cls := findClass_of_methodNamed Bd.named
  have hnm := (name_of_methodNamed Bd.named Bd.method).1
  have X0 : Stand p l e ({ frames := 0, cells := 4, slots := 124, locals := 0 } : Room) s m #[(.ref ao0), (.int p1), (.int p2)] below meth c s₁ [] 0 0 := Stand.of_body Bd
  have e0 : s₁.heap = h0 := by rw [← hh, Bd.state]; rfl
  have Nf := Fr.nil n0
  have Zs := Z0
  have Kp : Keep h0 h0 [ar] := Keep.refl _ _
  show own_End p e below s (Q_rmS_3 Z ao0 p1 p2 ar kc n1 mm b0 k0 b1 k1 b2 k2 h0 n0) ({ frames := 0, cells := 4, slots := 124, locals := 0 } : Room).cells ({ frames := 0, cells := 4, slots := 124, locals := 0 } : Room).slots (s₁.setTop (entryFrame m #[(.ref ao0), (.int p1), (.int p2)] 4))
  refine own_go (x' := s₁.setTop (mkF m 0 #[.val (.ref ao0), .val (.int p1), .val (.int p2), .unset] [])) (fun t k => castTop (ef_rmS_3 m ao0 p1 p2) k) ?_
  refine own_go (x' := s₁.setTop (mkF m 4 #[.val (.ref ao0), .val (.int p1), .val (.int p2), .val (.int (0 : Int32))] [(.int p1), (.int (0 : Int32))])) (fun _ k => XS.iconst X0.here hx rfl (hb hby d3_0) (XS.istoreN X0.here hx rfl (hb hby d3_1) rfl (l' := #[.val (.ref ao0), .val (.int p1), .val (.int p2), .val (.int (0 : Int32))]) rfl (XS.iloadN X0.here hx rfl (hb hby d3_2) rfl (XS.iloadN X0.here hx rfl (hb hby d3_3) rfl k)))) ?_
  by_cases hc4 : (0 : Int32) < p1
  · refine own_go (x' := s₁.setTop (mkF m 8 #[.val (.ref ao0), .val (.int p1), .val (.int p2), .val (.int (0 : Int32))] [(.ref ao0)])) (fun _ k => XS.icmpNo X0.here hx rfl (hb hby d3_4) rfl (tlt hc4).2.1 (XS.aloadN X0.here hx rfl (hb hby d3_7) rfl rfl k)) ?_
    obtain ⟨T1, X1, e1, st1⟩ := getF X0 hx hZ hown (host := "") (Or.inl (own_w hw 17 rfl)) Via.refl e0 F_ao0_chars (g := (mkF m 8 #[.val (.ref ao0), .val (.int p1), .val (.int p2), .val (.int (0 : Int32))] [(.ref ao0)])) rfl rfl (hb hby d3_8)
    refine own_go (x' := T1.setTop (mkF m 11 #[.val (.ref ao0), .val (.int p1), .val (.int p2), .val (.int (0 : Int32))] [(.ref ar)])) st1 ?_
    refine own_go (x' := T1.setTop (mkF m 12 #[.val (.ref ao0), .val (.int p1), .val (.int p2), .val (.int (0 : Int32))] [(.int (0 : Int32)), (.ref ar)])) (fun _ k => XS.iloadN X1.here hx rfl (hb hby d3_11) rfl k) ?_
    obtain ⟨cl2, Ar2, q2, Sz2, Nn2, Hh2, Gg2⟩ := id V_ar
    have hin2 : ¬ ((0 : Int32) < 0 ∨ cl2.slots.size ≤ ((0 : Int32)).toNatClampNeg) := inb_of Sz2 ⟨by decide, by decide⟩
    refine own_go (x' := T1.setTop (mkF m 13 #[.val (.ref ao0), .val (.int p1), .val (.int p2), .val (.int (0 : Int32))] [(.ref b0)])) (X1.aaload hx (j := (0 : Int32)) (v := (.ref b0)) (Eq.trans (congrArg (fun h_ => h_[_]?) e1) Ar2.1) (State.isArrayOf_alike hZ.alike Ar2.2.1) rfl Ar2.2.2 hin2 (Hh2.at hin2 rfl) (g := (mkF m 12 #[.val (.ref ao0), .val (.int p1), .val (.int p2), .val (.int (0 : Int32))] [(.int (0 : Int32)), (.ref ar)])) rfl rfl (hb hby d3_12)) ?_
    refine own_go (x' := T1.setTop (mkF m 17 #[.val (.ref ao0), .val (.int p1), .val (.int p2), .val (.int (0 : Int32))] [(.ref ao0)])) (fun _ k => XS.ifnullNo X1.here hx rfl (hb hby d3_13) rfl (XS.aloadN X1.here hx rfl (hb hby d3_16) rfl rfl k)) ?_
    obtain ⟨T3, X3, e3, st3⟩ := getF X1 hx hZ hown (host := "") (Or.inl (own_w hw 17 rfl)) Via.refl e1 F_ao0_chars (g := (mkF m 17 #[.val (.ref ao0), .val (.int p1), .val (.int p2), .val (.int (0 : Int32))] [(.ref ao0)])) rfl rfl (hb hby d3_17)
    refine own_go (x' := T3.setTop (mkF m 20 #[.val (.ref ao0), .val (.int p1), .val (.int p2), .val (.int (0 : Int32))] [(.ref ar)])) st3 ?_
    refine own_go (x' := T3.setTop (mkF m 21 #[.val (.ref ao0), .val (.int p1), .val (.int p2), .val (.int (0 : Int32))] [(.int (0 : Int32)), (.ref ar)])) (fun _ k => XS.iloadN X3.here hx rfl (hb hby d3_20) rfl k) ?_
    obtain ⟨cl4, Ar4, q4, Sz4, Nn4, Hh4, Gg4⟩ := id V_ar
    have hin4 : ¬ ((0 : Int32) < 0 ∨ cl4.slots.size ≤ ((0 : Int32)).toNatClampNeg) := inb_of Sz4 ⟨by decide, by decide⟩
    refine own_go (x' := T3.setTop (mkF m 22 #[.val (.ref ao0), .val (.int p1), .val (.int p2), .val (.int (0 : Int32))] [(.ref b0)])) (X3.aaload hx (j := (0 : Int32)) (v := (.ref b0)) (Eq.trans (congrArg (fun h_ => h_[_]?) e3) Ar4.1) (State.isArrayOf_alike hZ.alike Ar4.2.1) rfl Ar4.2.2 hin4 (Hh4.at hin4 rfl) (g := (mkF m 21 #[.val (.ref ao0), .val (.int p1), .val (.int p2), .val (.int (0 : Int32))] [(.int (0 : Int32)), (.ref ar)])) rfl rfl (hb hby d3_21)) ?_
    obtain ⟨cl5, Ar5, -, Sz5, Nn5, -, -⟩ := id V_b0
    refine own_go (x' := T3.setTop (mkF m 23 #[.val (.ref ao0), .val (.int p1), .val (.int p2), .val (.int (0 : Int32))] [(.int n1)])) (fun t k => X3.arraylength hx (Eq.trans (congrArg (fun h_ => h_[_]?) e3) Ar5.1) (State.isArrayOf_alike hZ.alike Ar5.2.1) (g := (mkF m 22 #[.val (.ref ao0), .val (.int p1), .val (.int p2), .val (.int (0 : Int32))] [(.ref b0)])) rfl rfl (hb hby d3_22) t (by rw [len_of Sz5 Nn5]; exact k)) ?_
    refine own_go (x' := T3.setTop (mkF m 24 #[.val (.ref ao0), .val (.int p1), .val (.int p2), .val (.int (0 : Int32))] [(.int p2), (.int n1)])) (fun _ k => XS.iloadN X3.here hx rfl (hb hby d3_23) rfl k) ?_
    by_cases hc24 : n1 < p2
    · refine own_go (x' := T3.setTop (mkF m 28 #[.val (.ref ao0), .val (.int p1), .val (.int p2), .val (.int (0 : Int32))] [(.ref ao0)])) (fun _ k => XS.icmpNo X3.here hx rfl (hb hby d3_24) rfl (tlt hc24).2.1 (XS.aloadN X3.here hx rfl (hb hby d3_27) rfl rfl k)) ?_
      obtain ⟨T6, X6, e6, st6⟩ := getF X3 hx hZ hown (host := "") (Or.inl (own_w hw 17 rfl)) Via.refl e3 F_ao0_chars (g := (mkF m 28 #[.val (.ref ao0), .val (.int p1), .val (.int p2), .val (.int (0 : Int32))] [(.ref ao0)])) rfl rfl (hb hby d3_28)
      refine own_go (x' := T6.setTop (mkF m 31 #[.val (.ref ao0), .val (.int p1), .val (.int p2), .val (.int (0 : Int32))] [(.ref ar)])) st6 ?_
      refine own_go (x' := T6.setTop (mkF m 33 #[.val (.ref ao0), .val (.int p1), .val (.int p2), .val (.int (0 : Int32))] [(.int p2), (.int (0 : Int32)), (.ref ar)])) (fun _ k => XS.iloadN X6.here hx rfl (hb hby d3_31) rfl (XS.iloadN X6.here hx rfl (hb hby d3_32) rfl k)) ?_
      obtain ⟨T7, h7, k7, X7, e7, E7, A7, Q7, st7⟩ := newPE X6 hx hZ (own_w hw 34 rfl) e6 (g := (mkF m 33 #[.val (.ref ao0), .val (.int p1), .val (.int p2), .val (.int (0 : Int32))] [(.int p2), (.int (0 : Int32)), (.ref ar)])) rfl (hb hby d3_33) rfl hs.1 (cap := 31) hs.2 (by decide) (by decide) (by decide) (ad := "[C") (by decide)
      obtain ⟨b7, g7⟩ : ∃ z, z = h0.size := ⟨_, rfl⟩
      rw [← g7] at A7 st7
      rw [← g7] at Q7
      have ne_ao0_b7 : ao0 ≠ b7 := Nat.ne_of_lt (Nat.lt_of_lt_of_le F_ao0_chars.lt (Nat.le_of_eq g7.symm))
      have ne_ar_b7 : ar ≠ b7 := Nat.ne_of_lt (Nat.lt_of_lt_of_le V_ar.lt (Nat.le_of_eq g7.symm))
      have ne_b0_b7 : b0 ≠ b7 := Nat.ne_of_lt (Nat.lt_of_lt_of_le V_b0.lt (Nat.le_of_eq g7.symm))
      have ne_b1_b7 : b1 ≠ b7 := Nat.ne_of_lt (Nat.lt_of_lt_of_le V_b1.lt (Nat.le_of_eq g7.symm))
      have ne_b2_b7 : b2 ≠ b7 := Nat.ne_of_lt (Nat.lt_of_lt_of_le V_b2.lt (Nat.le_of_eq g7.symm))
      have g_b7 : n0 ≤ b7 := Nat.le_trans Zs (Nat.le_of_eq g7.symm)
      have sz_b7 : h0.size ≤ b7 := Nat.le_trans Kp.1 (Nat.le_of_eq g7.symm)
      replace F_ao0_chars := Fld.ext E7 F_ao0_chars
      replace V_ar := V_ar.ext E7
      replace V_b0 := V_b0.ext E7
      replace V_b1 := V_b1.ext E7
      replace V_b2 := V_b2.ext E7
      replace Zs := Nat.le_trans Zs E7.1
      replace Kp := Kp.ext E7
      have E_b7 := Q7
      have V_b7 : Arv Z h7 b7 k7 .char p2 [] (.int (0 : Int32)) := Arv.new A7 hs.1
      refine own_go (x' := T7.setTop (mkF m 35 #[.val (.ref ao0), .val (.int p1), .val (.int p2), .val (.int (0 : Int32))] [(.ref b7), (.int (0 : Int32)), (.ref ar)])) st7 ?_
      obtain ⟨cl8, Ar8, q8, Sz8, Nn8, Hh8, Gg8⟩ := V_ar
      have hin8 : ¬ ((0 : Int32) < 0 ∨ cl8.slots.size ≤ ((0 : Int32)).toNatClampNeg) := inb_of Sz8 ⟨by decide, by decide⟩
      obtain ⟨T8, h8, X8, e8, W8, st8⟩ := stR X7 hx hZ e7 Ar8 (j := (0 : Int32)) hin8 rfl (Sto.ofVA Ar8 q8 O_ar (Ins.self E_b7)) (g := (mkF m 35 #[.val (.ref ao0), .val (.int p1), .val (.int p2), .val (.int (0 : Int32))] [(.ref b7), (.int (0 : Int32)), (.ref ar)])) rfl rfl (hb hby d3_35)
      refine own_go (x' := T8.setTop (mkF m 36 #[.val (.ref ao0), .val (.int p1), .val (.int p2), .val (.int (0 : Int32))] [])) st8 ?_
      replace F_ao0_chars := Fld.other W8 F_ao0_chars (Or.inl ne_ao0_ar)
      replace V_b0 := V_b0.other W8 ne_b0_ar
      replace V_b1 := V_b1.other W8 ne_b1_ar
      replace V_b2 := V_b2.other W8 ne_b2_ar
      replace E_b7 := Exa.wr W8 E_b7
      replace V_b7 := V_b7.other W8 (Ne.symm ne_ar_b7)
      replace Zs := Nat.le_trans Zs (Keep.of_wr W8).1
      replace Nf := Fr.snoc X8 Nf g_ar
      replace Kp := Kp.wr W8 (Or.inl (by simp))
      have V_ar : Arv Z h8 ar kc (.array .char) (4 : Int32) [(.ref b7), (.ref b1), (.ref b2), .null] .null := Arv.set Ar8 q8 Sz8 Nn8 Hh8 Gg8 rfl W8 0 rfl (Nat.le_of_ble_eq_true rfl)
      refine own_go (x' := T8.setTop (mkF m 2 #[.val (.ref ao0), .val (.int p1), .val (.int p2), .val (.int ((0 : Int32) + (1 : Int32)))] [])) (fun _ k => XS.iinc X8.here hx rfl (hb hby d3_36) rfl (l' := #[.val (.ref ao0), .val (.int p1), .val (.int p2), .val (.int ((0 : Int32) + (1 : Int32)))]) rfl (XS.goto X8.here hx rfl (pc0 := 39) (pc' := 2) rfl (hb hby d3_39) (by decide) (by decide) k)) ?_
      rw [show ((0 : Int32) + (1 : Int32)) = (1 : Int32) from by decide +kernel]
      refine own_go (x' := T8.setTop (mkF m 4 #[.val (.ref ao0), .val (.int p1), .val (.int p2), .val (.int (1 : Int32))] [(.int p1), (.int (1 : Int32))])) (fun _ k => XS.iloadN X8.here hx rfl (hb hby d3_2) rfl (XS.iloadN X8.here hx rfl (hb hby d3_3) rfl k)) ?_
      by_cases hc4_9 : (1 : Int32) < p1
      · refine own_go (x' := T8.setTop (mkF m 8 #[.val (.ref ao0), .val (.int p1), .val (.int p2), .val (.int (1 : Int32))] [(.ref ao0)])) (fun _ k => XS.icmpNo X8.here hx rfl (hb hby d3_4) rfl (tlt hc4_9).2.1 (XS.aloadN X8.here hx rfl (hb hby d3_7) rfl rfl k)) ?_
        obtain ⟨T10, X10, e10, st10⟩ := getF X8 hx hZ hown (host := "") (Or.inl (own_w hw 17 rfl)) Via.refl e8 F_ao0_chars (g := (mkF m 8 #[.val (.ref ao0), .val (.int p1), .val (.int p2), .val (.int (1 : Int32))] [(.ref ao0)])) rfl rfl (hb hby d3_8)
        refine own_go (x' := T10.setTop (mkF m 11 #[.val (.ref ao0), .val (.int p1), .val (.int p2), .val (.int (1 : Int32))] [(.ref ar)])) st10 ?_
        refine own_go (x' := T10.setTop (mkF m 12 #[.val (.ref ao0), .val (.int p1), .val (.int p2), .val (.int (1 : Int32))] [(.int (1 : Int32)), (.ref ar)])) (fun _ k => XS.iloadN X10.here hx rfl (hb hby d3_11) rfl k) ?_
        obtain ⟨cl11, Ar11, q11, Sz11, Nn11, Hh11, Gg11⟩ := id V_ar
        have hin11 : ¬ ((1 : Int32) < 0 ∨ cl11.slots.size ≤ ((1 : Int32)).toNatClampNeg) := inb_of Sz11 ⟨by decide, by decide⟩
        refine own_go (x' := T10.setTop (mkF m 13 #[.val (.ref ao0), .val (.int p1), .val (.int p2), .val (.int (1 : Int32))] [(.ref b1)])) (X10.aaload hx (j := (1 : Int32)) (v := (.ref b1)) (Eq.trans (congrArg (fun h_ => h_[_]?) e10) Ar11.1) (State.isArrayOf_alike hZ.alike Ar11.2.1) rfl Ar11.2.2 hin11 (Hh11.at hin11 rfl) (g := (mkF m 12 #[.val (.ref ao0), .val (.int p1), .val (.int p2), .val (.int (1 : Int32))] [(.int (1 : Int32)), (.ref ar)])) rfl rfl (hb hby d3_12)) ?_
        refine own_go (x' := T10.setTop (mkF m 17 #[.val (.ref ao0), .val (.int p1), .val (.int p2), .val (.int (1 : Int32))] [(.ref ao0)])) (fun _ k => XS.ifnullNo X10.here hx rfl (hb hby d3_13) rfl (XS.aloadN X10.here hx rfl (hb hby d3_16) rfl rfl k)) ?_
        obtain ⟨T12, X12, e12, st12⟩ := getF X10 hx hZ hown (host := "") (Or.inl (own_w hw 17 rfl)) Via.refl e10 F_ao0_chars (g := (mkF m 17 #[.val (.ref ao0), .val (.int p1), .val (.int p2), .val (.int (1 : Int32))] [(.ref ao0)])) rfl rfl (hb hby d3_17)
        refine own_go (x' := T12.setTop (mkF m 20 #[.val (.ref ao0), .val (.int p1), .val (.int p2), .val (.int (1 : Int32))] [(.ref ar)])) st12 ?_
        refine own_go (x' := T12.setTop (mkF m 21 #[.val (.ref ao0), .val (.int p1), .val (.int p2), .val (.int (1 : Int32))] [(.int (1 : Int32)), (.ref ar)])) (fun _ k => XS.iloadN X12.here hx rfl (hb hby d3_20) rfl k) ?_
        obtain ⟨cl13, Ar13, q13, Sz13, Nn13, Hh13, Gg13⟩ := id V_ar
        have hin13 : ¬ ((1 : Int32) < 0 ∨ cl13.slots.size ≤ ((1 : Int32)).toNatClampNeg) := inb_of Sz13 ⟨by decide, by decide⟩
        refine own_go (x' := T12.setTop (mkF m 22 #[.val (.ref ao0), .val (.int p1), .val (.int p2), .val (.int (1 : Int32))] [(.ref b1)])) (X12.aaload hx (j := (1 : Int32)) (v := (.ref b1)) (Eq.trans (congrArg (fun h_ => h_[_]?) e12) Ar13.1) (State.isArrayOf_alike hZ.alike Ar13.2.1) rfl Ar13.2.2 hin13 (Hh13.at hin13 rfl) (g := (mkF m 21 #[.val (.ref ao0), .val (.int p1), .val (.int p2), .val (.int (1 : Int32))] [(.int (1 : Int32)), (.ref ar)])) rfl rfl (hb hby d3_21)) ?_
        obtain ⟨cl14, Ar14, -, Sz14, Nn14, -, -⟩ := id V_b1
        refine own_go (x' := T12.setTop (mkF m 23 #[.val (.ref ao0), .val (.int p1), .val (.int p2), .val (.int (1 : Int32))] [(.int n1)])) (fun t k => X12.arraylength hx (Eq.trans (congrArg (fun h_ => h_[_]?) e12) Ar14.1) (State.isArrayOf_alike hZ.alike Ar14.2.1) (g := (mkF m 22 #[.val (.ref ao0), .val (.int p1), .val (.int p2), .val (.int (1 : Int32))] [(.ref b1)])) rfl rfl (hb hby d3_22) t (by rw [len_of Sz14 Nn14]; exact k)) ?_
        refine own_go (x' := T12.setTop (mkF m 28 #[.val (.ref ao0), .val (.int p1), .val (.int p2), .val (.int (1 : Int32))] [(.ref ao0)])) (fun _ k => XS.iloadN X12.here hx rfl (hb hby d3_23) rfl (XS.icmpNo X12.here hx rfl (hb hby d3_24) rfl (tlt hc24).2.1 (XS.aloadN X12.here hx rfl (hb hby d3_27) rfl rfl k))) ?_
        obtain ⟨T15, X15, e15, st15⟩ := getF X12 hx hZ hown (host := "") (Or.inl (own_w hw 17 rfl)) Via.refl e12 F_ao0_chars (g := (mkF m 28 #[.val (.ref ao0), .val (.int p1), .val (.int p2), .val (.int (1 : Int32))] [(.ref ao0)])) rfl rfl (hb hby d3_28)
        refine own_go (x' := T15.setTop (mkF m 31 #[.val (.ref ao0), .val (.int p1), .val (.int p2), .val (.int (1 : Int32))] [(.ref ar)])) st15 ?_
        refine own_go (x' := T15.setTop (mkF m 33 #[.val (.ref ao0), .val (.int p1), .val (.int p2), .val (.int (1 : Int32))] [(.int p2), (.int (1 : Int32)), (.ref ar)])) (fun _ k => XS.iloadN X15.here hx rfl (hb hby d3_31) rfl (XS.iloadN X15.here hx rfl (hb hby d3_32) rfl k)) ?_
        obtain ⟨T16, h16, k16, X16, e16, E16, A16, Q16, st16⟩ := newPE X15 hx hZ (own_w hw 34 rfl) e15 (g := (mkF m 33 #[.val (.ref ao0), .val (.int p1), .val (.int p2), .val (.int (1 : Int32))] [(.int p2), (.int (1 : Int32)), (.ref ar)])) rfl (hb hby d3_33) rfl hs.1 (cap := 31) hs.2 (by decide) (by decide) (by decide) (ad := "[C") (by decide)
        obtain ⟨b16, g16⟩ : ∃ z, z = h8.size := ⟨_, rfl⟩
        rw [← g16] at A16 st16
        rw [← g16] at Q16
        have ne_ao0_b16 : ao0 ≠ b16 := Nat.ne_of_lt (Nat.lt_of_lt_of_le F_ao0_chars.lt (Nat.le_of_eq g16.symm))
        have ne_b0_b16 : b0 ≠ b16 := Nat.ne_of_lt (Nat.lt_of_lt_of_le V_b0.lt (Nat.le_of_eq g16.symm))
        have ne_b1_b16 : b1 ≠ b16 := Nat.ne_of_lt (Nat.lt_of_lt_of_le V_b1.lt (Nat.le_of_eq g16.symm))
        have ne_b2_b16 : b2 ≠ b16 := Nat.ne_of_lt (Nat.lt_of_lt_of_le V_b2.lt (Nat.le_of_eq g16.symm))
        have ne_b7_b16 : b7 ≠ b16 := Nat.ne_of_lt (Nat.lt_of_lt_of_le E_b7.lt (Nat.le_of_eq g16.symm))
        have ne_ar_b16 : ar ≠ b16 := Nat.ne_of_lt (Nat.lt_of_lt_of_le V_ar.lt (Nat.le_of_eq g16.symm))
        have g_b16 : n0 ≤ b16 := Nat.le_trans Zs (Nat.le_of_eq g16.symm)
        have sz_b16 : h0.size ≤ b16 := Nat.le_trans Kp.1 (Nat.le_of_eq g16.symm)
        replace F_ao0_chars := Fld.ext E16 F_ao0_chars
        replace V_b0 := V_b0.ext E16
        replace V_b1 := V_b1.ext E16
        replace V_b2 := V_b2.ext E16
        replace E_b7 := Exa.ext E16 E_b7
        replace V_b7 := V_b7.ext E16
        replace V_ar := V_ar.ext E16
        replace Zs := Nat.le_trans Zs E16.1
        replace Kp := Kp.ext E16
        have E_b16 := Q16
        have V_b16 : Arv Z h16 b16 k16 .char p2 [] (.int (0 : Int32)) := Arv.new A16 hs.1
        refine own_go (x' := T16.setTop (mkF m 35 #[.val (.ref ao0), .val (.int p1), .val (.int p2), .val (.int (1 : Int32))] [(.ref b16), (.int (1 : Int32)), (.ref ar)])) st16 ?_
        obtain ⟨cl17, Ar17, q17, Sz17, Nn17, Hh17, Gg17⟩ := V_ar
        have hin17 : ¬ ((1 : Int32) < 0 ∨ cl17.slots.size ≤ ((1 : Int32)).toNatClampNeg) := inb_of Sz17 ⟨by decide, by decide⟩
        obtain ⟨T17, h17, X17, e17, W17, st17⟩ := stR X16 hx hZ e16 Ar17 (j := (1 : Int32)) hin17 rfl (Sto.ofVA Ar17 q17 O_ar (Ins.self E_b16)) (g := (mkF m 35 #[.val (.ref ao0), .val (.int p1), .val (.int p2), .val (.int (1 : Int32))] [(.ref b16), (.int (1 : Int32)), (.ref ar)])) rfl rfl (hb hby d3_35)
        refine own_go (x' := T17.setTop (mkF m 36 #[.val (.ref ao0), .val (.int p1), .val (.int p2), .val (.int (1 : Int32))] [])) st17 ?_
        replace F_ao0_chars := Fld.other W17 F_ao0_chars (Or.inl ne_ao0_ar)
        replace V_b0 := V_b0.other W17 ne_b0_ar
        replace V_b1 := V_b1.other W17 ne_b1_ar
        replace V_b2 := V_b2.other W17 ne_b2_ar
        replace E_b7 := Exa.wr W17 E_b7
        replace V_b7 := V_b7.other W17 (Ne.symm ne_ar_b7)
        replace E_b16 := Exa.wr W17 E_b16
        replace V_b16 := V_b16.other W17 (Ne.symm ne_ar_b16)
        replace Zs := Nat.le_trans Zs (Keep.of_wr W17).1
        replace Nf := Fr.snoc X17 Nf g_ar
        replace Kp := Kp.wr W17 (Or.inl (by simp))
        have V_ar : Arv Z h17 ar kc (.array .char) (4 : Int32) [(.ref b7), (.ref b16), (.ref b2), .null] .null := Arv.set Ar17 q17 Sz17 Nn17 Hh17 Gg17 rfl W17 1 rfl (Nat.le_of_ble_eq_true rfl)
        refine own_go (x' := T17.setTop (mkF m 2 #[.val (.ref ao0), .val (.int p1), .val (.int p2), .val (.int ((1 : Int32) + (1 : Int32)))] [])) (fun _ k => XS.iinc X17.here hx rfl (hb hby d3_36) rfl (l' := #[.val (.ref ao0), .val (.int p1), .val (.int p2), .val (.int ((1 : Int32) + (1 : Int32)))]) rfl (XS.goto X17.here hx rfl (pc0 := 39) (pc' := 2) rfl (hb hby d3_39) (by decide) (by decide) k)) ?_
        rw [show ((1 : Int32) + (1 : Int32)) = (2 : Int32) from by decide +kernel]
        refine own_go (x' := T17.setTop (mkF m 4 #[.val (.ref ao0), .val (.int p1), .val (.int p2), .val (.int (2 : Int32))] [(.int p1), (.int (2 : Int32))])) (fun _ k => XS.iloadN X17.here hx rfl (hb hby d3_2) rfl (XS.iloadN X17.here hx rfl (hb hby d3_3) rfl k)) ?_
        by_cases hc4_18 : (2 : Int32) < p1
        · refine own_go (x' := T17.setTop (mkF m 8 #[.val (.ref ao0), .val (.int p1), .val (.int p2), .val (.int (2 : Int32))] [(.ref ao0)])) (fun _ k => XS.icmpNo X17.here hx rfl (hb hby d3_4) rfl (tlt hc4_18).2.1 (XS.aloadN X17.here hx rfl (hb hby d3_7) rfl rfl k)) ?_
          obtain ⟨T19, X19, e19, st19⟩ := getF X17 hx hZ hown (host := "") (Or.inl (own_w hw 17 rfl)) Via.refl e17 F_ao0_chars (g := (mkF m 8 #[.val (.ref ao0), .val (.int p1), .val (.int p2), .val (.int (2 : Int32))] [(.ref ao0)])) rfl rfl (hb hby d3_8)
          refine own_go (x' := T19.setTop (mkF m 11 #[.val (.ref ao0), .val (.int p1), .val (.int p2), .val (.int (2 : Int32))] [(.ref ar)])) st19 ?_
          refine own_go (x' := T19.setTop (mkF m 12 #[.val (.ref ao0), .val (.int p1), .val (.int p2), .val (.int (2 : Int32))] [(.int (2 : Int32)), (.ref ar)])) (fun _ k => XS.iloadN X19.here hx rfl (hb hby d3_11) rfl k) ?_
          obtain ⟨cl20, Ar20, q20, Sz20, Nn20, Hh20, Gg20⟩ := id V_ar
          have hin20 : ¬ ((2 : Int32) < 0 ∨ cl20.slots.size ≤ ((2 : Int32)).toNatClampNeg) := inb_of Sz20 ⟨by decide, by decide⟩
          refine own_go (x' := T19.setTop (mkF m 13 #[.val (.ref ao0), .val (.int p1), .val (.int p2), .val (.int (2 : Int32))] [(.ref b2)])) (X19.aaload hx (j := (2 : Int32)) (v := (.ref b2)) (Eq.trans (congrArg (fun h_ => h_[_]?) e19) Ar20.1) (State.isArrayOf_alike hZ.alike Ar20.2.1) rfl Ar20.2.2 hin20 (Hh20.at hin20 rfl) (g := (mkF m 12 #[.val (.ref ao0), .val (.int p1), .val (.int p2), .val (.int (2 : Int32))] [(.int (2 : Int32)), (.ref ar)])) rfl rfl (hb hby d3_12)) ?_
          refine own_go (x' := T19.setTop (mkF m 17 #[.val (.ref ao0), .val (.int p1), .val (.int p2), .val (.int (2 : Int32))] [(.ref ao0)])) (fun _ k => XS.ifnullNo X19.here hx rfl (hb hby d3_13) rfl (XS.aloadN X19.here hx rfl (hb hby d3_16) rfl rfl k)) ?_
          obtain ⟨T21, X21, e21, st21⟩ := getF X19 hx hZ hown (host := "") (Or.inl (own_w hw 17 rfl)) Via.refl e19 F_ao0_chars (g := (mkF m 17 #[.val (.ref ao0), .val (.int p1), .val (.int p2), .val (.int (2 : Int32))] [(.ref ao0)])) rfl rfl (hb hby d3_17)
          refine own_go (x' := T21.setTop (mkF m 20 #[.val (.ref ao0), .val (.int p1), .val (.int p2), .val (.int (2 : Int32))] [(.ref ar)])) st21 ?_
          refine own_go (x' := T21.setTop (mkF m 21 #[.val (.ref ao0), .val (.int p1), .val (.int p2), .val (.int (2 : Int32))] [(.int (2 : Int32)), (.ref ar)])) (fun _ k => XS.iloadN X21.here hx rfl (hb hby d3_20) rfl k) ?_
          obtain ⟨cl22, Ar22, q22, Sz22, Nn22, Hh22, Gg22⟩ := id V_ar
          have hin22 : ¬ ((2 : Int32) < 0 ∨ cl22.slots.size ≤ ((2 : Int32)).toNatClampNeg) := inb_of Sz22 ⟨by decide, by decide⟩
          refine own_go (x' := T21.setTop (mkF m 22 #[.val (.ref ao0), .val (.int p1), .val (.int p2), .val (.int (2 : Int32))] [(.ref b2)])) (X21.aaload hx (j := (2 : Int32)) (v := (.ref b2)) (Eq.trans (congrArg (fun h_ => h_[_]?) e21) Ar22.1) (State.isArrayOf_alike hZ.alike Ar22.2.1) rfl Ar22.2.2 hin22 (Hh22.at hin22 rfl) (g := (mkF m 21 #[.val (.ref ao0), .val (.int p1), .val (.int p2), .val (.int (2 : Int32))] [(.int (2 : Int32)), (.ref ar)])) rfl rfl (hb hby d3_21)) ?_
          obtain ⟨cl23, Ar23, -, Sz23, Nn23, -, -⟩ := id V_b2
          refine own_go (x' := T21.setTop (mkF m 23 #[.val (.ref ao0), .val (.int p1), .val (.int p2), .val (.int (2 : Int32))] [(.int n1)])) (fun t k => X21.arraylength hx (Eq.trans (congrArg (fun h_ => h_[_]?) e21) Ar23.1) (State.isArrayOf_alike hZ.alike Ar23.2.1) (g := (mkF m 22 #[.val (.ref ao0), .val (.int p1), .val (.int p2), .val (.int (2 : Int32))] [(.ref b2)])) rfl rfl (hb hby d3_22) t (by rw [len_of Sz23 Nn23]; exact k)) ?_
          refine own_go (x' := T21.setTop (mkF m 28 #[.val (.ref ao0), .val (.int p1), .val (.int p2), .val (.int (2 : Int32))] [(.ref ao0)])) (fun _ k => XS.iloadN X21.here hx rfl (hb hby d3_23) rfl (XS.icmpNo X21.here hx rfl (hb hby d3_24) rfl (tlt hc24).2.1 (XS.aloadN X21.here hx rfl (hb hby d3_27) rfl rfl k))) ?_
          obtain ⟨T24, X24, e24, st24⟩ := getF X21 hx hZ hown (host := "") (Or.inl (own_w hw 17 rfl)) Via.refl e21 F_ao0_chars (g := (mkF m 28 #[.val (.ref ao0), .val (.int p1), .val (.int p2), .val (.int (2 : Int32))] [(.ref ao0)])) rfl rfl (hb hby d3_28)
          refine own_go (x' := T24.setTop (mkF m 31 #[.val (.ref ao0), .val (.int p1), .val (.int p2), .val (.int (2 : Int32))] [(.ref ar)])) st24 ?_
          refine own_go (x' := T24.setTop (mkF m 33 #[.val (.ref ao0), .val (.int p1), .val (.int p2), .val (.int (2 : Int32))] [(.int p2), (.int (2 : Int32)), (.ref ar)])) (fun _ k => XS.iloadN X24.here hx rfl (hb hby d3_31) rfl (XS.iloadN X24.here hx rfl (hb hby d3_32) rfl k)) ?_
          obtain ⟨T25, h25, k25, X25, e25, E25, A25, Q25, st25⟩ := newPE X24 hx hZ (own_w hw 34 rfl) e24 (g := (mkF m 33 #[.val (.ref ao0), .val (.int p1), .val (.int p2), .val (.int (2 : Int32))] [(.int p2), (.int (2 : Int32)), (.ref ar)])) rfl (hb hby d3_33) rfl hs.1 (cap := 31) hs.2 (by decide) (by decide) (by decide) (ad := "[C") (by decide)
          obtain ⟨b25, g25⟩ : ∃ z, z = h17.size := ⟨_, rfl⟩
          rw [← g25] at A25 st25
          rw [← g25] at Q25
          have ne_ao0_b25 : ao0 ≠ b25 := Nat.ne_of_lt (Nat.lt_of_lt_of_le F_ao0_chars.lt (Nat.le_of_eq g25.symm))
          have ne_b0_b25 : b0 ≠ b25 := Nat.ne_of_lt (Nat.lt_of_lt_of_le V_b0.lt (Nat.le_of_eq g25.symm))
          have ne_b1_b25 : b1 ≠ b25 := Nat.ne_of_lt (Nat.lt_of_lt_of_le V_b1.lt (Nat.le_of_eq g25.symm))
          have ne_b2_b25 : b2 ≠ b25 := Nat.ne_of_lt (Nat.lt_of_lt_of_le V_b2.lt (Nat.le_of_eq g25.symm))
          have ne_b7_b25 : b7 ≠ b25 := Nat.ne_of_lt (Nat.lt_of_lt_of_le E_b7.lt (Nat.le_of_eq g25.symm))
          have ne_b16_b25 : b16 ≠ b25 := Nat.ne_of_lt (Nat.lt_of_lt_of_le E_b16.lt (Nat.le_of_eq g25.symm))
          have ne_ar_b25 : ar ≠ b25 := Nat.ne_of_lt (Nat.lt_of_lt_of_le V_ar.lt (Nat.le_of_eq g25.symm))
          have g_b25 : n0 ≤ b25 := Nat.le_trans Zs (Nat.le_of_eq g25.symm)
          have sz_b25 : h0.size ≤ b25 := Nat.le_trans Kp.1 (Nat.le_of_eq g25.symm)
          replace F_ao0_chars := Fld.ext E25 F_ao0_chars
          replace V_b0 := V_b0.ext E25
          replace V_b1 := V_b1.ext E25
          replace V_b2 := V_b2.ext E25
          replace E_b7 := Exa.ext E25 E_b7
          replace V_b7 := V_b7.ext E25
          replace E_b16 := Exa.ext E25 E_b16
          replace V_b16 := V_b16.ext E25
          replace V_ar := V_ar.ext E25
          replace Zs := Nat.le_trans Zs E25.1
          replace Kp := Kp.ext E25
          have E_b25 := Q25
          have V_b25 : Arv Z h25 b25 k25 .char p2 [] (.int (0 : Int32)) := Arv.new A25 hs.1
          refine own_go (x' := T25.setTop (mkF m 35 #[.val (.ref ao0), .val (.int p1), .val (.int p2), .val (.int (2 : Int32))] [(.ref b25), (.int (2 : Int32)), (.ref ar)])) st25 ?_
          obtain ⟨cl26, Ar26, q26, Sz26, Nn26, Hh26, Gg26⟩ := V_ar
          have hin26 : ¬ ((2 : Int32) < 0 ∨ cl26.slots.size ≤ ((2 : Int32)).toNatClampNeg) := inb_of Sz26 ⟨by decide, by decide⟩
          obtain ⟨T26, h26, X26, e26, W26, st26⟩ := stR X25 hx hZ e25 Ar26 (j := (2 : Int32)) hin26 rfl (Sto.ofVA Ar26 q26 O_ar (Ins.self E_b25)) (g := (mkF m 35 #[.val (.ref ao0), .val (.int p1), .val (.int p2), .val (.int (2 : Int32))] [(.ref b25), (.int (2 : Int32)), (.ref ar)])) rfl rfl (hb hby d3_35)
          refine own_go (x' := T26.setTop (mkF m 36 #[.val (.ref ao0), .val (.int p1), .val (.int p2), .val (.int (2 : Int32))] [])) st26 ?_
          replace F_ao0_chars := Fld.other W26 F_ao0_chars (Or.inl ne_ao0_ar)
          replace V_b0 := V_b0.other W26 ne_b0_ar
          replace V_b1 := V_b1.other W26 ne_b1_ar
          replace V_b2 := V_b2.other W26 ne_b2_ar
          replace E_b7 := Exa.wr W26 E_b7
          replace V_b7 := V_b7.other W26 (Ne.symm ne_ar_b7)
          replace E_b16 := Exa.wr W26 E_b16
          replace V_b16 := V_b16.other W26 (Ne.symm ne_ar_b16)
          replace E_b25 := Exa.wr W26 E_b25
          replace V_b25 := V_b25.other W26 (Ne.symm ne_ar_b25)
          replace Zs := Nat.le_trans Zs (Keep.of_wr W26).1
          replace Nf := Fr.snoc X26 Nf g_ar
          replace Kp := Kp.wr W26 (Or.inl (by simp))
          have V_ar : Arv Z h26 ar kc (.array .char) (4 : Int32) [(.ref b7), (.ref b16), (.ref b25), .null] .null := Arv.set Ar26 q26 Sz26 Nn26 Hh26 Gg26 rfl W26 2 rfl (Nat.le_of_ble_eq_true rfl)
          refine own_go (x' := T26.setTop (mkF m 2 #[.val (.ref ao0), .val (.int p1), .val (.int p2), .val (.int ((2 : Int32) + (1 : Int32)))] [])) (fun _ k => XS.iinc X26.here hx rfl (hb hby d3_36) rfl (l' := #[.val (.ref ao0), .val (.int p1), .val (.int p2), .val (.int ((2 : Int32) + (1 : Int32)))]) rfl (XS.goto X26.here hx rfl (pc0 := 39) (pc' := 2) rfl (hb hby d3_39) (by decide) (by decide) k)) ?_
          rw [show ((2 : Int32) + (1 : Int32)) = (3 : Int32) from by decide +kernel]
          refine own_go (x' := T26.setTop (mkF m 4 #[.val (.ref ao0), .val (.int p1), .val (.int p2), .val (.int (3 : Int32))] [(.int p1), (.int (3 : Int32))])) (fun _ k => XS.iloadN X26.here hx rfl (hb hby d3_2) rfl (XS.iloadN X26.here hx rfl (hb hby d3_3) rfl k)) ?_
          by_cases hc4_27 : (3 : Int32) < p1
          · refine own_go (x' := T26.setTop (mkF m 8 #[.val (.ref ao0), .val (.int p1), .val (.int p2), .val (.int (3 : Int32))] [(.ref ao0)])) (fun _ k => XS.icmpNo X26.here hx rfl (hb hby d3_4) rfl (tlt hc4_27).2.1 (XS.aloadN X26.here hx rfl (hb hby d3_7) rfl rfl k)) ?_
            obtain ⟨T28, X28, e28, st28⟩ := getF X26 hx hZ hown (host := "") (Or.inl (own_w hw 17 rfl)) Via.refl e26 F_ao0_chars (g := (mkF m 8 #[.val (.ref ao0), .val (.int p1), .val (.int p2), .val (.int (3 : Int32))] [(.ref ao0)])) rfl rfl (hb hby d3_8)
            refine own_go (x' := T28.setTop (mkF m 11 #[.val (.ref ao0), .val (.int p1), .val (.int p2), .val (.int (3 : Int32))] [(.ref ar)])) st28 ?_
            refine own_go (x' := T28.setTop (mkF m 12 #[.val (.ref ao0), .val (.int p1), .val (.int p2), .val (.int (3 : Int32))] [(.int (3 : Int32)), (.ref ar)])) (fun _ k => XS.iloadN X28.here hx rfl (hb hby d3_11) rfl k) ?_
            obtain ⟨cl29, Ar29, q29, Sz29, Nn29, Hh29, Gg29⟩ := id V_ar
            have hin29 : ¬ ((3 : Int32) < 0 ∨ cl29.slots.size ≤ ((3 : Int32)).toNatClampNeg) := inb_of Sz29 ⟨by decide, by decide⟩
            refine own_go (x' := T28.setTop (mkF m 13 #[.val (.ref ao0), .val (.int p1), .val (.int p2), .val (.int (3 : Int32))] [.null])) (X28.aaload hx (j := (3 : Int32)) (v := .null) (Eq.trans (congrArg (fun h_ => h_[_]?) e28) Ar29.1) (State.isArrayOf_alike hZ.alike Ar29.2.1) rfl Ar29.2.2 hin29 (Hh29.at hin29 rfl) (g := (mkF m 12 #[.val (.ref ao0), .val (.int p1), .val (.int p2), .val (.int (3 : Int32))] [(.int (3 : Int32)), (.ref ar)])) rfl rfl (hb hby d3_12)) ?_
            refine own_go (x' := T28.setTop (mkF m 28 #[.val (.ref ao0), .val (.int p1), .val (.int p2), .val (.int (3 : Int32))] [(.ref ao0)])) (fun _ k => XS.ifnullYes X28.here hx rfl (pc0 := 13) (pc' := 27) rfl (hb hby d3_13) rfl (by decide) (by decide) (XS.aloadN X28.here hx rfl (hb hby d3_27) rfl rfl k)) ?_
            obtain ⟨T30, X30, e30, st30⟩ := getF X28 hx hZ hown (host := "") (Or.inl (own_w hw 17 rfl)) Via.refl e28 F_ao0_chars (g := (mkF m 28 #[.val (.ref ao0), .val (.int p1), .val (.int p2), .val (.int (3 : Int32))] [(.ref ao0)])) rfl rfl (hb hby d3_28)
            refine own_go (x' := T30.setTop (mkF m 31 #[.val (.ref ao0), .val (.int p1), .val (.int p2), .val (.int (3 : Int32))] [(.ref ar)])) st30 ?_
            refine own_go (x' := T30.setTop (mkF m 33 #[.val (.ref ao0), .val (.int p1), .val (.int p2), .val (.int (3 : Int32))] [(.int p2), (.int (3 : Int32)), (.ref ar)])) (fun _ k => XS.iloadN X30.here hx rfl (hb hby d3_31) rfl (XS.iloadN X30.here hx rfl (hb hby d3_32) rfl k)) ?_
            obtain ⟨T31, h31, k31, X31, e31, E31, A31, Q31, st31⟩ := newPE X30 hx hZ (own_w hw 34 rfl) e30 (g := (mkF m 33 #[.val (.ref ao0), .val (.int p1), .val (.int p2), .val (.int (3 : Int32))] [(.int p2), (.int (3 : Int32)), (.ref ar)])) rfl (hb hby d3_33) rfl hs.1 (cap := 31) hs.2 (by decide) (by decide) (by decide) (ad := "[C") (by decide)
            obtain ⟨b31, g31⟩ : ∃ z, z = h26.size := ⟨_, rfl⟩
            rw [← g31] at A31 st31
            rw [← g31] at Q31
            have ne_ao0_b31 : ao0 ≠ b31 := Nat.ne_of_lt (Nat.lt_of_lt_of_le F_ao0_chars.lt (Nat.le_of_eq g31.symm))
            have ne_b0_b31 : b0 ≠ b31 := Nat.ne_of_lt (Nat.lt_of_lt_of_le V_b0.lt (Nat.le_of_eq g31.symm))
            have ne_b1_b31 : b1 ≠ b31 := Nat.ne_of_lt (Nat.lt_of_lt_of_le V_b1.lt (Nat.le_of_eq g31.symm))
            have ne_b2_b31 : b2 ≠ b31 := Nat.ne_of_lt (Nat.lt_of_lt_of_le V_b2.lt (Nat.le_of_eq g31.symm))
            have ne_b7_b31 : b7 ≠ b31 := Nat.ne_of_lt (Nat.lt_of_lt_of_le E_b7.lt (Nat.le_of_eq g31.symm))
            have ne_b16_b31 : b16 ≠ b31 := Nat.ne_of_lt (Nat.lt_of_lt_of_le E_b16.lt (Nat.le_of_eq g31.symm))
            have ne_b25_b31 : b25 ≠ b31 := Nat.ne_of_lt (Nat.lt_of_lt_of_le E_b25.lt (Nat.le_of_eq g31.symm))
            have ne_ar_b31 : ar ≠ b31 := Nat.ne_of_lt (Nat.lt_of_lt_of_le V_ar.lt (Nat.le_of_eq g31.symm))
            have g_b31 : n0 ≤ b31 := Nat.le_trans Zs (Nat.le_of_eq g31.symm)
            have sz_b31 : h0.size ≤ b31 := Nat.le_trans Kp.1 (Nat.le_of_eq g31.symm)
            replace F_ao0_chars := Fld.ext E31 F_ao0_chars
            replace V_b0 := V_b0.ext E31
            replace V_b1 := V_b1.ext E31
            replace V_b2 := V_b2.ext E31
            replace E_b7 := Exa.ext E31 E_b7
            replace V_b7 := V_b7.ext E31
            replace E_b16 := Exa.ext E31 E_b16
            replace V_b16 := V_b16.ext E31
            replace E_b25 := Exa.ext E31 E_b25
            replace V_b25 := V_b25.ext E31
            replace V_ar := V_ar.ext E31
            replace Zs := Nat.le_trans Zs E31.1
            replace Kp := Kp.ext E31
            have E_b31 := Q31
            have V_b31 : Arv Z h31 b31 k31 .char p2 [] (.int (0 : Int32)) := Arv.new A31 hs.1
            refine own_go (x' := T31.setTop (mkF m 35 #[.val (.ref ao0), .val (.int p1), .val (.int p2), .val (.int (3 : Int32))] [(.ref b31), (.int (3 : Int32)), (.ref ar)])) st31 ?_
            obtain ⟨cl32, Ar32, q32, Sz32, Nn32, Hh32, Gg32⟩ := V_ar
            have hin32 : ¬ ((3 : Int32) < 0 ∨ cl32.slots.size ≤ ((3 : Int32)).toNatClampNeg) := inb_of Sz32 ⟨by decide, by decide⟩
            obtain ⟨T32, h32, X32, e32, W32, st32⟩ := stR X31 hx hZ e31 Ar32 (j := (3 : Int32)) hin32 rfl (Sto.ofVA Ar32 q32 O_ar (Ins.self E_b31)) (g := (mkF m 35 #[.val (.ref ao0), .val (.int p1), .val (.int p2), .val (.int (3 : Int32))] [(.ref b31), (.int (3 : Int32)), (.ref ar)])) rfl rfl (hb hby d3_35)
            refine own_go (x' := T32.setTop (mkF m 36 #[.val (.ref ao0), .val (.int p1), .val (.int p2), .val (.int (3 : Int32))] [])) st32 ?_
            replace F_ao0_chars := Fld.other W32 F_ao0_chars (Or.inl ne_ao0_ar)
            replace V_b0 := V_b0.other W32 ne_b0_ar
            replace V_b1 := V_b1.other W32 ne_b1_ar
            replace V_b2 := V_b2.other W32 ne_b2_ar
            replace E_b7 := Exa.wr W32 E_b7
            replace V_b7 := V_b7.other W32 (Ne.symm ne_ar_b7)
            replace E_b16 := Exa.wr W32 E_b16
            replace V_b16 := V_b16.other W32 (Ne.symm ne_ar_b16)
            replace E_b25 := Exa.wr W32 E_b25
            replace V_b25 := V_b25.other W32 (Ne.symm ne_ar_b25)
            replace E_b31 := Exa.wr W32 E_b31
            replace V_b31 := V_b31.other W32 (Ne.symm ne_ar_b31)
            replace Zs := Nat.le_trans Zs (Keep.of_wr W32).1
            replace Nf := Fr.snoc X32 Nf g_ar
            replace Kp := Kp.wr W32 (Or.inl (by simp))
            have V_ar : Arv Z h32 ar kc (.array .char) (4 : Int32) [(.ref b7), (.ref b16), (.ref b25), (.ref b31)] .null := Arv.set Ar32 q32 Sz32 Nn32 Hh32 Gg32 rfl W32 3 rfl (Nat.le_of_ble_eq_true rfl)
            refine own_go (x' := T32.setTop (mkF m 2 #[.val (.ref ao0), .val (.int p1), .val (.int p2), .val (.int ((3 : Int32) + (1 : Int32)))] [])) (fun _ k => XS.iinc X32.here hx rfl (hb hby d3_36) rfl (l' := #[.val (.ref ao0), .val (.int p1), .val (.int p2), .val (.int ((3 : Int32) + (1 : Int32)))]) rfl (XS.goto X32.here hx rfl (pc0 := 39) (pc' := 2) rfl (hb hby d3_39) (by decide) (by decide) k)) ?_
            rw [show ((3 : Int32) + (1 : Int32)) = (4 : Int32) from by decide +kernel]
            refine own_go (x' := T32.setTop (mkF m 43 #[.val (.ref ao0), .val (.int p1), .val (.int p2), .val (.int (4 : Int32))] [(.ref ao0)])) (fun _ k => XS.iloadN X32.here hx rfl (hb hby d3_2) rfl (XS.iloadN X32.here hx rfl (hb hby d3_3) rfl (XS.icmpYes X32.here hx rfl (pc0 := 4) (pc' := 42) rfl (hb hby d3_4) rfl (flt hu).2.1 (by decide) (by decide) (XS.aloadN X32.here hx rfl (hb hby d3_42) rfl rfl k)))) ?_
            obtain ⟨T33, X33, e33, st33⟩ := getF X32 hx hZ hown (host := "") (Or.inl (own_w hw 17 rfl)) Via.refl e32 F_ao0_chars (g := (mkF m 43 #[.val (.ref ao0), .val (.int p1), .val (.int p2), .val (.int (4 : Int32))] [(.ref ao0)])) rfl rfl (hb hby d3_43)
            refine own_go (x' := T33.setTop (mkF m 46 #[.val (.ref ao0), .val (.int p1), .val (.int p2), .val (.int (4 : Int32))] [(.ref ar)])) st33 ?_
            refine own_retR X33 hx hlk hret rfl rfl (hb hby d3_46) ?_ (by decide) (by decide)
            rw [e33]
            exact ⟨(.ref b7), (.ref b16), (.ref b25), (.ref b31), rfl, Nf, Kp, V_ar, Or.inr ⟨b7, k7, rfl, sz_b7, V_b7, hc4, hc24⟩, Or.inr ⟨b16, k16, rfl, sz_b16, V_b16, hc4_9, hc24⟩, Or.inr ⟨b25, k25, rfl, sz_b25, V_b25, hc4_18, hc24⟩, Or.inr ⟨b31, k31, rfl, V_b31, hc4_27⟩⟩
          · refine own_go (x' := T26.setTop (mkF m 43 #[.val (.ref ao0), .val (.int p1), .val (.int p2), .val (.int (3 : Int32))] [(.ref ao0)])) (fun _ k => XS.icmpYes X26.here hx rfl (pc0 := 4) (pc' := 42) rfl (hb hby d3_4) rfl (flt hc4_27).2.1 (by decide) (by decide) (XS.aloadN X26.here hx rfl (hb hby d3_42) rfl rfl k)) ?_
            obtain ⟨T34, X34, e34, st34⟩ := getF X26 hx hZ hown (host := "") (Or.inl (own_w hw 17 rfl)) Via.refl e26 F_ao0_chars (g := (mkF m 43 #[.val (.ref ao0), .val (.int p1), .val (.int p2), .val (.int (3 : Int32))] [(.ref ao0)])) rfl rfl (hb hby d3_43)
            refine own_go (x' := T34.setTop (mkF m 46 #[.val (.ref ao0), .val (.int p1), .val (.int p2), .val (.int (3 : Int32))] [(.ref ar)])) st34 ?_
            refine own_retR X34 hx hlk hret rfl rfl (hb hby d3_46) ?_ (by decide) (by decide)
            rw [e34]
            exact ⟨(.ref b7), (.ref b16), (.ref b25), .null, rfl, Nf, Kp, V_ar, Or.inr ⟨b7, k7, rfl, sz_b7, V_b7, hc4, hc24⟩, Or.inr ⟨b16, k16, rfl, sz_b16, V_b16, hc4_9, hc24⟩, Or.inr ⟨b25, k25, rfl, sz_b25, V_b25, hc4_18, hc24⟩, Or.inl ⟨rfl, hc4_27⟩⟩
        · refine own_go (x' := T17.setTop (mkF m 43 #[.val (.ref ao0), .val (.int p1), .val (.int p2), .val (.int (2 : Int32))] [(.ref ao0)])) (fun _ k => XS.icmpYes X17.here hx rfl (pc0 := 4) (pc' := 42) rfl (hb hby d3_4) rfl (flt hc4_18).2.1 (by decide) (by decide) (XS.aloadN X17.here hx rfl (hb hby d3_42) rfl rfl k)) ?_
          obtain ⟨T35, X35, e35, st35⟩ := getF X17 hx hZ hown (host := "") (Or.inl (own_w hw 17 rfl)) Via.refl e17 F_ao0_chars (g := (mkF m 43 #[.val (.ref ao0), .val (.int p1), .val (.int p2), .val (.int (2 : Int32))] [(.ref ao0)])) rfl rfl (hb hby d3_43)
          refine own_go (x' := T35.setTop (mkF m 46 #[.val (.ref ao0), .val (.int p1), .val (.int p2), .val (.int (2 : Int32))] [(.ref ar)])) st35 ?_
          refine own_retR X35 hx hlk hret rfl rfl (hb hby d3_46) ?_ (by decide) (by decide)
          rw [e35]
          exact ⟨(.ref b7), (.ref b16), (.ref b2), .null, rfl, Nf, Kp, V_ar, Or.inr ⟨b7, k7, rfl, sz_b7, V_b7, hc4, hc24⟩, Or.inr ⟨b16, k16, rfl, sz_b16, V_b16, hc4_9, hc24⟩, Or.inl ⟨rfl, Or.inl hc4_18⟩, Or.inl ⟨rfl, (own_le hc4_18 (by decide))⟩⟩
      · refine own_go (x' := T8.setTop (mkF m 43 #[.val (.ref ao0), .val (.int p1), .val (.int p2), .val (.int (1 : Int32))] [(.ref ao0)])) (fun _ k => XS.icmpYes X8.here hx rfl (pc0 := 4) (pc' := 42) rfl (hb hby d3_4) rfl (flt hc4_9).2.1 (by decide) (by decide) (XS.aloadN X8.here hx rfl (hb hby d3_42) rfl rfl k)) ?_
        obtain ⟨T36, X36, e36, st36⟩ := getF X8 hx hZ hown (host := "") (Or.inl (own_w hw 17 rfl)) Via.refl e8 F_ao0_chars (g := (mkF m 43 #[.val (.ref ao0), .val (.int p1), .val (.int p2), .val (.int (1 : Int32))] [(.ref ao0)])) rfl rfl (hb hby d3_43)
        refine own_go (x' := T36.setTop (mkF m 46 #[.val (.ref ao0), .val (.int p1), .val (.int p2), .val (.int (1 : Int32))] [(.ref ar)])) st36 ?_
        refine own_retR X36 hx hlk hret rfl rfl (hb hby d3_46) ?_ (by decide) (by decide)
        rw [e36]
        exact ⟨(.ref b7), (.ref b1), (.ref b2), .null, rfl, Nf, Kp, V_ar, Or.inr ⟨b7, k7, rfl, sz_b7, V_b7, hc4, hc24⟩, Or.inl ⟨rfl, Or.inl hc4_9⟩, Or.inl ⟨rfl, Or.inl (own_le hc4_9 (by decide))⟩, Or.inl ⟨rfl, (own_le hc4_9 (by decide))⟩⟩
    · refine own_go (x' := T3.setTop (mkF m 2 #[.val (.ref ao0), .val (.int p1), .val (.int p2), .val (.int ((0 : Int32) + (1 : Int32)))] [])) (fun _ k => XS.icmpYes X3.here hx rfl (pc0 := 24) (pc' := 36) rfl (hb hby d3_24) rfl (flt hc24).2.1 (by decide) (by decide) (XS.iinc X3.here hx rfl (hb hby d3_36) rfl (l' := #[.val (.ref ao0), .val (.int p1), .val (.int p2), .val (.int ((0 : Int32) + (1 : Int32)))]) rfl (XS.goto X3.here hx rfl (pc0 := 39) (pc' := 2) rfl (hb hby d3_39) (by decide) (by decide) k))) ?_
      rw [show ((0 : Int32) + (1 : Int32)) = (1 : Int32) from by decide +kernel]
      refine own_go (x' := T3.setTop (mkF m 4 #[.val (.ref ao0), .val (.int p1), .val (.int p2), .val (.int (1 : Int32))] [(.int p1), (.int (1 : Int32))])) (fun _ k => XS.iloadN X3.here hx rfl (hb hby d3_2) rfl (XS.iloadN X3.here hx rfl (hb hby d3_3) rfl k)) ?_
      by_cases hc4_37 : (1 : Int32) < p1
      · refine own_go (x' := T3.setTop (mkF m 8 #[.val (.ref ao0), .val (.int p1), .val (.int p2), .val (.int (1 : Int32))] [(.ref ao0)])) (fun _ k => XS.icmpNo X3.here hx rfl (hb hby d3_4) rfl (tlt hc4_37).2.1 (XS.aloadN X3.here hx rfl (hb hby d3_7) rfl rfl k)) ?_
        obtain ⟨T38, X38, e38, st38⟩ := getF X3 hx hZ hown (host := "") (Or.inl (own_w hw 17 rfl)) Via.refl e3 F_ao0_chars (g := (mkF m 8 #[.val (.ref ao0), .val (.int p1), .val (.int p2), .val (.int (1 : Int32))] [(.ref ao0)])) rfl rfl (hb hby d3_8)
        refine own_go (x' := T38.setTop (mkF m 11 #[.val (.ref ao0), .val (.int p1), .val (.int p2), .val (.int (1 : Int32))] [(.ref ar)])) st38 ?_
        refine own_go (x' := T38.setTop (mkF m 12 #[.val (.ref ao0), .val (.int p1), .val (.int p2), .val (.int (1 : Int32))] [(.int (1 : Int32)), (.ref ar)])) (fun _ k => XS.iloadN X38.here hx rfl (hb hby d3_11) rfl k) ?_
        obtain ⟨cl39, Ar39, q39, Sz39, Nn39, Hh39, Gg39⟩ := id V_ar
        have hin39 : ¬ ((1 : Int32) < 0 ∨ cl39.slots.size ≤ ((1 : Int32)).toNatClampNeg) := inb_of Sz39 ⟨by decide, by decide⟩
        refine own_go (x' := T38.setTop (mkF m 13 #[.val (.ref ao0), .val (.int p1), .val (.int p2), .val (.int (1 : Int32))] [(.ref b1)])) (X38.aaload hx (j := (1 : Int32)) (v := (.ref b1)) (Eq.trans (congrArg (fun h_ => h_[_]?) e38) Ar39.1) (State.isArrayOf_alike hZ.alike Ar39.2.1) rfl Ar39.2.2 hin39 (Hh39.at hin39 rfl) (g := (mkF m 12 #[.val (.ref ao0), .val (.int p1), .val (.int p2), .val (.int (1 : Int32))] [(.int (1 : Int32)), (.ref ar)])) rfl rfl (hb hby d3_12)) ?_
        refine own_go (x' := T38.setTop (mkF m 17 #[.val (.ref ao0), .val (.int p1), .val (.int p2), .val (.int (1 : Int32))] [(.ref ao0)])) (fun _ k => XS.ifnullNo X38.here hx rfl (hb hby d3_13) rfl (XS.aloadN X38.here hx rfl (hb hby d3_16) rfl rfl k)) ?_
        obtain ⟨T40, X40, e40, st40⟩ := getF X38 hx hZ hown (host := "") (Or.inl (own_w hw 17 rfl)) Via.refl e38 F_ao0_chars (g := (mkF m 17 #[.val (.ref ao0), .val (.int p1), .val (.int p2), .val (.int (1 : Int32))] [(.ref ao0)])) rfl rfl (hb hby d3_17)
        refine own_go (x' := T40.setTop (mkF m 20 #[.val (.ref ao0), .val (.int p1), .val (.int p2), .val (.int (1 : Int32))] [(.ref ar)])) st40 ?_
        refine own_go (x' := T40.setTop (mkF m 21 #[.val (.ref ao0), .val (.int p1), .val (.int p2), .val (.int (1 : Int32))] [(.int (1 : Int32)), (.ref ar)])) (fun _ k => XS.iloadN X40.here hx rfl (hb hby d3_20) rfl k) ?_
        obtain ⟨cl41, Ar41, q41, Sz41, Nn41, Hh41, Gg41⟩ := id V_ar
        have hin41 : ¬ ((1 : Int32) < 0 ∨ cl41.slots.size ≤ ((1 : Int32)).toNatClampNeg) := inb_of Sz41 ⟨by decide, by decide⟩
        refine own_go (x' := T40.setTop (mkF m 22 #[.val (.ref ao0), .val (.int p1), .val (.int p2), .val (.int (1 : Int32))] [(.ref b1)])) (X40.aaload hx (j := (1 : Int32)) (v := (.ref b1)) (Eq.trans (congrArg (fun h_ => h_[_]?) e40) Ar41.1) (State.isArrayOf_alike hZ.alike Ar41.2.1) rfl Ar41.2.2 hin41 (Hh41.at hin41 rfl) (g := (mkF m 21 #[.val (.ref ao0), .val (.int p1), .val (.int p2), .val (.int (1 : Int32))] [(.int (1 : Int32)), (.ref ar)])) rfl rfl (hb hby d3_21)) ?_
        obtain ⟨cl42, Ar42, -, Sz42, Nn42, -, -⟩ := id V_b1
        refine own_go (x' := T40.setTop (mkF m 23 #[.val (.ref ao0), .val (.int p1), .val (.int p2), .val (.int (1 : Int32))] [(.int n1)])) (fun t k => X40.arraylength hx (Eq.trans (congrArg (fun h_ => h_[_]?) e40) Ar42.1) (State.isArrayOf_alike hZ.alike Ar42.2.1) (g := (mkF m 22 #[.val (.ref ao0), .val (.int p1), .val (.int p2), .val (.int (1 : Int32))] [(.ref b1)])) rfl rfl (hb hby d3_22) t (by rw [len_of Sz42 Nn42]; exact k)) ?_
        refine own_go (x' := T40.setTop (mkF m 2 #[.val (.ref ao0), .val (.int p1), .val (.int p2), .val (.int ((1 : Int32) + (1 : Int32)))] [])) (fun _ k => XS.iloadN X40.here hx rfl (hb hby d3_23) rfl (XS.icmpYes X40.here hx rfl (pc0 := 24) (pc' := 36) rfl (hb hby d3_24) rfl (flt hc24).2.1 (by decide) (by decide) (XS.iinc X40.here hx rfl (hb hby d3_36) rfl (l' := #[.val (.ref ao0), .val (.int p1), .val (.int p2), .val (.int ((1 : Int32) + (1 : Int32)))]) rfl (XS.goto X40.here hx rfl (pc0 := 39) (pc' := 2) rfl (hb hby d3_39) (by decide) (by decide) k)))) ?_
        rw [show ((1 : Int32) + (1 : Int32)) = (2 : Int32) from by decide +kernel]
        refine own_go (x' := T40.setTop (mkF m 4 #[.val (.ref ao0), .val (.int p1), .val (.int p2), .val (.int (2 : Int32))] [(.int p1), (.int (2 : Int32))])) (fun _ k => XS.iloadN X40.here hx rfl (hb hby d3_2) rfl (XS.iloadN X40.here hx rfl (hb hby d3_3) rfl k)) ?_
        by_cases hc4_43 : (2 : Int32) < p1
        · refine own_go (x' := T40.setTop (mkF m 8 #[.val (.ref ao0), .val (.int p1), .val (.int p2), .val (.int (2 : Int32))] [(.ref ao0)])) (fun _ k => XS.icmpNo X40.here hx rfl (hb hby d3_4) rfl (tlt hc4_43).2.1 (XS.aloadN X40.here hx rfl (hb hby d3_7) rfl rfl k)) ?_
          obtain ⟨T44, X44, e44, st44⟩ := getF X40 hx hZ hown (host := "") (Or.inl (own_w hw 17 rfl)) Via.refl e40 F_ao0_chars (g := (mkF m 8 #[.val (.ref ao0), .val (.int p1), .val (.int p2), .val (.int (2 : Int32))] [(.ref ao0)])) rfl rfl (hb hby d3_8)
          refine own_go (x' := T44.setTop (mkF m 11 #[.val (.ref ao0), .val (.int p1), .val (.int p2), .val (.int (2 : Int32))] [(.ref ar)])) st44 ?_
          refine own_go (x' := T44.setTop (mkF m 12 #[.val (.ref ao0), .val (.int p1), .val (.int p2), .val (.int (2 : Int32))] [(.int (2 : Int32)), (.ref ar)])) (fun _ k => XS.iloadN X44.here hx rfl (hb hby d3_11) rfl k) ?_
          obtain ⟨cl45, Ar45, q45, Sz45, Nn45, Hh45, Gg45⟩ := id V_ar
          have hin45 : ¬ ((2 : Int32) < 0 ∨ cl45.slots.size ≤ ((2 : Int32)).toNatClampNeg) := inb_of Sz45 ⟨by decide, by decide⟩
          refine own_go (x' := T44.setTop (mkF m 13 #[.val (.ref ao0), .val (.int p1), .val (.int p2), .val (.int (2 : Int32))] [(.ref b2)])) (X44.aaload hx (j := (2 : Int32)) (v := (.ref b2)) (Eq.trans (congrArg (fun h_ => h_[_]?) e44) Ar45.1) (State.isArrayOf_alike hZ.alike Ar45.2.1) rfl Ar45.2.2 hin45 (Hh45.at hin45 rfl) (g := (mkF m 12 #[.val (.ref ao0), .val (.int p1), .val (.int p2), .val (.int (2 : Int32))] [(.int (2 : Int32)), (.ref ar)])) rfl rfl (hb hby d3_12)) ?_
          refine own_go (x' := T44.setTop (mkF m 17 #[.val (.ref ao0), .val (.int p1), .val (.int p2), .val (.int (2 : Int32))] [(.ref ao0)])) (fun _ k => XS.ifnullNo X44.here hx rfl (hb hby d3_13) rfl (XS.aloadN X44.here hx rfl (hb hby d3_16) rfl rfl k)) ?_
          obtain ⟨T46, X46, e46, st46⟩ := getF X44 hx hZ hown (host := "") (Or.inl (own_w hw 17 rfl)) Via.refl e44 F_ao0_chars (g := (mkF m 17 #[.val (.ref ao0), .val (.int p1), .val (.int p2), .val (.int (2 : Int32))] [(.ref ao0)])) rfl rfl (hb hby d3_17)
          refine own_go (x' := T46.setTop (mkF m 20 #[.val (.ref ao0), .val (.int p1), .val (.int p2), .val (.int (2 : Int32))] [(.ref ar)])) st46 ?_
          refine own_go (x' := T46.setTop (mkF m 21 #[.val (.ref ao0), .val (.int p1), .val (.int p2), .val (.int (2 : Int32))] [(.int (2 : Int32)), (.ref ar)])) (fun _ k => XS.iloadN X46.here hx rfl (hb hby d3_20) rfl k) ?_
          obtain ⟨cl47, Ar47, q47, Sz47, Nn47, Hh47, Gg47⟩ := id V_ar
          have hin47 : ¬ ((2 : Int32) < 0 ∨ cl47.slots.size ≤ ((2 : Int32)).toNatClampNeg) := inb_of Sz47 ⟨by decide, by decide⟩
          refine own_go (x' := T46.setTop (mkF m 22 #[.val (.ref ao0), .val (.int p1), .val (.int p2), .val (.int (2 : Int32))] [(.ref b2)])) (X46.aaload hx (j := (2 : Int32)) (v := (.ref b2)) (Eq.trans (congrArg (fun h_ => h_[_]?) e46) Ar47.1) (State.isArrayOf_alike hZ.alike Ar47.2.1) rfl Ar47.2.2 hin47 (Hh47.at hin47 rfl) (g := (mkF m 21 #[.val (.ref ao0), .val (.int p1), .val (.int p2), .val (.int (2 : Int32))] [(.int (2 : Int32)), (.ref ar)])) rfl rfl (hb hby d3_21)) ?_
          obtain ⟨cl48, Ar48, -, Sz48, Nn48, -, -⟩ := id V_b2
          refine own_go (x' := T46.setTop (mkF m 23 #[.val (.ref ao0), .val (.int p1), .val (.int p2), .val (.int (2 : Int32))] [(.int n1)])) (fun t k => X46.arraylength hx (Eq.trans (congrArg (fun h_ => h_[_]?) e46) Ar48.1) (State.isArrayOf_alike hZ.alike Ar48.2.1) (g := (mkF m 22 #[.val (.ref ao0), .val (.int p1), .val (.int p2), .val (.int (2 : Int32))] [(.ref b2)])) rfl rfl (hb hby d3_22) t (by rw [len_of Sz48 Nn48]; exact k)) ?_
          refine own_go (x' := T46.setTop (mkF m 2 #[.val (.ref ao0), .val (.int p1), .val (.int p2), .val (.int ((2 : Int32) + (1 : Int32)))] [])) (fun _ k => XS.iloadN X46.here hx rfl (hb hby d3_23) rfl (XS.icmpYes X46.here hx rfl (pc0 := 24) (pc' := 36) rfl (hb hby d3_24) rfl (flt hc24).2.1 (by decide) (by decide) (XS.iinc X46.here hx rfl (hb hby d3_36) rfl (l' := #[.val (.ref ao0), .val (.int p1), .val (.int p2), .val (.int ((2 : Int32) + (1 : Int32)))]) rfl (XS.goto X46.here hx rfl (pc0 := 39) (pc' := 2) rfl (hb hby d3_39) (by decide) (by decide) k)))) ?_
          rw [show ((2 : Int32) + (1 : Int32)) = (3 : Int32) from by decide +kernel]
          refine own_go (x' := T46.setTop (mkF m 4 #[.val (.ref ao0), .val (.int p1), .val (.int p2), .val (.int (3 : Int32))] [(.int p1), (.int (3 : Int32))])) (fun _ k => XS.iloadN X46.here hx rfl (hb hby d3_2) rfl (XS.iloadN X46.here hx rfl (hb hby d3_3) rfl k)) ?_
          by_cases hc4_49 : (3 : Int32) < p1
          · refine own_go (x' := T46.setTop (mkF m 8 #[.val (.ref ao0), .val (.int p1), .val (.int p2), .val (.int (3 : Int32))] [(.ref ao0)])) (fun _ k => XS.icmpNo X46.here hx rfl (hb hby d3_4) rfl (tlt hc4_49).2.1 (XS.aloadN X46.here hx rfl (hb hby d3_7) rfl rfl k)) ?_
            obtain ⟨T50, X50, e50, st50⟩ := getF X46 hx hZ hown (host := "") (Or.inl (own_w hw 17 rfl)) Via.refl e46 F_ao0_chars (g := (mkF m 8 #[.val (.ref ao0), .val (.int p1), .val (.int p2), .val (.int (3 : Int32))] [(.ref ao0)])) rfl rfl (hb hby d3_8)
            refine own_go (x' := T50.setTop (mkF m 11 #[.val (.ref ao0), .val (.int p1), .val (.int p2), .val (.int (3 : Int32))] [(.ref ar)])) st50 ?_
            refine own_go (x' := T50.setTop (mkF m 12 #[.val (.ref ao0), .val (.int p1), .val (.int p2), .val (.int (3 : Int32))] [(.int (3 : Int32)), (.ref ar)])) (fun _ k => XS.iloadN X50.here hx rfl (hb hby d3_11) rfl k) ?_
            obtain ⟨cl51, Ar51, q51, Sz51, Nn51, Hh51, Gg51⟩ := id V_ar
            have hin51 : ¬ ((3 : Int32) < 0 ∨ cl51.slots.size ≤ ((3 : Int32)).toNatClampNeg) := inb_of Sz51 ⟨by decide, by decide⟩
            refine own_go (x' := T50.setTop (mkF m 13 #[.val (.ref ao0), .val (.int p1), .val (.int p2), .val (.int (3 : Int32))] [.null])) (X50.aaload hx (j := (3 : Int32)) (v := .null) (Eq.trans (congrArg (fun h_ => h_[_]?) e50) Ar51.1) (State.isArrayOf_alike hZ.alike Ar51.2.1) rfl Ar51.2.2 hin51 (Hh51.at hin51 rfl) (g := (mkF m 12 #[.val (.ref ao0), .val (.int p1), .val (.int p2), .val (.int (3 : Int32))] [(.int (3 : Int32)), (.ref ar)])) rfl rfl (hb hby d3_12)) ?_
            refine own_go (x' := T50.setTop (mkF m 28 #[.val (.ref ao0), .val (.int p1), .val (.int p2), .val (.int (3 : Int32))] [(.ref ao0)])) (fun _ k => XS.ifnullYes X50.here hx rfl (pc0 := 13) (pc' := 27) rfl (hb hby d3_13) rfl (by decide) (by decide) (XS.aloadN X50.here hx rfl (hb hby d3_27) rfl rfl k)) ?_
            obtain ⟨T52, X52, e52, st52⟩ := getF X50 hx hZ hown (host := "") (Or.inl (own_w hw 17 rfl)) Via.refl e50 F_ao0_chars (g := (mkF m 28 #[.val (.ref ao0), .val (.int p1), .val (.int p2), .val (.int (3 : Int32))] [(.ref ao0)])) rfl rfl (hb hby d3_28)
            refine own_go (x' := T52.setTop (mkF m 31 #[.val (.ref ao0), .val (.int p1), .val (.int p2), .val (.int (3 : Int32))] [(.ref ar)])) st52 ?_
            refine own_go (x' := T52.setTop (mkF m 33 #[.val (.ref ao0), .val (.int p1), .val (.int p2), .val (.int (3 : Int32))] [(.int p2), (.int (3 : Int32)), (.ref ar)])) (fun _ k => XS.iloadN X52.here hx rfl (hb hby d3_31) rfl (XS.iloadN X52.here hx rfl (hb hby d3_32) rfl k)) ?_
            obtain ⟨T53, h53, k53, X53, e53, E53, A53, Q53, st53⟩ := newPE X52 hx hZ (own_w hw 34 rfl) e52 (g := (mkF m 33 #[.val (.ref ao0), .val (.int p1), .val (.int p2), .val (.int (3 : Int32))] [(.int p2), (.int (3 : Int32)), (.ref ar)])) rfl (hb hby d3_33) rfl hs.1 (cap := 31) hs.2 (by decide) (by decide) (by decide) (ad := "[C") (by decide)
            obtain ⟨b53, g53⟩ : ∃ z, z = h0.size := ⟨_, rfl⟩
            rw [← g53] at A53 st53
            rw [← g53] at Q53
            have ne_ao0_b53 : ao0 ≠ b53 := Nat.ne_of_lt (Nat.lt_of_lt_of_le F_ao0_chars.lt (Nat.le_of_eq g53.symm))
            have ne_ar_b53 : ar ≠ b53 := Nat.ne_of_lt (Nat.lt_of_lt_of_le V_ar.lt (Nat.le_of_eq g53.symm))
            have ne_b0_b53 : b0 ≠ b53 := Nat.ne_of_lt (Nat.lt_of_lt_of_le V_b0.lt (Nat.le_of_eq g53.symm))
            have ne_b1_b53 : b1 ≠ b53 := Nat.ne_of_lt (Nat.lt_of_lt_of_le V_b1.lt (Nat.le_of_eq g53.symm))
            have ne_b2_b53 : b2 ≠ b53 := Nat.ne_of_lt (Nat.lt_of_lt_of_le V_b2.lt (Nat.le_of_eq g53.symm))
            have g_b53 : n0 ≤ b53 := Nat.le_trans Zs (Nat.le_of_eq g53.symm)
            have sz_b53 : h0.size ≤ b53 := Nat.le_trans Kp.1 (Nat.le_of_eq g53.symm)
            replace F_ao0_chars := Fld.ext E53 F_ao0_chars
            replace V_ar := V_ar.ext E53
            replace V_b0 := V_b0.ext E53
            replace V_b1 := V_b1.ext E53
            replace V_b2 := V_b2.ext E53
            replace Zs := Nat.le_trans Zs E53.1
            replace Kp := Kp.ext E53
            have E_b53 := Q53
            have V_b53 : Arv Z h53 b53 k53 .char p2 [] (.int (0 : Int32)) := Arv.new A53 hs.1
            refine own_go (x' := T53.setTop (mkF m 35 #[.val (.ref ao0), .val (.int p1), .val (.int p2), .val (.int (3 : Int32))] [(.ref b53), (.int (3 : Int32)), (.ref ar)])) st53 ?_
            obtain ⟨cl54, Ar54, q54, Sz54, Nn54, Hh54, Gg54⟩ := V_ar
            have hin54 : ¬ ((3 : Int32) < 0 ∨ cl54.slots.size ≤ ((3 : Int32)).toNatClampNeg) := inb_of Sz54 ⟨by decide, by decide⟩
            obtain ⟨T54, h54, X54, e54, W54, st54⟩ := stR X53 hx hZ e53 Ar54 (j := (3 : Int32)) hin54 rfl (Sto.ofVA Ar54 q54 O_ar (Ins.self E_b53)) (g := (mkF m 35 #[.val (.ref ao0), .val (.int p1), .val (.int p2), .val (.int (3 : Int32))] [(.ref b53), (.int (3 : Int32)), (.ref ar)])) rfl rfl (hb hby d3_35)
            refine own_go (x' := T54.setTop (mkF m 36 #[.val (.ref ao0), .val (.int p1), .val (.int p2), .val (.int (3 : Int32))] [])) st54 ?_
            replace F_ao0_chars := Fld.other W54 F_ao0_chars (Or.inl ne_ao0_ar)
            replace V_b0 := V_b0.other W54 ne_b0_ar
            replace V_b1 := V_b1.other W54 ne_b1_ar
            replace V_b2 := V_b2.other W54 ne_b2_ar
            replace E_b53 := Exa.wr W54 E_b53
            replace V_b53 := V_b53.other W54 (Ne.symm ne_ar_b53)
            replace Zs := Nat.le_trans Zs (Keep.of_wr W54).1
            replace Nf := Fr.snoc X54 Nf g_ar
            replace Kp := Kp.wr W54 (Or.inl (by simp))
            have V_ar : Arv Z h54 ar kc (.array .char) (4 : Int32) [(.ref b0), (.ref b1), (.ref b2), (.ref b53)] .null := Arv.set Ar54 q54 Sz54 Nn54 Hh54 Gg54 rfl W54 3 rfl (Nat.le_of_ble_eq_true rfl)
            refine own_go (x' := T54.setTop (mkF m 2 #[.val (.ref ao0), .val (.int p1), .val (.int p2), .val (.int ((3 : Int32) + (1 : Int32)))] [])) (fun _ k => XS.iinc X54.here hx rfl (hb hby d3_36) rfl (l' := #[.val (.ref ao0), .val (.int p1), .val (.int p2), .val (.int ((3 : Int32) + (1 : Int32)))]) rfl (XS.goto X54.here hx rfl (pc0 := 39) (pc' := 2) rfl (hb hby d3_39) (by decide) (by decide) k)) ?_
            rw [show ((3 : Int32) + (1 : Int32)) = (4 : Int32) from by decide +kernel]
            refine own_go (x' := T54.setTop (mkF m 43 #[.val (.ref ao0), .val (.int p1), .val (.int p2), .val (.int (4 : Int32))] [(.ref ao0)])) (fun _ k => XS.iloadN X54.here hx rfl (hb hby d3_2) rfl (XS.iloadN X54.here hx rfl (hb hby d3_3) rfl (XS.icmpYes X54.here hx rfl (pc0 := 4) (pc' := 42) rfl (hb hby d3_4) rfl (flt hu).2.1 (by decide) (by decide) (XS.aloadN X54.here hx rfl (hb hby d3_42) rfl rfl k)))) ?_
            obtain ⟨T55, X55, e55, st55⟩ := getF X54 hx hZ hown (host := "") (Or.inl (own_w hw 17 rfl)) Via.refl e54 F_ao0_chars (g := (mkF m 43 #[.val (.ref ao0), .val (.int p1), .val (.int p2), .val (.int (4 : Int32))] [(.ref ao0)])) rfl rfl (hb hby d3_43)
            refine own_go (x' := T55.setTop (mkF m 46 #[.val (.ref ao0), .val (.int p1), .val (.int p2), .val (.int (4 : Int32))] [(.ref ar)])) st55 ?_
            refine own_retR X55 hx hlk hret rfl rfl (hb hby d3_46) ?_ (by decide) (by decide)
            rw [e55]
            exact ⟨(.ref b0), (.ref b1), (.ref b2), (.ref b53), rfl, Nf, Kp, V_ar, Or.inl ⟨rfl, Or.inr hc24⟩, Or.inl ⟨rfl, Or.inr hc24⟩, Or.inl ⟨rfl, Or.inr hc24⟩, Or.inr ⟨b53, k53, rfl, V_b53, hc4_49⟩⟩
          · refine own_go (x' := T46.setTop (mkF m 43 #[.val (.ref ao0), .val (.int p1), .val (.int p2), .val (.int (3 : Int32))] [(.ref ao0)])) (fun _ k => XS.icmpYes X46.here hx rfl (pc0 := 4) (pc' := 42) rfl (hb hby d3_4) rfl (flt hc4_49).2.1 (by decide) (by decide) (XS.aloadN X46.here hx rfl (hb hby d3_42) rfl rfl k)) ?_
            obtain ⟨T56, X56, e56, st56⟩ := getF X46 hx hZ hown (host := "") (Or.inl (own_w hw 17 rfl)) Via.refl e46 F_ao0_chars (g := (mkF m 43 #[.val (.ref ao0), .val (.int p1), .val (.int p2), .val (.int (3 : Int32))] [(.ref ao0)])) rfl rfl (hb hby d3_43)
            refine own_go (x' := T56.setTop (mkF m 46 #[.val (.ref ao0), .val (.int p1), .val (.int p2), .val (.int (3 : Int32))] [(.ref ar)])) st56 ?_
            refine own_retR X56 hx hlk hret rfl rfl (hb hby d3_46) ?_ (by decide) (by decide)
            rw [e56]
            exact ⟨(.ref b0), (.ref b1), (.ref b2), .null, rfl, Nf, Kp, V_ar, Or.inl ⟨rfl, Or.inr hc24⟩, Or.inl ⟨rfl, Or.inr hc24⟩, Or.inl ⟨rfl, Or.inr hc24⟩, Or.inl ⟨rfl, hc4_49⟩⟩
        · refine own_go (x' := T40.setTop (mkF m 43 #[.val (.ref ao0), .val (.int p1), .val (.int p2), .val (.int (2 : Int32))] [(.ref ao0)])) (fun _ k => XS.icmpYes X40.here hx rfl (pc0 := 4) (pc' := 42) rfl (hb hby d3_4) rfl (flt hc4_43).2.1 (by decide) (by decide) (XS.aloadN X40.here hx rfl (hb hby d3_42) rfl rfl k)) ?_
          obtain ⟨T57, X57, e57, st57⟩ := getF X40 hx hZ hown (host := "") (Or.inl (own_w hw 17 rfl)) Via.refl e40 F_ao0_chars (g := (mkF m 43 #[.val (.ref ao0), .val (.int p1), .val (.int p2), .val (.int (2 : Int32))] [(.ref ao0)])) rfl rfl (hb hby d3_43)
          refine own_go (x' := T57.setTop (mkF m 46 #[.val (.ref ao0), .val (.int p1), .val (.int p2), .val (.int (2 : Int32))] [(.ref ar)])) st57 ?_
          refine own_retR X57 hx hlk hret rfl rfl (hb hby d3_46) ?_ (by decide) (by decide)
          rw [e57]
          exact ⟨(.ref b0), (.ref b1), (.ref b2), .null, rfl, Nf, Kp, V_ar, Or.inl ⟨rfl, Or.inr hc24⟩, Or.inl ⟨rfl, Or.inr hc24⟩, Or.inl ⟨rfl, Or.inl hc4_43⟩, Or.inl ⟨rfl, (own_le hc4_43 (by decide))⟩⟩
      · refine own_go (x' := T3.setTop (mkF m 43 #[.val (.ref ao0), .val (.int p1), .val (.int p2), .val (.int (1 : Int32))] [(.ref ao0)])) (fun _ k => XS.icmpYes X3.here hx rfl (pc0 := 4) (pc' := 42) rfl (hb hby d3_4) rfl (flt hc4_37).2.1 (by decide) (by decide) (XS.aloadN X3.here hx rfl (hb hby d3_42) rfl rfl k)) ?_
        obtain ⟨T58, X58, e58, st58⟩ := getF X3 hx hZ hown (host := "") (Or.inl (own_w hw 17 rfl)) Via.refl e3 F_ao0_chars (g := (mkF m 43 #[.val (.ref ao0), .val (.int p1), .val (.int p2), .val (.int (1 : Int32))] [(.ref ao0)])) rfl rfl (hb hby d3_43)
        refine own_go (x' := T58.setTop (mkF m 46 #[.val (.ref ao0), .val (.int p1), .val (.int p2), .val (.int (1 : Int32))] [(.ref ar)])) st58 ?_
        refine own_retR X58 hx hlk hret rfl rfl (hb hby d3_46) ?_ (by decide) (by decide)
        rw [e58]
        exact ⟨(.ref b0), (.ref b1), (.ref b2), .null, rfl, Nf, Kp, V_ar, Or.inl ⟨rfl, Or.inr hc24⟩, Or.inl ⟨rfl, Or.inl hc4_37⟩, Or.inl ⟨rfl, Or.inl (own_le hc4_37 (by decide))⟩, Or.inl ⟨rfl, (own_le hc4_37 (by decide))⟩⟩
  · refine own_go (x' := s₁.setTop (mkF m 43 #[.val (.ref ao0), .val (.int p1), .val (.int p2), .val (.int (0 : Int32))] [(.ref ao0)])) (fun _ k => XS.icmpYes X0.here hx rfl (pc0 := 4) (pc' := 42) rfl (hb hby d3_4) rfl (flt hc4).2.1 (by decide) (by decide) (XS.aloadN X0.here hx rfl (hb hby d3_42) rfl rfl k)) ?_
    obtain ⟨T59, X59, e59, st59⟩ := getF X0 hx hZ hown (host := "") (Or.inl (own_w hw 17 rfl)) Via.refl e0 F_ao0_chars (g := (mkF m 43 #[.val (.ref ao0), .val (.int p1), .val (.int p2), .val (.int (0 : Int32))] [(.ref ao0)])) rfl rfl (hb hby d3_43)
    refine own_go (x' := T59.setTop (mkF m 46 #[.val (.ref ao0), .val (.int p1), .val (.int p2), .val (.int (0 : Int32))] [(.ref ar)])) st59 ?_
    refine own_retR X59 hx hlk hret rfl rfl (hb hby d3_46) ?_ (by decide) (by decide)
    rw [e59]
    exact ⟨(.ref b0), (.ref b1), (.ref b2), .null, rfl, Nf, Kp, V_ar, Or.inl ⟨rfl, Or.inl hc4⟩, Or.inl ⟨rfl, Or.inl (own_le hc4 (by decide))⟩, Or.inl ⟨rfl, Or.inl (own_le hc4 (by decide))⟩, Or.inl ⟨rfl, (own_le hc4 (by decide))⟩⟩
def Q_rmS_4 (Z : State) (ao0 : Addr) (p1 : Int32) (p2 : Int32) (ar : Addr) (kc : ClassId) (n1 mm : Int32) (b0 : Addr) (k0 : ClassId) (b1 : Addr) (k1 : ClassId) (b2 : Addr) (k2 : ClassId) (b3 : Addr) (k3 : ClassId) (h0 : Heap) (n0 : Nat) (v : Option Value) (h : Heap) (L : List Loc) : Prop := ∃ w0 w1 w2 w3 : Value, v = some (.ref ar) ∧ Fr n0 L ∧ Keep h0 h [ar] ∧ Arv Z h ar kc (.array .char) (4 : Int32) [w0, w1, w2, w3] .null ∧ own_Rp Z h h0.size w0 b0 (0 : Int32) p1 n1 p2 ∧ own_Rp Z h h0.size w1 b1 (1 : Int32) p1 n1 p2 ∧ own_Rp Z h h0.size w2 b2 (2 : Int32) p1 n1 p2 ∧ own_Rp Z h h0.size w3 b3 (3 : Int32) p1 n1 p2
theorem pn_rmS_4 : plainName "com/example/wee_match/weematch/Sieve$Windows" = true := by first | (simp [plainName, overriddenIn]; done) | decide +kernel
theorem ef_rmS_4 (m : MethodId) (x0 : Addr) (x1 : Int32) (x2 : Int32) : entryFrame m #[(.ref x0), (.int x1), (.int x2)] 4 = mkF m 0 #[.val (.ref x0), .val (.int x1), .val (.int x2), .unset] [] := by first | (simp [entryFrame, mkF, argsToLocals, Value.category]; done) | rfl
set_option maxRecDepth 65536 in
set_option maxHeartbeats 40000000 in
theorem rmS_4 (l : Launch) (Z : State) (a0 : Array Value) (hw : ∀ d ∈ tables_1, d.before a0 Z = true) (ws : List Jvm.Cond) (ao0 : Addr) (p1 : Int32) (p2 : Int32) (ar : Addr) (kc : ClassId) (n1 mm : Int32) (b0 : Addr) (k0 : ClassId) (b1 : Addr) (k1 : ClassId) (b2 : Addr) (k2 : ClassId) (b3 : Addr) (k3 : ClassId) (h0 : Heap) (n0 : Nat) (Z0 : n0 ≤ h0.size) (F_ao0_chars : Fld Z h0 ao0 "com/example/wee_match/weematch/Sieve$Windows" "chars" "[[C" (.ref ar)) (V_ar : Arv Z h0 ar kc (.array .char) (4 : Int32) [.ref b0, .ref b1, .ref b2, .ref b3] .null) (O_ar : OvrA Z kc .char "[C") (ne_ao0_ar : ao0 ≠ ar) (g_ar : n0 ≤ ar) (hs : own_L p2) (hu : ¬ (4 : Int32) < p1) (V_b0 : Arv Z h0 b0 k0 .char n1 [.int mm] (.int (0 : Int32))) (V_b1 : Arv Z h0 b1 k1 .char n1 [.int mm] (.int (0 : Int32))) (V_b2 : Arv Z h0 b2 k2 .char n1 [.int mm] (.int (0 : Int32))) (V_b3 : Arv Z h0 b3 k3 .char n1 [.int mm] (.int (0 : Int32))) (ne_b0_ar : b0 ≠ ar) (ne_b1_ar : b1 ≠ ar) (ne_b2_ar : b2 ≠ ar) (ne_b3_ar : b3 ≠ ar) :
    MetFree l (⟨"com/example/wee_match/weematch/Sieve$Windows", "chars", "(II)[[C"⟩ : MethodName) (head1 (Jvm.Cond.code (⟨"com/example/wee_match/weematch/Sieve$Windows", "chars", "(II)[[C"⟩ : MethodName) prog_20_method_9_code 4 (some (.array (.array .char))) :: ws) ({ frames := 0, cells := 4, slots := 124, locals := 0 } : Room)) (fun a U => a = #[(.ref ao0), (.int p1), (.int p2)] ∧ Z.Warmed39 U.vm ∧ U.heap = h0) (fun _ _ _ _ _ => True) (fun _ U o U' => ∃ v L, o = .returned v ∧ (Q_rmS_4 Z ao0 p1 p2 ar kc n1 mm b0 k0 b1 k1 b2 k2 b3 k3 h0 n0) v U'.heap L ∧ FrameEnd U o U' L ({ frames := 0, cells := 4, slots := 124, locals := 0 } : Room).cells ({ frames := 0, cells := 4, slots := 124, locals := 0 } : Room).slots) := by
  refine MetFree.of_bodySF (plainFor_of_name pn_rmS_4) hisR ?_
  intro p e s m args below meth c s₁ Bd hml0 hP hK
  obtain ⟨rfl, hZ, hh⟩ := hP
  have hx := Bd.exec
  have hby := Bd.bytes
  have hlk := BodyLoose.notSynchronized Bd
  have hret := Bd.returns
  have hml : c.maxLocals = 4 := hml0
  have hown : s.vm.findClass "com/example/wee_match/weematch/Sieve$Windows" = some m.cls := findClass_of_methodNamed Bd.named
  have hnm := (name_of_methodNamed Bd.named Bd.method).1
  have X0 : Stand p l e ({ frames := 0, cells := 4, slots := 124, locals := 0 } : Room) s m #[(.ref ao0), (.int p1), (.int p2)] below meth c s₁ [] 0 0 := Stand.of_body Bd
  have e0 : s₁.heap = h0 := by rw [← hh, Bd.state]; rfl
  have Nf := Fr.nil n0
  have Zs := Z0
  have Kp : Keep h0 h0 [ar] := Keep.refl _ _
  show own_End p e below s (Q_rmS_4 Z ao0 p1 p2 ar kc n1 mm b0 k0 b1 k1 b2 k2 b3 k3 h0 n0) ({ frames := 0, cells := 4, slots := 124, locals := 0 } : Room).cells ({ frames := 0, cells := 4, slots := 124, locals := 0 } : Room).slots (s₁.setTop (entryFrame m #[(.ref ao0), (.int p1), (.int p2)] 4))
  refine own_go (x' := s₁.setTop (mkF m 0 #[.val (.ref ao0), .val (.int p1), .val (.int p2), .unset] [])) (fun t k => castTop (ef_rmS_4 m ao0 p1 p2) k) ?_
  refine own_go (x' := s₁.setTop (mkF m 4 #[.val (.ref ao0), .val (.int p1), .val (.int p2), .val (.int (0 : Int32))] [(.int p1), (.int (0 : Int32))])) (fun _ k => XS.iconst X0.here hx rfl (hb hby d3_0) (XS.istoreN X0.here hx rfl (hb hby d3_1) rfl (l' := #[.val (.ref ao0), .val (.int p1), .val (.int p2), .val (.int (0 : Int32))]) rfl (XS.iloadN X0.here hx rfl (hb hby d3_2) rfl (XS.iloadN X0.here hx rfl (hb hby d3_3) rfl k)))) ?_
  by_cases hc4 : (0 : Int32) < p1
  · refine own_go (x' := s₁.setTop (mkF m 8 #[.val (.ref ao0), .val (.int p1), .val (.int p2), .val (.int (0 : Int32))] [(.ref ao0)])) (fun _ k => XS.icmpNo X0.here hx rfl (hb hby d3_4) rfl (tlt hc4).2.1 (XS.aloadN X0.here hx rfl (hb hby d3_7) rfl rfl k)) ?_
    obtain ⟨T1, X1, e1, st1⟩ := getF X0 hx hZ hown (host := "") (Or.inl (own_w hw 17 rfl)) Via.refl e0 F_ao0_chars (g := (mkF m 8 #[.val (.ref ao0), .val (.int p1), .val (.int p2), .val (.int (0 : Int32))] [(.ref ao0)])) rfl rfl (hb hby d3_8)
    refine own_go (x' := T1.setTop (mkF m 11 #[.val (.ref ao0), .val (.int p1), .val (.int p2), .val (.int (0 : Int32))] [(.ref ar)])) st1 ?_
    refine own_go (x' := T1.setTop (mkF m 12 #[.val (.ref ao0), .val (.int p1), .val (.int p2), .val (.int (0 : Int32))] [(.int (0 : Int32)), (.ref ar)])) (fun _ k => XS.iloadN X1.here hx rfl (hb hby d3_11) rfl k) ?_
    obtain ⟨cl2, Ar2, q2, Sz2, Nn2, Hh2, Gg2⟩ := id V_ar
    have hin2 : ¬ ((0 : Int32) < 0 ∨ cl2.slots.size ≤ ((0 : Int32)).toNatClampNeg) := inb_of Sz2 ⟨by decide, by decide⟩
    refine own_go (x' := T1.setTop (mkF m 13 #[.val (.ref ao0), .val (.int p1), .val (.int p2), .val (.int (0 : Int32))] [(.ref b0)])) (X1.aaload hx (j := (0 : Int32)) (v := (.ref b0)) (Eq.trans (congrArg (fun h_ => h_[_]?) e1) Ar2.1) (State.isArrayOf_alike hZ.alike Ar2.2.1) rfl Ar2.2.2 hin2 (Hh2.at hin2 rfl) (g := (mkF m 12 #[.val (.ref ao0), .val (.int p1), .val (.int p2), .val (.int (0 : Int32))] [(.int (0 : Int32)), (.ref ar)])) rfl rfl (hb hby d3_12)) ?_
    refine own_go (x' := T1.setTop (mkF m 17 #[.val (.ref ao0), .val (.int p1), .val (.int p2), .val (.int (0 : Int32))] [(.ref ao0)])) (fun _ k => XS.ifnullNo X1.here hx rfl (hb hby d3_13) rfl (XS.aloadN X1.here hx rfl (hb hby d3_16) rfl rfl k)) ?_
    obtain ⟨T3, X3, e3, st3⟩ := getF X1 hx hZ hown (host := "") (Or.inl (own_w hw 17 rfl)) Via.refl e1 F_ao0_chars (g := (mkF m 17 #[.val (.ref ao0), .val (.int p1), .val (.int p2), .val (.int (0 : Int32))] [(.ref ao0)])) rfl rfl (hb hby d3_17)
    refine own_go (x' := T3.setTop (mkF m 20 #[.val (.ref ao0), .val (.int p1), .val (.int p2), .val (.int (0 : Int32))] [(.ref ar)])) st3 ?_
    refine own_go (x' := T3.setTop (mkF m 21 #[.val (.ref ao0), .val (.int p1), .val (.int p2), .val (.int (0 : Int32))] [(.int (0 : Int32)), (.ref ar)])) (fun _ k => XS.iloadN X3.here hx rfl (hb hby d3_20) rfl k) ?_
    obtain ⟨cl4, Ar4, q4, Sz4, Nn4, Hh4, Gg4⟩ := id V_ar
    have hin4 : ¬ ((0 : Int32) < 0 ∨ cl4.slots.size ≤ ((0 : Int32)).toNatClampNeg) := inb_of Sz4 ⟨by decide, by decide⟩
    refine own_go (x' := T3.setTop (mkF m 22 #[.val (.ref ao0), .val (.int p1), .val (.int p2), .val (.int (0 : Int32))] [(.ref b0)])) (X3.aaload hx (j := (0 : Int32)) (v := (.ref b0)) (Eq.trans (congrArg (fun h_ => h_[_]?) e3) Ar4.1) (State.isArrayOf_alike hZ.alike Ar4.2.1) rfl Ar4.2.2 hin4 (Hh4.at hin4 rfl) (g := (mkF m 21 #[.val (.ref ao0), .val (.int p1), .val (.int p2), .val (.int (0 : Int32))] [(.int (0 : Int32)), (.ref ar)])) rfl rfl (hb hby d3_21)) ?_
    obtain ⟨cl5, Ar5, -, Sz5, Nn5, -, -⟩ := id V_b0
    refine own_go (x' := T3.setTop (mkF m 23 #[.val (.ref ao0), .val (.int p1), .val (.int p2), .val (.int (0 : Int32))] [(.int n1)])) (fun t k => X3.arraylength hx (Eq.trans (congrArg (fun h_ => h_[_]?) e3) Ar5.1) (State.isArrayOf_alike hZ.alike Ar5.2.1) (g := (mkF m 22 #[.val (.ref ao0), .val (.int p1), .val (.int p2), .val (.int (0 : Int32))] [(.ref b0)])) rfl rfl (hb hby d3_22) t (by rw [len_of Sz5 Nn5]; exact k)) ?_
    refine own_go (x' := T3.setTop (mkF m 24 #[.val (.ref ao0), .val (.int p1), .val (.int p2), .val (.int (0 : Int32))] [(.int p2), (.int n1)])) (fun _ k => XS.iloadN X3.here hx rfl (hb hby d3_23) rfl k) ?_
    by_cases hc24 : n1 < p2
    · refine own_go (x' := T3.setTop (mkF m 28 #[.val (.ref ao0), .val (.int p1), .val (.int p2), .val (.int (0 : Int32))] [(.ref ao0)])) (fun _ k => XS.icmpNo X3.here hx rfl (hb hby d3_24) rfl (tlt hc24).2.1 (XS.aloadN X3.here hx rfl (hb hby d3_27) rfl rfl k)) ?_
      obtain ⟨T6, X6, e6, st6⟩ := getF X3 hx hZ hown (host := "") (Or.inl (own_w hw 17 rfl)) Via.refl e3 F_ao0_chars (g := (mkF m 28 #[.val (.ref ao0), .val (.int p1), .val (.int p2), .val (.int (0 : Int32))] [(.ref ao0)])) rfl rfl (hb hby d3_28)
      refine own_go (x' := T6.setTop (mkF m 31 #[.val (.ref ao0), .val (.int p1), .val (.int p2), .val (.int (0 : Int32))] [(.ref ar)])) st6 ?_
      refine own_go (x' := T6.setTop (mkF m 33 #[.val (.ref ao0), .val (.int p1), .val (.int p2), .val (.int (0 : Int32))] [(.int p2), (.int (0 : Int32)), (.ref ar)])) (fun _ k => XS.iloadN X6.here hx rfl (hb hby d3_31) rfl (XS.iloadN X6.here hx rfl (hb hby d3_32) rfl k)) ?_
      obtain ⟨T7, h7, k7, X7, e7, E7, A7, Q7, st7⟩ := newPE X6 hx hZ (own_w hw 34 rfl) e6 (g := (mkF m 33 #[.val (.ref ao0), .val (.int p1), .val (.int p2), .val (.int (0 : Int32))] [(.int p2), (.int (0 : Int32)), (.ref ar)])) rfl (hb hby d3_33) rfl hs.1 (cap := 31) hs.2 (by decide) (by decide) (by decide) (ad := "[C") (by decide)
      obtain ⟨b7, g7⟩ : ∃ z, z = h0.size := ⟨_, rfl⟩
      rw [← g7] at A7 st7
      rw [← g7] at Q7
      have ne_ao0_b7 : ao0 ≠ b7 := Nat.ne_of_lt (Nat.lt_of_lt_of_le F_ao0_chars.lt (Nat.le_of_eq g7.symm))
      have ne_ar_b7 : ar ≠ b7 := Nat.ne_of_lt (Nat.lt_of_lt_of_le V_ar.lt (Nat.le_of_eq g7.symm))
      have ne_b0_b7 : b0 ≠ b7 := Nat.ne_of_lt (Nat.lt_of_lt_of_le V_b0.lt (Nat.le_of_eq g7.symm))
      have ne_b1_b7 : b1 ≠ b7 := Nat.ne_of_lt (Nat.lt_of_lt_of_le V_b1.lt (Nat.le_of_eq g7.symm))
      have ne_b2_b7 : b2 ≠ b7 := Nat.ne_of_lt (Nat.lt_of_lt_of_le V_b2.lt (Nat.le_of_eq g7.symm))
      have ne_b3_b7 : b3 ≠ b7 := Nat.ne_of_lt (Nat.lt_of_lt_of_le V_b3.lt (Nat.le_of_eq g7.symm))
      have g_b7 : n0 ≤ b7 := Nat.le_trans Zs (Nat.le_of_eq g7.symm)
      have sz_b7 : h0.size ≤ b7 := Nat.le_trans Kp.1 (Nat.le_of_eq g7.symm)
      replace F_ao0_chars := Fld.ext E7 F_ao0_chars
      replace V_ar := V_ar.ext E7
      replace V_b0 := V_b0.ext E7
      replace V_b1 := V_b1.ext E7
      replace V_b2 := V_b2.ext E7
      replace V_b3 := V_b3.ext E7
      replace Zs := Nat.le_trans Zs E7.1
      replace Kp := Kp.ext E7
      have E_b7 := Q7
      have V_b7 : Arv Z h7 b7 k7 .char p2 [] (.int (0 : Int32)) := Arv.new A7 hs.1
      refine own_go (x' := T7.setTop (mkF m 35 #[.val (.ref ao0), .val (.int p1), .val (.int p2), .val (.int (0 : Int32))] [(.ref b7), (.int (0 : Int32)), (.ref ar)])) st7 ?_
      obtain ⟨cl8, Ar8, q8, Sz8, Nn8, Hh8, Gg8⟩ := V_ar
      have hin8 : ¬ ((0 : Int32) < 0 ∨ cl8.slots.size ≤ ((0 : Int32)).toNatClampNeg) := inb_of Sz8 ⟨by decide, by decide⟩
      obtain ⟨T8, h8, X8, e8, W8, st8⟩ := stR X7 hx hZ e7 Ar8 (j := (0 : Int32)) hin8 rfl (Sto.ofVA Ar8 q8 O_ar (Ins.self E_b7)) (g := (mkF m 35 #[.val (.ref ao0), .val (.int p1), .val (.int p2), .val (.int (0 : Int32))] [(.ref b7), (.int (0 : Int32)), (.ref ar)])) rfl rfl (hb hby d3_35)
      refine own_go (x' := T8.setTop (mkF m 36 #[.val (.ref ao0), .val (.int p1), .val (.int p2), .val (.int (0 : Int32))] [])) st8 ?_
      replace F_ao0_chars := Fld.other W8 F_ao0_chars (Or.inl ne_ao0_ar)
      replace V_b0 := V_b0.other W8 ne_b0_ar
      replace V_b1 := V_b1.other W8 ne_b1_ar
      replace V_b2 := V_b2.other W8 ne_b2_ar
      replace V_b3 := V_b3.other W8 ne_b3_ar
      replace E_b7 := Exa.wr W8 E_b7
      replace V_b7 := V_b7.other W8 (Ne.symm ne_ar_b7)
      replace Zs := Nat.le_trans Zs (Keep.of_wr W8).1
      replace Nf := Fr.snoc X8 Nf g_ar
      replace Kp := Kp.wr W8 (Or.inl (by simp))
      have V_ar : Arv Z h8 ar kc (.array .char) (4 : Int32) [(.ref b7), (.ref b1), (.ref b2), (.ref b3)] .null := Arv.set Ar8 q8 Sz8 Nn8 Hh8 Gg8 rfl W8 0 rfl (Nat.le_of_ble_eq_true rfl)
      refine own_go (x' := T8.setTop (mkF m 2 #[.val (.ref ao0), .val (.int p1), .val (.int p2), .val (.int ((0 : Int32) + (1 : Int32)))] [])) (fun _ k => XS.iinc X8.here hx rfl (hb hby d3_36) rfl (l' := #[.val (.ref ao0), .val (.int p1), .val (.int p2), .val (.int ((0 : Int32) + (1 : Int32)))]) rfl (XS.goto X8.here hx rfl (pc0 := 39) (pc' := 2) rfl (hb hby d3_39) (by decide) (by decide) k)) ?_
      rw [show ((0 : Int32) + (1 : Int32)) = (1 : Int32) from by decide +kernel]
      refine own_go (x' := T8.setTop (mkF m 4 #[.val (.ref ao0), .val (.int p1), .val (.int p2), .val (.int (1 : Int32))] [(.int p1), (.int (1 : Int32))])) (fun _ k => XS.iloadN X8.here hx rfl (hb hby d3_2) rfl (XS.iloadN X8.here hx rfl (hb hby d3_3) rfl k)) ?_
      by_cases hc4_9 : (1 : Int32) < p1
      · refine own_go (x' := T8.setTop (mkF m 8 #[.val (.ref ao0), .val (.int p1), .val (.int p2), .val (.int (1 : Int32))] [(.ref ao0)])) (fun _ k => XS.icmpNo X8.here hx rfl (hb hby d3_4) rfl (tlt hc4_9).2.1 (XS.aloadN X8.here hx rfl (hb hby d3_7) rfl rfl k)) ?_
        obtain ⟨T10, X10, e10, st10⟩ := getF X8 hx hZ hown (host := "") (Or.inl (own_w hw 17 rfl)) Via.refl e8 F_ao0_chars (g := (mkF m 8 #[.val (.ref ao0), .val (.int p1), .val (.int p2), .val (.int (1 : Int32))] [(.ref ao0)])) rfl rfl (hb hby d3_8)
        refine own_go (x' := T10.setTop (mkF m 11 #[.val (.ref ao0), .val (.int p1), .val (.int p2), .val (.int (1 : Int32))] [(.ref ar)])) st10 ?_
        refine own_go (x' := T10.setTop (mkF m 12 #[.val (.ref ao0), .val (.int p1), .val (.int p2), .val (.int (1 : Int32))] [(.int (1 : Int32)), (.ref ar)])) (fun _ k => XS.iloadN X10.here hx rfl (hb hby d3_11) rfl k) ?_
        obtain ⟨cl11, Ar11, q11, Sz11, Nn11, Hh11, Gg11⟩ := id V_ar
        have hin11 : ¬ ((1 : Int32) < 0 ∨ cl11.slots.size ≤ ((1 : Int32)).toNatClampNeg) := inb_of Sz11 ⟨by decide, by decide⟩
        refine own_go (x' := T10.setTop (mkF m 13 #[.val (.ref ao0), .val (.int p1), .val (.int p2), .val (.int (1 : Int32))] [(.ref b1)])) (X10.aaload hx (j := (1 : Int32)) (v := (.ref b1)) (Eq.trans (congrArg (fun h_ => h_[_]?) e10) Ar11.1) (State.isArrayOf_alike hZ.alike Ar11.2.1) rfl Ar11.2.2 hin11 (Hh11.at hin11 rfl) (g := (mkF m 12 #[.val (.ref ao0), .val (.int p1), .val (.int p2), .val (.int (1 : Int32))] [(.int (1 : Int32)), (.ref ar)])) rfl rfl (hb hby d3_12)) ?_
        refine own_go (x' := T10.setTop (mkF m 17 #[.val (.ref ao0), .val (.int p1), .val (.int p2), .val (.int (1 : Int32))] [(.ref ao0)])) (fun _ k => XS.ifnullNo X10.here hx rfl (hb hby d3_13) rfl (XS.aloadN X10.here hx rfl (hb hby d3_16) rfl rfl k)) ?_
        obtain ⟨T12, X12, e12, st12⟩ := getF X10 hx hZ hown (host := "") (Or.inl (own_w hw 17 rfl)) Via.refl e10 F_ao0_chars (g := (mkF m 17 #[.val (.ref ao0), .val (.int p1), .val (.int p2), .val (.int (1 : Int32))] [(.ref ao0)])) rfl rfl (hb hby d3_17)
        refine own_go (x' := T12.setTop (mkF m 20 #[.val (.ref ao0), .val (.int p1), .val (.int p2), .val (.int (1 : Int32))] [(.ref ar)])) st12 ?_
        refine own_go (x' := T12.setTop (mkF m 21 #[.val (.ref ao0), .val (.int p1), .val (.int p2), .val (.int (1 : Int32))] [(.int (1 : Int32)), (.ref ar)])) (fun _ k => XS.iloadN X12.here hx rfl (hb hby d3_20) rfl k) ?_
        obtain ⟨cl13, Ar13, q13, Sz13, Nn13, Hh13, Gg13⟩ := id V_ar
        have hin13 : ¬ ((1 : Int32) < 0 ∨ cl13.slots.size ≤ ((1 : Int32)).toNatClampNeg) := inb_of Sz13 ⟨by decide, by decide⟩
        refine own_go (x' := T12.setTop (mkF m 22 #[.val (.ref ao0), .val (.int p1), .val (.int p2), .val (.int (1 : Int32))] [(.ref b1)])) (X12.aaload hx (j := (1 : Int32)) (v := (.ref b1)) (Eq.trans (congrArg (fun h_ => h_[_]?) e12) Ar13.1) (State.isArrayOf_alike hZ.alike Ar13.2.1) rfl Ar13.2.2 hin13 (Hh13.at hin13 rfl) (g := (mkF m 21 #[.val (.ref ao0), .val (.int p1), .val (.int p2), .val (.int (1 : Int32))] [(.int (1 : Int32)), (.ref ar)])) rfl rfl (hb hby d3_21)) ?_
        obtain ⟨cl14, Ar14, -, Sz14, Nn14, -, -⟩ := id V_b1
        refine own_go (x' := T12.setTop (mkF m 23 #[.val (.ref ao0), .val (.int p1), .val (.int p2), .val (.int (1 : Int32))] [(.int n1)])) (fun t k => X12.arraylength hx (Eq.trans (congrArg (fun h_ => h_[_]?) e12) Ar14.1) (State.isArrayOf_alike hZ.alike Ar14.2.1) (g := (mkF m 22 #[.val (.ref ao0), .val (.int p1), .val (.int p2), .val (.int (1 : Int32))] [(.ref b1)])) rfl rfl (hb hby d3_22) t (by rw [len_of Sz14 Nn14]; exact k)) ?_
        refine own_go (x' := T12.setTop (mkF m 28 #[.val (.ref ao0), .val (.int p1), .val (.int p2), .val (.int (1 : Int32))] [(.ref ao0)])) (fun _ k => XS.iloadN X12.here hx rfl (hb hby d3_23) rfl (XS.icmpNo X12.here hx rfl (hb hby d3_24) rfl (tlt hc24).2.1 (XS.aloadN X12.here hx rfl (hb hby d3_27) rfl rfl k))) ?_
        obtain ⟨T15, X15, e15, st15⟩ := getF X12 hx hZ hown (host := "") (Or.inl (own_w hw 17 rfl)) Via.refl e12 F_ao0_chars (g := (mkF m 28 #[.val (.ref ao0), .val (.int p1), .val (.int p2), .val (.int (1 : Int32))] [(.ref ao0)])) rfl rfl (hb hby d3_28)
        refine own_go (x' := T15.setTop (mkF m 31 #[.val (.ref ao0), .val (.int p1), .val (.int p2), .val (.int (1 : Int32))] [(.ref ar)])) st15 ?_
        refine own_go (x' := T15.setTop (mkF m 33 #[.val (.ref ao0), .val (.int p1), .val (.int p2), .val (.int (1 : Int32))] [(.int p2), (.int (1 : Int32)), (.ref ar)])) (fun _ k => XS.iloadN X15.here hx rfl (hb hby d3_31) rfl (XS.iloadN X15.here hx rfl (hb hby d3_32) rfl k)) ?_
        obtain ⟨T16, h16, k16, X16, e16, E16, A16, Q16, st16⟩ := newPE X15 hx hZ (own_w hw 34 rfl) e15 (g := (mkF m 33 #[.val (.ref ao0), .val (.int p1), .val (.int p2), .val (.int (1 : Int32))] [(.int p2), (.int (1 : Int32)), (.ref ar)])) rfl (hb hby d3_33) rfl hs.1 (cap := 31) hs.2 (by decide) (by decide) (by decide) (ad := "[C") (by decide)
        obtain ⟨b16, g16⟩ : ∃ z, z = h8.size := ⟨_, rfl⟩
        rw [← g16] at A16 st16
        rw [← g16] at Q16
        have ne_ao0_b16 : ao0 ≠ b16 := Nat.ne_of_lt (Nat.lt_of_lt_of_le F_ao0_chars.lt (Nat.le_of_eq g16.symm))
        have ne_b0_b16 : b0 ≠ b16 := Nat.ne_of_lt (Nat.lt_of_lt_of_le V_b0.lt (Nat.le_of_eq g16.symm))
        have ne_b1_b16 : b1 ≠ b16 := Nat.ne_of_lt (Nat.lt_of_lt_of_le V_b1.lt (Nat.le_of_eq g16.symm))
        have ne_b2_b16 : b2 ≠ b16 := Nat.ne_of_lt (Nat.lt_of_lt_of_le V_b2.lt (Nat.le_of_eq g16.symm))
        have ne_b3_b16 : b3 ≠ b16 := Nat.ne_of_lt (Nat.lt_of_lt_of_le V_b3.lt (Nat.le_of_eq g16.symm))
        have ne_b7_b16 : b7 ≠ b16 := Nat.ne_of_lt (Nat.lt_of_lt_of_le E_b7.lt (Nat.le_of_eq g16.symm))
        have ne_ar_b16 : ar ≠ b16 := Nat.ne_of_lt (Nat.lt_of_lt_of_le V_ar.lt (Nat.le_of_eq g16.symm))
        have g_b16 : n0 ≤ b16 := Nat.le_trans Zs (Nat.le_of_eq g16.symm)
        have sz_b16 : h0.size ≤ b16 := Nat.le_trans Kp.1 (Nat.le_of_eq g16.symm)
        replace F_ao0_chars := Fld.ext E16 F_ao0_chars
        replace V_b0 := V_b0.ext E16
        replace V_b1 := V_b1.ext E16
        replace V_b2 := V_b2.ext E16
        replace V_b3 := V_b3.ext E16
        replace E_b7 := Exa.ext E16 E_b7
        replace V_b7 := V_b7.ext E16
        replace V_ar := V_ar.ext E16
        replace Zs := Nat.le_trans Zs E16.1
        replace Kp := Kp.ext E16
        have E_b16 := Q16
        have V_b16 : Arv Z h16 b16 k16 .char p2 [] (.int (0 : Int32)) := Arv.new A16 hs.1
        refine own_go (x' := T16.setTop (mkF m 35 #[.val (.ref ao0), .val (.int p1), .val (.int p2), .val (.int (1 : Int32))] [(.ref b16), (.int (1 : Int32)), (.ref ar)])) st16 ?_
        obtain ⟨cl17, Ar17, q17, Sz17, Nn17, Hh17, Gg17⟩ := V_ar
        have hin17 : ¬ ((1 : Int32) < 0 ∨ cl17.slots.size ≤ ((1 : Int32)).toNatClampNeg) := inb_of Sz17 ⟨by decide, by decide⟩
        obtain ⟨T17, h17, X17, e17, W17, st17⟩ := stR X16 hx hZ e16 Ar17 (j := (1 : Int32)) hin17 rfl (Sto.ofVA Ar17 q17 O_ar (Ins.self E_b16)) (g := (mkF m 35 #[.val (.ref ao0), .val (.int p1), .val (.int p2), .val (.int (1 : Int32))] [(.ref b16), (.int (1 : Int32)), (.ref ar)])) rfl rfl (hb hby d3_35)
        refine own_go (x' := T17.setTop (mkF m 36 #[.val (.ref ao0), .val (.int p1), .val (.int p2), .val (.int (1 : Int32))] [])) st17 ?_
        replace F_ao0_chars := Fld.other W17 F_ao0_chars (Or.inl ne_ao0_ar)
        replace V_b0 := V_b0.other W17 ne_b0_ar
        replace V_b1 := V_b1.other W17 ne_b1_ar
        replace V_b2 := V_b2.other W17 ne_b2_ar
        replace V_b3 := V_b3.other W17 ne_b3_ar
        replace E_b7 := Exa.wr W17 E_b7
        replace V_b7 := V_b7.other W17 (Ne.symm ne_ar_b7)
        replace E_b16 := Exa.wr W17 E_b16
        replace V_b16 := V_b16.other W17 (Ne.symm ne_ar_b16)
        replace Zs := Nat.le_trans Zs (Keep.of_wr W17).1
        replace Nf := Fr.snoc X17 Nf g_ar
        replace Kp := Kp.wr W17 (Or.inl (by simp))
        have V_ar : Arv Z h17 ar kc (.array .char) (4 : Int32) [(.ref b7), (.ref b16), (.ref b2), (.ref b3)] .null := Arv.set Ar17 q17 Sz17 Nn17 Hh17 Gg17 rfl W17 1 rfl (Nat.le_of_ble_eq_true rfl)
        refine own_go (x' := T17.setTop (mkF m 2 #[.val (.ref ao0), .val (.int p1), .val (.int p2), .val (.int ((1 : Int32) + (1 : Int32)))] [])) (fun _ k => XS.iinc X17.here hx rfl (hb hby d3_36) rfl (l' := #[.val (.ref ao0), .val (.int p1), .val (.int p2), .val (.int ((1 : Int32) + (1 : Int32)))]) rfl (XS.goto X17.here hx rfl (pc0 := 39) (pc' := 2) rfl (hb hby d3_39) (by decide) (by decide) k)) ?_
        rw [show ((1 : Int32) + (1 : Int32)) = (2 : Int32) from by decide +kernel]
        refine own_go (x' := T17.setTop (mkF m 4 #[.val (.ref ao0), .val (.int p1), .val (.int p2), .val (.int (2 : Int32))] [(.int p1), (.int (2 : Int32))])) (fun _ k => XS.iloadN X17.here hx rfl (hb hby d3_2) rfl (XS.iloadN X17.here hx rfl (hb hby d3_3) rfl k)) ?_
        by_cases hc4_18 : (2 : Int32) < p1
        · refine own_go (x' := T17.setTop (mkF m 8 #[.val (.ref ao0), .val (.int p1), .val (.int p2), .val (.int (2 : Int32))] [(.ref ao0)])) (fun _ k => XS.icmpNo X17.here hx rfl (hb hby d3_4) rfl (tlt hc4_18).2.1 (XS.aloadN X17.here hx rfl (hb hby d3_7) rfl rfl k)) ?_
          obtain ⟨T19, X19, e19, st19⟩ := getF X17 hx hZ hown (host := "") (Or.inl (own_w hw 17 rfl)) Via.refl e17 F_ao0_chars (g := (mkF m 8 #[.val (.ref ao0), .val (.int p1), .val (.int p2), .val (.int (2 : Int32))] [(.ref ao0)])) rfl rfl (hb hby d3_8)
          refine own_go (x' := T19.setTop (mkF m 11 #[.val (.ref ao0), .val (.int p1), .val (.int p2), .val (.int (2 : Int32))] [(.ref ar)])) st19 ?_
          refine own_go (x' := T19.setTop (mkF m 12 #[.val (.ref ao0), .val (.int p1), .val (.int p2), .val (.int (2 : Int32))] [(.int (2 : Int32)), (.ref ar)])) (fun _ k => XS.iloadN X19.here hx rfl (hb hby d3_11) rfl k) ?_
          obtain ⟨cl20, Ar20, q20, Sz20, Nn20, Hh20, Gg20⟩ := id V_ar
          have hin20 : ¬ ((2 : Int32) < 0 ∨ cl20.slots.size ≤ ((2 : Int32)).toNatClampNeg) := inb_of Sz20 ⟨by decide, by decide⟩
          refine own_go (x' := T19.setTop (mkF m 13 #[.val (.ref ao0), .val (.int p1), .val (.int p2), .val (.int (2 : Int32))] [(.ref b2)])) (X19.aaload hx (j := (2 : Int32)) (v := (.ref b2)) (Eq.trans (congrArg (fun h_ => h_[_]?) e19) Ar20.1) (State.isArrayOf_alike hZ.alike Ar20.2.1) rfl Ar20.2.2 hin20 (Hh20.at hin20 rfl) (g := (mkF m 12 #[.val (.ref ao0), .val (.int p1), .val (.int p2), .val (.int (2 : Int32))] [(.int (2 : Int32)), (.ref ar)])) rfl rfl (hb hby d3_12)) ?_
          refine own_go (x' := T19.setTop (mkF m 17 #[.val (.ref ao0), .val (.int p1), .val (.int p2), .val (.int (2 : Int32))] [(.ref ao0)])) (fun _ k => XS.ifnullNo X19.here hx rfl (hb hby d3_13) rfl (XS.aloadN X19.here hx rfl (hb hby d3_16) rfl rfl k)) ?_
          obtain ⟨T21, X21, e21, st21⟩ := getF X19 hx hZ hown (host := "") (Or.inl (own_w hw 17 rfl)) Via.refl e19 F_ao0_chars (g := (mkF m 17 #[.val (.ref ao0), .val (.int p1), .val (.int p2), .val (.int (2 : Int32))] [(.ref ao0)])) rfl rfl (hb hby d3_17)
          refine own_go (x' := T21.setTop (mkF m 20 #[.val (.ref ao0), .val (.int p1), .val (.int p2), .val (.int (2 : Int32))] [(.ref ar)])) st21 ?_
          refine own_go (x' := T21.setTop (mkF m 21 #[.val (.ref ao0), .val (.int p1), .val (.int p2), .val (.int (2 : Int32))] [(.int (2 : Int32)), (.ref ar)])) (fun _ k => XS.iloadN X21.here hx rfl (hb hby d3_20) rfl k) ?_
          obtain ⟨cl22, Ar22, q22, Sz22, Nn22, Hh22, Gg22⟩ := id V_ar
          have hin22 : ¬ ((2 : Int32) < 0 ∨ cl22.slots.size ≤ ((2 : Int32)).toNatClampNeg) := inb_of Sz22 ⟨by decide, by decide⟩
          refine own_go (x' := T21.setTop (mkF m 22 #[.val (.ref ao0), .val (.int p1), .val (.int p2), .val (.int (2 : Int32))] [(.ref b2)])) (X21.aaload hx (j := (2 : Int32)) (v := (.ref b2)) (Eq.trans (congrArg (fun h_ => h_[_]?) e21) Ar22.1) (State.isArrayOf_alike hZ.alike Ar22.2.1) rfl Ar22.2.2 hin22 (Hh22.at hin22 rfl) (g := (mkF m 21 #[.val (.ref ao0), .val (.int p1), .val (.int p2), .val (.int (2 : Int32))] [(.int (2 : Int32)), (.ref ar)])) rfl rfl (hb hby d3_21)) ?_
          obtain ⟨cl23, Ar23, -, Sz23, Nn23, -, -⟩ := id V_b2
          refine own_go (x' := T21.setTop (mkF m 23 #[.val (.ref ao0), .val (.int p1), .val (.int p2), .val (.int (2 : Int32))] [(.int n1)])) (fun t k => X21.arraylength hx (Eq.trans (congrArg (fun h_ => h_[_]?) e21) Ar23.1) (State.isArrayOf_alike hZ.alike Ar23.2.1) (g := (mkF m 22 #[.val (.ref ao0), .val (.int p1), .val (.int p2), .val (.int (2 : Int32))] [(.ref b2)])) rfl rfl (hb hby d3_22) t (by rw [len_of Sz23 Nn23]; exact k)) ?_
          refine own_go (x' := T21.setTop (mkF m 28 #[.val (.ref ao0), .val (.int p1), .val (.int p2), .val (.int (2 : Int32))] [(.ref ao0)])) (fun _ k => XS.iloadN X21.here hx rfl (hb hby d3_23) rfl (XS.icmpNo X21.here hx rfl (hb hby d3_24) rfl (tlt hc24).2.1 (XS.aloadN X21.here hx rfl (hb hby d3_27) rfl rfl k))) ?_
          obtain ⟨T24, X24, e24, st24⟩ := getF X21 hx hZ hown (host := "") (Or.inl (own_w hw 17 rfl)) Via.refl e21 F_ao0_chars (g := (mkF m 28 #[.val (.ref ao0), .val (.int p1), .val (.int p2), .val (.int (2 : Int32))] [(.ref ao0)])) rfl rfl (hb hby d3_28)
          refine own_go (x' := T24.setTop (mkF m 31 #[.val (.ref ao0), .val (.int p1), .val (.int p2), .val (.int (2 : Int32))] [(.ref ar)])) st24 ?_
          refine own_go (x' := T24.setTop (mkF m 33 #[.val (.ref ao0), .val (.int p1), .val (.int p2), .val (.int (2 : Int32))] [(.int p2), (.int (2 : Int32)), (.ref ar)])) (fun _ k => XS.iloadN X24.here hx rfl (hb hby d3_31) rfl (XS.iloadN X24.here hx rfl (hb hby d3_32) rfl k)) ?_
          obtain ⟨T25, h25, k25, X25, e25, E25, A25, Q25, st25⟩ := newPE X24 hx hZ (own_w hw 34 rfl) e24 (g := (mkF m 33 #[.val (.ref ao0), .val (.int p1), .val (.int p2), .val (.int (2 : Int32))] [(.int p2), (.int (2 : Int32)), (.ref ar)])) rfl (hb hby d3_33) rfl hs.1 (cap := 31) hs.2 (by decide) (by decide) (by decide) (ad := "[C") (by decide)
          obtain ⟨b25, g25⟩ : ∃ z, z = h17.size := ⟨_, rfl⟩
          rw [← g25] at A25 st25
          rw [← g25] at Q25
          have ne_ao0_b25 : ao0 ≠ b25 := Nat.ne_of_lt (Nat.lt_of_lt_of_le F_ao0_chars.lt (Nat.le_of_eq g25.symm))
          have ne_b0_b25 : b0 ≠ b25 := Nat.ne_of_lt (Nat.lt_of_lt_of_le V_b0.lt (Nat.le_of_eq g25.symm))
          have ne_b1_b25 : b1 ≠ b25 := Nat.ne_of_lt (Nat.lt_of_lt_of_le V_b1.lt (Nat.le_of_eq g25.symm))
          have ne_b2_b25 : b2 ≠ b25 := Nat.ne_of_lt (Nat.lt_of_lt_of_le V_b2.lt (Nat.le_of_eq g25.symm))
          have ne_b3_b25 : b3 ≠ b25 := Nat.ne_of_lt (Nat.lt_of_lt_of_le V_b3.lt (Nat.le_of_eq g25.symm))
          have ne_b7_b25 : b7 ≠ b25 := Nat.ne_of_lt (Nat.lt_of_lt_of_le E_b7.lt (Nat.le_of_eq g25.symm))
          have ne_b16_b25 : b16 ≠ b25 := Nat.ne_of_lt (Nat.lt_of_lt_of_le E_b16.lt (Nat.le_of_eq g25.symm))
          have ne_ar_b25 : ar ≠ b25 := Nat.ne_of_lt (Nat.lt_of_lt_of_le V_ar.lt (Nat.le_of_eq g25.symm))
          have g_b25 : n0 ≤ b25 := Nat.le_trans Zs (Nat.le_of_eq g25.symm)
          have sz_b25 : h0.size ≤ b25 := Nat.le_trans Kp.1 (Nat.le_of_eq g25.symm)
          replace F_ao0_chars := Fld.ext E25 F_ao0_chars
          replace V_b0 := V_b0.ext E25
          replace V_b1 := V_b1.ext E25
          replace V_b2 := V_b2.ext E25
          replace V_b3 := V_b3.ext E25
          replace E_b7 := Exa.ext E25 E_b7
          replace V_b7 := V_b7.ext E25
          replace E_b16 := Exa.ext E25 E_b16
          replace V_b16 := V_b16.ext E25
          replace V_ar := V_ar.ext E25
          replace Zs := Nat.le_trans Zs E25.1
          replace Kp := Kp.ext E25
          have E_b25 := Q25
          have V_b25 : Arv Z h25 b25 k25 .char p2 [] (.int (0 : Int32)) := Arv.new A25 hs.1
          refine own_go (x' := T25.setTop (mkF m 35 #[.val (.ref ao0), .val (.int p1), .val (.int p2), .val (.int (2 : Int32))] [(.ref b25), (.int (2 : Int32)), (.ref ar)])) st25 ?_
          obtain ⟨cl26, Ar26, q26, Sz26, Nn26, Hh26, Gg26⟩ := V_ar
          have hin26 : ¬ ((2 : Int32) < 0 ∨ cl26.slots.size ≤ ((2 : Int32)).toNatClampNeg) := inb_of Sz26 ⟨by decide, by decide⟩
          obtain ⟨T26, h26, X26, e26, W26, st26⟩ := stR X25 hx hZ e25 Ar26 (j := (2 : Int32)) hin26 rfl (Sto.ofVA Ar26 q26 O_ar (Ins.self E_b25)) (g := (mkF m 35 #[.val (.ref ao0), .val (.int p1), .val (.int p2), .val (.int (2 : Int32))] [(.ref b25), (.int (2 : Int32)), (.ref ar)])) rfl rfl (hb hby d3_35)
          refine own_go (x' := T26.setTop (mkF m 36 #[.val (.ref ao0), .val (.int p1), .val (.int p2), .val (.int (2 : Int32))] [])) st26 ?_
          replace F_ao0_chars := Fld.other W26 F_ao0_chars (Or.inl ne_ao0_ar)
          replace V_b0 := V_b0.other W26 ne_b0_ar
          replace V_b1 := V_b1.other W26 ne_b1_ar
          replace V_b2 := V_b2.other W26 ne_b2_ar
          replace V_b3 := V_b3.other W26 ne_b3_ar
          replace E_b7 := Exa.wr W26 E_b7
          replace V_b7 := V_b7.other W26 (Ne.symm ne_ar_b7)
          replace E_b16 := Exa.wr W26 E_b16
          replace V_b16 := V_b16.other W26 (Ne.symm ne_ar_b16)
          replace E_b25 := Exa.wr W26 E_b25
          replace V_b25 := V_b25.other W26 (Ne.symm ne_ar_b25)
          replace Zs := Nat.le_trans Zs (Keep.of_wr W26).1
          replace Nf := Fr.snoc X26 Nf g_ar
          replace Kp := Kp.wr W26 (Or.inl (by simp))
          have V_ar : Arv Z h26 ar kc (.array .char) (4 : Int32) [(.ref b7), (.ref b16), (.ref b25), (.ref b3)] .null := Arv.set Ar26 q26 Sz26 Nn26 Hh26 Gg26 rfl W26 2 rfl (Nat.le_of_ble_eq_true rfl)
          refine own_go (x' := T26.setTop (mkF m 2 #[.val (.ref ao0), .val (.int p1), .val (.int p2), .val (.int ((2 : Int32) + (1 : Int32)))] [])) (fun _ k => XS.iinc X26.here hx rfl (hb hby d3_36) rfl (l' := #[.val (.ref ao0), .val (.int p1), .val (.int p2), .val (.int ((2 : Int32) + (1 : Int32)))]) rfl (XS.goto X26.here hx rfl (pc0 := 39) (pc' := 2) rfl (hb hby d3_39) (by decide) (by decide) k)) ?_
          rw [show ((2 : Int32) + (1 : Int32)) = (3 : Int32) from by decide +kernel]
          refine own_go (x' := T26.setTop (mkF m 4 #[.val (.ref ao0), .val (.int p1), .val (.int p2), .val (.int (3 : Int32))] [(.int p1), (.int (3 : Int32))])) (fun _ k => XS.iloadN X26.here hx rfl (hb hby d3_2) rfl (XS.iloadN X26.here hx rfl (hb hby d3_3) rfl k)) ?_
          by_cases hc4_27 : (3 : Int32) < p1
          · refine own_go (x' := T26.setTop (mkF m 8 #[.val (.ref ao0), .val (.int p1), .val (.int p2), .val (.int (3 : Int32))] [(.ref ao0)])) (fun _ k => XS.icmpNo X26.here hx rfl (hb hby d3_4) rfl (tlt hc4_27).2.1 (XS.aloadN X26.here hx rfl (hb hby d3_7) rfl rfl k)) ?_
            obtain ⟨T28, X28, e28, st28⟩ := getF X26 hx hZ hown (host := "") (Or.inl (own_w hw 17 rfl)) Via.refl e26 F_ao0_chars (g := (mkF m 8 #[.val (.ref ao0), .val (.int p1), .val (.int p2), .val (.int (3 : Int32))] [(.ref ao0)])) rfl rfl (hb hby d3_8)
            refine own_go (x' := T28.setTop (mkF m 11 #[.val (.ref ao0), .val (.int p1), .val (.int p2), .val (.int (3 : Int32))] [(.ref ar)])) st28 ?_
            refine own_go (x' := T28.setTop (mkF m 12 #[.val (.ref ao0), .val (.int p1), .val (.int p2), .val (.int (3 : Int32))] [(.int (3 : Int32)), (.ref ar)])) (fun _ k => XS.iloadN X28.here hx rfl (hb hby d3_11) rfl k) ?_
            obtain ⟨cl29, Ar29, q29, Sz29, Nn29, Hh29, Gg29⟩ := id V_ar
            have hin29 : ¬ ((3 : Int32) < 0 ∨ cl29.slots.size ≤ ((3 : Int32)).toNatClampNeg) := inb_of Sz29 ⟨by decide, by decide⟩
            refine own_go (x' := T28.setTop (mkF m 13 #[.val (.ref ao0), .val (.int p1), .val (.int p2), .val (.int (3 : Int32))] [(.ref b3)])) (X28.aaload hx (j := (3 : Int32)) (v := (.ref b3)) (Eq.trans (congrArg (fun h_ => h_[_]?) e28) Ar29.1) (State.isArrayOf_alike hZ.alike Ar29.2.1) rfl Ar29.2.2 hin29 (Hh29.at hin29 rfl) (g := (mkF m 12 #[.val (.ref ao0), .val (.int p1), .val (.int p2), .val (.int (3 : Int32))] [(.int (3 : Int32)), (.ref ar)])) rfl rfl (hb hby d3_12)) ?_
            refine own_go (x' := T28.setTop (mkF m 17 #[.val (.ref ao0), .val (.int p1), .val (.int p2), .val (.int (3 : Int32))] [(.ref ao0)])) (fun _ k => XS.ifnullNo X28.here hx rfl (hb hby d3_13) rfl (XS.aloadN X28.here hx rfl (hb hby d3_16) rfl rfl k)) ?_
            obtain ⟨T30, X30, e30, st30⟩ := getF X28 hx hZ hown (host := "") (Or.inl (own_w hw 17 rfl)) Via.refl e28 F_ao0_chars (g := (mkF m 17 #[.val (.ref ao0), .val (.int p1), .val (.int p2), .val (.int (3 : Int32))] [(.ref ao0)])) rfl rfl (hb hby d3_17)
            refine own_go (x' := T30.setTop (mkF m 20 #[.val (.ref ao0), .val (.int p1), .val (.int p2), .val (.int (3 : Int32))] [(.ref ar)])) st30 ?_
            refine own_go (x' := T30.setTop (mkF m 21 #[.val (.ref ao0), .val (.int p1), .val (.int p2), .val (.int (3 : Int32))] [(.int (3 : Int32)), (.ref ar)])) (fun _ k => XS.iloadN X30.here hx rfl (hb hby d3_20) rfl k) ?_
            obtain ⟨cl31, Ar31, q31, Sz31, Nn31, Hh31, Gg31⟩ := id V_ar
            have hin31 : ¬ ((3 : Int32) < 0 ∨ cl31.slots.size ≤ ((3 : Int32)).toNatClampNeg) := inb_of Sz31 ⟨by decide, by decide⟩
            refine own_go (x' := T30.setTop (mkF m 22 #[.val (.ref ao0), .val (.int p1), .val (.int p2), .val (.int (3 : Int32))] [(.ref b3)])) (X30.aaload hx (j := (3 : Int32)) (v := (.ref b3)) (Eq.trans (congrArg (fun h_ => h_[_]?) e30) Ar31.1) (State.isArrayOf_alike hZ.alike Ar31.2.1) rfl Ar31.2.2 hin31 (Hh31.at hin31 rfl) (g := (mkF m 21 #[.val (.ref ao0), .val (.int p1), .val (.int p2), .val (.int (3 : Int32))] [(.int (3 : Int32)), (.ref ar)])) rfl rfl (hb hby d3_21)) ?_
            obtain ⟨cl32, Ar32, -, Sz32, Nn32, -, -⟩ := id V_b3
            refine own_go (x' := T30.setTop (mkF m 23 #[.val (.ref ao0), .val (.int p1), .val (.int p2), .val (.int (3 : Int32))] [(.int n1)])) (fun t k => X30.arraylength hx (Eq.trans (congrArg (fun h_ => h_[_]?) e30) Ar32.1) (State.isArrayOf_alike hZ.alike Ar32.2.1) (g := (mkF m 22 #[.val (.ref ao0), .val (.int p1), .val (.int p2), .val (.int (3 : Int32))] [(.ref b3)])) rfl rfl (hb hby d3_22) t (by rw [len_of Sz32 Nn32]; exact k)) ?_
            refine own_go (x' := T30.setTop (mkF m 28 #[.val (.ref ao0), .val (.int p1), .val (.int p2), .val (.int (3 : Int32))] [(.ref ao0)])) (fun _ k => XS.iloadN X30.here hx rfl (hb hby d3_23) rfl (XS.icmpNo X30.here hx rfl (hb hby d3_24) rfl (tlt hc24).2.1 (XS.aloadN X30.here hx rfl (hb hby d3_27) rfl rfl k))) ?_
            obtain ⟨T33, X33, e33, st33⟩ := getF X30 hx hZ hown (host := "") (Or.inl (own_w hw 17 rfl)) Via.refl e30 F_ao0_chars (g := (mkF m 28 #[.val (.ref ao0), .val (.int p1), .val (.int p2), .val (.int (3 : Int32))] [(.ref ao0)])) rfl rfl (hb hby d3_28)
            refine own_go (x' := T33.setTop (mkF m 31 #[.val (.ref ao0), .val (.int p1), .val (.int p2), .val (.int (3 : Int32))] [(.ref ar)])) st33 ?_
            refine own_go (x' := T33.setTop (mkF m 33 #[.val (.ref ao0), .val (.int p1), .val (.int p2), .val (.int (3 : Int32))] [(.int p2), (.int (3 : Int32)), (.ref ar)])) (fun _ k => XS.iloadN X33.here hx rfl (hb hby d3_31) rfl (XS.iloadN X33.here hx rfl (hb hby d3_32) rfl k)) ?_
            obtain ⟨T34, h34, k34, X34, e34, E34, A34, Q34, st34⟩ := newPE X33 hx hZ (own_w hw 34 rfl) e33 (g := (mkF m 33 #[.val (.ref ao0), .val (.int p1), .val (.int p2), .val (.int (3 : Int32))] [(.int p2), (.int (3 : Int32)), (.ref ar)])) rfl (hb hby d3_33) rfl hs.1 (cap := 31) hs.2 (by decide) (by decide) (by decide) (ad := "[C") (by decide)
            obtain ⟨b34, g34⟩ : ∃ z, z = h26.size := ⟨_, rfl⟩
            rw [← g34] at A34 st34
            rw [← g34] at Q34
            have ne_ao0_b34 : ao0 ≠ b34 := Nat.ne_of_lt (Nat.lt_of_lt_of_le F_ao0_chars.lt (Nat.le_of_eq g34.symm))
            have ne_b0_b34 : b0 ≠ b34 := Nat.ne_of_lt (Nat.lt_of_lt_of_le V_b0.lt (Nat.le_of_eq g34.symm))
            have ne_b1_b34 : b1 ≠ b34 := Nat.ne_of_lt (Nat.lt_of_lt_of_le V_b1.lt (Nat.le_of_eq g34.symm))
            have ne_b2_b34 : b2 ≠ b34 := Nat.ne_of_lt (Nat.lt_of_lt_of_le V_b2.lt (Nat.le_of_eq g34.symm))
            have ne_b3_b34 : b3 ≠ b34 := Nat.ne_of_lt (Nat.lt_of_lt_of_le V_b3.lt (Nat.le_of_eq g34.symm))
            have ne_b7_b34 : b7 ≠ b34 := Nat.ne_of_lt (Nat.lt_of_lt_of_le E_b7.lt (Nat.le_of_eq g34.symm))
            have ne_b16_b34 : b16 ≠ b34 := Nat.ne_of_lt (Nat.lt_of_lt_of_le E_b16.lt (Nat.le_of_eq g34.symm))
            have ne_b25_b34 : b25 ≠ b34 := Nat.ne_of_lt (Nat.lt_of_lt_of_le E_b25.lt (Nat.le_of_eq g34.symm))
            have ne_ar_b34 : ar ≠ b34 := Nat.ne_of_lt (Nat.lt_of_lt_of_le V_ar.lt (Nat.le_of_eq g34.symm))
            have g_b34 : n0 ≤ b34 := Nat.le_trans Zs (Nat.le_of_eq g34.symm)
            have sz_b34 : h0.size ≤ b34 := Nat.le_trans Kp.1 (Nat.le_of_eq g34.symm)
            replace F_ao0_chars := Fld.ext E34 F_ao0_chars
            replace V_b0 := V_b0.ext E34
            replace V_b1 := V_b1.ext E34
            replace V_b2 := V_b2.ext E34
            replace V_b3 := V_b3.ext E34
            replace E_b7 := Exa.ext E34 E_b7
            replace V_b7 := V_b7.ext E34
            replace E_b16 := Exa.ext E34 E_b16
            replace V_b16 := V_b16.ext E34
            replace E_b25 := Exa.ext E34 E_b25
            replace V_b25 := V_b25.ext E34
            replace V_ar := V_ar.ext E34
            replace Zs := Nat.le_trans Zs E34.1
            replace Kp := Kp.ext E34
            have E_b34 := Q34
            have V_b34 : Arv Z h34 b34 k34 .char p2 [] (.int (0 : Int32)) := Arv.new A34 hs.1
            refine own_go (x' := T34.setTop (mkF m 35 #[.val (.ref ao0), .val (.int p1), .val (.int p2), .val (.int (3 : Int32))] [(.ref b34), (.int (3 : Int32)), (.ref ar)])) st34 ?_
            obtain ⟨cl35, Ar35, q35, Sz35, Nn35, Hh35, Gg35⟩ := V_ar
            have hin35 : ¬ ((3 : Int32) < 0 ∨ cl35.slots.size ≤ ((3 : Int32)).toNatClampNeg) := inb_of Sz35 ⟨by decide, by decide⟩
            obtain ⟨T35, h35, X35, e35, W35, st35⟩ := stR X34 hx hZ e34 Ar35 (j := (3 : Int32)) hin35 rfl (Sto.ofVA Ar35 q35 O_ar (Ins.self E_b34)) (g := (mkF m 35 #[.val (.ref ao0), .val (.int p1), .val (.int p2), .val (.int (3 : Int32))] [(.ref b34), (.int (3 : Int32)), (.ref ar)])) rfl rfl (hb hby d3_35)
            refine own_go (x' := T35.setTop (mkF m 36 #[.val (.ref ao0), .val (.int p1), .val (.int p2), .val (.int (3 : Int32))] [])) st35 ?_
            replace F_ao0_chars := Fld.other W35 F_ao0_chars (Or.inl ne_ao0_ar)
            replace V_b0 := V_b0.other W35 ne_b0_ar
            replace V_b1 := V_b1.other W35 ne_b1_ar
            replace V_b2 := V_b2.other W35 ne_b2_ar
            replace V_b3 := V_b3.other W35 ne_b3_ar
            replace E_b7 := Exa.wr W35 E_b7
            replace V_b7 := V_b7.other W35 (Ne.symm ne_ar_b7)
            replace E_b16 := Exa.wr W35 E_b16
            replace V_b16 := V_b16.other W35 (Ne.symm ne_ar_b16)
            replace E_b25 := Exa.wr W35 E_b25
            replace V_b25 := V_b25.other W35 (Ne.symm ne_ar_b25)
            replace E_b34 := Exa.wr W35 E_b34
            replace V_b34 := V_b34.other W35 (Ne.symm ne_ar_b34)
            replace Zs := Nat.le_trans Zs (Keep.of_wr W35).1
            replace Nf := Fr.snoc X35 Nf g_ar
            replace Kp := Kp.wr W35 (Or.inl (by simp))
            have V_ar : Arv Z h35 ar kc (.array .char) (4 : Int32) [(.ref b7), (.ref b16), (.ref b25), (.ref b34)] .null := Arv.set Ar35 q35 Sz35 Nn35 Hh35 Gg35 rfl W35 3 rfl (Nat.le_of_ble_eq_true rfl)
            refine own_go (x' := T35.setTop (mkF m 2 #[.val (.ref ao0), .val (.int p1), .val (.int p2), .val (.int ((3 : Int32) + (1 : Int32)))] [])) (fun _ k => XS.iinc X35.here hx rfl (hb hby d3_36) rfl (l' := #[.val (.ref ao0), .val (.int p1), .val (.int p2), .val (.int ((3 : Int32) + (1 : Int32)))]) rfl (XS.goto X35.here hx rfl (pc0 := 39) (pc' := 2) rfl (hb hby d3_39) (by decide) (by decide) k)) ?_
            rw [show ((3 : Int32) + (1 : Int32)) = (4 : Int32) from by decide +kernel]
            refine own_go (x' := T35.setTop (mkF m 43 #[.val (.ref ao0), .val (.int p1), .val (.int p2), .val (.int (4 : Int32))] [(.ref ao0)])) (fun _ k => XS.iloadN X35.here hx rfl (hb hby d3_2) rfl (XS.iloadN X35.here hx rfl (hb hby d3_3) rfl (XS.icmpYes X35.here hx rfl (pc0 := 4) (pc' := 42) rfl (hb hby d3_4) rfl (flt hu).2.1 (by decide) (by decide) (XS.aloadN X35.here hx rfl (hb hby d3_42) rfl rfl k)))) ?_
            obtain ⟨T36, X36, e36, st36⟩ := getF X35 hx hZ hown (host := "") (Or.inl (own_w hw 17 rfl)) Via.refl e35 F_ao0_chars (g := (mkF m 43 #[.val (.ref ao0), .val (.int p1), .val (.int p2), .val (.int (4 : Int32))] [(.ref ao0)])) rfl rfl (hb hby d3_43)
            refine own_go (x' := T36.setTop (mkF m 46 #[.val (.ref ao0), .val (.int p1), .val (.int p2), .val (.int (4 : Int32))] [(.ref ar)])) st36 ?_
            refine own_retR X36 hx hlk hret rfl rfl (hb hby d3_46) ?_ (by decide) (by decide)
            rw [e36]
            exact ⟨(.ref b7), (.ref b16), (.ref b25), (.ref b34), rfl, Nf, Kp, V_ar, Or.inr ⟨b7, k7, rfl, sz_b7, V_b7, hc4, hc24⟩, Or.inr ⟨b16, k16, rfl, sz_b16, V_b16, hc4_9, hc24⟩, Or.inr ⟨b25, k25, rfl, sz_b25, V_b25, hc4_18, hc24⟩, Or.inr ⟨b34, k34, rfl, sz_b34, V_b34, hc4_27, hc24⟩⟩
          · refine own_go (x' := T26.setTop (mkF m 43 #[.val (.ref ao0), .val (.int p1), .val (.int p2), .val (.int (3 : Int32))] [(.ref ao0)])) (fun _ k => XS.icmpYes X26.here hx rfl (pc0 := 4) (pc' := 42) rfl (hb hby d3_4) rfl (flt hc4_27).2.1 (by decide) (by decide) (XS.aloadN X26.here hx rfl (hb hby d3_42) rfl rfl k)) ?_
            obtain ⟨T37, X37, e37, st37⟩ := getF X26 hx hZ hown (host := "") (Or.inl (own_w hw 17 rfl)) Via.refl e26 F_ao0_chars (g := (mkF m 43 #[.val (.ref ao0), .val (.int p1), .val (.int p2), .val (.int (3 : Int32))] [(.ref ao0)])) rfl rfl (hb hby d3_43)
            refine own_go (x' := T37.setTop (mkF m 46 #[.val (.ref ao0), .val (.int p1), .val (.int p2), .val (.int (3 : Int32))] [(.ref ar)])) st37 ?_
            refine own_retR X37 hx hlk hret rfl rfl (hb hby d3_46) ?_ (by decide) (by decide)
            rw [e37]
            exact ⟨(.ref b7), (.ref b16), (.ref b25), (.ref b3), rfl, Nf, Kp, V_ar, Or.inr ⟨b7, k7, rfl, sz_b7, V_b7, hc4, hc24⟩, Or.inr ⟨b16, k16, rfl, sz_b16, V_b16, hc4_9, hc24⟩, Or.inr ⟨b25, k25, rfl, sz_b25, V_b25, hc4_18, hc24⟩, Or.inl ⟨rfl, Or.inl hc4_27⟩⟩
        · refine own_go (x' := T17.setTop (mkF m 43 #[.val (.ref ao0), .val (.int p1), .val (.int p2), .val (.int (2 : Int32))] [(.ref ao0)])) (fun _ k => XS.icmpYes X17.here hx rfl (pc0 := 4) (pc' := 42) rfl (hb hby d3_4) rfl (flt hc4_18).2.1 (by decide) (by decide) (XS.aloadN X17.here hx rfl (hb hby d3_42) rfl rfl k)) ?_
          obtain ⟨T38, X38, e38, st38⟩ := getF X17 hx hZ hown (host := "") (Or.inl (own_w hw 17 rfl)) Via.refl e17 F_ao0_chars (g := (mkF m 43 #[.val (.ref ao0), .val (.int p1), .val (.int p2), .val (.int (2 : Int32))] [(.ref ao0)])) rfl rfl (hb hby d3_43)
          refine own_go (x' := T38.setTop (mkF m 46 #[.val (.ref ao0), .val (.int p1), .val (.int p2), .val (.int (2 : Int32))] [(.ref ar)])) st38 ?_
          refine own_retR X38 hx hlk hret rfl rfl (hb hby d3_46) ?_ (by decide) (by decide)
          rw [e38]
          exact ⟨(.ref b7), (.ref b16), (.ref b2), (.ref b3), rfl, Nf, Kp, V_ar, Or.inr ⟨b7, k7, rfl, sz_b7, V_b7, hc4, hc24⟩, Or.inr ⟨b16, k16, rfl, sz_b16, V_b16, hc4_9, hc24⟩, Or.inl ⟨rfl, Or.inl hc4_18⟩, Or.inl ⟨rfl, Or.inl (own_le hc4_18 (by decide))⟩⟩
      · refine own_go (x' := T8.setTop (mkF m 43 #[.val (.ref ao0), .val (.int p1), .val (.int p2), .val (.int (1 : Int32))] [(.ref ao0)])) (fun _ k => XS.icmpYes X8.here hx rfl (pc0 := 4) (pc' := 42) rfl (hb hby d3_4) rfl (flt hc4_9).2.1 (by decide) (by decide) (XS.aloadN X8.here hx rfl (hb hby d3_42) rfl rfl k)) ?_
        obtain ⟨T39, X39, e39, st39⟩ := getF X8 hx hZ hown (host := "") (Or.inl (own_w hw 17 rfl)) Via.refl e8 F_ao0_chars (g := (mkF m 43 #[.val (.ref ao0), .val (.int p1), .val (.int p2), .val (.int (1 : Int32))] [(.ref ao0)])) rfl rfl (hb hby d3_43)
        refine own_go (x' := T39.setTop (mkF m 46 #[.val (.ref ao0), .val (.int p1), .val (.int p2), .val (.int (1 : Int32))] [(.ref ar)])) st39 ?_
        refine own_retR X39 hx hlk hret rfl rfl (hb hby d3_46) ?_ (by decide) (by decide)
        rw [e39]
        exact ⟨(.ref b7), (.ref b1), (.ref b2), (.ref b3), rfl, Nf, Kp, V_ar, Or.inr ⟨b7, k7, rfl, sz_b7, V_b7, hc4, hc24⟩, Or.inl ⟨rfl, Or.inl hc4_9⟩, Or.inl ⟨rfl, Or.inl (own_le hc4_9 (by decide))⟩, Or.inl ⟨rfl, Or.inl (own_le hc4_9 (by decide))⟩⟩
    · refine own_go (x' := T3.setTop (mkF m 2 #[.val (.ref ao0), .val (.int p1), .val (.int p2), .val (.int ((0 : Int32) + (1 : Int32)))] [])) (fun _ k => XS.icmpYes X3.here hx rfl (pc0 := 24) (pc' := 36) rfl (hb hby d3_24) rfl (flt hc24).2.1 (by decide) (by decide) (XS.iinc X3.here hx rfl (hb hby d3_36) rfl (l' := #[.val (.ref ao0), .val (.int p1), .val (.int p2), .val (.int ((0 : Int32) + (1 : Int32)))]) rfl (XS.goto X3.here hx rfl (pc0 := 39) (pc' := 2) rfl (hb hby d3_39) (by decide) (by decide) k))) ?_
      rw [show ((0 : Int32) + (1 : Int32)) = (1 : Int32) from by decide +kernel]
      refine own_go (x' := T3.setTop (mkF m 4 #[.val (.ref ao0), .val (.int p1), .val (.int p2), .val (.int (1 : Int32))] [(.int p1), (.int (1 : Int32))])) (fun _ k => XS.iloadN X3.here hx rfl (hb hby d3_2) rfl (XS.iloadN X3.here hx rfl (hb hby d3_3) rfl k)) ?_
      by_cases hc4_40 : (1 : Int32) < p1
      · refine own_go (x' := T3.setTop (mkF m 8 #[.val (.ref ao0), .val (.int p1), .val (.int p2), .val (.int (1 : Int32))] [(.ref ao0)])) (fun _ k => XS.icmpNo X3.here hx rfl (hb hby d3_4) rfl (tlt hc4_40).2.1 (XS.aloadN X3.here hx rfl (hb hby d3_7) rfl rfl k)) ?_
        obtain ⟨T41, X41, e41, st41⟩ := getF X3 hx hZ hown (host := "") (Or.inl (own_w hw 17 rfl)) Via.refl e3 F_ao0_chars (g := (mkF m 8 #[.val (.ref ao0), .val (.int p1), .val (.int p2), .val (.int (1 : Int32))] [(.ref ao0)])) rfl rfl (hb hby d3_8)
        refine own_go (x' := T41.setTop (mkF m 11 #[.val (.ref ao0), .val (.int p1), .val (.int p2), .val (.int (1 : Int32))] [(.ref ar)])) st41 ?_
        refine own_go (x' := T41.setTop (mkF m 12 #[.val (.ref ao0), .val (.int p1), .val (.int p2), .val (.int (1 : Int32))] [(.int (1 : Int32)), (.ref ar)])) (fun _ k => XS.iloadN X41.here hx rfl (hb hby d3_11) rfl k) ?_
        obtain ⟨cl42, Ar42, q42, Sz42, Nn42, Hh42, Gg42⟩ := id V_ar
        have hin42 : ¬ ((1 : Int32) < 0 ∨ cl42.slots.size ≤ ((1 : Int32)).toNatClampNeg) := inb_of Sz42 ⟨by decide, by decide⟩
        refine own_go (x' := T41.setTop (mkF m 13 #[.val (.ref ao0), .val (.int p1), .val (.int p2), .val (.int (1 : Int32))] [(.ref b1)])) (X41.aaload hx (j := (1 : Int32)) (v := (.ref b1)) (Eq.trans (congrArg (fun h_ => h_[_]?) e41) Ar42.1) (State.isArrayOf_alike hZ.alike Ar42.2.1) rfl Ar42.2.2 hin42 (Hh42.at hin42 rfl) (g := (mkF m 12 #[.val (.ref ao0), .val (.int p1), .val (.int p2), .val (.int (1 : Int32))] [(.int (1 : Int32)), (.ref ar)])) rfl rfl (hb hby d3_12)) ?_
        refine own_go (x' := T41.setTop (mkF m 17 #[.val (.ref ao0), .val (.int p1), .val (.int p2), .val (.int (1 : Int32))] [(.ref ao0)])) (fun _ k => XS.ifnullNo X41.here hx rfl (hb hby d3_13) rfl (XS.aloadN X41.here hx rfl (hb hby d3_16) rfl rfl k)) ?_
        obtain ⟨T43, X43, e43, st43⟩ := getF X41 hx hZ hown (host := "") (Or.inl (own_w hw 17 rfl)) Via.refl e41 F_ao0_chars (g := (mkF m 17 #[.val (.ref ao0), .val (.int p1), .val (.int p2), .val (.int (1 : Int32))] [(.ref ao0)])) rfl rfl (hb hby d3_17)
        refine own_go (x' := T43.setTop (mkF m 20 #[.val (.ref ao0), .val (.int p1), .val (.int p2), .val (.int (1 : Int32))] [(.ref ar)])) st43 ?_
        refine own_go (x' := T43.setTop (mkF m 21 #[.val (.ref ao0), .val (.int p1), .val (.int p2), .val (.int (1 : Int32))] [(.int (1 : Int32)), (.ref ar)])) (fun _ k => XS.iloadN X43.here hx rfl (hb hby d3_20) rfl k) ?_
        obtain ⟨cl44, Ar44, q44, Sz44, Nn44, Hh44, Gg44⟩ := id V_ar
        have hin44 : ¬ ((1 : Int32) < 0 ∨ cl44.slots.size ≤ ((1 : Int32)).toNatClampNeg) := inb_of Sz44 ⟨by decide, by decide⟩
        refine own_go (x' := T43.setTop (mkF m 22 #[.val (.ref ao0), .val (.int p1), .val (.int p2), .val (.int (1 : Int32))] [(.ref b1)])) (X43.aaload hx (j := (1 : Int32)) (v := (.ref b1)) (Eq.trans (congrArg (fun h_ => h_[_]?) e43) Ar44.1) (State.isArrayOf_alike hZ.alike Ar44.2.1) rfl Ar44.2.2 hin44 (Hh44.at hin44 rfl) (g := (mkF m 21 #[.val (.ref ao0), .val (.int p1), .val (.int p2), .val (.int (1 : Int32))] [(.int (1 : Int32)), (.ref ar)])) rfl rfl (hb hby d3_21)) ?_
        obtain ⟨cl45, Ar45, -, Sz45, Nn45, -, -⟩ := id V_b1
        refine own_go (x' := T43.setTop (mkF m 23 #[.val (.ref ao0), .val (.int p1), .val (.int p2), .val (.int (1 : Int32))] [(.int n1)])) (fun t k => X43.arraylength hx (Eq.trans (congrArg (fun h_ => h_[_]?) e43) Ar45.1) (State.isArrayOf_alike hZ.alike Ar45.2.1) (g := (mkF m 22 #[.val (.ref ao0), .val (.int p1), .val (.int p2), .val (.int (1 : Int32))] [(.ref b1)])) rfl rfl (hb hby d3_22) t (by rw [len_of Sz45 Nn45]; exact k)) ?_
        refine own_go (x' := T43.setTop (mkF m 2 #[.val (.ref ao0), .val (.int p1), .val (.int p2), .val (.int ((1 : Int32) + (1 : Int32)))] [])) (fun _ k => XS.iloadN X43.here hx rfl (hb hby d3_23) rfl (XS.icmpYes X43.here hx rfl (pc0 := 24) (pc' := 36) rfl (hb hby d3_24) rfl (flt hc24).2.1 (by decide) (by decide) (XS.iinc X43.here hx rfl (hb hby d3_36) rfl (l' := #[.val (.ref ao0), .val (.int p1), .val (.int p2), .val (.int ((1 : Int32) + (1 : Int32)))]) rfl (XS.goto X43.here hx rfl (pc0 := 39) (pc' := 2) rfl (hb hby d3_39) (by decide) (by decide) k)))) ?_
        rw [show ((1 : Int32) + (1 : Int32)) = (2 : Int32) from by decide +kernel]
        refine own_go (x' := T43.setTop (mkF m 4 #[.val (.ref ao0), .val (.int p1), .val (.int p2), .val (.int (2 : Int32))] [(.int p1), (.int (2 : Int32))])) (fun _ k => XS.iloadN X43.here hx rfl (hb hby d3_2) rfl (XS.iloadN X43.here hx rfl (hb hby d3_3) rfl k)) ?_
        by_cases hc4_46 : (2 : Int32) < p1
        · refine own_go (x' := T43.setTop (mkF m 8 #[.val (.ref ao0), .val (.int p1), .val (.int p2), .val (.int (2 : Int32))] [(.ref ao0)])) (fun _ k => XS.icmpNo X43.here hx rfl (hb hby d3_4) rfl (tlt hc4_46).2.1 (XS.aloadN X43.here hx rfl (hb hby d3_7) rfl rfl k)) ?_
          obtain ⟨T47, X47, e47, st47⟩ := getF X43 hx hZ hown (host := "") (Or.inl (own_w hw 17 rfl)) Via.refl e43 F_ao0_chars (g := (mkF m 8 #[.val (.ref ao0), .val (.int p1), .val (.int p2), .val (.int (2 : Int32))] [(.ref ao0)])) rfl rfl (hb hby d3_8)
          refine own_go (x' := T47.setTop (mkF m 11 #[.val (.ref ao0), .val (.int p1), .val (.int p2), .val (.int (2 : Int32))] [(.ref ar)])) st47 ?_
          refine own_go (x' := T47.setTop (mkF m 12 #[.val (.ref ao0), .val (.int p1), .val (.int p2), .val (.int (2 : Int32))] [(.int (2 : Int32)), (.ref ar)])) (fun _ k => XS.iloadN X47.here hx rfl (hb hby d3_11) rfl k) ?_
          obtain ⟨cl48, Ar48, q48, Sz48, Nn48, Hh48, Gg48⟩ := id V_ar
          have hin48 : ¬ ((2 : Int32) < 0 ∨ cl48.slots.size ≤ ((2 : Int32)).toNatClampNeg) := inb_of Sz48 ⟨by decide, by decide⟩
          refine own_go (x' := T47.setTop (mkF m 13 #[.val (.ref ao0), .val (.int p1), .val (.int p2), .val (.int (2 : Int32))] [(.ref b2)])) (X47.aaload hx (j := (2 : Int32)) (v := (.ref b2)) (Eq.trans (congrArg (fun h_ => h_[_]?) e47) Ar48.1) (State.isArrayOf_alike hZ.alike Ar48.2.1) rfl Ar48.2.2 hin48 (Hh48.at hin48 rfl) (g := (mkF m 12 #[.val (.ref ao0), .val (.int p1), .val (.int p2), .val (.int (2 : Int32))] [(.int (2 : Int32)), (.ref ar)])) rfl rfl (hb hby d3_12)) ?_
          refine own_go (x' := T47.setTop (mkF m 17 #[.val (.ref ao0), .val (.int p1), .val (.int p2), .val (.int (2 : Int32))] [(.ref ao0)])) (fun _ k => XS.ifnullNo X47.here hx rfl (hb hby d3_13) rfl (XS.aloadN X47.here hx rfl (hb hby d3_16) rfl rfl k)) ?_
          obtain ⟨T49, X49, e49, st49⟩ := getF X47 hx hZ hown (host := "") (Or.inl (own_w hw 17 rfl)) Via.refl e47 F_ao0_chars (g := (mkF m 17 #[.val (.ref ao0), .val (.int p1), .val (.int p2), .val (.int (2 : Int32))] [(.ref ao0)])) rfl rfl (hb hby d3_17)
          refine own_go (x' := T49.setTop (mkF m 20 #[.val (.ref ao0), .val (.int p1), .val (.int p2), .val (.int (2 : Int32))] [(.ref ar)])) st49 ?_
          refine own_go (x' := T49.setTop (mkF m 21 #[.val (.ref ao0), .val (.int p1), .val (.int p2), .val (.int (2 : Int32))] [(.int (2 : Int32)), (.ref ar)])) (fun _ k => XS.iloadN X49.here hx rfl (hb hby d3_20) rfl k) ?_
          obtain ⟨cl50, Ar50, q50, Sz50, Nn50, Hh50, Gg50⟩ := id V_ar
          have hin50 : ¬ ((2 : Int32) < 0 ∨ cl50.slots.size ≤ ((2 : Int32)).toNatClampNeg) := inb_of Sz50 ⟨by decide, by decide⟩
          refine own_go (x' := T49.setTop (mkF m 22 #[.val (.ref ao0), .val (.int p1), .val (.int p2), .val (.int (2 : Int32))] [(.ref b2)])) (X49.aaload hx (j := (2 : Int32)) (v := (.ref b2)) (Eq.trans (congrArg (fun h_ => h_[_]?) e49) Ar50.1) (State.isArrayOf_alike hZ.alike Ar50.2.1) rfl Ar50.2.2 hin50 (Hh50.at hin50 rfl) (g := (mkF m 21 #[.val (.ref ao0), .val (.int p1), .val (.int p2), .val (.int (2 : Int32))] [(.int (2 : Int32)), (.ref ar)])) rfl rfl (hb hby d3_21)) ?_
          obtain ⟨cl51, Ar51, -, Sz51, Nn51, -, -⟩ := id V_b2
          refine own_go (x' := T49.setTop (mkF m 23 #[.val (.ref ao0), .val (.int p1), .val (.int p2), .val (.int (2 : Int32))] [(.int n1)])) (fun t k => X49.arraylength hx (Eq.trans (congrArg (fun h_ => h_[_]?) e49) Ar51.1) (State.isArrayOf_alike hZ.alike Ar51.2.1) (g := (mkF m 22 #[.val (.ref ao0), .val (.int p1), .val (.int p2), .val (.int (2 : Int32))] [(.ref b2)])) rfl rfl (hb hby d3_22) t (by rw [len_of Sz51 Nn51]; exact k)) ?_
          refine own_go (x' := T49.setTop (mkF m 2 #[.val (.ref ao0), .val (.int p1), .val (.int p2), .val (.int ((2 : Int32) + (1 : Int32)))] [])) (fun _ k => XS.iloadN X49.here hx rfl (hb hby d3_23) rfl (XS.icmpYes X49.here hx rfl (pc0 := 24) (pc' := 36) rfl (hb hby d3_24) rfl (flt hc24).2.1 (by decide) (by decide) (XS.iinc X49.here hx rfl (hb hby d3_36) rfl (l' := #[.val (.ref ao0), .val (.int p1), .val (.int p2), .val (.int ((2 : Int32) + (1 : Int32)))]) rfl (XS.goto X49.here hx rfl (pc0 := 39) (pc' := 2) rfl (hb hby d3_39) (by decide) (by decide) k)))) ?_
          rw [show ((2 : Int32) + (1 : Int32)) = (3 : Int32) from by decide +kernel]
          refine own_go (x' := T49.setTop (mkF m 4 #[.val (.ref ao0), .val (.int p1), .val (.int p2), .val (.int (3 : Int32))] [(.int p1), (.int (3 : Int32))])) (fun _ k => XS.iloadN X49.here hx rfl (hb hby d3_2) rfl (XS.iloadN X49.here hx rfl (hb hby d3_3) rfl k)) ?_
          by_cases hc4_52 : (3 : Int32) < p1
          · refine own_go (x' := T49.setTop (mkF m 8 #[.val (.ref ao0), .val (.int p1), .val (.int p2), .val (.int (3 : Int32))] [(.ref ao0)])) (fun _ k => XS.icmpNo X49.here hx rfl (hb hby d3_4) rfl (tlt hc4_52).2.1 (XS.aloadN X49.here hx rfl (hb hby d3_7) rfl rfl k)) ?_
            obtain ⟨T53, X53, e53, st53⟩ := getF X49 hx hZ hown (host := "") (Or.inl (own_w hw 17 rfl)) Via.refl e49 F_ao0_chars (g := (mkF m 8 #[.val (.ref ao0), .val (.int p1), .val (.int p2), .val (.int (3 : Int32))] [(.ref ao0)])) rfl rfl (hb hby d3_8)
            refine own_go (x' := T53.setTop (mkF m 11 #[.val (.ref ao0), .val (.int p1), .val (.int p2), .val (.int (3 : Int32))] [(.ref ar)])) st53 ?_
            refine own_go (x' := T53.setTop (mkF m 12 #[.val (.ref ao0), .val (.int p1), .val (.int p2), .val (.int (3 : Int32))] [(.int (3 : Int32)), (.ref ar)])) (fun _ k => XS.iloadN X53.here hx rfl (hb hby d3_11) rfl k) ?_
            obtain ⟨cl54, Ar54, q54, Sz54, Nn54, Hh54, Gg54⟩ := id V_ar
            have hin54 : ¬ ((3 : Int32) < 0 ∨ cl54.slots.size ≤ ((3 : Int32)).toNatClampNeg) := inb_of Sz54 ⟨by decide, by decide⟩
            refine own_go (x' := T53.setTop (mkF m 13 #[.val (.ref ao0), .val (.int p1), .val (.int p2), .val (.int (3 : Int32))] [(.ref b3)])) (X53.aaload hx (j := (3 : Int32)) (v := (.ref b3)) (Eq.trans (congrArg (fun h_ => h_[_]?) e53) Ar54.1) (State.isArrayOf_alike hZ.alike Ar54.2.1) rfl Ar54.2.2 hin54 (Hh54.at hin54 rfl) (g := (mkF m 12 #[.val (.ref ao0), .val (.int p1), .val (.int p2), .val (.int (3 : Int32))] [(.int (3 : Int32)), (.ref ar)])) rfl rfl (hb hby d3_12)) ?_
            refine own_go (x' := T53.setTop (mkF m 17 #[.val (.ref ao0), .val (.int p1), .val (.int p2), .val (.int (3 : Int32))] [(.ref ao0)])) (fun _ k => XS.ifnullNo X53.here hx rfl (hb hby d3_13) rfl (XS.aloadN X53.here hx rfl (hb hby d3_16) rfl rfl k)) ?_
            obtain ⟨T55, X55, e55, st55⟩ := getF X53 hx hZ hown (host := "") (Or.inl (own_w hw 17 rfl)) Via.refl e53 F_ao0_chars (g := (mkF m 17 #[.val (.ref ao0), .val (.int p1), .val (.int p2), .val (.int (3 : Int32))] [(.ref ao0)])) rfl rfl (hb hby d3_17)
            refine own_go (x' := T55.setTop (mkF m 20 #[.val (.ref ao0), .val (.int p1), .val (.int p2), .val (.int (3 : Int32))] [(.ref ar)])) st55 ?_
            refine own_go (x' := T55.setTop (mkF m 21 #[.val (.ref ao0), .val (.int p1), .val (.int p2), .val (.int (3 : Int32))] [(.int (3 : Int32)), (.ref ar)])) (fun _ k => XS.iloadN X55.here hx rfl (hb hby d3_20) rfl k) ?_
            obtain ⟨cl56, Ar56, q56, Sz56, Nn56, Hh56, Gg56⟩ := id V_ar
            have hin56 : ¬ ((3 : Int32) < 0 ∨ cl56.slots.size ≤ ((3 : Int32)).toNatClampNeg) := inb_of Sz56 ⟨by decide, by decide⟩
            refine own_go (x' := T55.setTop (mkF m 22 #[.val (.ref ao0), .val (.int p1), .val (.int p2), .val (.int (3 : Int32))] [(.ref b3)])) (X55.aaload hx (j := (3 : Int32)) (v := (.ref b3)) (Eq.trans (congrArg (fun h_ => h_[_]?) e55) Ar56.1) (State.isArrayOf_alike hZ.alike Ar56.2.1) rfl Ar56.2.2 hin56 (Hh56.at hin56 rfl) (g := (mkF m 21 #[.val (.ref ao0), .val (.int p1), .val (.int p2), .val (.int (3 : Int32))] [(.int (3 : Int32)), (.ref ar)])) rfl rfl (hb hby d3_21)) ?_
            obtain ⟨cl57, Ar57, -, Sz57, Nn57, -, -⟩ := id V_b3
            refine own_go (x' := T55.setTop (mkF m 23 #[.val (.ref ao0), .val (.int p1), .val (.int p2), .val (.int (3 : Int32))] [(.int n1)])) (fun t k => X55.arraylength hx (Eq.trans (congrArg (fun h_ => h_[_]?) e55) Ar57.1) (State.isArrayOf_alike hZ.alike Ar57.2.1) (g := (mkF m 22 #[.val (.ref ao0), .val (.int p1), .val (.int p2), .val (.int (3 : Int32))] [(.ref b3)])) rfl rfl (hb hby d3_22) t (by rw [len_of Sz57 Nn57]; exact k)) ?_
            refine own_go (x' := T55.setTop (mkF m 2 #[.val (.ref ao0), .val (.int p1), .val (.int p2), .val (.int ((3 : Int32) + (1 : Int32)))] [])) (fun _ k => XS.iloadN X55.here hx rfl (hb hby d3_23) rfl (XS.icmpYes X55.here hx rfl (pc0 := 24) (pc' := 36) rfl (hb hby d3_24) rfl (flt hc24).2.1 (by decide) (by decide) (XS.iinc X55.here hx rfl (hb hby d3_36) rfl (l' := #[.val (.ref ao0), .val (.int p1), .val (.int p2), .val (.int ((3 : Int32) + (1 : Int32)))]) rfl (XS.goto X55.here hx rfl (pc0 := 39) (pc' := 2) rfl (hb hby d3_39) (by decide) (by decide) k)))) ?_
            rw [show ((3 : Int32) + (1 : Int32)) = (4 : Int32) from by decide +kernel]
            refine own_go (x' := T55.setTop (mkF m 43 #[.val (.ref ao0), .val (.int p1), .val (.int p2), .val (.int (4 : Int32))] [(.ref ao0)])) (fun _ k => XS.iloadN X55.here hx rfl (hb hby d3_2) rfl (XS.iloadN X55.here hx rfl (hb hby d3_3) rfl (XS.icmpYes X55.here hx rfl (pc0 := 4) (pc' := 42) rfl (hb hby d3_4) rfl (flt hu).2.1 (by decide) (by decide) (XS.aloadN X55.here hx rfl (hb hby d3_42) rfl rfl k)))) ?_
            obtain ⟨T58, X58, e58, st58⟩ := getF X55 hx hZ hown (host := "") (Or.inl (own_w hw 17 rfl)) Via.refl e55 F_ao0_chars (g := (mkF m 43 #[.val (.ref ao0), .val (.int p1), .val (.int p2), .val (.int (4 : Int32))] [(.ref ao0)])) rfl rfl (hb hby d3_43)
            refine own_go (x' := T58.setTop (mkF m 46 #[.val (.ref ao0), .val (.int p1), .val (.int p2), .val (.int (4 : Int32))] [(.ref ar)])) st58 ?_
            refine own_retR X58 hx hlk hret rfl rfl (hb hby d3_46) ?_ (by decide) (by decide)
            rw [e58]
            exact ⟨(.ref b0), (.ref b1), (.ref b2), (.ref b3), rfl, Nf, Kp, V_ar, Or.inl ⟨rfl, Or.inr hc24⟩, Or.inl ⟨rfl, Or.inr hc24⟩, Or.inl ⟨rfl, Or.inr hc24⟩, Or.inl ⟨rfl, Or.inr hc24⟩⟩
          · refine own_go (x' := T49.setTop (mkF m 43 #[.val (.ref ao0), .val (.int p1), .val (.int p2), .val (.int (3 : Int32))] [(.ref ao0)])) (fun _ k => XS.icmpYes X49.here hx rfl (pc0 := 4) (pc' := 42) rfl (hb hby d3_4) rfl (flt hc4_52).2.1 (by decide) (by decide) (XS.aloadN X49.here hx rfl (hb hby d3_42) rfl rfl k)) ?_
            obtain ⟨T59, X59, e59, st59⟩ := getF X49 hx hZ hown (host := "") (Or.inl (own_w hw 17 rfl)) Via.refl e49 F_ao0_chars (g := (mkF m 43 #[.val (.ref ao0), .val (.int p1), .val (.int p2), .val (.int (3 : Int32))] [(.ref ao0)])) rfl rfl (hb hby d3_43)
            refine own_go (x' := T59.setTop (mkF m 46 #[.val (.ref ao0), .val (.int p1), .val (.int p2), .val (.int (3 : Int32))] [(.ref ar)])) st59 ?_
            refine own_retR X59 hx hlk hret rfl rfl (hb hby d3_46) ?_ (by decide) (by decide)
            rw [e59]
            exact ⟨(.ref b0), (.ref b1), (.ref b2), (.ref b3), rfl, Nf, Kp, V_ar, Or.inl ⟨rfl, Or.inr hc24⟩, Or.inl ⟨rfl, Or.inr hc24⟩, Or.inl ⟨rfl, Or.inr hc24⟩, Or.inl ⟨rfl, Or.inl hc4_52⟩⟩
        · refine own_go (x' := T43.setTop (mkF m 43 #[.val (.ref ao0), .val (.int p1), .val (.int p2), .val (.int (2 : Int32))] [(.ref ao0)])) (fun _ k => XS.icmpYes X43.here hx rfl (pc0 := 4) (pc' := 42) rfl (hb hby d3_4) rfl (flt hc4_46).2.1 (by decide) (by decide) (XS.aloadN X43.here hx rfl (hb hby d3_42) rfl rfl k)) ?_
          obtain ⟨T60, X60, e60, st60⟩ := getF X43 hx hZ hown (host := "") (Or.inl (own_w hw 17 rfl)) Via.refl e43 F_ao0_chars (g := (mkF m 43 #[.val (.ref ao0), .val (.int p1), .val (.int p2), .val (.int (2 : Int32))] [(.ref ao0)])) rfl rfl (hb hby d3_43)
          refine own_go (x' := T60.setTop (mkF m 46 #[.val (.ref ao0), .val (.int p1), .val (.int p2), .val (.int (2 : Int32))] [(.ref ar)])) st60 ?_
          refine own_retR X60 hx hlk hret rfl rfl (hb hby d3_46) ?_ (by decide) (by decide)
          rw [e60]
          exact ⟨(.ref b0), (.ref b1), (.ref b2), (.ref b3), rfl, Nf, Kp, V_ar, Or.inl ⟨rfl, Or.inr hc24⟩, Or.inl ⟨rfl, Or.inr hc24⟩, Or.inl ⟨rfl, Or.inl hc4_46⟩, Or.inl ⟨rfl, Or.inl (own_le hc4_46 (by decide))⟩⟩
      · refine own_go (x' := T3.setTop (mkF m 43 #[.val (.ref ao0), .val (.int p1), .val (.int p2), .val (.int (1 : Int32))] [(.ref ao0)])) (fun _ k => XS.icmpYes X3.here hx rfl (pc0 := 4) (pc' := 42) rfl (hb hby d3_4) rfl (flt hc4_40).2.1 (by decide) (by decide) (XS.aloadN X3.here hx rfl (hb hby d3_42) rfl rfl k)) ?_
        obtain ⟨T61, X61, e61, st61⟩ := getF X3 hx hZ hown (host := "") (Or.inl (own_w hw 17 rfl)) Via.refl e3 F_ao0_chars (g := (mkF m 43 #[.val (.ref ao0), .val (.int p1), .val (.int p2), .val (.int (1 : Int32))] [(.ref ao0)])) rfl rfl (hb hby d3_43)
        refine own_go (x' := T61.setTop (mkF m 46 #[.val (.ref ao0), .val (.int p1), .val (.int p2), .val (.int (1 : Int32))] [(.ref ar)])) st61 ?_
        refine own_retR X61 hx hlk hret rfl rfl (hb hby d3_46) ?_ (by decide) (by decide)
        rw [e61]
        exact ⟨(.ref b0), (.ref b1), (.ref b2), (.ref b3), rfl, Nf, Kp, V_ar, Or.inl ⟨rfl, Or.inr hc24⟩, Or.inl ⟨rfl, Or.inl hc4_40⟩, Or.inl ⟨rfl, Or.inl (own_le hc4_40 (by decide))⟩, Or.inl ⟨rfl, Or.inl (own_le hc4_40 (by decide))⟩⟩
  · refine own_go (x' := s₁.setTop (mkF m 43 #[.val (.ref ao0), .val (.int p1), .val (.int p2), .val (.int (0 : Int32))] [(.ref ao0)])) (fun _ k => XS.icmpYes X0.here hx rfl (pc0 := 4) (pc' := 42) rfl (hb hby d3_4) rfl (flt hc4).2.1 (by decide) (by decide) (XS.aloadN X0.here hx rfl (hb hby d3_42) rfl rfl k)) ?_
    obtain ⟨T62, X62, e62, st62⟩ := getF X0 hx hZ hown (host := "") (Or.inl (own_w hw 17 rfl)) Via.refl e0 F_ao0_chars (g := (mkF m 43 #[.val (.ref ao0), .val (.int p1), .val (.int p2), .val (.int (0 : Int32))] [(.ref ao0)])) rfl rfl (hb hby d3_43)
    refine own_go (x' := T62.setTop (mkF m 46 #[.val (.ref ao0), .val (.int p1), .val (.int p2), .val (.int (0 : Int32))] [(.ref ar)])) st62 ?_
    refine own_retR X62 hx hlk hret rfl rfl (hb hby d3_46) ?_ (by decide) (by decide)
    rw [e62]
    exact ⟨(.ref b0), (.ref b1), (.ref b2), (.ref b3), rfl, Nf, Kp, V_ar, Or.inl ⟨rfl, Or.inl hc4⟩, Or.inl ⟨rfl, Or.inl (own_le hc4 (by decide))⟩, Or.inl ⟨rfl, Or.inl (own_le hc4 (by decide))⟩, Or.inl ⟨rfl, Or.inl (own_le hc4 (by decide))⟩⟩
theorem d4_0 : decode method_3_code 0 = .ok (.iload_n 1, 1) := by decide +kernel
theorem d4_1 : decode method_3_code 1 = .ok (.iload_n 2, 1) := by decide +kernel
theorem d4_2 : decode method_3_code 2 = .ok (.if_icmp .ge 21, 3) := by decide +kernel
theorem d4_5 : decode method_3_code 5 = .ok (.aload_n 0, 1) := by decide +kernel
theorem d4_6 : decode method_3_code 6 = .ok (.ifnull 13, 3) := by decide +kernel
theorem d4_9 : decode method_3_code 9 = .ok (.aload_n 0, 1) := by decide +kernel
theorem d4_10 : decode method_3_code 10 = .ok (.arraylength, 1) := by decide +kernel
theorem d4_11 : decode method_3_code 11 = .ok (.iload_n 3, 1) := by decide +kernel
theorem d4_12 : decode method_3_code 12 = .ok (.if_icmp .ne 7, 3) := by decide +kernel
theorem d4_15 : decode method_3_code 15 = .ok (.iconst 1, 1) := by decide +kernel
theorem d4_16 : decode method_3_code 16 = .ok (.goto 16, 3) := by decide +kernel
theorem d4_32 : decode method_3_code 32 = .ok (.ireturn, 1) := by decide +kernel
def Q_rm4p (Z : State) (ao0 : Addr) (p1 : Int32) (p2 : Int32) (p3 : Int32) (kc : ClassId) (h0 : Heap) (n0 : Nat) (v : Option Value) (h : Heap) (L : List Loc) : Prop := v = some (.int 1) ∧ Fr n0 L ∧ h = h0
theorem pn_rm4p : plainName "com/example/wee_match/weematch/WindowsCharsPinLaw" = true := by first | (simp [plainName, overriddenIn]; done) | decide +kernel
theorem ef_rm4p (m : MethodId) (x0 : Addr) (x1 : Int32) (x2 : Int32) (x3 : Int32) : entryFrame m #[(.ref x0), (.int x1), (.int x2), (.int x3)] 4 = mkF m 0 #[.val (.ref x0), .val (.int x1), .val (.int x2), .val (.int x3)] [] := by first | (simp [entryFrame, mkF, argsToLocals, Value.category]; done) | rfl
set_option maxRecDepth 65536 in
set_option maxHeartbeats 40000000 in
theorem rm4p (l : Launch) (Z : State) (a0 : Array Value) (hw : ∀ d ∈ tables_1, d.before a0 Z = true) (ws : List Jvm.Cond) (ao0 : Addr) (p1 : Int32) (p2 : Int32) (p3 : Int32) (kc : ClassId) (h0 : Heap) (n0 : Nat) (Z0 : n0 ≤ h0.size) (V_ao0 : Arv Z h0 ao0 kc .char p3 [] (.int (0 : Int32))) (hj : p1 < p2) :
    MetFree l (⟨"com/example/wee_match/weematch/WindowsCharsPinLaw", "made", "([CIII)Z"⟩ : MethodName) (head1 (Jvm.Cond.code (⟨"com/example/wee_match/weematch/WindowsCharsPinLaw", "made", "([CIII)Z"⟩ : MethodName) method_3_code 4 (some .boolean) :: ws) ({ frames := 0, cells := 0, slots := 0, locals := 0 } : Room)) (fun a U => a = #[(.ref ao0), (.int p1), (.int p2), (.int p3)] ∧ Z.Warmed39 U.vm ∧ U.heap = h0) (fun _ _ _ _ _ => True) (fun _ U o U' => ∃ v L, o = .returned v ∧ (Q_rm4p Z ao0 p1 p2 p3 kc h0 n0) v U'.heap L ∧ FrameEnd U o U' L ({ frames := 0, cells := 0, slots := 0, locals := 0 } : Room).cells ({ frames := 0, cells := 0, slots := 0, locals := 0 } : Room).slots) := by
  refine MetFree.of_bodySF (plainFor_of_name pn_rm4p) hisR ?_
  intro p e s m args below meth c s₁ Bd hml0 hP hK
  obtain ⟨rfl, hZ, hh⟩ := hP
  have hx := Bd.exec
  have hby := Bd.bytes
  have hlk := BodyLoose.notSynchronized Bd
  have hret := Bd.returns
  have hml : c.maxLocals = 4 := hml0
  have hown : s.vm.findClass "com/example/wee_match/weematch/WindowsCharsPinLaw" = some m.cls := findClass_of_methodNamed Bd.named
  have hnm := (name_of_methodNamed Bd.named Bd.method).1
  have X0 : Stand p l e ({ frames := 0, cells := 0, slots := 0, locals := 0 } : Room) s m #[(.ref ao0), (.int p1), (.int p2), (.int p3)] below meth c s₁ [] 0 0 := Stand.of_body Bd
  have e0 : s₁.heap = h0 := by rw [← hh, Bd.state]; rfl
  have Nf := Fr.nil n0
  have Zs := Z0
  have Kp : Keep h0 h0 [] := Keep.refl _ _
  show own_End p e below s (Q_rm4p Z ao0 p1 p2 p3 kc h0 n0) ({ frames := 0, cells := 0, slots := 0, locals := 0 } : Room).cells ({ frames := 0, cells := 0, slots := 0, locals := 0 } : Room).slots (s₁.setTop (entryFrame m #[(.ref ao0), (.int p1), (.int p2), (.int p3)] 4))
  refine own_go (x' := s₁.setTop (mkF m 0 #[.val (.ref ao0), .val (.int p1), .val (.int p2), .val (.int p3)] [])) (fun t k => castTop (ef_rm4p m ao0 p1 p2 p3) k) ?_
  refine own_go (x' := s₁.setTop (mkF m 10 #[.val (.ref ao0), .val (.int p1), .val (.int p2), .val (.int p3)] [(.ref ao0)])) (fun _ k => XS.iloadN X0.here hx rfl (hb hby d4_0) rfl (XS.iloadN X0.here hx rfl (hb hby d4_1) rfl (XS.icmpNo X0.here hx rfl (hb hby d4_2) rfl (tlt hj).2.1 (XS.aloadN X0.here hx rfl (hb hby d4_5) rfl rfl (XS.ifnullNo X0.here hx rfl (hb hby d4_6) rfl (XS.aloadN X0.here hx rfl (hb hby d4_9) rfl rfl k)))))) ?_
  obtain ⟨cl1, Ar1, -, Sz1, Nn1, -, -⟩ := id V_ao0
  refine own_go (x' := s₁.setTop (mkF m 11 #[.val (.ref ao0), .val (.int p1), .val (.int p2), .val (.int p3)] [(.int p3)])) (fun t k => X0.arraylength hx (Eq.trans (congrArg (fun h_ => h_[_]?) e0) Ar1.1) (State.isArrayOf_alike hZ.alike Ar1.2.1) (g := (mkF m 10 #[.val (.ref ao0), .val (.int p1), .val (.int p2), .val (.int p3)] [(.ref ao0)])) rfl rfl (hb hby d4_10) t (by rw [len_of Sz1 Nn1]; exact k)) ?_
  refine own_go (x' := s₁.setTop (mkF m 32 #[.val (.ref ao0), .val (.int p1), .val (.int p2), .val (.int p3)] [(.int (1 : Int32))])) (fun _ k => XS.iloadN X0.here hx rfl (hb hby d4_11) rfl (XS.icmpNo X0.here hx rfl (hb hby d4_12) rfl (teq rfl).2 (XS.iconst X0.here hx rfl (hb hby d4_15) (XS.goto X0.here hx rfl (pc0 := 16) (pc' := 32) rfl (hb hby d4_16) (by decide) (by decide) k)))) ?_
  refine own_retN X0 hx hlk (t := .boolean) hret (by simp) (hb hby d4_32) (w := (1 : Int32)) rfl ?_ (by decide) (by decide)
  rw [e0]
  exact ⟨rfl, Nf, rfl⟩
theorem d4_23 : decode method_3_code 23 = .ok (.aload_n 0, 1) := by decide +kernel
theorem d4_24 : decode method_3_code 24 = .ok (.ifnonnull 7, 3) := by decide +kernel
theorem d4_27 : decode method_3_code 27 = .ok (.iconst 1, 1) := by decide +kernel
theorem d4_28 : decode method_3_code 28 = .ok (.goto 4, 3) := by decide +kernel
def Q_rm4n (Z : State) (p1 : Int32) (p2 : Int32) (p3 : Int32) (h0 : Heap) (n0 : Nat) (v : Option Value) (h : Heap) (L : List Loc) : Prop := v = some (.int 1) ∧ Fr n0 L ∧ h = h0
theorem pn_rm4n : plainName "com/example/wee_match/weematch/WindowsCharsPinLaw" = true := by first | (simp [plainName, overriddenIn]; done) | decide +kernel
theorem ef_rm4n (m : MethodId) (x1 : Int32) (x2 : Int32) (x3 : Int32) : entryFrame m #[.null, (.int x1), (.int x2), (.int x3)] 4 = mkF m 0 #[.val .null, .val (.int x1), .val (.int x2), .val (.int x3)] [] := by first | (simp [entryFrame, mkF, argsToLocals, Value.category]; done) | rfl
set_option maxRecDepth 65536 in
set_option maxHeartbeats 40000000 in
theorem rm4n (l : Launch) (Z : State) (a0 : Array Value) (hw : ∀ d ∈ tables_1, d.before a0 Z = true) (ws : List Jvm.Cond) (p1 : Int32) (p2 : Int32) (p3 : Int32) (h0 : Heap) (n0 : Nat) (Z0 : n0 ≤ h0.size) (hj : ¬ p1 < p2) :
    MetFree l (⟨"com/example/wee_match/weematch/WindowsCharsPinLaw", "made", "([CIII)Z"⟩ : MethodName) (head1 (Jvm.Cond.code (⟨"com/example/wee_match/weematch/WindowsCharsPinLaw", "made", "([CIII)Z"⟩ : MethodName) method_3_code 4 (some .boolean) :: ws) ({ frames := 0, cells := 0, slots := 0, locals := 0 } : Room)) (fun a U => a = #[.null, (.int p1), (.int p2), (.int p3)] ∧ Z.Warmed39 U.vm ∧ U.heap = h0) (fun _ _ _ _ _ => True) (fun _ U o U' => ∃ v L, o = .returned v ∧ (Q_rm4n Z p1 p2 p3 h0 n0) v U'.heap L ∧ FrameEnd U o U' L ({ frames := 0, cells := 0, slots := 0, locals := 0 } : Room).cells ({ frames := 0, cells := 0, slots := 0, locals := 0 } : Room).slots) := by
  refine MetFree.of_bodySF (plainFor_of_name pn_rm4n) hisR ?_
  intro p e s m args below meth c s₁ Bd hml0 hP hK
  obtain ⟨rfl, hZ, hh⟩ := hP
  have hx := Bd.exec
  have hby := Bd.bytes
  have hlk := BodyLoose.notSynchronized Bd
  have hret := Bd.returns
  have hml : c.maxLocals = 4 := hml0
  have hown : s.vm.findClass "com/example/wee_match/weematch/WindowsCharsPinLaw" = some m.cls := findClass_of_methodNamed Bd.named
  have hnm := (name_of_methodNamed Bd.named Bd.method).1
  have X0 : Stand p l e ({ frames := 0, cells := 0, slots := 0, locals := 0 } : Room) s m #[.null, (.int p1), (.int p2), (.int p3)] below meth c s₁ [] 0 0 := Stand.of_body Bd
  have e0 : s₁.heap = h0 := by rw [← hh, Bd.state]; rfl
  have Nf := Fr.nil n0
  have Zs := Z0
  have Kp : Keep h0 h0 [] := Keep.refl _ _
  show own_End p e below s (Q_rm4n Z p1 p2 p3 h0 n0) ({ frames := 0, cells := 0, slots := 0, locals := 0 } : Room).cells ({ frames := 0, cells := 0, slots := 0, locals := 0 } : Room).slots (s₁.setTop (entryFrame m #[.null, (.int p1), (.int p2), (.int p3)] 4))
  refine own_go (x' := s₁.setTop (mkF m 0 #[.val .null, .val (.int p1), .val (.int p2), .val (.int p3)] [])) (fun t k => castTop (ef_rm4n m p1 p2 p3) k) ?_
  refine own_go (x' := s₁.setTop (mkF m 28 #[.val .null, .val (.int p1), .val (.int p2), .val (.int p3)] [(.int (1 : Int32))])) (fun _ k => XS.iloadN X0.here hx rfl (hb hby d4_0) rfl (XS.iloadN X0.here hx rfl (hb hby d4_1) rfl (XS.icmpYes X0.here hx rfl (pc0 := 2) (pc' := 23) rfl (hb hby d4_2) rfl (flt hj).2.1 (by decide) (by decide) (XS.aloadN X0.here hx rfl (hb hby d4_23) rfl rfl (XS.ifnonnullNo X0.here hx rfl (hb hby d4_24) rfl (XS.iconst X0.here hx rfl (hb hby d4_27) k)))))) ?_
  refine own_go (x' := s₁.setTop (mkF m 32 #[.val .null, .val (.int p1), .val (.int p2), .val (.int p3)] [(.int (1 : Int32))])) (fun _ k => XS.goto X0.here hx rfl (pc0 := 28) (pc' := 32) rfl (hb hby d4_28) (by decide) (by decide) k) ?_
  refine own_retN X0 hx hlk (t := .boolean) hret (by simp) (hb hby d4_32) (w := (1 : Int32)) rfl ?_ (by decide) (by decide)
  rw [e0]
  exact ⟨rfl, Nf, rfl⟩
theorem d5_0 : decode method_4_code 0 = .ok (.aload_n 0, 1) := by decide +kernel
theorem d5_1 : decode method_4_code 1 = .ok (.ifnull 12, 3) := by decide +kernel
theorem d5_4 : decode method_4_code 4 = .ok (.aload_n 0, 1) := by decide +kernel
theorem d5_5 : decode method_4_code 5 = .ok (.arraylength, 1) := by decide +kernel
theorem d5_6 : decode method_4_code 6 = .ok (.ifCond .le 7, 3) := by decide +kernel
theorem d5_9 : decode method_4_code 9 = .ok (.aload_n 0, 1) := by decide +kernel
theorem d5_10 : decode method_4_code 10 = .ok (.iconst 0, 1) := by decide +kernel
theorem d5_11 : decode method_4_code 11 = .ok (.iload_n 1, 1) := by decide +kernel
theorem d5_12 : decode method_4_code 12 = .ok (.castore, 1) := by decide +kernel
theorem d5_13 : decode method_4_code 13 = .ok (.return_, 1) := by decide +kernel
def Q_rm5p (Z : State) (ao0 : Addr) (p1 : Int32) (n1 : Int32) (kc : ClassId) (h0 : Heap) (n0 : Nat) (v : Option Value) (h : Heap) (L : List Loc) : Prop := v = none ∧ Fr n0 L ∧ Keep h0 h [ao0] ∧ Arv Z h ao0 kc .char n1 [.int p1] (.int (0 : Int32))
theorem pn_rm5p : plainName "com/example/wee_match/weematch/WindowsCharsPinLaw" = true := by first | (simp [plainName, overriddenIn]; done) | decide +kernel
theorem ef_rm5p (m : MethodId) (x0 : Addr) (x1 : Int32) : entryFrame m #[(.ref x0), (.int x1)] 2 = mkF m 0 #[.val (.ref x0), .val (.int x1)] [] := by first | (simp [entryFrame, mkF, argsToLocals, Value.category]; done) | rfl
set_option maxRecDepth 65536 in
set_option maxHeartbeats 40000000 in
theorem rm5p (l : Launch) (Z : State) (a0 : Array Value) (hw : ∀ d ∈ tables_1, d.before a0 Z = true) (ws : List Jvm.Cond) (ao0 : Addr) (p1 : Int32) (n1 : Int32) (kc : ClassId) (h0 : Heap) (n0 : Nat) (Z0 : n0 ≤ h0.size) (V_ao0 : Arv Z h0 ao0 kc .char n1 [] (.int (0 : Int32))) (g_ao0 : n0 ≤ ao0) (hm : 0 ≤ p1.toInt ∧ p1.toInt < 65536) :
    MetFree l (⟨"com/example/wee_match/weematch/WindowsCharsPinLaw", "stamp", "([CC)V"⟩ : MethodName) (head1 (Jvm.Cond.code (⟨"com/example/wee_match/weematch/WindowsCharsPinLaw", "stamp", "([CC)V"⟩ : MethodName) method_4_code 2 none :: ws) ({ frames := 0, cells := 0, slots := 0, locals := 0 } : Room)) (fun a U => a = #[(.ref ao0), (.int p1)] ∧ Z.Warmed39 U.vm ∧ U.heap = h0) (fun _ _ _ _ _ => True) (fun _ U o U' => ∃ v L, o = .returned v ∧ (Q_rm5p Z ao0 p1 n1 kc h0 n0) v U'.heap L ∧ FrameEnd U o U' L ({ frames := 0, cells := 0, slots := 0, locals := 0 } : Room).cells ({ frames := 0, cells := 0, slots := 0, locals := 0 } : Room).slots) := by
  refine MetFree.of_bodySF (plainFor_of_name pn_rm5p) hisR ?_
  intro p e s m args below meth c s₁ Bd hml0 hP hK
  obtain ⟨rfl, hZ, hh⟩ := hP
  have hx := Bd.exec
  have hby := Bd.bytes
  have hlk := BodyLoose.notSynchronized Bd
  have hret := Bd.returns
  have hml : c.maxLocals = 2 := hml0
  have hown : s.vm.findClass "com/example/wee_match/weematch/WindowsCharsPinLaw" = some m.cls := findClass_of_methodNamed Bd.named
  have hnm := (name_of_methodNamed Bd.named Bd.method).1
  have X0 : Stand p l e ({ frames := 0, cells := 0, slots := 0, locals := 0 } : Room) s m #[(.ref ao0), (.int p1)] below meth c s₁ [] 0 0 := Stand.of_body Bd
  have e0 : s₁.heap = h0 := by rw [← hh, Bd.state]; rfl
  have Nf := Fr.nil n0
  have Zs := Z0
  have Kp : Keep h0 h0 [ao0] := Keep.refl _ _
  show own_End p e below s (Q_rm5p Z ao0 p1 n1 kc h0 n0) ({ frames := 0, cells := 0, slots := 0, locals := 0 } : Room).cells ({ frames := 0, cells := 0, slots := 0, locals := 0 } : Room).slots (s₁.setTop (entryFrame m #[(.ref ao0), (.int p1)] 2))
  refine own_go (x' := s₁.setTop (mkF m 0 #[.val (.ref ao0), .val (.int p1)] [])) (fun t k => castTop (ef_rm5p m ao0 p1) k) ?_
  refine own_go (x' := s₁.setTop (mkF m 5 #[.val (.ref ao0), .val (.int p1)] [(.ref ao0)])) (fun _ k => XS.aloadN X0.here hx rfl (hb hby d5_0) rfl rfl (XS.ifnullNo X0.here hx rfl (hb hby d5_1) rfl (XS.aloadN X0.here hx rfl (hb hby d5_4) rfl rfl k))) ?_
  obtain ⟨cl1, Ar1, -, Sz1, Nn1, -, -⟩ := id V_ao0
  refine own_go (x' := s₁.setTop (mkF m 6 #[.val (.ref ao0), .val (.int p1)] [(.int n1)])) (fun t k => X0.arraylength hx (Eq.trans (congrArg (fun h_ => h_[_]?) e0) Ar1.1) (State.isArrayOf_alike hZ.alike Ar1.2.1) (g := (mkF m 5 #[.val (.ref ao0), .val (.int p1)] [(.ref ao0)])) rfl rfl (hb hby d5_5) t (by rw [len_of Sz1 Nn1]; exact k)) ?_
  by_cases hc6 : (0 : Int32) < n1
  · refine own_go (x' := s₁.setTop (mkF m 9 #[.val (.ref ao0), .val (.int p1)] [])) (fun _ k => XS.ifNo X0.here hx rfl (hb hby d5_6) rfl ((if0 _ _).trans (tlt hc6).2.2.2) k) ?_
    replace V_ao0 : Arv Z h0 ao0 kc .char n1 [.int (0 : Int32)] (.int (0 : Int32)) := V_ao0.pad (pad_rep [] (.int (0 : Int32)) 1)
    refine own_go (x' := s₁.setTop (mkF m 12 #[.val (.ref ao0), .val (.int p1)] [(.int p1), (.int (0 : Int32)), (.ref ao0)])) (fun _ k => XS.aloadN X0.here hx rfl (hb hby d5_9) rfl rfl (XS.iconst X0.here hx rfl (hb hby d5_10) (XS.iloadN X0.here hx rfl (hb hby d5_11) rfl k))) ?_
    obtain ⟨cl2, Ar2, q2, Sz2, Nn2, Hh2, Gg2⟩ := V_ao0
    have hin2 : ¬ ((0 : Int32) < 0 ∨ cl2.slots.size ≤ ((0 : Int32)).toNatClampNeg) := inb_of Sz2 ⟨by decide, hc6⟩
    obtain ⟨T2, h2, X2, e2, W2, st2⟩ := stC X0 hx hZ e0 Ar2 (j := (0 : Int32)) hin2 (g := (mkF m 12 #[.val (.ref ao0), .val (.int p1)] [(.int p1), (.int (0 : Int32)), (.ref ao0)])) rfl rfl (hb hby d5_12)
    refine own_go (x' := T2.setTop (mkF m 13 #[.val (.ref ao0), .val (.int p1)] [])) st2 ?_
    replace Zs := Nat.le_trans Zs (Keep.of_wr W2).1
    replace Nf := Fr.snoc X2 Nf g_ao0
    replace Kp := Kp.wr W2 (Or.inl (by simp))
    have V_ao0 : Arv Z h2 ao0 kc .char n1 [(.int (nar .char p1))] (.int (0 : Int32)) := Arv.set Ar2 q2 Sz2 Nn2 Hh2 Gg2 (fits_nar_char _) W2 0 rfl (Nat.le_of_ble_eq_true rfl)
    refine own_retV X2 hx hlk hret (hb hby d5_13) ?_ (by decide) (by decide)
    rw [e2]
    rw [own_nc p1 hm] at V_ao0
    exact ⟨rfl, Nf, Kp, V_ao0⟩
  · refine own_go (x' := s₁.setTop (mkF m 13 #[.val (.ref ao0), .val (.int p1)] [])) (fun _ k => XS.ifYes X0.here hx rfl (pc0 := 6) (pc' := 13) rfl (hb hby d5_6) rfl ((if0 _ _).trans (flt hc6).2.2.2) (by decide) (by decide) k) ?_
    refine own_retV X0 hx hlk hret (hb hby d5_13) ?_ (by decide) (by decide)
    rw [e0]
    exact ⟨rfl, Nf, Kp, own_vac V_ao0 hc6⟩
def Q_rm5n (Z : State) (p1 : Int32) (h0 : Heap) (n0 : Nat) (v : Option Value) (h : Heap) (L : List Loc) : Prop := v = none ∧ Fr n0 L ∧ h = h0
theorem pn_rm5n : plainName "com/example/wee_match/weematch/WindowsCharsPinLaw" = true := by first | (simp [plainName, overriddenIn]; done) | decide +kernel
theorem ef_rm5n (m : MethodId) (x1 : Int32) : entryFrame m #[.null, (.int x1)] 2 = mkF m 0 #[.val .null, .val (.int x1)] [] := by first | (simp [entryFrame, mkF, argsToLocals, Value.category]; done) | rfl
set_option maxRecDepth 65536 in
set_option maxHeartbeats 40000000 in
theorem rm5n (l : Launch) (Z : State) (a0 : Array Value) (hw : ∀ d ∈ tables_1, d.before a0 Z = true) (ws : List Jvm.Cond) (p1 : Int32) (h0 : Heap) (n0 : Nat) (Z0 : n0 ≤ h0.size) :
    MetFree l (⟨"com/example/wee_match/weematch/WindowsCharsPinLaw", "stamp", "([CC)V"⟩ : MethodName) (head1 (Jvm.Cond.code (⟨"com/example/wee_match/weematch/WindowsCharsPinLaw", "stamp", "([CC)V"⟩ : MethodName) method_4_code 2 none :: ws) ({ frames := 0, cells := 0, slots := 0, locals := 0 } : Room)) (fun a U => a = #[.null, (.int p1)] ∧ Z.Warmed39 U.vm ∧ U.heap = h0) (fun _ _ _ _ _ => True) (fun _ U o U' => ∃ v L, o = .returned v ∧ (Q_rm5n Z p1 h0 n0) v U'.heap L ∧ FrameEnd U o U' L ({ frames := 0, cells := 0, slots := 0, locals := 0 } : Room).cells ({ frames := 0, cells := 0, slots := 0, locals := 0 } : Room).slots) := by
  refine MetFree.of_bodySF (plainFor_of_name pn_rm5n) hisR ?_
  intro p e s m args below meth c s₁ Bd hml0 hP hK
  obtain ⟨rfl, hZ, hh⟩ := hP
  have hx := Bd.exec
  have hby := Bd.bytes
  have hlk := BodyLoose.notSynchronized Bd
  have hret := Bd.returns
  have hml : c.maxLocals = 2 := hml0
  have hown : s.vm.findClass "com/example/wee_match/weematch/WindowsCharsPinLaw" = some m.cls := findClass_of_methodNamed Bd.named
  have hnm := (name_of_methodNamed Bd.named Bd.method).1
  have X0 : Stand p l e ({ frames := 0, cells := 0, slots := 0, locals := 0 } : Room) s m #[.null, (.int p1)] below meth c s₁ [] 0 0 := Stand.of_body Bd
  have e0 : s₁.heap = h0 := by rw [← hh, Bd.state]; rfl
  have Nf := Fr.nil n0
  have Zs := Z0
  have Kp : Keep h0 h0 [] := Keep.refl _ _
  show own_End p e below s (Q_rm5n Z p1 h0 n0) ({ frames := 0, cells := 0, slots := 0, locals := 0 } : Room).cells ({ frames := 0, cells := 0, slots := 0, locals := 0 } : Room).slots (s₁.setTop (entryFrame m #[.null, (.int p1)] 2))
  refine own_go (x' := s₁.setTop (mkF m 0 #[.val .null, .val (.int p1)] [])) (fun t k => castTop (ef_rm5n m p1) k) ?_
  refine own_go (x' := s₁.setTop (mkF m 13 #[.val .null, .val (.int p1)] [])) (fun _ k => XS.aloadN X0.here hx rfl (hb hby d5_0) rfl rfl (XS.ifnullYes X0.here hx rfl (pc0 := 1) (pc' := 13) rfl (hb hby d5_1) rfl (by decide) (by decide) k)) ?_
  refine own_retV X0 hx hlk hret (hb hby d5_13) ?_ (by decide) (by decide)
  rw [e0]
  exact ⟨rfl, Nf, rfl⟩
theorem d6_0 : decode method_5_code 0 = .ok (.iload_n 2, 1) := by decide +kernel
theorem d6_1 : decode method_5_code 1 = .ok (.iload_n 3, 1) := by decide +kernel
theorem d6_2 : decode method_5_code 2 = .ok (.if_icmp .ge 14, 3) := by decide +kernel
theorem d6_5 : decode method_5_code 5 = .ok (.aload_n 0, 1) := by decide +kernel
theorem d6_6 : decode method_5_code 6 = .ok (.ifnull 38, 3) := by decide +kernel
theorem d6_9 : decode method_5_code 9 = .ok (.aload_n 0, 1) := by decide +kernel
theorem d6_10 : decode method_5_code 10 = .ok (.arraylength, 1) := by decide +kernel
theorem d6_11 : decode method_5_code 11 = .ok (.iload 4, 2) := by decide +kernel
theorem d6_13 : decode method_5_code 13 = .ok (.if_icmp .lt 31, 3) := by decide +kernel
theorem d6_16 : decode method_5_code 16 = .ok (.aload_n 1, 1) := by decide +kernel
theorem d6_17 : decode method_5_code 17 = .ok (.aload_n 0, 1) := by decide +kernel
theorem d6_18 : decode method_5_code 18 = .ok (.if_acmp .ne 24, 3) := by decide +kernel
theorem d6_21 : decode method_5_code 21 = .ok (.aload_n 0, 1) := by decide +kernel
theorem d6_22 : decode method_5_code 22 = .ok (.ifnull 16, 3) := by decide +kernel
theorem d6_25 : decode method_5_code 25 = .ok (.aload_n 0, 1) := by decide +kernel
theorem d6_26 : decode method_5_code 26 = .ok (.arraylength, 1) := by decide +kernel
theorem d6_27 : decode method_5_code 27 = .ok (.ifCond .eq 11, 3) := by decide +kernel
theorem d6_30 : decode method_5_code 30 = .ok (.aload_n 1, 1) := by decide +kernel
theorem d6_31 : decode method_5_code 31 = .ok (.iconst 0, 1) := by decide +kernel
theorem d6_32 : decode method_5_code 32 = .ok (.caload, 1) := by decide +kernel
theorem d6_33 : decode method_5_code 33 = .ok (.iload 5, 2) := by decide +kernel
theorem d6_35 : decode method_5_code 35 = .ok (.if_icmp .ne 7, 3) := by decide +kernel
theorem d6_38 : decode method_5_code 38 = .ok (.iconst 1, 1) := by decide +kernel
theorem d6_39 : decode method_5_code 39 = .ok (.goto 4, 3) := by decide +kernel
theorem d6_43 : decode method_5_code 43 = .ok (.ireturn, 1) := by decide +kernel
def Q_rm6a (Z : State) (bo : Addr) (jj u nz sz mm : Int32) (kc : ClassId) (h0 : Heap) (n0 : Nat) (v : Option Value) (h : Heap) (L : List Loc) : Prop := v = some (.int 1) ∧ Fr n0 L ∧ h = h0
theorem pn_rm6a : plainName "com/example/wee_match/weematch/WindowsCharsPinLaw" = true := by first | (simp [plainName, overriddenIn]; done) | decide +kernel
theorem ef_rm6a (m : MethodId) (x0 : Addr) (x1 : Addr) (x2 : Int32) (x3 : Int32) (x4 : Int32) (x5 : Int32) : entryFrame m #[(.ref x0), (.ref x1), (.int x2), (.int x3), (.int x4), (.int x5)] 6 = mkF m 0 #[.val (.ref x0), .val (.ref x1), .val (.int x2), .val (.int x3), .val (.int x4), .val (.int x5)] [] := by first | (simp [entryFrame, mkF, argsToLocals, Value.category]; done) | rfl
set_option maxRecDepth 65536 in
set_option maxHeartbeats 40000000 in
theorem rm6a (l : Launch) (Z : State) (a0 : Array Value) (hw : ∀ d ∈ tables_1, d.before a0 Z = true) (ws : List Jvm.Cond) (bo : Addr) (jj u nz sz mm : Int32) (kc : ClassId) (h0 : Heap) (n0 : Nat) (Z0 : n0 ≤ h0.size) (V_bo : Arv Z h0 bo kc .char nz [.int mm] (.int (0 : Int32))) (hor : ¬ jj < u ∨ ¬ nz < sz) :
    MetFree l (⟨"com/example/wee_match/weematch/WindowsCharsPinLaw", "after", "([C[CIIIC)Z"⟩ : MethodName) (head1 (Jvm.Cond.code (⟨"com/example/wee_match/weematch/WindowsCharsPinLaw", "after", "([C[CIIIC)Z"⟩ : MethodName) method_5_code 6 (some .boolean) :: ws) ({ frames := 0, cells := 0, slots := 0, locals := 0 } : Room)) (fun a U => a = #[(.ref bo), (.ref bo), (.int jj), (.int u), (.int sz), (.int mm)] ∧ Z.Warmed39 U.vm ∧ U.heap = h0) (fun _ _ _ _ _ => True) (fun _ U o U' => ∃ v L, o = .returned v ∧ (Q_rm6a Z bo jj u nz sz mm kc h0 n0) v U'.heap L ∧ FrameEnd U o U' L ({ frames := 0, cells := 0, slots := 0, locals := 0 } : Room).cells ({ frames := 0, cells := 0, slots := 0, locals := 0 } : Room).slots) := by
  refine MetFree.of_bodySF (plainFor_of_name pn_rm6a) hisR ?_
  intro p e s m args below meth c s₁ Bd hml0 hP hK
  obtain ⟨rfl, hZ, hh⟩ := hP
  have hx := Bd.exec
  have hby := Bd.bytes
  have hlk := BodyLoose.notSynchronized Bd
  have hret := Bd.returns
  have hml : c.maxLocals = 6 := hml0
  have hown : s.vm.findClass "com/example/wee_match/weematch/WindowsCharsPinLaw" = some m.cls := findClass_of_methodNamed Bd.named
  have hnm := (name_of_methodNamed Bd.named Bd.method).1
  have X0 : Stand p l e ({ frames := 0, cells := 0, slots := 0, locals := 0 } : Room) s m #[(.ref bo), (.ref bo), (.int jj), (.int u), (.int sz), (.int mm)] below meth c s₁ [] 0 0 := Stand.of_body Bd
  have e0 : s₁.heap = h0 := by rw [← hh, Bd.state]; rfl
  have Nf := Fr.nil n0
  have Zs := Z0
  have Kp : Keep h0 h0 [] := Keep.refl _ _
  show own_End p e below s (Q_rm6a Z bo jj u nz sz mm kc h0 n0) ({ frames := 0, cells := 0, slots := 0, locals := 0 } : Room).cells ({ frames := 0, cells := 0, slots := 0, locals := 0 } : Room).slots (s₁.setTop (entryFrame m #[(.ref bo), (.ref bo), (.int jj), (.int u), (.int sz), (.int mm)] 6))
  refine own_go (x' := s₁.setTop (mkF m 0 #[.val (.ref bo), .val (.ref bo), .val (.int jj), .val (.int u), .val (.int sz), .val (.int mm)] [])) (fun t k => castTop (ef_rm6a m bo bo jj u sz mm) k) ?_
  refine own_go (x' := s₁.setTop (mkF m 2 #[.val (.ref bo), .val (.ref bo), .val (.int jj), .val (.int u), .val (.int sz), .val (.int mm)] [(.int u), (.int jj)])) (fun _ k => XS.iloadN X0.here hx rfl (hb hby d6_0) rfl (XS.iloadN X0.here hx rfl (hb hby d6_1) rfl k)) ?_
  by_cases hc2 : jj < u
  · refine own_go (x' := s₁.setTop (mkF m 10 #[.val (.ref bo), .val (.ref bo), .val (.int jj), .val (.int u), .val (.int sz), .val (.int mm)] [(.ref bo)])) (fun _ k => XS.icmpNo X0.here hx rfl (hb hby d6_2) rfl (tlt hc2).2.1 (XS.aloadN X0.here hx rfl (hb hby d6_5) rfl rfl (XS.ifnullNo X0.here hx rfl (hb hby d6_6) rfl (XS.aloadN X0.here hx rfl (hb hby d6_9) rfl rfl k)))) ?_
    obtain ⟨cl1, Ar1, -, Sz1, Nn1, -, -⟩ := id V_bo
    refine own_go (x' := s₁.setTop (mkF m 11 #[.val (.ref bo), .val (.ref bo), .val (.int jj), .val (.int u), .val (.int sz), .val (.int mm)] [(.int nz)])) (fun t k => X0.arraylength hx (Eq.trans (congrArg (fun h_ => h_[_]?) e0) Ar1.1) (State.isArrayOf_alike hZ.alike Ar1.2.1) (g := (mkF m 10 #[.val (.ref bo), .val (.ref bo), .val (.int jj), .val (.int u), .val (.int sz), .val (.int mm)] [(.ref bo)])) rfl rfl (hb hby d6_10) t (by rw [len_of Sz1 Nn1]; exact k)) ?_
    refine own_go (x' := s₁.setTop (mkF m 18 #[.val (.ref bo), .val (.ref bo), .val (.int jj), .val (.int u), .val (.int sz), .val (.int mm)] [(.ref bo), (.ref bo)])) (fun _ k => XS.iload X0.here hx rfl (hb hby d6_11) rfl (XS.icmpNo X0.here hx rfl (hb hby d6_13) rfl (flt (hor.resolve_left fun q => q hc2)).1 (XS.aloadN X0.here hx rfl (hb hby d6_16) rfl rfl (XS.aloadN X0.here hx rfl (hb hby d6_17) rfl rfl k)))) ?_
    refine own_go (x' := s₁.setTop (mkF m 21 #[.val (.ref bo), .val (.ref bo), .val (.int jj), .val (.int u), .val (.int sz), .val (.int mm)] [])) (fun _ k => Jvm.RoadKit.acmp (g := (mkF m 18 #[.val (.ref bo), .val (.ref bo), .val (.int jj), .val (.int u), .val (.int sz), .val (.int mm)] [(.ref bo), (.ref bo)])) X0 hx rfl rfl rfl (pc0 := 18) (pc' := 21) (same := true) rfl (hb hby d6_18) rfl (decide_eq_true rfl) (by decide) (by decide) k) ?_
    refine own_go (x' := s₁.setTop (mkF m 26 #[.val (.ref bo), .val (.ref bo), .val (.int jj), .val (.int u), .val (.int sz), .val (.int mm)] [(.ref bo)])) (fun _ k => XS.aloadN X0.here hx rfl (hb hby d6_21) rfl rfl (XS.ifnullNo X0.here hx rfl (hb hby d6_22) rfl (XS.aloadN X0.here hx rfl (hb hby d6_25) rfl rfl k))) ?_
    obtain ⟨cl2, Ar2, -, Sz2, Nn2, -, -⟩ := id V_bo
    refine own_go (x' := s₁.setTop (mkF m 27 #[.val (.ref bo), .val (.ref bo), .val (.int jj), .val (.int u), .val (.int sz), .val (.int mm)] [(.int nz)])) (fun t k => X0.arraylength hx (Eq.trans (congrArg (fun h_ => h_[_]?) e0) Ar2.1) (State.isArrayOf_alike hZ.alike Ar2.2.1) (g := (mkF m 26 #[.val (.ref bo), .val (.ref bo), .val (.int jj), .val (.int u), .val (.int sz), .val (.int mm)] [(.ref bo)])) rfl rfl (hb hby d6_26) t (by rw [len_of Sz2 Nn2]; exact k)) ?_
    by_cases hc27 : nz = (0 : Int32)
    · refine own_go (x' := s₁.setTop (mkF m 43 #[.val (.ref bo), .val (.ref bo), .val (.int jj), .val (.int u), .val (.int sz), .val (.int mm)] [(.int (1 : Int32))])) (fun _ k => XS.ifYes X0.here hx rfl (pc0 := 27) (pc' := 38) rfl (hb hby d6_27) rfl ((if0 _ _).trans (teq hc27).1) (by decide) (by decide) (XS.iconst X0.here hx rfl (hb hby d6_38) (XS.goto X0.here hx rfl (pc0 := 39) (pc' := 43) rfl (hb hby d6_39) (by decide) (by decide) k))) ?_
      refine own_retN X0 hx hlk (t := .boolean) hret (by simp) (hb hby d6_43) (w := (1 : Int32)) rfl ?_ (by decide) (by decide)
      rw [e0]
      exact ⟨rfl, Nf, rfl⟩
    · refine own_go (x' := s₁.setTop (mkF m 32 #[.val (.ref bo), .val (.ref bo), .val (.int jj), .val (.int u), .val (.int sz), .val (.int mm)] [(.int (0 : Int32)), (.ref bo)])) (fun _ k => XS.ifNo X0.here hx rfl (hb hby d6_27) rfl ((if0 _ _).trans (feq hc27).1) (XS.aloadN X0.here hx rfl (hb hby d6_30) rfl rfl (XS.iconst X0.here hx rfl (hb hby d6_31) k))) ?_
      obtain ⟨cl3, Ar3, q3, Sz3, Nn3, Hh3, Gg3⟩ := id V_bo
      have hin3 : ¬ ((0 : Int32) < 0 ∨ cl3.slots.size ≤ ((0 : Int32)).toNatClampNeg) := inb_of Sz3 ⟨by decide, own_pos Nn3 hc27⟩
      refine own_go (x' := s₁.setTop (mkF m 33 #[.val (.ref bo), .val (.ref bo), .val (.int jj), .val (.int u), .val (.int sz), .val (.int mm)] [(.int mm)])) (X0.caload hx (j := (0 : Int32)) (v := (.int mm)) (Eq.trans (congrArg (fun h_ => h_[_]?) e0) Ar3.1) (State.isArrayOf_alike hZ.alike Ar3.2.1) Ar3.2.2 hin3 (Hh3.at hin3 rfl) (g := (mkF m 32 #[.val (.ref bo), .val (.ref bo), .val (.int jj), .val (.int u), .val (.int sz), .val (.int mm)] [(.int (0 : Int32)), (.ref bo)])) rfl rfl (hb hby d6_32)) ?_
      refine own_go (x' := s₁.setTop (mkF m 43 #[.val (.ref bo), .val (.ref bo), .val (.int jj), .val (.int u), .val (.int sz), .val (.int mm)] [(.int (1 : Int32))])) (fun _ k => XS.iload X0.here hx rfl (hb hby d6_33) rfl (XS.icmpNo X0.here hx rfl (hb hby d6_35) rfl (teq rfl).2 (XS.iconst X0.here hx rfl (hb hby d6_38) (XS.goto X0.here hx rfl (pc0 := 39) (pc' := 43) rfl (hb hby d6_39) (by decide) (by decide) k)))) ?_
      refine own_retN X0 hx hlk (t := .boolean) hret (by simp) (hb hby d6_43) (w := (1 : Int32)) rfl ?_ (by decide) (by decide)
      rw [e0]
      exact ⟨rfl, Nf, rfl⟩
  · refine own_go (x' := s₁.setTop (mkF m 18 #[.val (.ref bo), .val (.ref bo), .val (.int jj), .val (.int u), .val (.int sz), .val (.int mm)] [(.ref bo), (.ref bo)])) (fun _ k => XS.icmpYes X0.here hx rfl (pc0 := 2) (pc' := 16) rfl (hb hby d6_2) rfl (flt hc2).2.1 (by decide) (by decide) (XS.aloadN X0.here hx rfl (hb hby d6_16) rfl rfl (XS.aloadN X0.here hx rfl (hb hby d6_17) rfl rfl k))) ?_
    refine own_go (x' := s₁.setTop (mkF m 21 #[.val (.ref bo), .val (.ref bo), .val (.int jj), .val (.int u), .val (.int sz), .val (.int mm)] [])) (fun _ k => Jvm.RoadKit.acmp (g := (mkF m 18 #[.val (.ref bo), .val (.ref bo), .val (.int jj), .val (.int u), .val (.int sz), .val (.int mm)] [(.ref bo), (.ref bo)])) X0 hx rfl rfl rfl (pc0 := 18) (pc' := 21) (same := true) rfl (hb hby d6_18) rfl (decide_eq_true rfl) (by decide) (by decide) k) ?_
    refine own_go (x' := s₁.setTop (mkF m 26 #[.val (.ref bo), .val (.ref bo), .val (.int jj), .val (.int u), .val (.int sz), .val (.int mm)] [(.ref bo)])) (fun _ k => XS.aloadN X0.here hx rfl (hb hby d6_21) rfl rfl (XS.ifnullNo X0.here hx rfl (hb hby d6_22) rfl (XS.aloadN X0.here hx rfl (hb hby d6_25) rfl rfl k))) ?_
    obtain ⟨cl4, Ar4, -, Sz4, Nn4, -, -⟩ := id V_bo
    refine own_go (x' := s₁.setTop (mkF m 27 #[.val (.ref bo), .val (.ref bo), .val (.int jj), .val (.int u), .val (.int sz), .val (.int mm)] [(.int nz)])) (fun t k => X0.arraylength hx (Eq.trans (congrArg (fun h_ => h_[_]?) e0) Ar4.1) (State.isArrayOf_alike hZ.alike Ar4.2.1) (g := (mkF m 26 #[.val (.ref bo), .val (.ref bo), .val (.int jj), .val (.int u), .val (.int sz), .val (.int mm)] [(.ref bo)])) rfl rfl (hb hby d6_26) t (by rw [len_of Sz4 Nn4]; exact k)) ?_
    by_cases hc27 : nz = (0 : Int32)
    · refine own_go (x' := s₁.setTop (mkF m 43 #[.val (.ref bo), .val (.ref bo), .val (.int jj), .val (.int u), .val (.int sz), .val (.int mm)] [(.int (1 : Int32))])) (fun _ k => XS.ifYes X0.here hx rfl (pc0 := 27) (pc' := 38) rfl (hb hby d6_27) rfl ((if0 _ _).trans (teq hc27).1) (by decide) (by decide) (XS.iconst X0.here hx rfl (hb hby d6_38) (XS.goto X0.here hx rfl (pc0 := 39) (pc' := 43) rfl (hb hby d6_39) (by decide) (by decide) k))) ?_
      refine own_retN X0 hx hlk (t := .boolean) hret (by simp) (hb hby d6_43) (w := (1 : Int32)) rfl ?_ (by decide) (by decide)
      rw [e0]
      exact ⟨rfl, Nf, rfl⟩
    · refine own_go (x' := s₁.setTop (mkF m 32 #[.val (.ref bo), .val (.ref bo), .val (.int jj), .val (.int u), .val (.int sz), .val (.int mm)] [(.int (0 : Int32)), (.ref bo)])) (fun _ k => XS.ifNo X0.here hx rfl (hb hby d6_27) rfl ((if0 _ _).trans (feq hc27).1) (XS.aloadN X0.here hx rfl (hb hby d6_30) rfl rfl (XS.iconst X0.here hx rfl (hb hby d6_31) k))) ?_
      obtain ⟨cl5, Ar5, q5, Sz5, Nn5, Hh5, Gg5⟩ := id V_bo
      have hin5 : ¬ ((0 : Int32) < 0 ∨ cl5.slots.size ≤ ((0 : Int32)).toNatClampNeg) := inb_of Sz5 ⟨by decide, own_pos Nn5 hc27⟩
      refine own_go (x' := s₁.setTop (mkF m 33 #[.val (.ref bo), .val (.ref bo), .val (.int jj), .val (.int u), .val (.int sz), .val (.int mm)] [(.int mm)])) (X0.caload hx (j := (0 : Int32)) (v := (.int mm)) (Eq.trans (congrArg (fun h_ => h_[_]?) e0) Ar5.1) (State.isArrayOf_alike hZ.alike Ar5.2.1) Ar5.2.2 hin5 (Hh5.at hin5 rfl) (g := (mkF m 32 #[.val (.ref bo), .val (.ref bo), .val (.int jj), .val (.int u), .val (.int sz), .val (.int mm)] [(.int (0 : Int32)), (.ref bo)])) rfl rfl (hb hby d6_32)) ?_
      refine own_go (x' := s₁.setTop (mkF m 43 #[.val (.ref bo), .val (.ref bo), .val (.int jj), .val (.int u), .val (.int sz), .val (.int mm)] [(.int (1 : Int32))])) (fun _ k => XS.iload X0.here hx rfl (hb hby d6_33) rfl (XS.icmpNo X0.here hx rfl (hb hby d6_35) rfl (teq rfl).2 (XS.iconst X0.here hx rfl (hb hby d6_38) (XS.goto X0.here hx rfl (pc0 := 39) (pc' := 43) rfl (hb hby d6_39) (by decide) (by decide) k)))) ?_
      refine own_retN X0 hx hlk (t := .boolean) hret (by simp) (hb hby d6_43) (w := (1 : Int32)) rfl ?_ (by decide) (by decide)
      rw [e0]
      exact ⟨rfl, Nf, rfl⟩
theorem d6_44 : decode method_5_code 44 = .ok (.aload_n 1, 1) := by decide +kernel
theorem d6_45 : decode method_5_code 45 = .ok (.ifnull 19, 3) := by decide +kernel
theorem d6_48 : decode method_5_code 48 = .ok (.aload_n 1, 1) := by decide +kernel
theorem d6_49 : decode method_5_code 49 = .ok (.aload_n 0, 1) := by decide +kernel
theorem d6_50 : decode method_5_code 50 = .ok (.if_acmp .eq 14, 3) := by decide +kernel
theorem d6_53 : decode method_5_code 53 = .ok (.aload_n 1, 1) := by decide +kernel
theorem d6_54 : decode method_5_code 54 = .ok (.arraylength, 1) := by decide +kernel
theorem d6_55 : decode method_5_code 55 = .ok (.iload 4, 2) := by decide +kernel
theorem d6_57 : decode method_5_code 57 = .ok (.if_icmp .ne 7, 3) := by decide +kernel
theorem d6_60 : decode method_5_code 60 = .ok (.iconst 1, 1) := by decide +kernel
theorem d6_61 : decode method_5_code 61 = .ok (.goto 4, 3) := by decide +kernel
theorem d6_65 : decode method_5_code 65 = .ok (.ireturn, 1) := by decide +kernel
def Q_rm6b (Z : State) (bo co : Addr) (jj u nz sz mm : Int32) (kc kd : ClassId) (h0 : Heap) (n0 : Nat) (v : Option Value) (h : Heap) (L : List Loc) : Prop := v = some (.int 1) ∧ Fr n0 L ∧ h = h0
theorem pn_rm6b : plainName "com/example/wee_match/weematch/WindowsCharsPinLaw" = true := by first | (simp [plainName, overriddenIn]; done) | decide +kernel
theorem ef_rm6b (m : MethodId) (x0 : Addr) (x1 : Addr) (x2 : Int32) (x3 : Int32) (x4 : Int32) (x5 : Int32) : entryFrame m #[(.ref x0), (.ref x1), (.int x2), (.int x3), (.int x4), (.int x5)] 6 = mkF m 0 #[.val (.ref x0), .val (.ref x1), .val (.int x2), .val (.int x3), .val (.int x4), .val (.int x5)] [] := by first | (simp [entryFrame, mkF, argsToLocals, Value.category]; done) | rfl
set_option maxRecDepth 65536 in
set_option maxHeartbeats 40000000 in
theorem rm6b (l : Launch) (Z : State) (a0 : Array Value) (hw : ∀ d ∈ tables_1, d.before a0 Z = true) (ws : List Jvm.Cond) (bo co : Addr) (jj u nz sz mm : Int32) (kc kd : ClassId) (h0 : Heap) (n0 : Nat) (Z0 : n0 ≤ h0.size) (V_bo : Arv Z h0 bo kc .char nz [.int mm] (.int (0 : Int32))) (V_co : Arv Z h0 co kd .char sz [] (.int (0 : Int32))) (ne_bo_co : bo ≠ co) (h1 : jj < u) (h2 : nz < sz) :
    MetFree l (⟨"com/example/wee_match/weematch/WindowsCharsPinLaw", "after", "([C[CIIIC)Z"⟩ : MethodName) (head1 (Jvm.Cond.code (⟨"com/example/wee_match/weematch/WindowsCharsPinLaw", "after", "([C[CIIIC)Z"⟩ : MethodName) method_5_code 6 (some .boolean) :: ws) ({ frames := 0, cells := 0, slots := 0, locals := 0 } : Room)) (fun a U => a = #[(.ref bo), (.ref co), (.int jj), (.int u), (.int sz), (.int mm)] ∧ Z.Warmed39 U.vm ∧ U.heap = h0) (fun _ _ _ _ _ => True) (fun _ U o U' => ∃ v L, o = .returned v ∧ (Q_rm6b Z bo co jj u nz sz mm kc kd h0 n0) v U'.heap L ∧ FrameEnd U o U' L ({ frames := 0, cells := 0, slots := 0, locals := 0 } : Room).cells ({ frames := 0, cells := 0, slots := 0, locals := 0 } : Room).slots) := by
  refine MetFree.of_bodySF (plainFor_of_name pn_rm6b) hisR ?_
  intro p e s m args below meth c s₁ Bd hml0 hP hK
  obtain ⟨rfl, hZ, hh⟩ := hP
  have hx := Bd.exec
  have hby := Bd.bytes
  have hlk := BodyLoose.notSynchronized Bd
  have hret := Bd.returns
  have hml : c.maxLocals = 6 := hml0
  have hown : s.vm.findClass "com/example/wee_match/weematch/WindowsCharsPinLaw" = some m.cls := findClass_of_methodNamed Bd.named
  have hnm := (name_of_methodNamed Bd.named Bd.method).1
  have X0 : Stand p l e ({ frames := 0, cells := 0, slots := 0, locals := 0 } : Room) s m #[(.ref bo), (.ref co), (.int jj), (.int u), (.int sz), (.int mm)] below meth c s₁ [] 0 0 := Stand.of_body Bd
  have e0 : s₁.heap = h0 := by rw [← hh, Bd.state]; rfl
  have Nf := Fr.nil n0
  have Zs := Z0
  have Kp : Keep h0 h0 [] := Keep.refl _ _
  show own_End p e below s (Q_rm6b Z bo co jj u nz sz mm kc kd h0 n0) ({ frames := 0, cells := 0, slots := 0, locals := 0 } : Room).cells ({ frames := 0, cells := 0, slots := 0, locals := 0 } : Room).slots (s₁.setTop (entryFrame m #[(.ref bo), (.ref co), (.int jj), (.int u), (.int sz), (.int mm)] 6))
  refine own_go (x' := s₁.setTop (mkF m 0 #[.val (.ref bo), .val (.ref co), .val (.int jj), .val (.int u), .val (.int sz), .val (.int mm)] [])) (fun t k => castTop (ef_rm6b m bo co jj u sz mm) k) ?_
  refine own_go (x' := s₁.setTop (mkF m 10 #[.val (.ref bo), .val (.ref co), .val (.int jj), .val (.int u), .val (.int sz), .val (.int mm)] [(.ref bo)])) (fun _ k => XS.iloadN X0.here hx rfl (hb hby d6_0) rfl (XS.iloadN X0.here hx rfl (hb hby d6_1) rfl (XS.icmpNo X0.here hx rfl (hb hby d6_2) rfl (tlt h1).2.1 (XS.aloadN X0.here hx rfl (hb hby d6_5) rfl rfl (XS.ifnullNo X0.here hx rfl (hb hby d6_6) rfl (XS.aloadN X0.here hx rfl (hb hby d6_9) rfl rfl k)))))) ?_
  obtain ⟨cl1, Ar1, -, Sz1, Nn1, -, -⟩ := id V_bo
  refine own_go (x' := s₁.setTop (mkF m 11 #[.val (.ref bo), .val (.ref co), .val (.int jj), .val (.int u), .val (.int sz), .val (.int mm)] [(.int nz)])) (fun t k => X0.arraylength hx (Eq.trans (congrArg (fun h_ => h_[_]?) e0) Ar1.1) (State.isArrayOf_alike hZ.alike Ar1.2.1) (g := (mkF m 10 #[.val (.ref bo), .val (.ref co), .val (.int jj), .val (.int u), .val (.int sz), .val (.int mm)] [(.ref bo)])) rfl rfl (hb hby d6_10) t (by rw [len_of Sz1 Nn1]; exact k)) ?_
  refine own_go (x' := s₁.setTop (mkF m 50 #[.val (.ref bo), .val (.ref co), .val (.int jj), .val (.int u), .val (.int sz), .val (.int mm)] [(.ref bo), (.ref co)])) (fun _ k => XS.iload X0.here hx rfl (hb hby d6_11) rfl (XS.icmpYes X0.here hx rfl (pc0 := 13) (pc' := 44) rfl (hb hby d6_13) rfl (tlt h2).1 (by decide) (by decide) (XS.aloadN X0.here hx rfl (hb hby d6_44) rfl rfl (XS.ifnullNo X0.here hx rfl (hb hby d6_45) rfl (XS.aloadN X0.here hx rfl (hb hby d6_48) rfl rfl (XS.aloadN X0.here hx rfl (hb hby d6_49) rfl rfl k)))))) ?_
  refine own_go (x' := s₁.setTop (mkF m 53 #[.val (.ref bo), .val (.ref co), .val (.int jj), .val (.int u), .val (.int sz), .val (.int mm)] [])) (fun _ k => Jvm.RoadKit.acmp (g := (mkF m 50 #[.val (.ref bo), .val (.ref co), .val (.int jj), .val (.int u), .val (.int sz), .val (.int mm)] [(.ref bo), (.ref co)])) X0 hx rfl rfl rfl (pc0 := 50) (pc' := 53) (same := false) rfl (hb hby d6_50) rfl (decide_eq_false fun q => ne_bo_co (Value.ref.inj q).symm) (by decide) (by decide) k) ?_
  refine own_go (x' := s₁.setTop (mkF m 54 #[.val (.ref bo), .val (.ref co), .val (.int jj), .val (.int u), .val (.int sz), .val (.int mm)] [(.ref co)])) (fun _ k => XS.aloadN X0.here hx rfl (hb hby d6_53) rfl rfl k) ?_
  obtain ⟨cl2, Ar2, -, Sz2, Nn2, -, -⟩ := id V_co
  refine own_go (x' := s₁.setTop (mkF m 55 #[.val (.ref bo), .val (.ref co), .val (.int jj), .val (.int u), .val (.int sz), .val (.int mm)] [(.int sz)])) (fun t k => X0.arraylength hx (Eq.trans (congrArg (fun h_ => h_[_]?) e0) Ar2.1) (State.isArrayOf_alike hZ.alike Ar2.2.1) (g := (mkF m 54 #[.val (.ref bo), .val (.ref co), .val (.int jj), .val (.int u), .val (.int sz), .val (.int mm)] [(.ref co)])) rfl rfl (hb hby d6_54) t (by rw [len_of Sz2 Nn2]; exact k)) ?_
  refine own_go (x' := s₁.setTop (mkF m 65 #[.val (.ref bo), .val (.ref co), .val (.int jj), .val (.int u), .val (.int sz), .val (.int mm)] [(.int (1 : Int32))])) (fun _ k => XS.iload X0.here hx rfl (hb hby d6_55) rfl (XS.icmpNo X0.here hx rfl (hb hby d6_57) rfl (teq rfl).2 (XS.iconst X0.here hx rfl (hb hby d6_60) (XS.goto X0.here hx rfl (pc0 := 61) (pc' := 65) rfl (hb hby d6_61) (by decide) (by decide) k)))) ?_
  refine own_retN X0 hx hlk (t := .boolean) hret (by simp) (hb hby d6_65) (w := (1 : Int32)) rfl ?_ (by decide) (by decide)
  rw [e0]
  exact ⟨rfl, Nf, rfl⟩
def Q_rm6c (Z : State) (jj u sz mm : Int32) (h0 : Heap) (n0 : Nat) (v : Option Value) (h : Heap) (L : List Loc) : Prop := v = some (.int 1) ∧ Fr n0 L ∧ h = h0
theorem pn_rm6c : plainName "com/example/wee_match/weematch/WindowsCharsPinLaw" = true := by first | (simp [plainName, overriddenIn]; done) | decide +kernel
theorem ef_rm6c (m : MethodId) (x2 : Int32) (x3 : Int32) (x4 : Int32) (x5 : Int32) : entryFrame m #[.null, .null, (.int x2), (.int x3), (.int x4), (.int x5)] 6 = mkF m 0 #[.val .null, .val .null, .val (.int x2), .val (.int x3), .val (.int x4), .val (.int x5)] [] := by first | (simp [entryFrame, mkF, argsToLocals, Value.category]; done) | rfl
set_option maxRecDepth 65536 in
set_option maxHeartbeats 40000000 in
theorem rm6c (l : Launch) (Z : State) (a0 : Array Value) (hw : ∀ d ∈ tables_1, d.before a0 Z = true) (ws : List Jvm.Cond) (jj u sz mm : Int32) (h0 : Heap) (n0 : Nat) (Z0 : n0 ≤ h0.size) (h1 : ¬ jj < u) :
    MetFree l (⟨"com/example/wee_match/weematch/WindowsCharsPinLaw", "after", "([C[CIIIC)Z"⟩ : MethodName) (head1 (Jvm.Cond.code (⟨"com/example/wee_match/weematch/WindowsCharsPinLaw", "after", "([C[CIIIC)Z"⟩ : MethodName) method_5_code 6 (some .boolean) :: ws) ({ frames := 0, cells := 0, slots := 0, locals := 0 } : Room)) (fun a U => a = #[.null, .null, (.int jj), (.int u), (.int sz), (.int mm)] ∧ Z.Warmed39 U.vm ∧ U.heap = h0) (fun _ _ _ _ _ => True) (fun _ U o U' => ∃ v L, o = .returned v ∧ (Q_rm6c Z jj u sz mm h0 n0) v U'.heap L ∧ FrameEnd U o U' L ({ frames := 0, cells := 0, slots := 0, locals := 0 } : Room).cells ({ frames := 0, cells := 0, slots := 0, locals := 0 } : Room).slots) := by
  refine MetFree.of_bodySF (plainFor_of_name pn_rm6c) hisR ?_
  intro p e s m args below meth c s₁ Bd hml0 hP hK
  obtain ⟨rfl, hZ, hh⟩ := hP
  have hx := Bd.exec
  have hby := Bd.bytes
  have hlk := BodyLoose.notSynchronized Bd
  have hret := Bd.returns
  have hml : c.maxLocals = 6 := hml0
  have hown : s.vm.findClass "com/example/wee_match/weematch/WindowsCharsPinLaw" = some m.cls := findClass_of_methodNamed Bd.named
  have hnm := (name_of_methodNamed Bd.named Bd.method).1
  have X0 : Stand p l e ({ frames := 0, cells := 0, slots := 0, locals := 0 } : Room) s m #[.null, .null, (.int jj), (.int u), (.int sz), (.int mm)] below meth c s₁ [] 0 0 := Stand.of_body Bd
  have e0 : s₁.heap = h0 := by rw [← hh, Bd.state]; rfl
  have Nf := Fr.nil n0
  have Zs := Z0
  have Kp : Keep h0 h0 [] := Keep.refl _ _
  show own_End p e below s (Q_rm6c Z jj u sz mm h0 n0) ({ frames := 0, cells := 0, slots := 0, locals := 0 } : Room).cells ({ frames := 0, cells := 0, slots := 0, locals := 0 } : Room).slots (s₁.setTop (entryFrame m #[.null, .null, (.int jj), (.int u), (.int sz), (.int mm)] 6))
  refine own_go (x' := s₁.setTop (mkF m 0 #[.val .null, .val .null, .val (.int jj), .val (.int u), .val (.int sz), .val (.int mm)] [])) (fun t k => castTop (ef_rm6c m jj u sz mm) k) ?_
  refine own_go (x' := s₁.setTop (mkF m 18 #[.val .null, .val .null, .val (.int jj), .val (.int u), .val (.int sz), .val (.int mm)] [.null, .null])) (fun _ k => XS.iloadN X0.here hx rfl (hb hby d6_0) rfl (XS.iloadN X0.here hx rfl (hb hby d6_1) rfl (XS.icmpYes X0.here hx rfl (pc0 := 2) (pc' := 16) rfl (hb hby d6_2) rfl (flt h1).2.1 (by decide) (by decide) (XS.aloadN X0.here hx rfl (hb hby d6_16) rfl rfl (XS.aloadN X0.here hx rfl (hb hby d6_17) rfl rfl k))))) ?_
  refine own_go (x' := s₁.setTop (mkF m 21 #[.val .null, .val .null, .val (.int jj), .val (.int u), .val (.int sz), .val (.int mm)] [])) (fun _ k => Jvm.RoadKit.acmp (g := (mkF m 18 #[.val .null, .val .null, .val (.int jj), .val (.int u), .val (.int sz), .val (.int mm)] [.null, .null])) X0 hx rfl rfl rfl (pc0 := 18) (pc' := 21) (same := true) rfl (hb hby d6_18) rfl (decide_eq_true rfl) (by decide) (by decide) k) ?_
  refine own_go (x' := s₁.setTop (mkF m 43 #[.val .null, .val .null, .val (.int jj), .val (.int u), .val (.int sz), .val (.int mm)] [(.int (1 : Int32))])) (fun _ k => XS.aloadN X0.here hx rfl (hb hby d6_21) rfl rfl (XS.ifnullYes X0.here hx rfl (pc0 := 22) (pc' := 38) rfl (hb hby d6_22) rfl (by decide) (by decide) (XS.iconst X0.here hx rfl (hb hby d6_38) (XS.goto X0.here hx rfl (pc0 := 39) (pc' := 43) rfl (hb hby d6_39) (by decide) (by decide) k)))) ?_
  refine own_retN X0 hx hlk (t := .boolean) hret (by simp) (hb hby d6_43) (w := (1 : Int32)) rfl ?_ (by decide) (by decide)
  rw [e0]
  exact ⟨rfl, Nf, rfl⟩
def Q_rm6d (Z : State) (co : Addr) (jj u sz mm : Int32) (kd : ClassId) (h0 : Heap) (n0 : Nat) (v : Option Value) (h : Heap) (L : List Loc) : Prop := v = some (.int 1) ∧ Fr n0 L ∧ h = h0
theorem pn_rm6d : plainName "com/example/wee_match/weematch/WindowsCharsPinLaw" = true := by first | (simp [plainName, overriddenIn]; done) | decide +kernel
theorem ef_rm6d (m : MethodId) (x1 : Addr) (x2 : Int32) (x3 : Int32) (x4 : Int32) (x5 : Int32) : entryFrame m #[.null, (.ref x1), (.int x2), (.int x3), (.int x4), (.int x5)] 6 = mkF m 0 #[.val .null, .val (.ref x1), .val (.int x2), .val (.int x3), .val (.int x4), .val (.int x5)] [] := by first | (simp [entryFrame, mkF, argsToLocals, Value.category]; done) | rfl
set_option maxRecDepth 65536 in
set_option maxHeartbeats 40000000 in
theorem rm6d (l : Launch) (Z : State) (a0 : Array Value) (hw : ∀ d ∈ tables_1, d.before a0 Z = true) (ws : List Jvm.Cond) (co : Addr) (jj u sz mm : Int32) (kd : ClassId) (h0 : Heap) (n0 : Nat) (Z0 : n0 ≤ h0.size) (V_co : Arv Z h0 co kd .char sz [] (.int (0 : Int32))) (h1 : jj < u) :
    MetFree l (⟨"com/example/wee_match/weematch/WindowsCharsPinLaw", "after", "([C[CIIIC)Z"⟩ : MethodName) (head1 (Jvm.Cond.code (⟨"com/example/wee_match/weematch/WindowsCharsPinLaw", "after", "([C[CIIIC)Z"⟩ : MethodName) method_5_code 6 (some .boolean) :: ws) ({ frames := 0, cells := 0, slots := 0, locals := 0 } : Room)) (fun a U => a = #[.null, (.ref co), (.int jj), (.int u), (.int sz), (.int mm)] ∧ Z.Warmed39 U.vm ∧ U.heap = h0) (fun _ _ _ _ _ => True) (fun _ U o U' => ∃ v L, o = .returned v ∧ (Q_rm6d Z co jj u sz mm kd h0 n0) v U'.heap L ∧ FrameEnd U o U' L ({ frames := 0, cells := 0, slots := 0, locals := 0 } : Room).cells ({ frames := 0, cells := 0, slots := 0, locals := 0 } : Room).slots) := by
  refine MetFree.of_bodySF (plainFor_of_name pn_rm6d) hisR ?_
  intro p e s m args below meth c s₁ Bd hml0 hP hK
  obtain ⟨rfl, hZ, hh⟩ := hP
  have hx := Bd.exec
  have hby := Bd.bytes
  have hlk := BodyLoose.notSynchronized Bd
  have hret := Bd.returns
  have hml : c.maxLocals = 6 := hml0
  have hown : s.vm.findClass "com/example/wee_match/weematch/WindowsCharsPinLaw" = some m.cls := findClass_of_methodNamed Bd.named
  have hnm := (name_of_methodNamed Bd.named Bd.method).1
  have X0 : Stand p l e ({ frames := 0, cells := 0, slots := 0, locals := 0 } : Room) s m #[.null, (.ref co), (.int jj), (.int u), (.int sz), (.int mm)] below meth c s₁ [] 0 0 := Stand.of_body Bd
  have e0 : s₁.heap = h0 := by rw [← hh, Bd.state]; rfl
  have Nf := Fr.nil n0
  have Zs := Z0
  have Kp : Keep h0 h0 [] := Keep.refl _ _
  show own_End p e below s (Q_rm6d Z co jj u sz mm kd h0 n0) ({ frames := 0, cells := 0, slots := 0, locals := 0 } : Room).cells ({ frames := 0, cells := 0, slots := 0, locals := 0 } : Room).slots (s₁.setTop (entryFrame m #[.null, (.ref co), (.int jj), (.int u), (.int sz), (.int mm)] 6))
  refine own_go (x' := s₁.setTop (mkF m 0 #[.val .null, .val (.ref co), .val (.int jj), .val (.int u), .val (.int sz), .val (.int mm)] [])) (fun t k => castTop (ef_rm6d m co jj u sz mm) k) ?_
  refine own_go (x' := s₁.setTop (mkF m 45 #[.val .null, .val (.ref co), .val (.int jj), .val (.int u), .val (.int sz), .val (.int mm)] [(.ref co)])) (fun _ k => XS.iloadN X0.here hx rfl (hb hby d6_0) rfl (XS.iloadN X0.here hx rfl (hb hby d6_1) rfl (XS.icmpNo X0.here hx rfl (hb hby d6_2) rfl (tlt h1).2.1 (XS.aloadN X0.here hx rfl (hb hby d6_5) rfl rfl (XS.ifnullYes X0.here hx rfl (pc0 := 6) (pc' := 44) rfl (hb hby d6_6) rfl (by decide) (by decide) (XS.aloadN X0.here hx rfl (hb hby d6_44) rfl rfl k)))))) ?_
  refine own_go (x' := s₁.setTop (mkF m 50 #[.val .null, .val (.ref co), .val (.int jj), .val (.int u), .val (.int sz), .val (.int mm)] [.null, (.ref co)])) (fun _ k => XS.ifnullNo X0.here hx rfl (hb hby d6_45) rfl (XS.aloadN X0.here hx rfl (hb hby d6_48) rfl rfl (XS.aloadN X0.here hx rfl (hb hby d6_49) rfl rfl k))) ?_
  refine own_go (x' := s₁.setTop (mkF m 53 #[.val .null, .val (.ref co), .val (.int jj), .val (.int u), .val (.int sz), .val (.int mm)] [])) (fun _ k => Jvm.RoadKit.acmp (g := (mkF m 50 #[.val .null, .val (.ref co), .val (.int jj), .val (.int u), .val (.int sz), .val (.int mm)] [.null, (.ref co)])) X0 hx rfl rfl rfl (pc0 := 50) (pc' := 53) (same := false) rfl (hb hby d6_50) rfl (decide_eq_false nofun) (by decide) (by decide) k) ?_
  refine own_go (x' := s₁.setTop (mkF m 54 #[.val .null, .val (.ref co), .val (.int jj), .val (.int u), .val (.int sz), .val (.int mm)] [(.ref co)])) (fun _ k => XS.aloadN X0.here hx rfl (hb hby d6_53) rfl rfl k) ?_
  obtain ⟨cl1, Ar1, -, Sz1, Nn1, -, -⟩ := id V_co
  refine own_go (x' := s₁.setTop (mkF m 55 #[.val .null, .val (.ref co), .val (.int jj), .val (.int u), .val (.int sz), .val (.int mm)] [(.int sz)])) (fun t k => X0.arraylength hx (Eq.trans (congrArg (fun h_ => h_[_]?) e0) Ar1.1) (State.isArrayOf_alike hZ.alike Ar1.2.1) (g := (mkF m 54 #[.val .null, .val (.ref co), .val (.int jj), .val (.int u), .val (.int sz), .val (.int mm)] [(.ref co)])) rfl rfl (hb hby d6_54) t (by rw [len_of Sz1 Nn1]; exact k)) ?_
  refine own_go (x' := s₁.setTop (mkF m 65 #[.val .null, .val (.ref co), .val (.int jj), .val (.int u), .val (.int sz), .val (.int mm)] [(.int (1 : Int32))])) (fun _ k => XS.iload X0.here hx rfl (hb hby d6_55) rfl (XS.icmpNo X0.here hx rfl (hb hby d6_57) rfl (teq rfl).2 (XS.iconst X0.here hx rfl (hb hby d6_60) (XS.goto X0.here hx rfl (pc0 := 61) (pc' := 65) rfl (hb hby d6_61) (by decide) (by decide) k)))) ?_
  refine own_retN X0 hx hlk (t := .boolean) hret (by simp) (hb hby d6_65) (w := (1 : Int32)) rfl ?_ (by decide) (by decide)
  rw [e0]
  exact ⟨rfl, Nf, rfl⟩
def own_one (h0 : Heap) (n0 : Nat) (v : Option Value) (h : Heap) (L : List Loc) : Prop := v = some (.int 1) ∧ Fr n0 L ∧ h = h0
theorem rm6p (l : Launch) (Z : State) (a0 : Array Value) (hw : ∀ d ∈ tables_1, d.before a0 Z = true) (ws : List Jvm.Cond) (bo : Addr) (w : Value) (jj u n s mm : Int32) (kc : ClassId) (z0 : Nat) (h0 : Heap) (n0 : Nat) (Z0 : n0 ≤ h0.size) (V_bo : Arv Z h0 bo kc .char n [.int mm] (.int (0 : Int32))) (hb : bo < z0) (R : own_Rp Z h0 z0 w bo jj u n s) :
    MetFree l (⟨"com/example/wee_match/weematch/WindowsCharsPinLaw", "after", "([C[CIIIC)Z"⟩ : MethodName) (head1 (Jvm.Cond.code (⟨"com/example/wee_match/weematch/WindowsCharsPinLaw", "after", "([C[CIIIC)Z"⟩ : MethodName) method_5_code 6 (some .boolean) :: ws) ({ frames := 0, cells := 0, slots := 0, locals := 0 } : Room)) (fun a U => a = #[(.ref bo), w, (.int jj), (.int u), (.int s), (.int mm)] ∧ Z.Warmed39 U.vm ∧ U.heap = h0) (fun _ _ _ _ _ => True) (fun _ U o U' => ∃ v L, o = .returned v ∧ own_one h0 n0 v U'.heap L ∧ FrameEnd U o U' L ({ frames := 0, cells := 0, slots := 0, locals := 0 } : Room).cells ({ frames := 0, cells := 0, slots := 0, locals := 0 } : Room).slots) := by
  rcases R with ⟨rfl, h⟩ | ⟨co, kd, rfl, hz, V_co, h1, h2⟩
  · exact rm6a l Z a0 hw ws bo jj u n s mm kc h0 n0 Z0 V_bo h
  · exact rm6b l Z a0 hw ws bo co jj u n s mm kc kd h0 n0 Z0 V_bo V_co (Nat.ne_of_lt (Nat.lt_of_lt_of_le hb hz)) h1 h2
theorem rm6n (l : Launch) (Z : State) (a0 : Array Value) (hw : ∀ d ∈ tables_1, d.before a0 Z = true) (ws : List Jvm.Cond) (w : Value) (jj u s mm : Int32) (h0 : Heap) (n0 : Nat) (Z0 : n0 ≤ h0.size) (R : own_Rn Z h0 w jj u s) :
    MetFree l (⟨"com/example/wee_match/weematch/WindowsCharsPinLaw", "after", "([C[CIIIC)Z"⟩ : MethodName) (head1 (Jvm.Cond.code (⟨"com/example/wee_match/weematch/WindowsCharsPinLaw", "after", "([C[CIIIC)Z"⟩ : MethodName) method_5_code 6 (some .boolean) :: ws) ({ frames := 0, cells := 0, slots := 0, locals := 0 } : Room)) (fun a U => a = #[.null, w, (.int jj), (.int u), (.int s), (.int mm)] ∧ Z.Warmed39 U.vm ∧ U.heap = h0) (fun _ _ _ _ _ => True) (fun _ U o U' => ∃ v L, o = .returned v ∧ own_one h0 n0 v U'.heap L ∧ FrameEnd U o U' L ({ frames := 0, cells := 0, slots := 0, locals := 0 } : Room).cells ({ frames := 0, cells := 0, slots := 0, locals := 0 } : Room).slots) := by
  rcases R with ⟨rfl, h⟩ | ⟨co, kd, rfl, V_co, h1⟩
  · exact rm6c l Z a0 hw ws jj u s mm h0 n0 Z0 h
  · exact rm6d l Z a0 hw ws co jj u s mm kd h0 n0 Z0 V_co h1
theorem pd_0 : parseMethodDescriptor "()V" = some ⟨[], none⟩ := by decide +kernel
theorem pd_1 : parseMethodDescriptor "(II)[[C" = some ⟨[.int, .int], some (.array (.array .char))⟩ := by decide +kernel
theorem pd_2 : parseMethodDescriptor "([CIII)Z" = some ⟨[(.array .char), .int, .int, .int], some .boolean⟩ := by decide +kernel
theorem pd_3 : parseMethodDescriptor "([CC)V" = some ⟨[(.array .char), .char], none⟩ := by decide +kernel
theorem pd_4 : parseMethodDescriptor "([C[CIIIC)Z" = some ⟨[(.array .char), (.array .char), .int, .int, .int, .char], some .boolean⟩ := by decide +kernel
def Q_rm0 (Z : State) (p0 : Int32) (p1 : Int32) (p2 : Int32) (p3 : Int32) (p4 : Int32) (h0 : Heap) (n0 : Nat) (v : Option Value) (h : Heap) (L : List Loc) : Prop := v = some (.int 1) ∧ Fr n0 L
theorem pn_rm0 : plainName "com/example/wee_match/weematch/WindowsCharsPinLaw" = true := by first | (simp [plainName, overriddenIn]; done) | decide +kernel
theorem ef_rm0 (m : MethodId) (x0 : Int32) (x1 : Int32) (x2 : Int32) (x3 : Int32) (x4 : Int32) : entryFrame m #[(.int x0), (.int x1), (.int x2), (.int x3), (.int x4)] maxLocals = mkF m 0 #[.val (.int x0), .val (.int x1), .val (.int x2), .val (.int x3), .val (.int x4), .unset, .unset, .unset, .unset, .unset, .unset, .unset, .unset, .unset, .unset, .unset, .unset, .unset] [] := by first | (simp [entryFrame, mkF, argsToLocals, Value.category, maxLocals]; done) | rfl
set_option maxRecDepth 65536 in
set_option maxHeartbeats 40000000 in
theorem rm0 (l : Launch) (Z : State) (a0 : Array Value) (hw : ∀ d ∈ tables_1, d.before a0 Z = true) (ws : List Jvm.Cond) (p0 : Int32) (p1 : Int32) (p2 : Int32) (p3 : Int32) (p4 : Int32) (h0 : Heap) (n0 : Nat) (Z0 : n0 ≤ h0.size) :
    MetFree l x (head1 (Jvm.Cond.code x code maxLocals ret :: ws) room_1) (fun a U => a = #[(.int p0), (.int p1), (.int p2), (.int p3), (.int p4)] ∧ Z.Warmed39 U.vm ∧ U.heap = h0) (fun _ _ _ _ _ => True) (fun _ U o U' => ∃ v L, o = .returned v ∧ (Q_rm0 Z p0 p1 p2 p3 p4 h0 n0) v U'.heap L ∧ FrameEnd U o U' L room_1.cells room_1.slots) := by
  refine MetFree.of_bodySF (plainFor_of_name pn_rm0) hisR ?_
  intro p e s m args below meth c s₁ Bd hml0 hP hK
  obtain ⟨rfl, hZ, hh⟩ := hP
  have hx := Bd.exec
  have hby := Bd.bytes
  have hlk := BodyLoose.notSynchronized Bd
  have hret := Bd.returns
  have hml : c.maxLocals = 18 := hml0
  have hown : s.vm.findClass "com/example/wee_match/weematch/WindowsCharsPinLaw" = some m.cls := findClass_of_methodNamed Bd.named
  have hnm := (name_of_methodNamed Bd.named Bd.method).1
  have X0 : Stand p l e room_1 s m #[(.int p0), (.int p1), (.int p2), (.int p3), (.int p4)] below meth c s₁ [] 0 0 := Stand.of_body Bd
  have e0 : s₁.heap = h0 := by rw [← hh, Bd.state]; rfl
  have Nf := Fr.nil n0
  have Zs := Z0
  have Kp : Keep h0 h0 [] := Keep.refl _ _
  show own_End p e below s (Q_rm0 Z p0 p1 p2 p3 p4 h0 n0) room_1.cells room_1.slots (s₁.setTop (entryFrame m #[(.int p0), (.int p1), (.int p2), (.int p3), (.int p4)] maxLocals))
  refine own_go (x' := s₁.setTop (mkF m 0 #[.val (.int p0), .val (.int p1), .val (.int p2), .val (.int p3), .val (.int p4), .unset, .unset, .unset, .unset, .unset, .unset, .unset, .unset, .unset, .unset, .unset, .unset, .unset] [])) (fun t k => castTop (ef_rm0 m p0 p1 p2 p3 p4) k) ?_
  refine own_go (x' := s₁.setTop (mkF m 1 #[.val (.int p0), .val (.int p1), .val (.int p2), .val (.int p3), .val (.int p4), .unset, .unset, .unset, .unset, .unset, .unset, .unset, .unset, .unset, .unset, .unset, .unset, .unset] [(.int p0)])) (fun _ k => XS.iloadN X0.here hx rfl (hb hby at_0) rfl k) ?_
  refine own_go (x' := s₁.setTop (mkF m 3 #[.val (.int p0), .val (.int p1), .val (.int p2), .val (.int p3), .val (.int p4), .unset, .unset, .unset, .unset, .unset, .unset, .unset, .unset, .unset, .unset, .unset, .unset, .unset] [(.int (2147483647 : Int32)), (.int p0)])) (fun t k => X0.ldcInt hx hown (mvT hZ (own_w hw 0 rfl)) (g := (mkF m 1 #[.val (.int p0), .val (.int p1), .val (.int p2), .val (.int p3), .val (.int p4), .unset, .unset, .unset, .unset, .unset, .unset, .unset, .unset, .unset, .unset, .unset, .unset, .unset] [(.int p0)])) rfl (hb hby at_1) t k) ?_
  refine own_go (x' := s₁.setTop (mkF m 11 #[.val (.int p0), .val (.int p1), .val (.int p2), .val (.int p3), .val (.int p4), .val (.int ((p0 &&& (2147483647 : Int32)) % (5 : Int32))), .unset, .unset, .unset, .unset, .unset, .unset, .unset, .unset, .unset, .unset, .unset, .unset] [(.int (31 : Int32)), (.int p1)])) (fun _ k => XS.iand X0.here hx rfl (hb hby at_3) rfl (XS.iconst X0.here hx rfl (hb hby at_4) (iremM X0 hx rfl (hb hby at_5) rfl (by decide) (XS.istore X0.here hx rfl (hb hby at_6) rfl (l' := #[.val (.int p0), .val (.int p1), .val (.int p2), .val (.int p3), .val (.int p4), .val (.int ((p0 &&& (2147483647 : Int32)) % (5 : Int32))), .unset, .unset, .unset, .unset, .unset, .unset, .unset, .unset, .unset, .unset, .unset, .unset]) rfl (XS.iloadN X0.here hx rfl (hb hby at_8) rfl (XS.bipush X0.here hx rfl (hb hby at_9) k)))))) ?_
  refine own_go (x' := s₁.setTop (mkF m 15 #[.val (.int p0), .val (.int p1), .val (.int p2), .val (.int p3), .val (.int p4), .val (.int ((p0 &&& (2147483647 : Int32)) % (5 : Int32))), .val (.int (p1 &&& (31 : Int32))), .unset, .unset, .unset, .unset, .unset, .unset, .unset, .unset, .unset, .unset, .unset] [(.int p2)])) (fun _ k => XS.iand X0.here hx rfl (hb hby at_11) rfl (XS.istore X0.here hx rfl (hb hby at_12) rfl (l' := #[.val (.int p0), .val (.int p1), .val (.int p2), .val (.int p3), .val (.int p4), .val (.int ((p0 &&& (2147483647 : Int32)) % (5 : Int32))), .val (.int (p1 &&& (31 : Int32))), .unset, .unset, .unset, .unset, .unset, .unset, .unset, .unset, .unset, .unset, .unset]) rfl (XS.iloadN X0.here hx rfl (hb hby at_14) rfl k))) ?_
  refine own_go (x' := s₁.setTop (mkF m 17 #[.val (.int p0), .val (.int p1), .val (.int p2), .val (.int p3), .val (.int p4), .val (.int ((p0 &&& (2147483647 : Int32)) % (5 : Int32))), .val (.int (p1 &&& (31 : Int32))), .unset, .unset, .unset, .unset, .unset, .unset, .unset, .unset, .unset, .unset, .unset] [(.int (2147483647 : Int32)), (.int p2)])) (fun t k => X0.ldcInt hx hown (mvT hZ (own_w hw 0 rfl)) (g := (mkF m 15 #[.val (.int p0), .val (.int p1), .val (.int p2), .val (.int p3), .val (.int p4), .val (.int ((p0 &&& (2147483647 : Int32)) % (5 : Int32))), .val (.int (p1 &&& (31 : Int32))), .unset, .unset, .unset, .unset, .unset, .unset, .unset, .unset, .unset, .unset, .unset] [(.int p2)])) rfl (hb hby at_15) t k) ?_
  refine own_go (x' := s₁.setTop (mkF m 25 #[.val (.int p0), .val (.int p1), .val (.int p2), .val (.int p3), .val (.int p4), .val (.int ((p0 &&& (2147483647 : Int32)) % (5 : Int32))), .val (.int (p1 &&& (31 : Int32))), .val (.int ((p2 &&& (2147483647 : Int32)) % (5 : Int32))), .unset, .unset, .unset, .unset, .unset, .unset, .unset, .unset, .unset, .unset] [(.int (31 : Int32)), (.int p3)])) (fun _ k => XS.iand X0.here hx rfl (hb hby at_17) rfl (XS.iconst X0.here hx rfl (hb hby at_18) (iremM X0 hx rfl (hb hby at_19) rfl (by decide) (XS.istore X0.here hx rfl (hb hby at_20) rfl (l' := #[.val (.int p0), .val (.int p1), .val (.int p2), .val (.int p3), .val (.int p4), .val (.int ((p0 &&& (2147483647 : Int32)) % (5 : Int32))), .val (.int (p1 &&& (31 : Int32))), .val (.int ((p2 &&& (2147483647 : Int32)) % (5 : Int32))), .unset, .unset, .unset, .unset, .unset, .unset, .unset, .unset, .unset, .unset]) rfl (XS.iloadN X0.here hx rfl (hb hby at_22) rfl (XS.bipush X0.here hx rfl (hb hby at_23) k)))))) ?_
  refine own_go (x' := s₁.setTop (mkF m 30 #[.val (.int p0), .val (.int p1), .val (.int p2), .val (.int p3), .val (.int p4), .val (.int ((p0 &&& (2147483647 : Int32)) % (5 : Int32))), .val (.int (p1 &&& (31 : Int32))), .val (.int ((p2 &&& (2147483647 : Int32)) % (5 : Int32))), .val (.int (p3 &&& (31 : Int32))), .unset, .unset, .unset, .unset, .unset, .unset, .unset, .unset, .unset] [(.int p4)])) (fun _ k => XS.iand X0.here hx rfl (hb hby at_25) rfl (XS.istore X0.here hx rfl (hb hby at_26) rfl (l' := #[.val (.int p0), .val (.int p1), .val (.int p2), .val (.int p3), .val (.int p4), .val (.int ((p0 &&& (2147483647 : Int32)) % (5 : Int32))), .val (.int (p1 &&& (31 : Int32))), .val (.int ((p2 &&& (2147483647 : Int32)) % (5 : Int32))), .val (.int (p3 &&& (31 : Int32))), .unset, .unset, .unset, .unset, .unset, .unset, .unset, .unset, .unset]) rfl (XS.iload X0.here hx rfl (hb hby at_28) rfl k))) ?_
  refine own_go (x' := s₁.setTop (mkF m 32 #[.val (.int p0), .val (.int p1), .val (.int p2), .val (.int p3), .val (.int p4), .val (.int ((p0 &&& (2147483647 : Int32)) % (5 : Int32))), .val (.int (p1 &&& (31 : Int32))), .val (.int ((p2 &&& (2147483647 : Int32)) % (5 : Int32))), .val (.int (p3 &&& (31 : Int32))), .unset, .unset, .unset, .unset, .unset, .unset, .unset, .unset, .unset] [(.int (65535 : Int32)), (.int p4)])) (fun t k => X0.ldcInt hx hown (mvT hZ (own_w hw 1 rfl)) (g := (mkF m 30 #[.val (.int p0), .val (.int p1), .val (.int p2), .val (.int p3), .val (.int p4), .val (.int ((p0 &&& (2147483647 : Int32)) % (5 : Int32))), .val (.int (p1 &&& (31 : Int32))), .val (.int ((p2 &&& (2147483647 : Int32)) % (5 : Int32))), .val (.int (p3 &&& (31 : Int32))), .unset, .unset, .unset, .unset, .unset, .unset, .unset, .unset, .unset] [(.int p4)])) rfl (hb hby at_30) t k) ?_
  refine own_go (x' := s₁.setTop (mkF m 36 #[.val (.int p0), .val (.int p1), .val (.int p2), .val (.int p3), .val (.int p4), .val (.int ((p0 &&& (2147483647 : Int32)) % (5 : Int32))), .val (.int (p1 &&& (31 : Int32))), .val (.int ((p2 &&& (2147483647 : Int32)) % (5 : Int32))), .val (.int (p3 &&& (31 : Int32))), .val (.int ((p4 &&& (65535 : Int32)).toUInt32.toUInt16.toUInt32.toInt32)), .unset, .unset, .unset, .unset, .unset, .unset, .unset, .unset] [])) (fun _ k => XS.iand X0.here hx rfl (hb hby at_32) rfl (XS.i2c X0.here hx rfl (hb hby at_33) rfl (XS.istore X0.here hx rfl (hb hby at_34) rfl (l' := #[.val (.int p0), .val (.int p1), .val (.int p2), .val (.int p3), .val (.int p4), .val (.int ((p0 &&& (2147483647 : Int32)) % (5 : Int32))), .val (.int (p1 &&& (31 : Int32))), .val (.int ((p2 &&& (2147483647 : Int32)) % (5 : Int32))), .val (.int (p3 &&& (31 : Int32))), .val (.int ((p4 &&& (65535 : Int32)).toUInt32.toUInt16.toUInt32.toInt32)), .unset, .unset, .unset, .unset, .unset, .unset, .unset, .unset]) rfl k))) ?_
  have hs1 := own_l31 p1
  generalize (p1 &&& (31 : Int32)) = s1 at hs1 ⊢
  have hs2 := own_l31 p3
  generalize (p3 &&& (31 : Int32)) = s2 at hs2 ⊢
  have hu2 := own_u4 p2
  generalize ((p2 &&& (2147483647 : Int32)) % (5 : Int32)) = u2 at hu2 ⊢
  have hm9 := own_ch p4
  generalize ((p4 &&& (65535 : Int32)).toUInt32.toUInt16.toUInt32.toInt32) = m9 at hm9 ⊢
  rcases own_m5 p0 with hq | hq | hq | hq | hq
  · rw [hq]
    obtain ⟨T1, h1, X1, e1, E1, A1, D1, -, st1⟩ := newO X0 hx hZ hown (own_w hw 2 rfl) (own_w hw 3 rfl) (own_w hw 4 rfl) e0 (g := (mkF m 36 #[.val (.int p0), .val (.int p1), .val (.int p2), .val (.int p3), .val (.int p4), .val (.int (0 : Int32)), .val (.int s1), .val (.int u2), .val (.int s2), .val (.int m9), .unset, .unset, .unset, .unset, .unset, .unset, .unset, .unset] [])) rfl (hb hby at_36) (by decide) (by decide)
    obtain ⟨b1, g1⟩ : ∃ z, z = h0.size := ⟨_, rfl⟩
    rw [← g1] at A1 D1 st1
    have g_b1 : n0 ≤ b1 := Nat.le_trans Zs (Nat.le_of_eq g1.symm)
    replace Zs := Nat.le_trans Zs E1.1
    have E_b1 := A1
    have F_b1_bytes : Fld Z h1 b1 "com/example/wee_match/weematch/Sieve$Windows" "bytes" "[[B" .null := D1 (Or.inr (own_w hw 14 rfl)) (ty := (.array (.array .byte))) (by decide)
    have F_b1_chars : Fld Z h1 b1 "com/example/wee_match/weematch/Sieve$Windows" "chars" "[[C" .null := D1 (Or.inr (own_w hw 18 rfl)) (ty := (.array (.array .char))) (by decide)
    have F_b1_starts : Fld Z h1 b1 "com/example/wee_match/weematch/Sieve$Windows" "starts" "[I" .null := D1 (Or.inl (own_w hw 21 rfl)) (ty := (.array .int)) (by decide)
    refine own_go (x' := T1.setTop (mkF m 39 #[.val (.int p0), .val (.int p1), .val (.int p2), .val (.int p3), .val (.int p4), .val (.int (0 : Int32)), .val (.int s1), .val (.int u2), .val (.int s2), .val (.int m9), .unset, .unset, .unset, .unset, .unset, .unset, .unset, .unset] [(.ref b1)])) st1 ?_
    refine own_go (x' := T1.setTop (mkF m 40 #[.val (.int p0), .val (.int p1), .val (.int p2), .val (.int p3), .val (.int p4), .val (.int (0 : Int32)), .val (.int s1), .val (.int u2), .val (.int s2), .val (.int m9), .unset, .unset, .unset, .unset, .unset, .unset, .unset, .unset] [(.ref b1), (.ref b1)])) (fun _ k => XS.dup X1.here hx rfl (hb hby at_39) rfl rfl k) ?_
    obtain ⟨_, _, ⟨T2, L2, k2, n2⟩, -, X2, ⟨Lc2, hQ2, l2, y2, z2⟩, st2⟩ := X1.specialBack hx (y := (⟨"com/example/wee_match/weematch/Sieve$Windows", "<init>", "()V"⟩ : MethodName)) rfl hown (mvT hZ (own_w hw 5 rfl)) (mvT hZ (own_w hw 6 rfl)) (mvT hZ (own_w hw 7 rfl)) (by decide) (backOf (W := 1) (rm1 l Z a0 hw [] b1 h1 n0 Zs E_b1 F_b1_bytes F_b1_chars F_b1_starts g_b1) hZ (own_w hw 7 rfl) (own_w hw 4 rfl) (by decide) (by decide)) (g := (mkF m 40 #[.val (.int p0), .val (.int p1), .val (.int p2), .val (.int p3), .val (.int p4), .val (.int (0 : Int32)), .val (.int s1), .val (.int u2), .val (.int s2), .val (.int m9), .unset, .unset, .unset, .unset, .unset, .unset, .unset, .unset] [(.ref b1), (.ref b1)])) rfl (by rw [hml]; rfl) (Steps.refl _) (a := b1) (argsL := []) (rest := [(.ref b1)]) (lenOf pd_0 rfl) rfl (by show 2 * 0 + _ ≤ _; exact Nat.le_of_eq rfl) (hb hby at_40) (fun _ _ => ⟨rfl, e1, (by decide : 1 + 3 ≤ _), (by decide : 7 + 144 ≤ _)⟩)
    dsimp only [Pt.U, Pt.locs, Pt.cells, Pt.slots] at X2 l2 y2 z2 st2 hQ2
    subst l2 y2 z2
    obtain ⟨b2, kc2, hv2, Nq2, K2, sq2, g_b2, Eo2, Fs2, V_b2, O_b2⟩ := hQ2
    subst hv2
    replace Nf := Fr.app Nf Nq2
    have ne_b1_b2 : b1 ≠ b2 := Nat.ne_of_lt (Nat.lt_of_lt_of_le E_b1.lt sq2)
    replace Zs := Nat.le_trans Zs K2.1
    replace E_b1 := Eo2
    replace F_b1_chars := Fs2
    refine own_go (x' := T2.setTop (mkF m 43 #[.val (.int p0), .val (.int p1), .val (.int p2), .val (.int p3), .val (.int p4), .val (.int (0 : Int32)), .val (.int s1), .val (.int u2), .val (.int s2), .val (.int m9), .unset, .unset, .unset, .unset, .unset, .unset, .unset, .unset] [(.ref b1)])) (fun _ k => st2.trans k) ?_
    refine own_go (x' := T2.setTop (mkF m 51 #[.val (.int p0), .val (.int p1), .val (.int p2), .val (.int p3), .val (.int p4), .val (.int (0 : Int32)), .val (.int s1), .val (.int u2), .val (.int s2), .val (.int m9), .val (.ref b1), .unset, .unset, .unset, .unset, .unset, .unset, .unset] [(.int s1), (.int (0 : Int32)), (.ref b1)])) (fun _ k => XS.astore X2.here hx rfl (hb hby at_43) rfl rfl (l' := #[.val (.int p0), .val (.int p1), .val (.int p2), .val (.int p3), .val (.int p4), .val (.int (0 : Int32)), .val (.int s1), .val (.int u2), .val (.int s2), .val (.int m9), .val (.ref b1), .unset, .unset, .unset, .unset, .unset, .unset, .unset]) rfl (XS.aload X2.here hx rfl (hb hby at_45) rfl rfl (XS.iload X2.here hx rfl (hb hby at_47) rfl (XS.iload X2.here hx rfl (hb hby at_49) rfl k)))) ?_
    have q3b_lt := E_b1.lt
    obtain ⟨cq3, kq3, q3a, q3b, q3c⟩ := isOf hZ rfl E_b1
    obtain ⟨_, _, ⟨T3, L3, k3, n3⟩, -, X3, ⟨Lc3, hQ3, l3, y3, z3⟩, st3⟩ := X2.virtualBack hx (y := (⟨"com/example/wee_match/weematch/Sieve$Windows", "chars", "(II)[[C"⟩ : MethodName)) (z := (⟨"com/example/wee_match/weematch/Sieve$Windows", "chars", "(II)[[C"⟩ : MethodName)) hown (mvT hZ (own_w hw 22 rfl)) (mvT hZ (own_w hw 23 rfl)) (notFace_of_selects (args := #[]) (mvT hZ (own_w hw 25 rfl))) (mvT hZ (own_w hw 25 rfl)) (mvT hZ (own_w hw 24 rfl)) (by decide) (backOf (W := 0) (rmF_0 l Z a0 hw [] b1 s1 b2 kc2 T2.heap n0 Zs F_b1_chars V_b2 O_b2 ne_b1_b2 g_b2 hs1) hZ (own_w hw 26 rfl) (own_w hw 4 rfl) (by decide) (by decide)) q3a q3c (g := (mkF m 51 #[.val (.int p0), .val (.int p1), .val (.int p2), .val (.int p3), .val (.int p4), .val (.int (0 : Int32)), .val (.int s1), .val (.int u2), .val (.int s2), .val (.int m9), .val (.ref b1), .unset, .unset, .unset, .unset, .unset, .unset, .unset] [(.int s1), (.int (0 : Int32)), (.ref b1)])) rfl (by rw [hml]; rfl) (Steps.refl _) (argsL := [(.int (0 : Int32)), (.int s1)]) (rest := []) (lenOf pd_1 rfl) rfl (by show 2 * 0 + _ ≤ _; exact Nat.le_of_eq rfl) (hb hby at_51) (fun _ _ => ⟨rfl, rfl, (by decide : 4 + 0 ≤ _), (by decide : 151 + 0 ≤ _)⟩)
    dsimp only [Pt.U, Pt.locs, Pt.cells, Pt.slots] at X3 l3 y3 z3 st3 hQ3
    subst l3 y3 z3
    obtain ⟨hv3, Nq3, K3, Fs3, Vn3⟩ := hQ3
    subst hv3
    replace Nf := Fr.app Nf Nq3
    replace E_b1 := E_b1.keep K3
    replace Zs := Nat.le_trans Zs K3.1
    replace V_b2 := Vn3
    replace F_b1_chars := Fs3
    refine own_go (x' := T3.setTop (mkF m 54 #[.val (.int p0), .val (.int p1), .val (.int p2), .val (.int p3), .val (.int p4), .val (.int (0 : Int32)), .val (.int s1), .val (.int u2), .val (.int s2), .val (.int m9), .val (.ref b1), .unset, .unset, .unset, .unset, .unset, .unset, .unset] [(.ref b2)])) (fun _ k => st3.trans k) ?_
    refine own_go (x' := T3.setTop (mkF m 63 #[.val (.int p0), .val (.int p1), .val (.int p2), .val (.int p3), .val (.int p4), .val (.int (0 : Int32)), .val (.int s1), .val (.int u2), .val (.int s2), .val (.int m9), .val (.ref b1), .val (.ref b2), .unset, .unset, .unset, .unset, .unset, .unset] [(.ref b2)])) (fun _ k => XS.astore X3.here hx rfl (hb hby at_54) rfl rfl (l' := #[.val (.int p0), .val (.int p1), .val (.int p2), .val (.int p3), .val (.int p4), .val (.int (0 : Int32)), .val (.int s1), .val (.int u2), .val (.int s2), .val (.int m9), .val (.ref b1), .val (.ref b2), .unset, .unset, .unset, .unset, .unset, .unset]) rfl (XS.aload X3.here hx rfl (hb hby at_56) rfl rfl (XS.ifnullNo X3.here hx rfl (hb hby at_58) rfl (XS.aload X3.here hx rfl (hb hby at_61) rfl rfl k)))) ?_
    obtain ⟨cl4, Ar4, -, Sz4, Nn4, -, -⟩ := id V_b2
    refine own_go (x' := T3.setTop (mkF m 64 #[.val (.int p0), .val (.int p1), .val (.int p2), .val (.int p3), .val (.int p4), .val (.int (0 : Int32)), .val (.int s1), .val (.int u2), .val (.int s2), .val (.int m9), .val (.ref b1), .val (.ref b2), .unset, .unset, .unset, .unset, .unset, .unset] [(.int (4 : Int32))])) (fun t k => X3.arraylength hx (Eq.trans (congrArg (fun h_ => h_[_]?) rfl) Ar4.1) (State.isArrayOf_alike hZ.alike Ar4.2.1) (g := (mkF m 63 #[.val (.int p0), .val (.int p1), .val (.int p2), .val (.int p3), .val (.int p4), .val (.int (0 : Int32)), .val (.int s1), .val (.int u2), .val (.int s2), .val (.int m9), .val (.ref b1), .val (.ref b2), .unset, .unset, .unset, .unset, .unset, .unset] [(.ref b2)])) rfl rfl (hb hby at_63) t (by rw [len_of Sz4 Nn4]; exact k)) ?_
    refine own_go (x' := T3.setTop (mkF m 73 #[.val (.int p0), .val (.int p1), .val (.int p2), .val (.int p3), .val (.int p4), .val (.int (0 : Int32)), .val (.int s1), .val (.int u2), .val (.int s2), .val (.int m9), .val (.ref b1), .val (.ref b2), .unset, .unset, .unset, .unset, .unset, .unset] [(.int (0 : Int32)), (.ref b2)])) (fun _ k => XS.iconst X3.here hx rfl (hb hby at_64) (XS.icmpYes X3.here hx rfl (pc0 := 65) (pc' := 70) rfl (hb hby at_65) rfl (teq rfl).1 (by decide) (by decide) (XS.aload X3.here hx rfl (hb hby at_70) rfl rfl (XS.iconst X3.here hx rfl (hb hby at_72) k)))) ?_
    obtain ⟨cl5, Ar5, q5, Sz5, Nn5, Hh5, Gg5⟩ := id V_b2
    have hin5 : ¬ ((0 : Int32) < 0 ∨ cl5.slots.size ≤ ((0 : Int32)).toNatClampNeg) := inb_of Sz5 ⟨by decide, by decide⟩
    refine own_go (x' := T3.setTop (mkF m 74 #[.val (.int p0), .val (.int p1), .val (.int p2), .val (.int p3), .val (.int p4), .val (.int (0 : Int32)), .val (.int s1), .val (.int u2), .val (.int s2), .val (.int m9), .val (.ref b1), .val (.ref b2), .unset, .unset, .unset, .unset, .unset, .unset] [.null])) (X3.aaload hx (j := (0 : Int32)) (v := .null) (Eq.trans (congrArg (fun h_ => h_[_]?) rfl) Ar5.1) (State.isArrayOf_alike hZ.alike Ar5.2.1) rfl Ar5.2.2 hin5 (Hh5.at hin5 rfl) (g := (mkF m 73 #[.val (.int p0), .val (.int p1), .val (.int p2), .val (.int p3), .val (.int p4), .val (.int (0 : Int32)), .val (.int s1), .val (.int u2), .val (.int s2), .val (.int m9), .val (.ref b1), .val (.ref b2), .unset, .unset, .unset, .unset, .unset, .unset] [(.int (0 : Int32)), (.ref b2)])) rfl rfl (hb hby at_73)) ?_
    refine own_go (x' := T3.setTop (mkF m 79 #[.val (.int p0), .val (.int p1), .val (.int p2), .val (.int p3), .val (.int p4), .val (.int (0 : Int32)), .val (.int s1), .val (.int u2), .val (.int s2), .val (.int m9), .val (.ref b1), .val (.ref b2), .val .null, .unset, .unset, .unset, .unset, .unset] [(.int (1 : Int32)), (.ref b2)])) (fun _ k => XS.astore X3.here hx rfl (hb hby at_74) rfl rfl (l' := #[.val (.int p0), .val (.int p1), .val (.int p2), .val (.int p3), .val (.int p4), .val (.int (0 : Int32)), .val (.int s1), .val (.int u2), .val (.int s2), .val (.int m9), .val (.ref b1), .val (.ref b2), .val .null, .unset, .unset, .unset, .unset, .unset]) rfl (XS.aload X3.here hx rfl (hb hby at_76) rfl rfl (XS.iconst X3.here hx rfl (hb hby at_78) k))) ?_
    obtain ⟨cl6, Ar6, q6, Sz6, Nn6, Hh6, Gg6⟩ := id V_b2
    have hin6 : ¬ ((1 : Int32) < 0 ∨ cl6.slots.size ≤ ((1 : Int32)).toNatClampNeg) := inb_of Sz6 ⟨by decide, by decide⟩
    refine own_go (x' := T3.setTop (mkF m 80 #[.val (.int p0), .val (.int p1), .val (.int p2), .val (.int p3), .val (.int p4), .val (.int (0 : Int32)), .val (.int s1), .val (.int u2), .val (.int s2), .val (.int m9), .val (.ref b1), .val (.ref b2), .val .null, .unset, .unset, .unset, .unset, .unset] [.null])) (X3.aaload hx (j := (1 : Int32)) (v := .null) (Eq.trans (congrArg (fun h_ => h_[_]?) rfl) Ar6.1) (State.isArrayOf_alike hZ.alike Ar6.2.1) rfl Ar6.2.2 hin6 (Hh6.at hin6 rfl) (g := (mkF m 79 #[.val (.int p0), .val (.int p1), .val (.int p2), .val (.int p3), .val (.int p4), .val (.int (0 : Int32)), .val (.int s1), .val (.int u2), .val (.int s2), .val (.int m9), .val (.ref b1), .val (.ref b2), .val .null, .unset, .unset, .unset, .unset, .unset] [(.int (1 : Int32)), (.ref b2)])) rfl rfl (hb hby at_79)) ?_
    refine own_go (x' := T3.setTop (mkF m 85 #[.val (.int p0), .val (.int p1), .val (.int p2), .val (.int p3), .val (.int p4), .val (.int (0 : Int32)), .val (.int s1), .val (.int u2), .val (.int s2), .val (.int m9), .val (.ref b1), .val (.ref b2), .val .null, .val .null, .unset, .unset, .unset, .unset] [(.int (2 : Int32)), (.ref b2)])) (fun _ k => XS.astore X3.here hx rfl (hb hby at_80) rfl rfl (l' := #[.val (.int p0), .val (.int p1), .val (.int p2), .val (.int p3), .val (.int p4), .val (.int (0 : Int32)), .val (.int s1), .val (.int u2), .val (.int s2), .val (.int m9), .val (.ref b1), .val (.ref b2), .val .null, .val .null, .unset, .unset, .unset, .unset]) rfl (XS.aload X3.here hx rfl (hb hby at_82) rfl rfl (XS.iconst X3.here hx rfl (hb hby at_84) k))) ?_
    obtain ⟨cl7, Ar7, q7, Sz7, Nn7, Hh7, Gg7⟩ := id V_b2
    have hin7 : ¬ ((2 : Int32) < 0 ∨ cl7.slots.size ≤ ((2 : Int32)).toNatClampNeg) := inb_of Sz7 ⟨by decide, by decide⟩
    refine own_go (x' := T3.setTop (mkF m 86 #[.val (.int p0), .val (.int p1), .val (.int p2), .val (.int p3), .val (.int p4), .val (.int (0 : Int32)), .val (.int s1), .val (.int u2), .val (.int s2), .val (.int m9), .val (.ref b1), .val (.ref b2), .val .null, .val .null, .unset, .unset, .unset, .unset] [.null])) (X3.aaload hx (j := (2 : Int32)) (v := .null) (Eq.trans (congrArg (fun h_ => h_[_]?) rfl) Ar7.1) (State.isArrayOf_alike hZ.alike Ar7.2.1) rfl Ar7.2.2 hin7 (Hh7.at hin7 rfl) (g := (mkF m 85 #[.val (.int p0), .val (.int p1), .val (.int p2), .val (.int p3), .val (.int p4), .val (.int (0 : Int32)), .val (.int s1), .val (.int u2), .val (.int s2), .val (.int m9), .val (.ref b1), .val (.ref b2), .val .null, .val .null, .unset, .unset, .unset, .unset] [(.int (2 : Int32)), (.ref b2)])) rfl rfl (hb hby at_85)) ?_
    refine own_go (x' := T3.setTop (mkF m 91 #[.val (.int p0), .val (.int p1), .val (.int p2), .val (.int p3), .val (.int p4), .val (.int (0 : Int32)), .val (.int s1), .val (.int u2), .val (.int s2), .val (.int m9), .val (.ref b1), .val (.ref b2), .val .null, .val .null, .val .null, .unset, .unset, .unset] [(.int (3 : Int32)), (.ref b2)])) (fun _ k => XS.astore X3.here hx rfl (hb hby at_86) rfl rfl (l' := #[.val (.int p0), .val (.int p1), .val (.int p2), .val (.int p3), .val (.int p4), .val (.int (0 : Int32)), .val (.int s1), .val (.int u2), .val (.int s2), .val (.int m9), .val (.ref b1), .val (.ref b2), .val .null, .val .null, .val .null, .unset, .unset, .unset]) rfl (XS.aload X3.here hx rfl (hb hby at_88) rfl rfl (XS.iconst X3.here hx rfl (hb hby at_90) k))) ?_
    obtain ⟨cl8, Ar8, q8, Sz8, Nn8, Hh8, Gg8⟩ := id V_b2
    have hin8 : ¬ ((3 : Int32) < 0 ∨ cl8.slots.size ≤ ((3 : Int32)).toNatClampNeg) := inb_of Sz8 ⟨by decide, by decide⟩
    refine own_go (x' := T3.setTop (mkF m 92 #[.val (.int p0), .val (.int p1), .val (.int p2), .val (.int p3), .val (.int p4), .val (.int (0 : Int32)), .val (.int s1), .val (.int u2), .val (.int s2), .val (.int m9), .val (.ref b1), .val (.ref b2), .val .null, .val .null, .val .null, .unset, .unset, .unset] [.null])) (X3.aaload hx (j := (3 : Int32)) (v := .null) (Eq.trans (congrArg (fun h_ => h_[_]?) rfl) Ar8.1) (State.isArrayOf_alike hZ.alike Ar8.2.1) rfl Ar8.2.2 hin8 (Hh8.at hin8 rfl) (g := (mkF m 91 #[.val (.int p0), .val (.int p1), .val (.int p2), .val (.int p3), .val (.int p4), .val (.int (0 : Int32)), .val (.int s1), .val (.int u2), .val (.int s2), .val (.int m9), .val (.ref b1), .val (.ref b2), .val .null, .val .null, .val .null, .unset, .unset, .unset] [(.int (3 : Int32)), (.ref b2)])) rfl rfl (hb hby at_91)) ?_
    refine own_go (x' := T3.setTop (mkF m 101 #[.val (.int p0), .val (.int p1), .val (.int p2), .val (.int p3), .val (.int p4), .val (.int (0 : Int32)), .val (.int s1), .val (.int u2), .val (.int s2), .val (.int m9), .val (.ref b1), .val (.ref b2), .val .null, .val .null, .val .null, .val .null, .unset, .unset] [(.int s1), (.int (0 : Int32)), (.int (0 : Int32)), .null])) (fun _ k => XS.astore X3.here hx rfl (hb hby at_92) rfl rfl (l' := #[.val (.int p0), .val (.int p1), .val (.int p2), .val (.int p3), .val (.int p4), .val (.int (0 : Int32)), .val (.int s1), .val (.int u2), .val (.int s2), .val (.int m9), .val (.ref b1), .val (.ref b2), .val .null, .val .null, .val .null, .val .null, .unset, .unset]) rfl (XS.aload X3.here hx rfl (hb hby at_94) rfl rfl (XS.iconst X3.here hx rfl (hb hby at_96) (XS.iload X3.here hx rfl (hb hby at_97) rfl (XS.iload X3.here hx rfl (hb hby at_99) rfl k))))) ?_
    obtain ⟨_, _, ⟨T9, L9, k9, n9⟩, -, X9, ⟨Lc9, hQ9, l9, y9, z9⟩, st9⟩ := Jvm.LawKit.callS X3 hx (y := (⟨"com/example/wee_match/weematch/WindowsCharsPinLaw", "made", "([CIII)Z"⟩ : MethodName)) hown (mvT hZ (own_w hw 27 rfl)) (mvT hZ (own_w hw 28 rfl)) (mvT hZ (own_w hw 29 rfl)) (mvT hZ (own_w hw 30 rfl)) (by decide) (backOf (W := 0) (rm4n l Z a0 hw [] (0 : Int32) (0 : Int32) s1 T3.heap n0 Zs (by decide)) hZ (own_w hw 30 rfl) (own_w hw 29 rfl) (by decide) (by decide)) (g := (mkF m 101 #[.val (.int p0), .val (.int p1), .val (.int p2), .val (.int p3), .val (.int p4), .val (.int (0 : Int32)), .val (.int s1), .val (.int u2), .val (.int s2), .val (.int m9), .val (.ref b1), .val (.ref b2), .val .null, .val .null, .val .null, .val .null, .unset, .unset] [(.int s1), (.int (0 : Int32)), (.int (0 : Int32)), .null])) rfl (by rw [hml]; rfl) (argsL := [.null, (.int (0 : Int32)), (.int (0 : Int32)), (.int s1)]) (rest := []) (lenOf pd_2 rfl) rfl (by show 2 * 0 + _ ≤ _; exact Nat.le_of_eq rfl) (hb hby at_101) (fun _ _ => ⟨rfl, rfl, (by decide : 4 + 0 ≤ _), (by decide : 151 + 0 ≤ _)⟩)
    dsimp only [Pt.U, Pt.locs, Pt.cells, Pt.slots] at X9 l9 y9 z9 st9 hQ9
    subst l9 y9 z9
    obtain ⟨hv9, Nq9, eq9⟩ := hQ9
    subst hv9
    replace Nf := Fr.app Nf Nq9
    refine own_go (x' := T9.setTop (mkF m 104 #[.val (.int p0), .val (.int p1), .val (.int p2), .val (.int p3), .val (.int p4), .val (.int (0 : Int32)), .val (.int s1), .val (.int u2), .val (.int s2), .val (.int m9), .val (.ref b1), .val (.ref b2), .val .null, .val .null, .val .null, .val .null, .unset, .unset] [(.int (1 : Int32))])) st9 ?_
    refine own_go (x' := T9.setTop (mkF m 114 #[.val (.int p0), .val (.int p1), .val (.int p2), .val (.int p3), .val (.int p4), .val (.int (0 : Int32)), .val (.int s1), .val (.int u2), .val (.int s2), .val (.int m9), .val (.ref b1), .val (.ref b2), .val .null, .val .null, .val .null, .val .null, .unset, .unset] [(.int s1), (.int (0 : Int32)), (.int (1 : Int32)), .null])) (fun _ k => XS.ifNo X9.here hx rfl (hb hby at_104) rfl ((if0 _ _).trans (feq (by decide +kernel : ¬ ((1 : Int32) = (0 : Int32)))).1) (XS.aload X9.here hx rfl (hb hby at_107) rfl rfl (XS.iconst X9.here hx rfl (hb hby at_109) (XS.iload X9.here hx rfl (hb hby at_110) rfl (XS.iload X9.here hx rfl (hb hby at_112) rfl k))))) ?_
    obtain ⟨_, _, ⟨T10, L10, k10, n10⟩, -, X10, ⟨Lc10, hQ10, l10, y10, z10⟩, st10⟩ := Jvm.LawKit.callS X9 hx (y := (⟨"com/example/wee_match/weematch/WindowsCharsPinLaw", "made", "([CIII)Z"⟩ : MethodName)) hown (mvT hZ (own_w hw 27 rfl)) (mvT hZ (own_w hw 28 rfl)) (mvT hZ (own_w hw 29 rfl)) (mvT hZ (own_w hw 30 rfl)) (by decide) (backOf (W := 0) (rm4n l Z a0 hw [] (1 : Int32) (0 : Int32) s1 T3.heap n0 Zs (by decide)) hZ (own_w hw 30 rfl) (own_w hw 29 rfl) (by decide) (by decide)) (g := (mkF m 114 #[.val (.int p0), .val (.int p1), .val (.int p2), .val (.int p3), .val (.int p4), .val (.int (0 : Int32)), .val (.int s1), .val (.int u2), .val (.int s2), .val (.int m9), .val (.ref b1), .val (.ref b2), .val .null, .val .null, .val .null, .val .null, .unset, .unset] [(.int s1), (.int (0 : Int32)), (.int (1 : Int32)), .null])) rfl (by rw [hml]; rfl) (argsL := [.null, (.int (1 : Int32)), (.int (0 : Int32)), (.int s1)]) (rest := []) (lenOf pd_2 rfl) rfl (by show 2 * 0 + _ ≤ _; exact Nat.le_of_eq rfl) (hb hby at_114) (fun _ _ => ⟨rfl, eq9, (by decide : 4 + 0 ≤ _), (by decide : 151 + 0 ≤ _)⟩)
    dsimp only [Pt.U, Pt.locs, Pt.cells, Pt.slots] at X10 l10 y10 z10 st10 hQ10
    subst l10 y10 z10
    obtain ⟨hv10, Nq10, eq10⟩ := hQ10
    subst hv10
    replace Nf := Fr.app Nf Nq10
    refine own_go (x' := T10.setTop (mkF m 117 #[.val (.int p0), .val (.int p1), .val (.int p2), .val (.int p3), .val (.int p4), .val (.int (0 : Int32)), .val (.int s1), .val (.int u2), .val (.int s2), .val (.int m9), .val (.ref b1), .val (.ref b2), .val .null, .val .null, .val .null, .val .null, .unset, .unset] [(.int (1 : Int32))])) st10 ?_
    refine own_go (x' := T10.setTop (mkF m 127 #[.val (.int p0), .val (.int p1), .val (.int p2), .val (.int p3), .val (.int p4), .val (.int (0 : Int32)), .val (.int s1), .val (.int u2), .val (.int s2), .val (.int m9), .val (.ref b1), .val (.ref b2), .val .null, .val .null, .val .null, .val .null, .unset, .unset] [(.int s1), (.int (0 : Int32)), (.int (2 : Int32)), .null])) (fun _ k => XS.ifNo X10.here hx rfl (hb hby at_117) rfl ((if0 _ _).trans (feq (by decide +kernel : ¬ ((1 : Int32) = (0 : Int32)))).1) (XS.aload X10.here hx rfl (hb hby at_120) rfl rfl (XS.iconst X10.here hx rfl (hb hby at_122) (XS.iload X10.here hx rfl (hb hby at_123) rfl (XS.iload X10.here hx rfl (hb hby at_125) rfl k))))) ?_
    obtain ⟨_, _, ⟨T11, L11, k11, n11⟩, -, X11, ⟨Lc11, hQ11, l11, y11, z11⟩, st11⟩ := Jvm.LawKit.callS X10 hx (y := (⟨"com/example/wee_match/weematch/WindowsCharsPinLaw", "made", "([CIII)Z"⟩ : MethodName)) hown (mvT hZ (own_w hw 27 rfl)) (mvT hZ (own_w hw 28 rfl)) (mvT hZ (own_w hw 29 rfl)) (mvT hZ (own_w hw 30 rfl)) (by decide) (backOf (W := 0) (rm4n l Z a0 hw [] (2 : Int32) (0 : Int32) s1 T3.heap n0 Zs (by decide)) hZ (own_w hw 30 rfl) (own_w hw 29 rfl) (by decide) (by decide)) (g := (mkF m 127 #[.val (.int p0), .val (.int p1), .val (.int p2), .val (.int p3), .val (.int p4), .val (.int (0 : Int32)), .val (.int s1), .val (.int u2), .val (.int s2), .val (.int m9), .val (.ref b1), .val (.ref b2), .val .null, .val .null, .val .null, .val .null, .unset, .unset] [(.int s1), (.int (0 : Int32)), (.int (2 : Int32)), .null])) rfl (by rw [hml]; rfl) (argsL := [.null, (.int (2 : Int32)), (.int (0 : Int32)), (.int s1)]) (rest := []) (lenOf pd_2 rfl) rfl (by show 2 * 0 + _ ≤ _; exact Nat.le_of_eq rfl) (hb hby at_127) (fun _ _ => ⟨rfl, eq10, (by decide : 4 + 0 ≤ _), (by decide : 151 + 0 ≤ _)⟩)
    dsimp only [Pt.U, Pt.locs, Pt.cells, Pt.slots] at X11 l11 y11 z11 st11 hQ11
    subst l11 y11 z11
    obtain ⟨hv11, Nq11, eq11⟩ := hQ11
    subst hv11
    replace Nf := Fr.app Nf Nq11
    refine own_go (x' := T11.setTop (mkF m 130 #[.val (.int p0), .val (.int p1), .val (.int p2), .val (.int p3), .val (.int p4), .val (.int (0 : Int32)), .val (.int s1), .val (.int u2), .val (.int s2), .val (.int m9), .val (.ref b1), .val (.ref b2), .val .null, .val .null, .val .null, .val .null, .unset, .unset] [(.int (1 : Int32))])) st11 ?_
    refine own_go (x' := T11.setTop (mkF m 140 #[.val (.int p0), .val (.int p1), .val (.int p2), .val (.int p3), .val (.int p4), .val (.int (0 : Int32)), .val (.int s1), .val (.int u2), .val (.int s2), .val (.int m9), .val (.ref b1), .val (.ref b2), .val .null, .val .null, .val .null, .val .null, .unset, .unset] [(.int s1), (.int (0 : Int32)), (.int (3 : Int32)), .null])) (fun _ k => XS.ifNo X11.here hx rfl (hb hby at_130) rfl ((if0 _ _).trans (feq (by decide +kernel : ¬ ((1 : Int32) = (0 : Int32)))).1) (XS.aload X11.here hx rfl (hb hby at_133) rfl rfl (XS.iconst X11.here hx rfl (hb hby at_135) (XS.iload X11.here hx rfl (hb hby at_136) rfl (XS.iload X11.here hx rfl (hb hby at_138) rfl k))))) ?_
    obtain ⟨_, _, ⟨T12, L12, k12, n12⟩, -, X12, ⟨Lc12, hQ12, l12, y12, z12⟩, st12⟩ := Jvm.LawKit.callS X11 hx (y := (⟨"com/example/wee_match/weematch/WindowsCharsPinLaw", "made", "([CIII)Z"⟩ : MethodName)) hown (mvT hZ (own_w hw 27 rfl)) (mvT hZ (own_w hw 28 rfl)) (mvT hZ (own_w hw 29 rfl)) (mvT hZ (own_w hw 30 rfl)) (by decide) (backOf (W := 0) (rm4n l Z a0 hw [] (3 : Int32) (0 : Int32) s1 T3.heap n0 Zs (by decide)) hZ (own_w hw 30 rfl) (own_w hw 29 rfl) (by decide) (by decide)) (g := (mkF m 140 #[.val (.int p0), .val (.int p1), .val (.int p2), .val (.int p3), .val (.int p4), .val (.int (0 : Int32)), .val (.int s1), .val (.int u2), .val (.int s2), .val (.int m9), .val (.ref b1), .val (.ref b2), .val .null, .val .null, .val .null, .val .null, .unset, .unset] [(.int s1), (.int (0 : Int32)), (.int (3 : Int32)), .null])) rfl (by rw [hml]; rfl) (argsL := [.null, (.int (3 : Int32)), (.int (0 : Int32)), (.int s1)]) (rest := []) (lenOf pd_2 rfl) rfl (by show 2 * 0 + _ ≤ _; exact Nat.le_of_eq rfl) (hb hby at_140) (fun _ _ => ⟨rfl, eq11, (by decide : 4 + 0 ≤ _), (by decide : 151 + 0 ≤ _)⟩)
    dsimp only [Pt.U, Pt.locs, Pt.cells, Pt.slots] at X12 l12 y12 z12 st12 hQ12
    subst l12 y12 z12
    obtain ⟨hv12, Nq12, eq12⟩ := hQ12
    subst hv12
    replace Nf := Fr.app Nf Nq12
    refine own_go (x' := T12.setTop (mkF m 143 #[.val (.int p0), .val (.int p1), .val (.int p2), .val (.int p3), .val (.int p4), .val (.int (0 : Int32)), .val (.int s1), .val (.int u2), .val (.int s2), .val (.int m9), .val (.ref b1), .val (.ref b2), .val .null, .val .null, .val .null, .val .null, .unset, .unset] [(.int (1 : Int32))])) st12 ?_
    refine own_go (x' := T12.setTop (mkF m 157 #[.val (.int p0), .val (.int p1), .val (.int p2), .val (.int p3), .val (.int p4), .val (.int (0 : Int32)), .val (.int s1), .val (.int u2), .val (.int s2), .val (.int m9), .val (.ref b1), .val (.ref b2), .val .null, .val .null, .val .null, .val .null, .val (.int (1 : Int32)), .unset] [(.int m9), .null])) (fun _ k => XS.ifNo X12.here hx rfl (hb hby at_143) rfl ((if0 _ _).trans (feq (by decide +kernel : ¬ ((1 : Int32) = (0 : Int32)))).1) (XS.iconst X12.here hx rfl (hb hby at_146) (XS.goto X12.here hx rfl (pc0 := 147) (pc' := 151) rfl (hb hby at_147) (by decide) (by decide) (XS.istore X12.here hx rfl (hb hby at_151) rfl (l' := #[.val (.int p0), .val (.int p1), .val (.int p2), .val (.int p3), .val (.int p4), .val (.int (0 : Int32)), .val (.int s1), .val (.int u2), .val (.int s2), .val (.int m9), .val (.ref b1), .val (.ref b2), .val .null, .val .null, .val .null, .val .null, .val (.int (1 : Int32)), .unset]) rfl (XS.aload X12.here hx rfl (hb hby at_153) rfl rfl (XS.iload X12.here hx rfl (hb hby at_155) rfl k)))))) ?_
    obtain ⟨_, _, ⟨T13, L13, k13, n13⟩, -, X13, ⟨Lc13, hQ13, l13, y13, z13⟩, st13⟩ := Jvm.LawKit.callS X12 hx (y := (⟨"com/example/wee_match/weematch/WindowsCharsPinLaw", "stamp", "([CC)V"⟩ : MethodName)) hown (mvT hZ (own_w hw 31 rfl)) (mvT hZ (own_w hw 32 rfl)) (mvT hZ (own_w hw 29 rfl)) (mvT hZ (own_w hw 33 rfl)) (by decide) (backOf (W := 0) (rm5n l Z a0 hw [] m9 T3.heap n0 Zs) hZ (own_w hw 33 rfl) (own_w hw 29 rfl) (by decide) (by decide)) (g := (mkF m 157 #[.val (.int p0), .val (.int p1), .val (.int p2), .val (.int p3), .val (.int p4), .val (.int (0 : Int32)), .val (.int s1), .val (.int u2), .val (.int s2), .val (.int m9), .val (.ref b1), .val (.ref b2), .val .null, .val .null, .val .null, .val .null, .val (.int (1 : Int32)), .unset] [(.int m9), .null])) rfl (by rw [hml]; rfl) (argsL := [.null, (.int m9)]) (rest := []) (lenOf pd_3 rfl) rfl (by show 2 * 0 + _ ≤ _; exact Nat.le_of_eq rfl) (hb hby at_157) (fun _ _ => ⟨rfl, eq12, (by decide : 4 + 0 ≤ _), (by decide : 151 + 0 ≤ _)⟩)
    dsimp only [Pt.U, Pt.locs, Pt.cells, Pt.slots] at X13 l13 y13 z13 st13 hQ13
    subst l13 y13 z13
    obtain ⟨hv13, Nq13, eq13⟩ := hQ13
    subst hv13
    replace Nf := Fr.app Nf Nq13
    refine own_go (x' := T13.setTop (mkF m 160 #[.val (.int p0), .val (.int p1), .val (.int p2), .val (.int p3), .val (.int p4), .val (.int (0 : Int32)), .val (.int s1), .val (.int u2), .val (.int s2), .val (.int m9), .val (.ref b1), .val (.ref b2), .val .null, .val .null, .val .null, .val .null, .val (.int (1 : Int32)), .unset] [])) st13 ?_
    refine own_go (x' := T13.setTop (mkF m 164 #[.val (.int p0), .val (.int p1), .val (.int p2), .val (.int p3), .val (.int p4), .val (.int (0 : Int32)), .val (.int s1), .val (.int u2), .val (.int s2), .val (.int m9), .val (.ref b1), .val (.ref b2), .val .null, .val .null, .val .null, .val .null, .val (.int (1 : Int32)), .unset] [(.int m9), .null])) (fun _ k => XS.aload X13.here hx rfl (hb hby at_160) rfl rfl (XS.iload X13.here hx rfl (hb hby at_162) rfl k)) ?_
    obtain ⟨_, _, ⟨T14, L14, k14, n14⟩, -, X14, ⟨Lc14, hQ14, l14, y14, z14⟩, st14⟩ := Jvm.LawKit.callS X13 hx (y := (⟨"com/example/wee_match/weematch/WindowsCharsPinLaw", "stamp", "([CC)V"⟩ : MethodName)) hown (mvT hZ (own_w hw 31 rfl)) (mvT hZ (own_w hw 32 rfl)) (mvT hZ (own_w hw 29 rfl)) (mvT hZ (own_w hw 33 rfl)) (by decide) (backOf (W := 0) (rm5n l Z a0 hw [] m9 T3.heap n0 Zs) hZ (own_w hw 33 rfl) (own_w hw 29 rfl) (by decide) (by decide)) (g := (mkF m 164 #[.val (.int p0), .val (.int p1), .val (.int p2), .val (.int p3), .val (.int p4), .val (.int (0 : Int32)), .val (.int s1), .val (.int u2), .val (.int s2), .val (.int m9), .val (.ref b1), .val (.ref b2), .val .null, .val .null, .val .null, .val .null, .val (.int (1 : Int32)), .unset] [(.int m9), .null])) rfl (by rw [hml]; rfl) (argsL := [.null, (.int m9)]) (rest := []) (lenOf pd_3 rfl) rfl (by show 2 * 0 + _ ≤ _; exact Nat.le_of_eq rfl) (hb hby at_164) (fun _ _ => ⟨rfl, eq13, (by decide : 4 + 0 ≤ _), (by decide : 151 + 0 ≤ _)⟩)
    dsimp only [Pt.U, Pt.locs, Pt.cells, Pt.slots] at X14 l14 y14 z14 st14 hQ14
    subst l14 y14 z14
    obtain ⟨hv14, Nq14, eq14⟩ := hQ14
    subst hv14
    replace Nf := Fr.app Nf Nq14
    refine own_go (x' := T14.setTop (mkF m 167 #[.val (.int p0), .val (.int p1), .val (.int p2), .val (.int p3), .val (.int p4), .val (.int (0 : Int32)), .val (.int s1), .val (.int u2), .val (.int s2), .val (.int m9), .val (.ref b1), .val (.ref b2), .val .null, .val .null, .val .null, .val .null, .val (.int (1 : Int32)), .unset] [])) st14 ?_
    refine own_go (x' := T14.setTop (mkF m 171 #[.val (.int p0), .val (.int p1), .val (.int p2), .val (.int p3), .val (.int p4), .val (.int (0 : Int32)), .val (.int s1), .val (.int u2), .val (.int s2), .val (.int m9), .val (.ref b1), .val (.ref b2), .val .null, .val .null, .val .null, .val .null, .val (.int (1 : Int32)), .unset] [(.int m9), .null])) (fun _ k => XS.aload X14.here hx rfl (hb hby at_167) rfl rfl (XS.iload X14.here hx rfl (hb hby at_169) rfl k)) ?_
    obtain ⟨_, _, ⟨T15, L15, k15, n15⟩, -, X15, ⟨Lc15, hQ15, l15, y15, z15⟩, st15⟩ := Jvm.LawKit.callS X14 hx (y := (⟨"com/example/wee_match/weematch/WindowsCharsPinLaw", "stamp", "([CC)V"⟩ : MethodName)) hown (mvT hZ (own_w hw 31 rfl)) (mvT hZ (own_w hw 32 rfl)) (mvT hZ (own_w hw 29 rfl)) (mvT hZ (own_w hw 33 rfl)) (by decide) (backOf (W := 0) (rm5n l Z a0 hw [] m9 T3.heap n0 Zs) hZ (own_w hw 33 rfl) (own_w hw 29 rfl) (by decide) (by decide)) (g := (mkF m 171 #[.val (.int p0), .val (.int p1), .val (.int p2), .val (.int p3), .val (.int p4), .val (.int (0 : Int32)), .val (.int s1), .val (.int u2), .val (.int s2), .val (.int m9), .val (.ref b1), .val (.ref b2), .val .null, .val .null, .val .null, .val .null, .val (.int (1 : Int32)), .unset] [(.int m9), .null])) rfl (by rw [hml]; rfl) (argsL := [.null, (.int m9)]) (rest := []) (lenOf pd_3 rfl) rfl (by show 2 * 0 + _ ≤ _; exact Nat.le_of_eq rfl) (hb hby at_171) (fun _ _ => ⟨rfl, eq14, (by decide : 4 + 0 ≤ _), (by decide : 151 + 0 ≤ _)⟩)
    dsimp only [Pt.U, Pt.locs, Pt.cells, Pt.slots] at X15 l15 y15 z15 st15 hQ15
    subst l15 y15 z15
    obtain ⟨hv15, Nq15, eq15⟩ := hQ15
    subst hv15
    replace Nf := Fr.app Nf Nq15
    refine own_go (x' := T15.setTop (mkF m 174 #[.val (.int p0), .val (.int p1), .val (.int p2), .val (.int p3), .val (.int p4), .val (.int (0 : Int32)), .val (.int s1), .val (.int u2), .val (.int s2), .val (.int m9), .val (.ref b1), .val (.ref b2), .val .null, .val .null, .val .null, .val .null, .val (.int (1 : Int32)), .unset] [])) st15 ?_
    refine own_go (x' := T15.setTop (mkF m 178 #[.val (.int p0), .val (.int p1), .val (.int p2), .val (.int p3), .val (.int p4), .val (.int (0 : Int32)), .val (.int s1), .val (.int u2), .val (.int s2), .val (.int m9), .val (.ref b1), .val (.ref b2), .val .null, .val .null, .val .null, .val .null, .val (.int (1 : Int32)), .unset] [(.int m9), .null])) (fun _ k => XS.aload X15.here hx rfl (hb hby at_174) rfl rfl (XS.iload X15.here hx rfl (hb hby at_176) rfl k)) ?_
    obtain ⟨_, _, ⟨T16, L16, k16, n16⟩, -, X16, ⟨Lc16, hQ16, l16, y16, z16⟩, st16⟩ := Jvm.LawKit.callS X15 hx (y := (⟨"com/example/wee_match/weematch/WindowsCharsPinLaw", "stamp", "([CC)V"⟩ : MethodName)) hown (mvT hZ (own_w hw 31 rfl)) (mvT hZ (own_w hw 32 rfl)) (mvT hZ (own_w hw 29 rfl)) (mvT hZ (own_w hw 33 rfl)) (by decide) (backOf (W := 0) (rm5n l Z a0 hw [] m9 T3.heap n0 Zs) hZ (own_w hw 33 rfl) (own_w hw 29 rfl) (by decide) (by decide)) (g := (mkF m 178 #[.val (.int p0), .val (.int p1), .val (.int p2), .val (.int p3), .val (.int p4), .val (.int (0 : Int32)), .val (.int s1), .val (.int u2), .val (.int s2), .val (.int m9), .val (.ref b1), .val (.ref b2), .val .null, .val .null, .val .null, .val .null, .val (.int (1 : Int32)), .unset] [(.int m9), .null])) rfl (by rw [hml]; rfl) (argsL := [.null, (.int m9)]) (rest := []) (lenOf pd_3 rfl) rfl (by show 2 * 0 + _ ≤ _; exact Nat.le_of_eq rfl) (hb hby at_178) (fun _ _ => ⟨rfl, eq15, (by decide : 4 + 0 ≤ _), (by decide : 151 + 0 ≤ _)⟩)
    dsimp only [Pt.U, Pt.locs, Pt.cells, Pt.slots] at X16 l16 y16 z16 st16 hQ16
    subst l16 y16 z16
    obtain ⟨hv16, Nq16, eq16⟩ := hQ16
    subst hv16
    replace Nf := Fr.app Nf Nq16
    refine own_go (x' := T16.setTop (mkF m 181 #[.val (.int p0), .val (.int p1), .val (.int p2), .val (.int p3), .val (.int p4), .val (.int (0 : Int32)), .val (.int s1), .val (.int u2), .val (.int s2), .val (.int m9), .val (.ref b1), .val (.ref b2), .val .null, .val .null, .val .null, .val .null, .val (.int (1 : Int32)), .unset] [])) st16 ?_
    refine own_go (x' := T16.setTop (mkF m 187 #[.val (.int p0), .val (.int p1), .val (.int p2), .val (.int p3), .val (.int p4), .val (.int (0 : Int32)), .val (.int s1), .val (.int u2), .val (.int s2), .val (.int m9), .val (.ref b1), .val (.ref b2), .val .null, .val .null, .val .null, .val .null, .val (.int (1 : Int32)), .unset] [(.int s2), (.int u2), (.ref b1)])) (fun _ k => XS.aload X16.here hx rfl (hb hby at_181) rfl rfl (XS.iload X16.here hx rfl (hb hby at_183) rfl (XS.iload X16.here hx rfl (hb hby at_185) rfl k))) ?_
    obtain ⟨cq17, kq17, q17a, q17b, q17c⟩ := isOf hZ eq16 E_b1
    obtain ⟨_, _, ⟨T17, L17, k17, n17⟩, -, X17, ⟨Lc17, hQ17, l17, y17, z17⟩, st17⟩ := X16.virtualBack hx (y := (⟨"com/example/wee_match/weematch/Sieve$Windows", "chars", "(II)[[C"⟩ : MethodName)) (z := (⟨"com/example/wee_match/weematch/Sieve$Windows", "chars", "(II)[[C"⟩ : MethodName)) hown (mvT hZ (own_w hw 22 rfl)) (mvT hZ (own_w hw 23 rfl)) (notFace_of_selects (args := #[]) (mvT hZ (own_w hw 25 rfl))) (mvT hZ (own_w hw 25 rfl)) (mvT hZ (own_w hw 24 rfl)) (by decide) (backOf (W := 0) (rmS_0 l Z a0 hw [] b1 u2 s2 b2 kc2 s1 m9  T3.heap n0 Zs F_b1_chars V_b2 O_b2 ne_b1_b2 g_b2 hs2 hu2  ) hZ (own_w hw 26 rfl) (own_w hw 4 rfl) (by decide) (by decide)) q17a q17c (g := (mkF m 187 #[.val (.int p0), .val (.int p1), .val (.int p2), .val (.int p3), .val (.int p4), .val (.int (0 : Int32)), .val (.int s1), .val (.int u2), .val (.int s2), .val (.int m9), .val (.ref b1), .val (.ref b2), .val .null, .val .null, .val .null, .val .null, .val (.int (1 : Int32)), .unset] [(.int s2), (.int u2), (.ref b1)])) rfl (by rw [hml]; rfl) (Steps.refl _) (argsL := [(.int u2), (.int s2)]) (rest := []) (lenOf pd_1 rfl) rfl (by show 2 * 0 + _ ≤ _; exact Nat.le_of_eq rfl) (hb hby at_187) (fun _ _ => ⟨rfl, eq16, (by decide : 4 + 4 ≤ _), (by decide : 151 + 124 ≤ _)⟩)
    dsimp only [Pt.U, Pt.locs, Pt.cells, Pt.slots] at X17 l17 y17 z17 st17 hQ17
    subst l17 y17 z17
    obtain ⟨w0, w1, w2, w3, hv17, Nq17, K17, Vn17, R0, R1, R2, R3⟩ := hQ17
    subst hv17
    replace Nf := Fr.app Nf Nq17
    have r_w0 := R0.ref.1
    have c_w0 := R0.ref.2
    have r_w1 := R1.ref.1
    have c_w1 := R1.ref.2
    have r_w2 := R2.ref.1
    have c_w2 := R2.ref.2
    have r_w3 := R3.ref.1
    have c_w3 := R3.ref.2
    replace E_b1 := E_b1.keep K17
    replace Zs := Nat.le_trans Zs K17.1
    replace V_b2 := Vn17
    refine own_go (x' := T17.setTop (mkF m 190 #[.val (.int p0), .val (.int p1), .val (.int p2), .val (.int p3), .val (.int p4), .val (.int (0 : Int32)), .val (.int s1), .val (.int u2), .val (.int s2), .val (.int m9), .val (.ref b1), .val (.ref b2), .val .null, .val .null, .val .null, .val .null, .val (.int (1 : Int32)), .unset] [(.ref b2)])) (fun _ k => st17.trans k) ?_
    refine own_go (x' := T17.setTop (mkF m 199 #[.val (.int p0), .val (.int p1), .val (.int p2), .val (.int p3), .val (.int p4), .val (.int (0 : Int32)), .val (.int s1), .val (.int u2), .val (.int s2), .val (.int m9), .val (.ref b1), .val (.ref b2), .val .null, .val .null, .val .null, .val .null, .val (.int (1 : Int32)), .val (.ref b2)] [(.ref b2)])) (fun _ k => XS.astore X17.here hx rfl (hb hby at_190) rfl rfl (l' := #[.val (.int p0), .val (.int p1), .val (.int p2), .val (.int p3), .val (.int p4), .val (.int (0 : Int32)), .val (.int s1), .val (.int u2), .val (.int s2), .val (.int m9), .val (.ref b1), .val (.ref b2), .val .null, .val .null, .val .null, .val .null, .val (.int (1 : Int32)), .val (.ref b2)]) rfl (XS.aload X17.here hx rfl (hb hby at_192) rfl rfl (XS.ifnullNo X17.here hx rfl (hb hby at_194) rfl (XS.aload X17.here hx rfl (hb hby at_197) rfl rfl k)))) ?_
    obtain ⟨cl18, Ar18, -, Sz18, Nn18, -, -⟩ := id V_b2
    refine own_go (x' := T17.setTop (mkF m 200 #[.val (.int p0), .val (.int p1), .val (.int p2), .val (.int p3), .val (.int p4), .val (.int (0 : Int32)), .val (.int s1), .val (.int u2), .val (.int s2), .val (.int m9), .val (.ref b1), .val (.ref b2), .val .null, .val .null, .val .null, .val .null, .val (.int (1 : Int32)), .val (.ref b2)] [(.int (4 : Int32))])) (fun t k => X17.arraylength hx (Eq.trans (congrArg (fun h_ => h_[_]?) rfl) Ar18.1) (State.isArrayOf_alike hZ.alike Ar18.2.1) (g := (mkF m 199 #[.val (.int p0), .val (.int p1), .val (.int p2), .val (.int p3), .val (.int p4), .val (.int (0 : Int32)), .val (.int s1), .val (.int u2), .val (.int s2), .val (.int m9), .val (.ref b1), .val (.ref b2), .val .null, .val .null, .val .null, .val .null, .val (.int (1 : Int32)), .val (.ref b2)] [(.ref b2)])) rfl rfl (hb hby at_199) t (by rw [len_of Sz18 Nn18]; exact k)) ?_
    refine own_go (x' := T17.setTop (mkF m 215 #[.val (.int p0), .val (.int p1), .val (.int p2), .val (.int p3), .val (.int p4), .val (.int (0 : Int32)), .val (.int s1), .val (.int u2), .val (.int s2), .val (.int m9), .val (.ref b1), .val (.ref b2), .val .null, .val .null, .val .null, .val .null, .val (.int (1 : Int32)), .val (.ref b2)] [(.ref b2), .null])) (fun _ k => XS.iconst X17.here hx rfl (hb hby at_200) (XS.icmpYes X17.here hx rfl (pc0 := 201) (pc' := 206) rfl (hb hby at_201) rfl (teq rfl).1 (by decide) (by decide) (XS.iload X17.here hx rfl (hb hby at_206) rfl (XS.ifNo X17.here hx rfl (hb hby at_208) rfl ((if0 _ _).trans (feq (by decide +kernel : ¬ ((1 : Int32) = (0 : Int32)))).1) (XS.aload X17.here hx rfl (hb hby at_211) rfl rfl (XS.aload X17.here hx rfl (hb hby at_213) rfl rfl k)))))) ?_
    refine own_go (x' := T17.setTop (mkF m 216 #[.val (.int p0), .val (.int p1), .val (.int p2), .val (.int p3), .val (.int p4), .val (.int (0 : Int32)), .val (.int s1), .val (.int u2), .val (.int s2), .val (.int m9), .val (.ref b1), .val (.ref b2), .val .null, .val .null, .val .null, .val .null, .val (.int (1 : Int32)), .val (.ref b2)] [(.int (0 : Int32)), (.ref b2), .null])) (fun _ k => XS.iconst X17.here hx rfl (hb hby at_215) k) ?_
    obtain ⟨cl19, Ar19, q19, Sz19, Nn19, Hh19, Gg19⟩ := id V_b2
    have hin19 : ¬ ((0 : Int32) < 0 ∨ cl19.slots.size ≤ ((0 : Int32)).toNatClampNeg) := inb_of Sz19 ⟨by decide, by decide⟩
    refine own_go (x' := T17.setTop (mkF m 217 #[.val (.int p0), .val (.int p1), .val (.int p2), .val (.int p3), .val (.int p4), .val (.int (0 : Int32)), .val (.int s1), .val (.int u2), .val (.int s2), .val (.int m9), .val (.ref b1), .val (.ref b2), .val .null, .val .null, .val .null, .val .null, .val (.int (1 : Int32)), .val (.ref b2)] [w0, .null])) (X17.aaload hx (j := (0 : Int32)) (v := w0) (Eq.trans (congrArg (fun h_ => h_[_]?) rfl) Ar19.1) (State.isArrayOf_alike hZ.alike Ar19.2.1) rfl Ar19.2.2 hin19 (Hh19.at hin19 rfl) (g := (mkF m 216 #[.val (.int p0), .val (.int p1), .val (.int p2), .val (.int p3), .val (.int p4), .val (.int (0 : Int32)), .val (.int s1), .val (.int u2), .val (.int s2), .val (.int m9), .val (.ref b1), .val (.ref b2), .val .null, .val .null, .val .null, .val .null, .val (.int (1 : Int32)), .val (.ref b2)] [(.int (0 : Int32)), (.ref b2), .null])) rfl rfl (hb hby at_216)) ?_
    refine own_go (x' := T17.setTop (mkF m 224 #[.val (.int p0), .val (.int p1), .val (.int p2), .val (.int p3), .val (.int p4), .val (.int (0 : Int32)), .val (.int s1), .val (.int u2), .val (.int s2), .val (.int m9), .val (.ref b1), .val (.ref b2), .val .null, .val .null, .val .null, .val .null, .val (.int (1 : Int32)), .val (.ref b2)] [(.int m9), (.int s2), (.int u2), (.int (0 : Int32)), w0, .null])) (fun _ k => XS.iconst X17.here hx rfl (hb hby at_217) (XS.iload X17.here hx rfl (hb hby at_218) rfl (XS.iload X17.here hx rfl (hb hby at_220) rfl (XS.iload X17.here hx rfl (hb hby at_222) rfl k)))) ?_
    obtain ⟨_, _, ⟨T20, L20, k20, n20⟩, -, X20, ⟨Lc20, hQ20, l20, y20, z20⟩, st20⟩ := Jvm.LawKit.callS X17 hx (y := (⟨"com/example/wee_match/weematch/WindowsCharsPinLaw", "after", "([C[CIIIC)Z"⟩ : MethodName)) hown (mvT hZ (own_w hw 36 rfl)) (mvT hZ (own_w hw 37 rfl)) (mvT hZ (own_w hw 29 rfl)) (mvT hZ (own_w hw 38 rfl)) (by decide) (backOf (W := 0) (rm6n l Z a0 hw [] w0 (0 : Int32) u2 s2 m9 T17.heap n0 Zs R0) hZ (own_w hw 38 rfl) (own_w hw 29 rfl) (by decide) (by decide)) (g := (mkF m 224 #[.val (.int p0), .val (.int p1), .val (.int p2), .val (.int p3), .val (.int p4), .val (.int (0 : Int32)), .val (.int s1), .val (.int u2), .val (.int s2), .val (.int m9), .val (.ref b1), .val (.ref b2), .val .null, .val .null, .val .null, .val .null, .val (.int (1 : Int32)), .val (.ref b2)] [(.int m9), (.int s2), (.int u2), (.int (0 : Int32)), w0, .null])) rfl (by rw [hml]; rfl) (argsL := [.null, w0, (.int (0 : Int32)), (.int u2), (.int s2), (.int m9)]) (rest := []) (lenOf pd_4 rfl) rfl (by show 2 * 0 + _ ≤ _; exact Nat.le_of_eq rfl) (hb hby at_224) (fun _ _ => ⟨rfl, rfl, (by decide : 8 + 0 ≤ _), (by decide : 275 + 0 ≤ _)⟩)
    dsimp only [Pt.U, Pt.locs, Pt.cells, Pt.slots] at X20 l20 y20 z20 st20 hQ20
    subst l20 y20 z20
    obtain ⟨hv20, Nq20, eq20⟩ := hQ20
    subst hv20
    replace Nf := Fr.app Nf Nq20
    refine own_go (x' := T20.setTop (mkF m 227 #[.val (.int p0), .val (.int p1), .val (.int p2), .val (.int p3), .val (.int p4), .val (.int (0 : Int32)), .val (.int s1), .val (.int u2), .val (.int s2), .val (.int m9), .val (.ref b1), .val (.ref b2), .val .null, .val .null, .val .null, .val .null, .val (.int (1 : Int32)), .val (.ref b2)] [(.int (1 : Int32))])) st20 ?_
    refine own_go (x' := T20.setTop (mkF m 235 #[.val (.int p0), .val (.int p1), .val (.int p2), .val (.int p3), .val (.int p4), .val (.int (0 : Int32)), .val (.int s1), .val (.int u2), .val (.int s2), .val (.int m9), .val (.ref b1), .val (.ref b2), .val .null, .val .null, .val .null, .val .null, .val (.int (1 : Int32)), .val (.ref b2)] [(.int (1 : Int32)), (.ref b2), .null])) (fun _ k => XS.ifNo X20.here hx rfl (hb hby at_227) rfl ((if0 _ _).trans (feq (by decide +kernel : ¬ ((1 : Int32) = (0 : Int32)))).1) (XS.aload X20.here hx rfl (hb hby at_230) rfl rfl (XS.aload X20.here hx rfl (hb hby at_232) rfl rfl (XS.iconst X20.here hx rfl (hb hby at_234) k)))) ?_
    obtain ⟨cl21, Ar21, q21, Sz21, Nn21, Hh21, Gg21⟩ := id V_b2
    have hin21 : ¬ ((1 : Int32) < 0 ∨ cl21.slots.size ≤ ((1 : Int32)).toNatClampNeg) := inb_of Sz21 ⟨by decide, by decide⟩
    refine own_go (x' := T20.setTop (mkF m 236 #[.val (.int p0), .val (.int p1), .val (.int p2), .val (.int p3), .val (.int p4), .val (.int (0 : Int32)), .val (.int s1), .val (.int u2), .val (.int s2), .val (.int m9), .val (.ref b1), .val (.ref b2), .val .null, .val .null, .val .null, .val .null, .val (.int (1 : Int32)), .val (.ref b2)] [w1, .null])) (X20.aaload hx (j := (1 : Int32)) (v := w1) (Eq.trans (congrArg (fun h_ => h_[_]?) eq20) Ar21.1) (State.isArrayOf_alike hZ.alike Ar21.2.1) rfl Ar21.2.2 hin21 (Hh21.at hin21 rfl) (g := (mkF m 235 #[.val (.int p0), .val (.int p1), .val (.int p2), .val (.int p3), .val (.int p4), .val (.int (0 : Int32)), .val (.int s1), .val (.int u2), .val (.int s2), .val (.int m9), .val (.ref b1), .val (.ref b2), .val .null, .val .null, .val .null, .val .null, .val (.int (1 : Int32)), .val (.ref b2)] [(.int (1 : Int32)), (.ref b2), .null])) rfl rfl (hb hby at_235)) ?_
    refine own_go (x' := T20.setTop (mkF m 243 #[.val (.int p0), .val (.int p1), .val (.int p2), .val (.int p3), .val (.int p4), .val (.int (0 : Int32)), .val (.int s1), .val (.int u2), .val (.int s2), .val (.int m9), .val (.ref b1), .val (.ref b2), .val .null, .val .null, .val .null, .val .null, .val (.int (1 : Int32)), .val (.ref b2)] [(.int m9), (.int s2), (.int u2), (.int (1 : Int32)), w1, .null])) (fun _ k => XS.iconst X20.here hx rfl (hb hby at_236) (XS.iload X20.here hx rfl (hb hby at_237) rfl (XS.iload X20.here hx rfl (hb hby at_239) rfl (XS.iload X20.here hx rfl (hb hby at_241) rfl k)))) ?_
    obtain ⟨_, _, ⟨T22, L22, k22, n22⟩, -, X22, ⟨Lc22, hQ22, l22, y22, z22⟩, st22⟩ := Jvm.LawKit.callS X20 hx (y := (⟨"com/example/wee_match/weematch/WindowsCharsPinLaw", "after", "([C[CIIIC)Z"⟩ : MethodName)) hown (mvT hZ (own_w hw 36 rfl)) (mvT hZ (own_w hw 37 rfl)) (mvT hZ (own_w hw 29 rfl)) (mvT hZ (own_w hw 38 rfl)) (by decide) (backOf (W := 0) (rm6n l Z a0 hw [] w1 (1 : Int32) u2 s2 m9 T17.heap n0 Zs R1) hZ (own_w hw 38 rfl) (own_w hw 29 rfl) (by decide) (by decide)) (g := (mkF m 243 #[.val (.int p0), .val (.int p1), .val (.int p2), .val (.int p3), .val (.int p4), .val (.int (0 : Int32)), .val (.int s1), .val (.int u2), .val (.int s2), .val (.int m9), .val (.ref b1), .val (.ref b2), .val .null, .val .null, .val .null, .val .null, .val (.int (1 : Int32)), .val (.ref b2)] [(.int m9), (.int s2), (.int u2), (.int (1 : Int32)), w1, .null])) rfl (by rw [hml]; rfl) (argsL := [.null, w1, (.int (1 : Int32)), (.int u2), (.int s2), (.int m9)]) (rest := []) (lenOf pd_4 rfl) rfl (by show 2 * 0 + _ ≤ _; exact Nat.le_of_eq rfl) (hb hby at_243) (fun _ _ => ⟨rfl, eq20, (by decide : 8 + 0 ≤ _), (by decide : 275 + 0 ≤ _)⟩)
    dsimp only [Pt.U, Pt.locs, Pt.cells, Pt.slots] at X22 l22 y22 z22 st22 hQ22
    subst l22 y22 z22
    obtain ⟨hv22, Nq22, eq22⟩ := hQ22
    subst hv22
    replace Nf := Fr.app Nf Nq22
    refine own_go (x' := T22.setTop (mkF m 246 #[.val (.int p0), .val (.int p1), .val (.int p2), .val (.int p3), .val (.int p4), .val (.int (0 : Int32)), .val (.int s1), .val (.int u2), .val (.int s2), .val (.int m9), .val (.ref b1), .val (.ref b2), .val .null, .val .null, .val .null, .val .null, .val (.int (1 : Int32)), .val (.ref b2)] [(.int (1 : Int32))])) st22 ?_
    refine own_go (x' := T22.setTop (mkF m 254 #[.val (.int p0), .val (.int p1), .val (.int p2), .val (.int p3), .val (.int p4), .val (.int (0 : Int32)), .val (.int s1), .val (.int u2), .val (.int s2), .val (.int m9), .val (.ref b1), .val (.ref b2), .val .null, .val .null, .val .null, .val .null, .val (.int (1 : Int32)), .val (.ref b2)] [(.int (2 : Int32)), (.ref b2), .null])) (fun _ k => XS.ifNo X22.here hx rfl (hb hby at_246) rfl ((if0 _ _).trans (feq (by decide +kernel : ¬ ((1 : Int32) = (0 : Int32)))).1) (XS.aload X22.here hx rfl (hb hby at_249) rfl rfl (XS.aload X22.here hx rfl (hb hby at_251) rfl rfl (XS.iconst X22.here hx rfl (hb hby at_253) k)))) ?_
    obtain ⟨cl23, Ar23, q23, Sz23, Nn23, Hh23, Gg23⟩ := id V_b2
    have hin23 : ¬ ((2 : Int32) < 0 ∨ cl23.slots.size ≤ ((2 : Int32)).toNatClampNeg) := inb_of Sz23 ⟨by decide, by decide⟩
    refine own_go (x' := T22.setTop (mkF m 255 #[.val (.int p0), .val (.int p1), .val (.int p2), .val (.int p3), .val (.int p4), .val (.int (0 : Int32)), .val (.int s1), .val (.int u2), .val (.int s2), .val (.int m9), .val (.ref b1), .val (.ref b2), .val .null, .val .null, .val .null, .val .null, .val (.int (1 : Int32)), .val (.ref b2)] [w2, .null])) (X22.aaload hx (j := (2 : Int32)) (v := w2) (Eq.trans (congrArg (fun h_ => h_[_]?) eq22) Ar23.1) (State.isArrayOf_alike hZ.alike Ar23.2.1) rfl Ar23.2.2 hin23 (Hh23.at hin23 rfl) (g := (mkF m 254 #[.val (.int p0), .val (.int p1), .val (.int p2), .val (.int p3), .val (.int p4), .val (.int (0 : Int32)), .val (.int s1), .val (.int u2), .val (.int s2), .val (.int m9), .val (.ref b1), .val (.ref b2), .val .null, .val .null, .val .null, .val .null, .val (.int (1 : Int32)), .val (.ref b2)] [(.int (2 : Int32)), (.ref b2), .null])) rfl rfl (hb hby at_254)) ?_
    refine own_go (x' := T22.setTop (mkF m 262 #[.val (.int p0), .val (.int p1), .val (.int p2), .val (.int p3), .val (.int p4), .val (.int (0 : Int32)), .val (.int s1), .val (.int u2), .val (.int s2), .val (.int m9), .val (.ref b1), .val (.ref b2), .val .null, .val .null, .val .null, .val .null, .val (.int (1 : Int32)), .val (.ref b2)] [(.int m9), (.int s2), (.int u2), (.int (2 : Int32)), w2, .null])) (fun _ k => XS.iconst X22.here hx rfl (hb hby at_255) (XS.iload X22.here hx rfl (hb hby at_256) rfl (XS.iload X22.here hx rfl (hb hby at_258) rfl (XS.iload X22.here hx rfl (hb hby at_260) rfl k)))) ?_
    obtain ⟨_, _, ⟨T24, L24, k24, n24⟩, -, X24, ⟨Lc24, hQ24, l24, y24, z24⟩, st24⟩ := Jvm.LawKit.callS X22 hx (y := (⟨"com/example/wee_match/weematch/WindowsCharsPinLaw", "after", "([C[CIIIC)Z"⟩ : MethodName)) hown (mvT hZ (own_w hw 36 rfl)) (mvT hZ (own_w hw 37 rfl)) (mvT hZ (own_w hw 29 rfl)) (mvT hZ (own_w hw 38 rfl)) (by decide) (backOf (W := 0) (rm6n l Z a0 hw [] w2 (2 : Int32) u2 s2 m9 T17.heap n0 Zs R2) hZ (own_w hw 38 rfl) (own_w hw 29 rfl) (by decide) (by decide)) (g := (mkF m 262 #[.val (.int p0), .val (.int p1), .val (.int p2), .val (.int p3), .val (.int p4), .val (.int (0 : Int32)), .val (.int s1), .val (.int u2), .val (.int s2), .val (.int m9), .val (.ref b1), .val (.ref b2), .val .null, .val .null, .val .null, .val .null, .val (.int (1 : Int32)), .val (.ref b2)] [(.int m9), (.int s2), (.int u2), (.int (2 : Int32)), w2, .null])) rfl (by rw [hml]; rfl) (argsL := [.null, w2, (.int (2 : Int32)), (.int u2), (.int s2), (.int m9)]) (rest := []) (lenOf pd_4 rfl) rfl (by show 2 * 0 + _ ≤ _; exact Nat.le_of_eq rfl) (hb hby at_262) (fun _ _ => ⟨rfl, eq22, (by decide : 8 + 0 ≤ _), (by decide : 275 + 0 ≤ _)⟩)
    dsimp only [Pt.U, Pt.locs, Pt.cells, Pt.slots] at X24 l24 y24 z24 st24 hQ24
    subst l24 y24 z24
    obtain ⟨hv24, Nq24, eq24⟩ := hQ24
    subst hv24
    replace Nf := Fr.app Nf Nq24
    refine own_go (x' := T24.setTop (mkF m 265 #[.val (.int p0), .val (.int p1), .val (.int p2), .val (.int p3), .val (.int p4), .val (.int (0 : Int32)), .val (.int s1), .val (.int u2), .val (.int s2), .val (.int m9), .val (.ref b1), .val (.ref b2), .val .null, .val .null, .val .null, .val .null, .val (.int (1 : Int32)), .val (.ref b2)] [(.int (1 : Int32))])) st24 ?_
    refine own_go (x' := T24.setTop (mkF m 273 #[.val (.int p0), .val (.int p1), .val (.int p2), .val (.int p3), .val (.int p4), .val (.int (0 : Int32)), .val (.int s1), .val (.int u2), .val (.int s2), .val (.int m9), .val (.ref b1), .val (.ref b2), .val .null, .val .null, .val .null, .val .null, .val (.int (1 : Int32)), .val (.ref b2)] [(.int (3 : Int32)), (.ref b2), .null])) (fun _ k => XS.ifNo X24.here hx rfl (hb hby at_265) rfl ((if0 _ _).trans (feq (by decide +kernel : ¬ ((1 : Int32) = (0 : Int32)))).1) (XS.aload X24.here hx rfl (hb hby at_268) rfl rfl (XS.aload X24.here hx rfl (hb hby at_270) rfl rfl (XS.iconst X24.here hx rfl (hb hby at_272) k)))) ?_
    obtain ⟨cl25, Ar25, q25, Sz25, Nn25, Hh25, Gg25⟩ := id V_b2
    have hin25 : ¬ ((3 : Int32) < 0 ∨ cl25.slots.size ≤ ((3 : Int32)).toNatClampNeg) := inb_of Sz25 ⟨by decide, by decide⟩
    refine own_go (x' := T24.setTop (mkF m 274 #[.val (.int p0), .val (.int p1), .val (.int p2), .val (.int p3), .val (.int p4), .val (.int (0 : Int32)), .val (.int s1), .val (.int u2), .val (.int s2), .val (.int m9), .val (.ref b1), .val (.ref b2), .val .null, .val .null, .val .null, .val .null, .val (.int (1 : Int32)), .val (.ref b2)] [w3, .null])) (X24.aaload hx (j := (3 : Int32)) (v := w3) (Eq.trans (congrArg (fun h_ => h_[_]?) eq24) Ar25.1) (State.isArrayOf_alike hZ.alike Ar25.2.1) rfl Ar25.2.2 hin25 (Hh25.at hin25 rfl) (g := (mkF m 273 #[.val (.int p0), .val (.int p1), .val (.int p2), .val (.int p3), .val (.int p4), .val (.int (0 : Int32)), .val (.int s1), .val (.int u2), .val (.int s2), .val (.int m9), .val (.ref b1), .val (.ref b2), .val .null, .val .null, .val .null, .val .null, .val (.int (1 : Int32)), .val (.ref b2)] [(.int (3 : Int32)), (.ref b2), .null])) rfl rfl (hb hby at_273)) ?_
    refine own_go (x' := T24.setTop (mkF m 281 #[.val (.int p0), .val (.int p1), .val (.int p2), .val (.int p3), .val (.int p4), .val (.int (0 : Int32)), .val (.int s1), .val (.int u2), .val (.int s2), .val (.int m9), .val (.ref b1), .val (.ref b2), .val .null, .val .null, .val .null, .val .null, .val (.int (1 : Int32)), .val (.ref b2)] [(.int m9), (.int s2), (.int u2), (.int (3 : Int32)), w3, .null])) (fun _ k => XS.iconst X24.here hx rfl (hb hby at_274) (XS.iload X24.here hx rfl (hb hby at_275) rfl (XS.iload X24.here hx rfl (hb hby at_277) rfl (XS.iload X24.here hx rfl (hb hby at_279) rfl k)))) ?_
    obtain ⟨_, _, ⟨T26, L26, k26, n26⟩, -, X26, ⟨Lc26, hQ26, l26, y26, z26⟩, st26⟩ := Jvm.LawKit.callS X24 hx (y := (⟨"com/example/wee_match/weematch/WindowsCharsPinLaw", "after", "([C[CIIIC)Z"⟩ : MethodName)) hown (mvT hZ (own_w hw 36 rfl)) (mvT hZ (own_w hw 37 rfl)) (mvT hZ (own_w hw 29 rfl)) (mvT hZ (own_w hw 38 rfl)) (by decide) (backOf (W := 0) (rm6n l Z a0 hw [] w3 (3 : Int32) u2 s2 m9 T17.heap n0 Zs R3) hZ (own_w hw 38 rfl) (own_w hw 29 rfl) (by decide) (by decide)) (g := (mkF m 281 #[.val (.int p0), .val (.int p1), .val (.int p2), .val (.int p3), .val (.int p4), .val (.int (0 : Int32)), .val (.int s1), .val (.int u2), .val (.int s2), .val (.int m9), .val (.ref b1), .val (.ref b2), .val .null, .val .null, .val .null, .val .null, .val (.int (1 : Int32)), .val (.ref b2)] [(.int m9), (.int s2), (.int u2), (.int (3 : Int32)), w3, .null])) rfl (by rw [hml]; rfl) (argsL := [.null, w3, (.int (3 : Int32)), (.int u2), (.int s2), (.int m9)]) (rest := []) (lenOf pd_4 rfl) rfl (by show 2 * 0 + _ ≤ _; exact Nat.le_of_eq rfl) (hb hby at_281) (fun _ _ => ⟨rfl, eq24, (by decide : 8 + 0 ≤ _), (by decide : 275 + 0 ≤ _)⟩)
    dsimp only [Pt.U, Pt.locs, Pt.cells, Pt.slots] at X26 l26 y26 z26 st26 hQ26
    subst l26 y26 z26
    obtain ⟨hv26, Nq26, eq26⟩ := hQ26
    subst hv26
    replace Nf := Fr.app Nf Nq26
    refine own_go (x' := T26.setTop (mkF m 284 #[.val (.int p0), .val (.int p1), .val (.int p2), .val (.int p3), .val (.int p4), .val (.int (0 : Int32)), .val (.int s1), .val (.int u2), .val (.int s2), .val (.int m9), .val (.ref b1), .val (.ref b2), .val .null, .val .null, .val .null, .val .null, .val (.int (1 : Int32)), .val (.ref b2)] [(.int (1 : Int32))])) st26 ?_
    refine own_go (x' := T26.setTop (mkF m 292 #[.val (.int p0), .val (.int p1), .val (.int p2), .val (.int p3), .val (.int p4), .val (.int (0 : Int32)), .val (.int s1), .val (.int u2), .val (.int s2), .val (.int m9), .val (.ref b1), .val (.ref b2), .val .null, .val .null, .val .null, .val .null, .val (.int (1 : Int32)), .val (.ref b2)] [(.int (1 : Int32))])) (fun _ k => XS.ifNo X26.here hx rfl (hb hby at_284) rfl ((if0 _ _).trans (feq (by decide +kernel : ¬ ((1 : Int32) = (0 : Int32)))).1) (XS.iconst X26.here hx rfl (hb hby at_287) (XS.goto X26.here hx rfl (pc0 := 288) (pc' := 292) rfl (hb hby at_288) (by decide) (by decide) k))) ?_
    refine own_retN X26 hx hlk (t := .boolean) hret (by simp) (hb hby at_292) (w := (1 : Int32)) rfl ?_ (by decide) (by decide)
    rw [eq26]
    exact ⟨rfl, Nf⟩
  · rw [hq]
    obtain ⟨T27, h27, X27, e27, E27, A27, D27, -, st27⟩ := newO X0 hx hZ hown (own_w hw 2 rfl) (own_w hw 3 rfl) (own_w hw 4 rfl) e0 (g := (mkF m 36 #[.val (.int p0), .val (.int p1), .val (.int p2), .val (.int p3), .val (.int p4), .val (.int (1 : Int32)), .val (.int s1), .val (.int u2), .val (.int s2), .val (.int m9), .unset, .unset, .unset, .unset, .unset, .unset, .unset, .unset] [])) rfl (hb hby at_36) (by decide) (by decide)
    obtain ⟨b27, g27⟩ : ∃ z, z = h0.size := ⟨_, rfl⟩
    rw [← g27] at A27 D27 st27
    have g_b27 : n0 ≤ b27 := Nat.le_trans Zs (Nat.le_of_eq g27.symm)
    replace Zs := Nat.le_trans Zs E27.1
    have E_b27 := A27
    have F_b27_bytes : Fld Z h27 b27 "com/example/wee_match/weematch/Sieve$Windows" "bytes" "[[B" .null := D27 (Or.inr (own_w hw 14 rfl)) (ty := (.array (.array .byte))) (by decide)
    have F_b27_chars : Fld Z h27 b27 "com/example/wee_match/weematch/Sieve$Windows" "chars" "[[C" .null := D27 (Or.inr (own_w hw 18 rfl)) (ty := (.array (.array .char))) (by decide)
    have F_b27_starts : Fld Z h27 b27 "com/example/wee_match/weematch/Sieve$Windows" "starts" "[I" .null := D27 (Or.inl (own_w hw 21 rfl)) (ty := (.array .int)) (by decide)
    refine own_go (x' := T27.setTop (mkF m 39 #[.val (.int p0), .val (.int p1), .val (.int p2), .val (.int p3), .val (.int p4), .val (.int (1 : Int32)), .val (.int s1), .val (.int u2), .val (.int s2), .val (.int m9), .unset, .unset, .unset, .unset, .unset, .unset, .unset, .unset] [(.ref b27)])) st27 ?_
    refine own_go (x' := T27.setTop (mkF m 40 #[.val (.int p0), .val (.int p1), .val (.int p2), .val (.int p3), .val (.int p4), .val (.int (1 : Int32)), .val (.int s1), .val (.int u2), .val (.int s2), .val (.int m9), .unset, .unset, .unset, .unset, .unset, .unset, .unset, .unset] [(.ref b27), (.ref b27)])) (fun _ k => XS.dup X27.here hx rfl (hb hby at_39) rfl rfl k) ?_
    obtain ⟨_, _, ⟨T28, L28, k28, n28⟩, -, X28, ⟨Lc28, hQ28, l28, y28, z28⟩, st28⟩ := X27.specialBack hx (y := (⟨"com/example/wee_match/weematch/Sieve$Windows", "<init>", "()V"⟩ : MethodName)) rfl hown (mvT hZ (own_w hw 5 rfl)) (mvT hZ (own_w hw 6 rfl)) (mvT hZ (own_w hw 7 rfl)) (by decide) (backOf (W := 1) (rm1 l Z a0 hw [] b27 h27 n0 Zs E_b27 F_b27_bytes F_b27_chars F_b27_starts g_b27) hZ (own_w hw 7 rfl) (own_w hw 4 rfl) (by decide) (by decide)) (g := (mkF m 40 #[.val (.int p0), .val (.int p1), .val (.int p2), .val (.int p3), .val (.int p4), .val (.int (1 : Int32)), .val (.int s1), .val (.int u2), .val (.int s2), .val (.int m9), .unset, .unset, .unset, .unset, .unset, .unset, .unset, .unset] [(.ref b27), (.ref b27)])) rfl (by rw [hml]; rfl) (Steps.refl _) (a := b27) (argsL := []) (rest := [(.ref b27)]) (lenOf pd_0 rfl) rfl (by show 2 * 0 + _ ≤ _; exact Nat.le_of_eq rfl) (hb hby at_40) (fun _ _ => ⟨rfl, e27, (by decide : 1 + 3 ≤ _), (by decide : 7 + 144 ≤ _)⟩)
    dsimp only [Pt.U, Pt.locs, Pt.cells, Pt.slots] at X28 l28 y28 z28 st28 hQ28
    subst l28 y28 z28
    obtain ⟨b28, kc28, hv28, Nq28, K28, sq28, g_b28, Eo28, Fs28, V_b28, O_b28⟩ := hQ28
    subst hv28
    replace Nf := Fr.app Nf Nq28
    have ne_b27_b28 : b27 ≠ b28 := Nat.ne_of_lt (Nat.lt_of_lt_of_le E_b27.lt sq28)
    replace Zs := Nat.le_trans Zs K28.1
    replace E_b27 := Eo28
    replace F_b27_chars := Fs28
    refine own_go (x' := T28.setTop (mkF m 43 #[.val (.int p0), .val (.int p1), .val (.int p2), .val (.int p3), .val (.int p4), .val (.int (1 : Int32)), .val (.int s1), .val (.int u2), .val (.int s2), .val (.int m9), .unset, .unset, .unset, .unset, .unset, .unset, .unset, .unset] [(.ref b27)])) (fun _ k => st28.trans k) ?_
    refine own_go (x' := T28.setTop (mkF m 51 #[.val (.int p0), .val (.int p1), .val (.int p2), .val (.int p3), .val (.int p4), .val (.int (1 : Int32)), .val (.int s1), .val (.int u2), .val (.int s2), .val (.int m9), .val (.ref b27), .unset, .unset, .unset, .unset, .unset, .unset, .unset] [(.int s1), (.int (1 : Int32)), (.ref b27)])) (fun _ k => XS.astore X28.here hx rfl (hb hby at_43) rfl rfl (l' := #[.val (.int p0), .val (.int p1), .val (.int p2), .val (.int p3), .val (.int p4), .val (.int (1 : Int32)), .val (.int s1), .val (.int u2), .val (.int s2), .val (.int m9), .val (.ref b27), .unset, .unset, .unset, .unset, .unset, .unset, .unset]) rfl (XS.aload X28.here hx rfl (hb hby at_45) rfl rfl (XS.iload X28.here hx rfl (hb hby at_47) rfl (XS.iload X28.here hx rfl (hb hby at_49) rfl k)))) ?_
    have q29b_lt := E_b27.lt
    obtain ⟨cq29, kq29, q29a, q29b, q29c⟩ := isOf hZ rfl E_b27
    obtain ⟨_, _, ⟨T29, L29, k29, n29⟩, -, X29, ⟨Lc29, hQ29, l29, y29, z29⟩, st29⟩ := X28.virtualBack hx (y := (⟨"com/example/wee_match/weematch/Sieve$Windows", "chars", "(II)[[C"⟩ : MethodName)) (z := (⟨"com/example/wee_match/weematch/Sieve$Windows", "chars", "(II)[[C"⟩ : MethodName)) hown (mvT hZ (own_w hw 22 rfl)) (mvT hZ (own_w hw 23 rfl)) (notFace_of_selects (args := #[]) (mvT hZ (own_w hw 25 rfl))) (mvT hZ (own_w hw 25 rfl)) (mvT hZ (own_w hw 24 rfl)) (by decide) (backOf (W := 0) (rmF_1 l Z a0 hw [] b27 s1 b28 kc28 T28.heap n0 Zs F_b27_chars V_b28 O_b28 ne_b27_b28 g_b28 hs1) hZ (own_w hw 26 rfl) (own_w hw 4 rfl) (by decide) (by decide)) q29a q29c (g := (mkF m 51 #[.val (.int p0), .val (.int p1), .val (.int p2), .val (.int p3), .val (.int p4), .val (.int (1 : Int32)), .val (.int s1), .val (.int u2), .val (.int s2), .val (.int m9), .val (.ref b27), .unset, .unset, .unset, .unset, .unset, .unset, .unset] [(.int s1), (.int (1 : Int32)), (.ref b27)])) rfl (by rw [hml]; rfl) (Steps.refl _) (argsL := [(.int (1 : Int32)), (.int s1)]) (rest := []) (lenOf pd_1 rfl) rfl (by show 2 * 0 + _ ≤ _; exact Nat.le_of_eq rfl) (hb hby at_51) (fun _ _ => ⟨rfl, rfl, (by decide : 4 + 1 ≤ _), (by decide : 151 + 31 ≤ _)⟩)
    dsimp only [Pt.U, Pt.locs, Pt.cells, Pt.slots] at X29 l29 y29 z29 st29 hQ29
    subst l29 y29 z29
    obtain ⟨c0, kk0, hv29, Nq29, K29, Fs29, Vn29, sq_c0, g_c0, V_c0⟩ := hQ29
    subst hv29
    replace Nf := Fr.app Nf Nq29
    replace E_b27 := E_b27.keep K29
    replace Zs := Nat.le_trans Zs K29.1
    replace V_b28 := Vn29
    replace F_b27_chars := Fs29
    have ne_c0_b28 : c0 ≠ b28 := own_two V_c0 V_b28 (by decide)
    have ne_b27_c0 : b27 ≠ c0 := Nat.ne_of_lt (Nat.lt_of_lt_of_le q29b_lt sq_c0)
    refine own_go (x' := T29.setTop (mkF m 54 #[.val (.int p0), .val (.int p1), .val (.int p2), .val (.int p3), .val (.int p4), .val (.int (1 : Int32)), .val (.int s1), .val (.int u2), .val (.int s2), .val (.int m9), .val (.ref b27), .unset, .unset, .unset, .unset, .unset, .unset, .unset] [(.ref b28)])) (fun _ k => st29.trans k) ?_
    refine own_go (x' := T29.setTop (mkF m 63 #[.val (.int p0), .val (.int p1), .val (.int p2), .val (.int p3), .val (.int p4), .val (.int (1 : Int32)), .val (.int s1), .val (.int u2), .val (.int s2), .val (.int m9), .val (.ref b27), .val (.ref b28), .unset, .unset, .unset, .unset, .unset, .unset] [(.ref b28)])) (fun _ k => XS.astore X29.here hx rfl (hb hby at_54) rfl rfl (l' := #[.val (.int p0), .val (.int p1), .val (.int p2), .val (.int p3), .val (.int p4), .val (.int (1 : Int32)), .val (.int s1), .val (.int u2), .val (.int s2), .val (.int m9), .val (.ref b27), .val (.ref b28), .unset, .unset, .unset, .unset, .unset, .unset]) rfl (XS.aload X29.here hx rfl (hb hby at_56) rfl rfl (XS.ifnullNo X29.here hx rfl (hb hby at_58) rfl (XS.aload X29.here hx rfl (hb hby at_61) rfl rfl k)))) ?_
    obtain ⟨cl30, Ar30, -, Sz30, Nn30, -, -⟩ := id V_b28
    refine own_go (x' := T29.setTop (mkF m 64 #[.val (.int p0), .val (.int p1), .val (.int p2), .val (.int p3), .val (.int p4), .val (.int (1 : Int32)), .val (.int s1), .val (.int u2), .val (.int s2), .val (.int m9), .val (.ref b27), .val (.ref b28), .unset, .unset, .unset, .unset, .unset, .unset] [(.int (4 : Int32))])) (fun t k => X29.arraylength hx (Eq.trans (congrArg (fun h_ => h_[_]?) rfl) Ar30.1) (State.isArrayOf_alike hZ.alike Ar30.2.1) (g := (mkF m 63 #[.val (.int p0), .val (.int p1), .val (.int p2), .val (.int p3), .val (.int p4), .val (.int (1 : Int32)), .val (.int s1), .val (.int u2), .val (.int s2), .val (.int m9), .val (.ref b27), .val (.ref b28), .unset, .unset, .unset, .unset, .unset, .unset] [(.ref b28)])) rfl rfl (hb hby at_63) t (by rw [len_of Sz30 Nn30]; exact k)) ?_
    refine own_go (x' := T29.setTop (mkF m 73 #[.val (.int p0), .val (.int p1), .val (.int p2), .val (.int p3), .val (.int p4), .val (.int (1 : Int32)), .val (.int s1), .val (.int u2), .val (.int s2), .val (.int m9), .val (.ref b27), .val (.ref b28), .unset, .unset, .unset, .unset, .unset, .unset] [(.int (0 : Int32)), (.ref b28)])) (fun _ k => XS.iconst X29.here hx rfl (hb hby at_64) (XS.icmpYes X29.here hx rfl (pc0 := 65) (pc' := 70) rfl (hb hby at_65) rfl (teq rfl).1 (by decide) (by decide) (XS.aload X29.here hx rfl (hb hby at_70) rfl rfl (XS.iconst X29.here hx rfl (hb hby at_72) k)))) ?_
    obtain ⟨cl31, Ar31, q31, Sz31, Nn31, Hh31, Gg31⟩ := id V_b28
    have hin31 : ¬ ((0 : Int32) < 0 ∨ cl31.slots.size ≤ ((0 : Int32)).toNatClampNeg) := inb_of Sz31 ⟨by decide, by decide⟩
    refine own_go (x' := T29.setTop (mkF m 74 #[.val (.int p0), .val (.int p1), .val (.int p2), .val (.int p3), .val (.int p4), .val (.int (1 : Int32)), .val (.int s1), .val (.int u2), .val (.int s2), .val (.int m9), .val (.ref b27), .val (.ref b28), .unset, .unset, .unset, .unset, .unset, .unset] [(.ref c0)])) (X29.aaload hx (j := (0 : Int32)) (v := (.ref c0)) (Eq.trans (congrArg (fun h_ => h_[_]?) rfl) Ar31.1) (State.isArrayOf_alike hZ.alike Ar31.2.1) rfl Ar31.2.2 hin31 (Hh31.at hin31 rfl) (g := (mkF m 73 #[.val (.int p0), .val (.int p1), .val (.int p2), .val (.int p3), .val (.int p4), .val (.int (1 : Int32)), .val (.int s1), .val (.int u2), .val (.int s2), .val (.int m9), .val (.ref b27), .val (.ref b28), .unset, .unset, .unset, .unset, .unset, .unset] [(.int (0 : Int32)), (.ref b28)])) rfl rfl (hb hby at_73)) ?_
    refine own_go (x' := T29.setTop (mkF m 79 #[.val (.int p0), .val (.int p1), .val (.int p2), .val (.int p3), .val (.int p4), .val (.int (1 : Int32)), .val (.int s1), .val (.int u2), .val (.int s2), .val (.int m9), .val (.ref b27), .val (.ref b28), .val (.ref c0), .unset, .unset, .unset, .unset, .unset] [(.int (1 : Int32)), (.ref b28)])) (fun _ k => XS.astore X29.here hx rfl (hb hby at_74) rfl rfl (l' := #[.val (.int p0), .val (.int p1), .val (.int p2), .val (.int p3), .val (.int p4), .val (.int (1 : Int32)), .val (.int s1), .val (.int u2), .val (.int s2), .val (.int m9), .val (.ref b27), .val (.ref b28), .val (.ref c0), .unset, .unset, .unset, .unset, .unset]) rfl (XS.aload X29.here hx rfl (hb hby at_76) rfl rfl (XS.iconst X29.here hx rfl (hb hby at_78) k))) ?_
    obtain ⟨cl32, Ar32, q32, Sz32, Nn32, Hh32, Gg32⟩ := id V_b28
    have hin32 : ¬ ((1 : Int32) < 0 ∨ cl32.slots.size ≤ ((1 : Int32)).toNatClampNeg) := inb_of Sz32 ⟨by decide, by decide⟩
    refine own_go (x' := T29.setTop (mkF m 80 #[.val (.int p0), .val (.int p1), .val (.int p2), .val (.int p3), .val (.int p4), .val (.int (1 : Int32)), .val (.int s1), .val (.int u2), .val (.int s2), .val (.int m9), .val (.ref b27), .val (.ref b28), .val (.ref c0), .unset, .unset, .unset, .unset, .unset] [.null])) (X29.aaload hx (j := (1 : Int32)) (v := .null) (Eq.trans (congrArg (fun h_ => h_[_]?) rfl) Ar32.1) (State.isArrayOf_alike hZ.alike Ar32.2.1) rfl Ar32.2.2 hin32 (Hh32.at hin32 rfl) (g := (mkF m 79 #[.val (.int p0), .val (.int p1), .val (.int p2), .val (.int p3), .val (.int p4), .val (.int (1 : Int32)), .val (.int s1), .val (.int u2), .val (.int s2), .val (.int m9), .val (.ref b27), .val (.ref b28), .val (.ref c0), .unset, .unset, .unset, .unset, .unset] [(.int (1 : Int32)), (.ref b28)])) rfl rfl (hb hby at_79)) ?_
    refine own_go (x' := T29.setTop (mkF m 85 #[.val (.int p0), .val (.int p1), .val (.int p2), .val (.int p3), .val (.int p4), .val (.int (1 : Int32)), .val (.int s1), .val (.int u2), .val (.int s2), .val (.int m9), .val (.ref b27), .val (.ref b28), .val (.ref c0), .val .null, .unset, .unset, .unset, .unset] [(.int (2 : Int32)), (.ref b28)])) (fun _ k => XS.astore X29.here hx rfl (hb hby at_80) rfl rfl (l' := #[.val (.int p0), .val (.int p1), .val (.int p2), .val (.int p3), .val (.int p4), .val (.int (1 : Int32)), .val (.int s1), .val (.int u2), .val (.int s2), .val (.int m9), .val (.ref b27), .val (.ref b28), .val (.ref c0), .val .null, .unset, .unset, .unset, .unset]) rfl (XS.aload X29.here hx rfl (hb hby at_82) rfl rfl (XS.iconst X29.here hx rfl (hb hby at_84) k))) ?_
    obtain ⟨cl33, Ar33, q33, Sz33, Nn33, Hh33, Gg33⟩ := id V_b28
    have hin33 : ¬ ((2 : Int32) < 0 ∨ cl33.slots.size ≤ ((2 : Int32)).toNatClampNeg) := inb_of Sz33 ⟨by decide, by decide⟩
    refine own_go (x' := T29.setTop (mkF m 86 #[.val (.int p0), .val (.int p1), .val (.int p2), .val (.int p3), .val (.int p4), .val (.int (1 : Int32)), .val (.int s1), .val (.int u2), .val (.int s2), .val (.int m9), .val (.ref b27), .val (.ref b28), .val (.ref c0), .val .null, .unset, .unset, .unset, .unset] [.null])) (X29.aaload hx (j := (2 : Int32)) (v := .null) (Eq.trans (congrArg (fun h_ => h_[_]?) rfl) Ar33.1) (State.isArrayOf_alike hZ.alike Ar33.2.1) rfl Ar33.2.2 hin33 (Hh33.at hin33 rfl) (g := (mkF m 85 #[.val (.int p0), .val (.int p1), .val (.int p2), .val (.int p3), .val (.int p4), .val (.int (1 : Int32)), .val (.int s1), .val (.int u2), .val (.int s2), .val (.int m9), .val (.ref b27), .val (.ref b28), .val (.ref c0), .val .null, .unset, .unset, .unset, .unset] [(.int (2 : Int32)), (.ref b28)])) rfl rfl (hb hby at_85)) ?_
    refine own_go (x' := T29.setTop (mkF m 91 #[.val (.int p0), .val (.int p1), .val (.int p2), .val (.int p3), .val (.int p4), .val (.int (1 : Int32)), .val (.int s1), .val (.int u2), .val (.int s2), .val (.int m9), .val (.ref b27), .val (.ref b28), .val (.ref c0), .val .null, .val .null, .unset, .unset, .unset] [(.int (3 : Int32)), (.ref b28)])) (fun _ k => XS.astore X29.here hx rfl (hb hby at_86) rfl rfl (l' := #[.val (.int p0), .val (.int p1), .val (.int p2), .val (.int p3), .val (.int p4), .val (.int (1 : Int32)), .val (.int s1), .val (.int u2), .val (.int s2), .val (.int m9), .val (.ref b27), .val (.ref b28), .val (.ref c0), .val .null, .val .null, .unset, .unset, .unset]) rfl (XS.aload X29.here hx rfl (hb hby at_88) rfl rfl (XS.iconst X29.here hx rfl (hb hby at_90) k))) ?_
    obtain ⟨cl34, Ar34, q34, Sz34, Nn34, Hh34, Gg34⟩ := id V_b28
    have hin34 : ¬ ((3 : Int32) < 0 ∨ cl34.slots.size ≤ ((3 : Int32)).toNatClampNeg) := inb_of Sz34 ⟨by decide, by decide⟩
    refine own_go (x' := T29.setTop (mkF m 92 #[.val (.int p0), .val (.int p1), .val (.int p2), .val (.int p3), .val (.int p4), .val (.int (1 : Int32)), .val (.int s1), .val (.int u2), .val (.int s2), .val (.int m9), .val (.ref b27), .val (.ref b28), .val (.ref c0), .val .null, .val .null, .unset, .unset, .unset] [.null])) (X29.aaload hx (j := (3 : Int32)) (v := .null) (Eq.trans (congrArg (fun h_ => h_[_]?) rfl) Ar34.1) (State.isArrayOf_alike hZ.alike Ar34.2.1) rfl Ar34.2.2 hin34 (Hh34.at hin34 rfl) (g := (mkF m 91 #[.val (.int p0), .val (.int p1), .val (.int p2), .val (.int p3), .val (.int p4), .val (.int (1 : Int32)), .val (.int s1), .val (.int u2), .val (.int s2), .val (.int m9), .val (.ref b27), .val (.ref b28), .val (.ref c0), .val .null, .val .null, .unset, .unset, .unset] [(.int (3 : Int32)), (.ref b28)])) rfl rfl (hb hby at_91)) ?_
    refine own_go (x' := T29.setTop (mkF m 101 #[.val (.int p0), .val (.int p1), .val (.int p2), .val (.int p3), .val (.int p4), .val (.int (1 : Int32)), .val (.int s1), .val (.int u2), .val (.int s2), .val (.int m9), .val (.ref b27), .val (.ref b28), .val (.ref c0), .val .null, .val .null, .val .null, .unset, .unset] [(.int s1), (.int (1 : Int32)), (.int (0 : Int32)), (.ref c0)])) (fun _ k => XS.astore X29.here hx rfl (hb hby at_92) rfl rfl (l' := #[.val (.int p0), .val (.int p1), .val (.int p2), .val (.int p3), .val (.int p4), .val (.int (1 : Int32)), .val (.int s1), .val (.int u2), .val (.int s2), .val (.int m9), .val (.ref b27), .val (.ref b28), .val (.ref c0), .val .null, .val .null, .val .null, .unset, .unset]) rfl (XS.aload X29.here hx rfl (hb hby at_94) rfl rfl (XS.iconst X29.here hx rfl (hb hby at_96) (XS.iload X29.here hx rfl (hb hby at_97) rfl (XS.iload X29.here hx rfl (hb hby at_99) rfl k))))) ?_
    obtain ⟨_, _, ⟨T35, L35, k35, n35⟩, -, X35, ⟨Lc35, hQ35, l35, y35, z35⟩, st35⟩ := Jvm.LawKit.callS X29 hx (y := (⟨"com/example/wee_match/weematch/WindowsCharsPinLaw", "made", "([CIII)Z"⟩ : MethodName)) hown (mvT hZ (own_w hw 27 rfl)) (mvT hZ (own_w hw 28 rfl)) (mvT hZ (own_w hw 29 rfl)) (mvT hZ (own_w hw 30 rfl)) (by decide) (backOf (W := 0) (rm4p l Z a0 hw [] c0 (0 : Int32) (1 : Int32) s1 kk0 T29.heap n0 Zs V_c0 (by decide)) hZ (own_w hw 30 rfl) (own_w hw 29 rfl) (by decide) (by decide)) (g := (mkF m 101 #[.val (.int p0), .val (.int p1), .val (.int p2), .val (.int p3), .val (.int p4), .val (.int (1 : Int32)), .val (.int s1), .val (.int u2), .val (.int s2), .val (.int m9), .val (.ref b27), .val (.ref b28), .val (.ref c0), .val .null, .val .null, .val .null, .unset, .unset] [(.int s1), (.int (1 : Int32)), (.int (0 : Int32)), (.ref c0)])) rfl (by rw [hml]; rfl) (argsL := [(.ref c0), (.int (0 : Int32)), (.int (1 : Int32)), (.int s1)]) (rest := []) (lenOf pd_2 rfl) rfl (by show 2 * 0 + _ ≤ _; exact Nat.le_of_eq rfl) (hb hby at_101) (fun _ _ => ⟨rfl, rfl, (by decide : 5 + 0 ≤ _), (by decide : 182 + 0 ≤ _)⟩)
    dsimp only [Pt.U, Pt.locs, Pt.cells, Pt.slots] at X35 l35 y35 z35 st35 hQ35
    subst l35 y35 z35
    obtain ⟨hv35, Nq35, eq35⟩ := hQ35
    subst hv35
    replace Nf := Fr.app Nf Nq35
    refine own_go (x' := T35.setTop (mkF m 104 #[.val (.int p0), .val (.int p1), .val (.int p2), .val (.int p3), .val (.int p4), .val (.int (1 : Int32)), .val (.int s1), .val (.int u2), .val (.int s2), .val (.int m9), .val (.ref b27), .val (.ref b28), .val (.ref c0), .val .null, .val .null, .val .null, .unset, .unset] [(.int (1 : Int32))])) st35 ?_
    refine own_go (x' := T35.setTop (mkF m 114 #[.val (.int p0), .val (.int p1), .val (.int p2), .val (.int p3), .val (.int p4), .val (.int (1 : Int32)), .val (.int s1), .val (.int u2), .val (.int s2), .val (.int m9), .val (.ref b27), .val (.ref b28), .val (.ref c0), .val .null, .val .null, .val .null, .unset, .unset] [(.int s1), (.int (1 : Int32)), (.int (1 : Int32)), .null])) (fun _ k => XS.ifNo X35.here hx rfl (hb hby at_104) rfl ((if0 _ _).trans (feq (by decide +kernel : ¬ ((1 : Int32) = (0 : Int32)))).1) (XS.aload X35.here hx rfl (hb hby at_107) rfl rfl (XS.iconst X35.here hx rfl (hb hby at_109) (XS.iload X35.here hx rfl (hb hby at_110) rfl (XS.iload X35.here hx rfl (hb hby at_112) rfl k))))) ?_
    obtain ⟨_, _, ⟨T36, L36, k36, n36⟩, -, X36, ⟨Lc36, hQ36, l36, y36, z36⟩, st36⟩ := Jvm.LawKit.callS X35 hx (y := (⟨"com/example/wee_match/weematch/WindowsCharsPinLaw", "made", "([CIII)Z"⟩ : MethodName)) hown (mvT hZ (own_w hw 27 rfl)) (mvT hZ (own_w hw 28 rfl)) (mvT hZ (own_w hw 29 rfl)) (mvT hZ (own_w hw 30 rfl)) (by decide) (backOf (W := 0) (rm4n l Z a0 hw [] (1 : Int32) (1 : Int32) s1 T29.heap n0 Zs (by decide)) hZ (own_w hw 30 rfl) (own_w hw 29 rfl) (by decide) (by decide)) (g := (mkF m 114 #[.val (.int p0), .val (.int p1), .val (.int p2), .val (.int p3), .val (.int p4), .val (.int (1 : Int32)), .val (.int s1), .val (.int u2), .val (.int s2), .val (.int m9), .val (.ref b27), .val (.ref b28), .val (.ref c0), .val .null, .val .null, .val .null, .unset, .unset] [(.int s1), (.int (1 : Int32)), (.int (1 : Int32)), .null])) rfl (by rw [hml]; rfl) (argsL := [.null, (.int (1 : Int32)), (.int (1 : Int32)), (.int s1)]) (rest := []) (lenOf pd_2 rfl) rfl (by show 2 * 0 + _ ≤ _; exact Nat.le_of_eq rfl) (hb hby at_114) (fun _ _ => ⟨rfl, eq35, (by decide : 5 + 0 ≤ _), (by decide : 182 + 0 ≤ _)⟩)
    dsimp only [Pt.U, Pt.locs, Pt.cells, Pt.slots] at X36 l36 y36 z36 st36 hQ36
    subst l36 y36 z36
    obtain ⟨hv36, Nq36, eq36⟩ := hQ36
    subst hv36
    replace Nf := Fr.app Nf Nq36
    refine own_go (x' := T36.setTop (mkF m 117 #[.val (.int p0), .val (.int p1), .val (.int p2), .val (.int p3), .val (.int p4), .val (.int (1 : Int32)), .val (.int s1), .val (.int u2), .val (.int s2), .val (.int m9), .val (.ref b27), .val (.ref b28), .val (.ref c0), .val .null, .val .null, .val .null, .unset, .unset] [(.int (1 : Int32))])) st36 ?_
    refine own_go (x' := T36.setTop (mkF m 127 #[.val (.int p0), .val (.int p1), .val (.int p2), .val (.int p3), .val (.int p4), .val (.int (1 : Int32)), .val (.int s1), .val (.int u2), .val (.int s2), .val (.int m9), .val (.ref b27), .val (.ref b28), .val (.ref c0), .val .null, .val .null, .val .null, .unset, .unset] [(.int s1), (.int (1 : Int32)), (.int (2 : Int32)), .null])) (fun _ k => XS.ifNo X36.here hx rfl (hb hby at_117) rfl ((if0 _ _).trans (feq (by decide +kernel : ¬ ((1 : Int32) = (0 : Int32)))).1) (XS.aload X36.here hx rfl (hb hby at_120) rfl rfl (XS.iconst X36.here hx rfl (hb hby at_122) (XS.iload X36.here hx rfl (hb hby at_123) rfl (XS.iload X36.here hx rfl (hb hby at_125) rfl k))))) ?_
    obtain ⟨_, _, ⟨T37, L37, k37, n37⟩, -, X37, ⟨Lc37, hQ37, l37, y37, z37⟩, st37⟩ := Jvm.LawKit.callS X36 hx (y := (⟨"com/example/wee_match/weematch/WindowsCharsPinLaw", "made", "([CIII)Z"⟩ : MethodName)) hown (mvT hZ (own_w hw 27 rfl)) (mvT hZ (own_w hw 28 rfl)) (mvT hZ (own_w hw 29 rfl)) (mvT hZ (own_w hw 30 rfl)) (by decide) (backOf (W := 0) (rm4n l Z a0 hw [] (2 : Int32) (1 : Int32) s1 T29.heap n0 Zs (by decide)) hZ (own_w hw 30 rfl) (own_w hw 29 rfl) (by decide) (by decide)) (g := (mkF m 127 #[.val (.int p0), .val (.int p1), .val (.int p2), .val (.int p3), .val (.int p4), .val (.int (1 : Int32)), .val (.int s1), .val (.int u2), .val (.int s2), .val (.int m9), .val (.ref b27), .val (.ref b28), .val (.ref c0), .val .null, .val .null, .val .null, .unset, .unset] [(.int s1), (.int (1 : Int32)), (.int (2 : Int32)), .null])) rfl (by rw [hml]; rfl) (argsL := [.null, (.int (2 : Int32)), (.int (1 : Int32)), (.int s1)]) (rest := []) (lenOf pd_2 rfl) rfl (by show 2 * 0 + _ ≤ _; exact Nat.le_of_eq rfl) (hb hby at_127) (fun _ _ => ⟨rfl, eq36, (by decide : 5 + 0 ≤ _), (by decide : 182 + 0 ≤ _)⟩)
    dsimp only [Pt.U, Pt.locs, Pt.cells, Pt.slots] at X37 l37 y37 z37 st37 hQ37
    subst l37 y37 z37
    obtain ⟨hv37, Nq37, eq37⟩ := hQ37
    subst hv37
    replace Nf := Fr.app Nf Nq37
    refine own_go (x' := T37.setTop (mkF m 130 #[.val (.int p0), .val (.int p1), .val (.int p2), .val (.int p3), .val (.int p4), .val (.int (1 : Int32)), .val (.int s1), .val (.int u2), .val (.int s2), .val (.int m9), .val (.ref b27), .val (.ref b28), .val (.ref c0), .val .null, .val .null, .val .null, .unset, .unset] [(.int (1 : Int32))])) st37 ?_
    refine own_go (x' := T37.setTop (mkF m 140 #[.val (.int p0), .val (.int p1), .val (.int p2), .val (.int p3), .val (.int p4), .val (.int (1 : Int32)), .val (.int s1), .val (.int u2), .val (.int s2), .val (.int m9), .val (.ref b27), .val (.ref b28), .val (.ref c0), .val .null, .val .null, .val .null, .unset, .unset] [(.int s1), (.int (1 : Int32)), (.int (3 : Int32)), .null])) (fun _ k => XS.ifNo X37.here hx rfl (hb hby at_130) rfl ((if0 _ _).trans (feq (by decide +kernel : ¬ ((1 : Int32) = (0 : Int32)))).1) (XS.aload X37.here hx rfl (hb hby at_133) rfl rfl (XS.iconst X37.here hx rfl (hb hby at_135) (XS.iload X37.here hx rfl (hb hby at_136) rfl (XS.iload X37.here hx rfl (hb hby at_138) rfl k))))) ?_
    obtain ⟨_, _, ⟨T38, L38, k38, n38⟩, -, X38, ⟨Lc38, hQ38, l38, y38, z38⟩, st38⟩ := Jvm.LawKit.callS X37 hx (y := (⟨"com/example/wee_match/weematch/WindowsCharsPinLaw", "made", "([CIII)Z"⟩ : MethodName)) hown (mvT hZ (own_w hw 27 rfl)) (mvT hZ (own_w hw 28 rfl)) (mvT hZ (own_w hw 29 rfl)) (mvT hZ (own_w hw 30 rfl)) (by decide) (backOf (W := 0) (rm4n l Z a0 hw [] (3 : Int32) (1 : Int32) s1 T29.heap n0 Zs (by decide)) hZ (own_w hw 30 rfl) (own_w hw 29 rfl) (by decide) (by decide)) (g := (mkF m 140 #[.val (.int p0), .val (.int p1), .val (.int p2), .val (.int p3), .val (.int p4), .val (.int (1 : Int32)), .val (.int s1), .val (.int u2), .val (.int s2), .val (.int m9), .val (.ref b27), .val (.ref b28), .val (.ref c0), .val .null, .val .null, .val .null, .unset, .unset] [(.int s1), (.int (1 : Int32)), (.int (3 : Int32)), .null])) rfl (by rw [hml]; rfl) (argsL := [.null, (.int (3 : Int32)), (.int (1 : Int32)), (.int s1)]) (rest := []) (lenOf pd_2 rfl) rfl (by show 2 * 0 + _ ≤ _; exact Nat.le_of_eq rfl) (hb hby at_140) (fun _ _ => ⟨rfl, eq37, (by decide : 5 + 0 ≤ _), (by decide : 182 + 0 ≤ _)⟩)
    dsimp only [Pt.U, Pt.locs, Pt.cells, Pt.slots] at X38 l38 y38 z38 st38 hQ38
    subst l38 y38 z38
    obtain ⟨hv38, Nq38, eq38⟩ := hQ38
    subst hv38
    replace Nf := Fr.app Nf Nq38
    refine own_go (x' := T38.setTop (mkF m 143 #[.val (.int p0), .val (.int p1), .val (.int p2), .val (.int p3), .val (.int p4), .val (.int (1 : Int32)), .val (.int s1), .val (.int u2), .val (.int s2), .val (.int m9), .val (.ref b27), .val (.ref b28), .val (.ref c0), .val .null, .val .null, .val .null, .unset, .unset] [(.int (1 : Int32))])) st38 ?_
    refine own_go (x' := T38.setTop (mkF m 157 #[.val (.int p0), .val (.int p1), .val (.int p2), .val (.int p3), .val (.int p4), .val (.int (1 : Int32)), .val (.int s1), .val (.int u2), .val (.int s2), .val (.int m9), .val (.ref b27), .val (.ref b28), .val (.ref c0), .val .null, .val .null, .val .null, .val (.int (1 : Int32)), .unset] [(.int m9), (.ref c0)])) (fun _ k => XS.ifNo X38.here hx rfl (hb hby at_143) rfl ((if0 _ _).trans (feq (by decide +kernel : ¬ ((1 : Int32) = (0 : Int32)))).1) (XS.iconst X38.here hx rfl (hb hby at_146) (XS.goto X38.here hx rfl (pc0 := 147) (pc' := 151) rfl (hb hby at_147) (by decide) (by decide) (XS.istore X38.here hx rfl (hb hby at_151) rfl (l' := #[.val (.int p0), .val (.int p1), .val (.int p2), .val (.int p3), .val (.int p4), .val (.int (1 : Int32)), .val (.int s1), .val (.int u2), .val (.int s2), .val (.int m9), .val (.ref b27), .val (.ref b28), .val (.ref c0), .val .null, .val .null, .val .null, .val (.int (1 : Int32)), .unset]) rfl (XS.aload X38.here hx rfl (hb hby at_153) rfl rfl (XS.iload X38.here hx rfl (hb hby at_155) rfl k)))))) ?_
    obtain ⟨_, _, ⟨T39, L39, k39, n39⟩, -, X39, ⟨Lc39, hQ39, l39, y39, z39⟩, st39⟩ := Jvm.LawKit.callS X38 hx (y := (⟨"com/example/wee_match/weematch/WindowsCharsPinLaw", "stamp", "([CC)V"⟩ : MethodName)) hown (mvT hZ (own_w hw 31 rfl)) (mvT hZ (own_w hw 32 rfl)) (mvT hZ (own_w hw 29 rfl)) (mvT hZ (own_w hw 33 rfl)) (by decide) (backOf (W := 0) (rm5p l Z a0 hw [] c0 m9 s1 kk0 T29.heap n0 Zs V_c0 g_c0 hm9) hZ (own_w hw 33 rfl) (own_w hw 29 rfl) (by decide) (by decide)) (g := (mkF m 157 #[.val (.int p0), .val (.int p1), .val (.int p2), .val (.int p3), .val (.int p4), .val (.int (1 : Int32)), .val (.int s1), .val (.int u2), .val (.int s2), .val (.int m9), .val (.ref b27), .val (.ref b28), .val (.ref c0), .val .null, .val .null, .val .null, .val (.int (1 : Int32)), .unset] [(.int m9), (.ref c0)])) rfl (by rw [hml]; rfl) (argsL := [(.ref c0), (.int m9)]) (rest := []) (lenOf pd_3 rfl) rfl (by show 2 * 0 + _ ≤ _; exact Nat.le_of_eq rfl) (hb hby at_157) (fun _ _ => ⟨rfl, eq38, (by decide : 5 + 0 ≤ _), (by decide : 182 + 0 ≤ _)⟩)
    dsimp only [Pt.U, Pt.locs, Pt.cells, Pt.slots] at X39 l39 y39 z39 st39 hQ39
    subst l39 y39 z39
    obtain ⟨hv39, Nq39, K39, Vn39⟩ := hQ39
    subst hv39
    replace Nf := Fr.app Nf Nq39
    replace E_b27 := E_b27.keep K39
    replace F_b27_chars := F_b27_chars.keep K39 (ninS ne_b27_c0 nin0)
    replace V_b28 := V_b28.keep K39 (ninS (Ne.symm ne_c0_b28) nin0)
    replace Zs := Nat.le_trans Zs K39.1
    replace V_c0 := Vn39
    refine own_go (x' := T39.setTop (mkF m 160 #[.val (.int p0), .val (.int p1), .val (.int p2), .val (.int p3), .val (.int p4), .val (.int (1 : Int32)), .val (.int s1), .val (.int u2), .val (.int s2), .val (.int m9), .val (.ref b27), .val (.ref b28), .val (.ref c0), .val .null, .val .null, .val .null, .val (.int (1 : Int32)), .unset] [])) st39 ?_
    refine own_go (x' := T39.setTop (mkF m 164 #[.val (.int p0), .val (.int p1), .val (.int p2), .val (.int p3), .val (.int p4), .val (.int (1 : Int32)), .val (.int s1), .val (.int u2), .val (.int s2), .val (.int m9), .val (.ref b27), .val (.ref b28), .val (.ref c0), .val .null, .val .null, .val .null, .val (.int (1 : Int32)), .unset] [(.int m9), .null])) (fun _ k => XS.aload X39.here hx rfl (hb hby at_160) rfl rfl (XS.iload X39.here hx rfl (hb hby at_162) rfl k)) ?_
    obtain ⟨_, _, ⟨T40, L40, k40, n40⟩, -, X40, ⟨Lc40, hQ40, l40, y40, z40⟩, st40⟩ := Jvm.LawKit.callS X39 hx (y := (⟨"com/example/wee_match/weematch/WindowsCharsPinLaw", "stamp", "([CC)V"⟩ : MethodName)) hown (mvT hZ (own_w hw 31 rfl)) (mvT hZ (own_w hw 32 rfl)) (mvT hZ (own_w hw 29 rfl)) (mvT hZ (own_w hw 33 rfl)) (by decide) (backOf (W := 0) (rm5n l Z a0 hw [] m9 T39.heap n0 Zs) hZ (own_w hw 33 rfl) (own_w hw 29 rfl) (by decide) (by decide)) (g := (mkF m 164 #[.val (.int p0), .val (.int p1), .val (.int p2), .val (.int p3), .val (.int p4), .val (.int (1 : Int32)), .val (.int s1), .val (.int u2), .val (.int s2), .val (.int m9), .val (.ref b27), .val (.ref b28), .val (.ref c0), .val .null, .val .null, .val .null, .val (.int (1 : Int32)), .unset] [(.int m9), .null])) rfl (by rw [hml]; rfl) (argsL := [.null, (.int m9)]) (rest := []) (lenOf pd_3 rfl) rfl (by show 2 * 0 + _ ≤ _; exact Nat.le_of_eq rfl) (hb hby at_164) (fun _ _ => ⟨rfl, rfl, (by decide : 5 + 0 ≤ _), (by decide : 182 + 0 ≤ _)⟩)
    dsimp only [Pt.U, Pt.locs, Pt.cells, Pt.slots] at X40 l40 y40 z40 st40 hQ40
    subst l40 y40 z40
    obtain ⟨hv40, Nq40, eq40⟩ := hQ40
    subst hv40
    replace Nf := Fr.app Nf Nq40
    refine own_go (x' := T40.setTop (mkF m 167 #[.val (.int p0), .val (.int p1), .val (.int p2), .val (.int p3), .val (.int p4), .val (.int (1 : Int32)), .val (.int s1), .val (.int u2), .val (.int s2), .val (.int m9), .val (.ref b27), .val (.ref b28), .val (.ref c0), .val .null, .val .null, .val .null, .val (.int (1 : Int32)), .unset] [])) st40 ?_
    refine own_go (x' := T40.setTop (mkF m 171 #[.val (.int p0), .val (.int p1), .val (.int p2), .val (.int p3), .val (.int p4), .val (.int (1 : Int32)), .val (.int s1), .val (.int u2), .val (.int s2), .val (.int m9), .val (.ref b27), .val (.ref b28), .val (.ref c0), .val .null, .val .null, .val .null, .val (.int (1 : Int32)), .unset] [(.int m9), .null])) (fun _ k => XS.aload X40.here hx rfl (hb hby at_167) rfl rfl (XS.iload X40.here hx rfl (hb hby at_169) rfl k)) ?_
    obtain ⟨_, _, ⟨T41, L41, k41, n41⟩, -, X41, ⟨Lc41, hQ41, l41, y41, z41⟩, st41⟩ := Jvm.LawKit.callS X40 hx (y := (⟨"com/example/wee_match/weematch/WindowsCharsPinLaw", "stamp", "([CC)V"⟩ : MethodName)) hown (mvT hZ (own_w hw 31 rfl)) (mvT hZ (own_w hw 32 rfl)) (mvT hZ (own_w hw 29 rfl)) (mvT hZ (own_w hw 33 rfl)) (by decide) (backOf (W := 0) (rm5n l Z a0 hw [] m9 T39.heap n0 Zs) hZ (own_w hw 33 rfl) (own_w hw 29 rfl) (by decide) (by decide)) (g := (mkF m 171 #[.val (.int p0), .val (.int p1), .val (.int p2), .val (.int p3), .val (.int p4), .val (.int (1 : Int32)), .val (.int s1), .val (.int u2), .val (.int s2), .val (.int m9), .val (.ref b27), .val (.ref b28), .val (.ref c0), .val .null, .val .null, .val .null, .val (.int (1 : Int32)), .unset] [(.int m9), .null])) rfl (by rw [hml]; rfl) (argsL := [.null, (.int m9)]) (rest := []) (lenOf pd_3 rfl) rfl (by show 2 * 0 + _ ≤ _; exact Nat.le_of_eq rfl) (hb hby at_171) (fun _ _ => ⟨rfl, eq40, (by decide : 5 + 0 ≤ _), (by decide : 182 + 0 ≤ _)⟩)
    dsimp only [Pt.U, Pt.locs, Pt.cells, Pt.slots] at X41 l41 y41 z41 st41 hQ41
    subst l41 y41 z41
    obtain ⟨hv41, Nq41, eq41⟩ := hQ41
    subst hv41
    replace Nf := Fr.app Nf Nq41
    refine own_go (x' := T41.setTop (mkF m 174 #[.val (.int p0), .val (.int p1), .val (.int p2), .val (.int p3), .val (.int p4), .val (.int (1 : Int32)), .val (.int s1), .val (.int u2), .val (.int s2), .val (.int m9), .val (.ref b27), .val (.ref b28), .val (.ref c0), .val .null, .val .null, .val .null, .val (.int (1 : Int32)), .unset] [])) st41 ?_
    refine own_go (x' := T41.setTop (mkF m 178 #[.val (.int p0), .val (.int p1), .val (.int p2), .val (.int p3), .val (.int p4), .val (.int (1 : Int32)), .val (.int s1), .val (.int u2), .val (.int s2), .val (.int m9), .val (.ref b27), .val (.ref b28), .val (.ref c0), .val .null, .val .null, .val .null, .val (.int (1 : Int32)), .unset] [(.int m9), .null])) (fun _ k => XS.aload X41.here hx rfl (hb hby at_174) rfl rfl (XS.iload X41.here hx rfl (hb hby at_176) rfl k)) ?_
    obtain ⟨_, _, ⟨T42, L42, k42, n42⟩, -, X42, ⟨Lc42, hQ42, l42, y42, z42⟩, st42⟩ := Jvm.LawKit.callS X41 hx (y := (⟨"com/example/wee_match/weematch/WindowsCharsPinLaw", "stamp", "([CC)V"⟩ : MethodName)) hown (mvT hZ (own_w hw 31 rfl)) (mvT hZ (own_w hw 32 rfl)) (mvT hZ (own_w hw 29 rfl)) (mvT hZ (own_w hw 33 rfl)) (by decide) (backOf (W := 0) (rm5n l Z a0 hw [] m9 T39.heap n0 Zs) hZ (own_w hw 33 rfl) (own_w hw 29 rfl) (by decide) (by decide)) (g := (mkF m 178 #[.val (.int p0), .val (.int p1), .val (.int p2), .val (.int p3), .val (.int p4), .val (.int (1 : Int32)), .val (.int s1), .val (.int u2), .val (.int s2), .val (.int m9), .val (.ref b27), .val (.ref b28), .val (.ref c0), .val .null, .val .null, .val .null, .val (.int (1 : Int32)), .unset] [(.int m9), .null])) rfl (by rw [hml]; rfl) (argsL := [.null, (.int m9)]) (rest := []) (lenOf pd_3 rfl) rfl (by show 2 * 0 + _ ≤ _; exact Nat.le_of_eq rfl) (hb hby at_178) (fun _ _ => ⟨rfl, eq41, (by decide : 5 + 0 ≤ _), (by decide : 182 + 0 ≤ _)⟩)
    dsimp only [Pt.U, Pt.locs, Pt.cells, Pt.slots] at X42 l42 y42 z42 st42 hQ42
    subst l42 y42 z42
    obtain ⟨hv42, Nq42, eq42⟩ := hQ42
    subst hv42
    replace Nf := Fr.app Nf Nq42
    refine own_go (x' := T42.setTop (mkF m 181 #[.val (.int p0), .val (.int p1), .val (.int p2), .val (.int p3), .val (.int p4), .val (.int (1 : Int32)), .val (.int s1), .val (.int u2), .val (.int s2), .val (.int m9), .val (.ref b27), .val (.ref b28), .val (.ref c0), .val .null, .val .null, .val .null, .val (.int (1 : Int32)), .unset] [])) st42 ?_
    refine own_go (x' := T42.setTop (mkF m 187 #[.val (.int p0), .val (.int p1), .val (.int p2), .val (.int p3), .val (.int p4), .val (.int (1 : Int32)), .val (.int s1), .val (.int u2), .val (.int s2), .val (.int m9), .val (.ref b27), .val (.ref b28), .val (.ref c0), .val .null, .val .null, .val .null, .val (.int (1 : Int32)), .unset] [(.int s2), (.int u2), (.ref b27)])) (fun _ k => XS.aload X42.here hx rfl (hb hby at_181) rfl rfl (XS.iload X42.here hx rfl (hb hby at_183) rfl (XS.iload X42.here hx rfl (hb hby at_185) rfl k))) ?_
    obtain ⟨cq43, kq43, q43a, q43b, q43c⟩ := isOf hZ eq42 E_b27
    obtain ⟨_, _, ⟨T43, L43, k43, n43⟩, -, X43, ⟨Lc43, hQ43, l43, y43, z43⟩, st43⟩ := X42.virtualBack hx (y := (⟨"com/example/wee_match/weematch/Sieve$Windows", "chars", "(II)[[C"⟩ : MethodName)) (z := (⟨"com/example/wee_match/weematch/Sieve$Windows", "chars", "(II)[[C"⟩ : MethodName)) hown (mvT hZ (own_w hw 22 rfl)) (mvT hZ (own_w hw 23 rfl)) (notFace_of_selects (args := #[]) (mvT hZ (own_w hw 25 rfl))) (mvT hZ (own_w hw 25 rfl)) (mvT hZ (own_w hw 24 rfl)) (by decide) (backOf (W := 0) (rmS_1 l Z a0 hw [] b27 u2 s2 b28 kc28 s1 m9 c0 kk0 T39.heap n0 Zs F_b27_chars V_b28 O_b28 ne_b27_b28 g_b28 hs2 hu2 V_c0 ne_c0_b28) hZ (own_w hw 26 rfl) (own_w hw 4 rfl) (by decide) (by decide)) q43a q43c (g := (mkF m 187 #[.val (.int p0), .val (.int p1), .val (.int p2), .val (.int p3), .val (.int p4), .val (.int (1 : Int32)), .val (.int s1), .val (.int u2), .val (.int s2), .val (.int m9), .val (.ref b27), .val (.ref b28), .val (.ref c0), .val .null, .val .null, .val .null, .val (.int (1 : Int32)), .unset] [(.int s2), (.int u2), (.ref b27)])) rfl (by rw [hml]; rfl) (Steps.refl _) (argsL := [(.int u2), (.int s2)]) (rest := []) (lenOf pd_1 rfl) rfl (by show 2 * 0 + _ ≤ _; exact Nat.le_of_eq rfl) (hb hby at_187) (fun _ _ => ⟨rfl, eq42, (by decide : 5 + 4 ≤ _), (by decide : 182 + 124 ≤ _)⟩)
    dsimp only [Pt.U, Pt.locs, Pt.cells, Pt.slots] at X43 l43 y43 z43 st43 hQ43
    subst l43 y43 z43
    obtain ⟨w0, w1, w2, w3, hv43, Nq43, K43, Vn43, R0, R1, R2, R3⟩ := hQ43
    subst hv43
    replace Nf := Fr.app Nf Nq43
    have lt_c0 := V_c0.lt
    have r_w0 := R0.ref.1
    have c_w0 := R0.ref.2
    have r_w1 := R1.ref.1
    have c_w1 := R1.ref.2
    have r_w2 := R2.ref.1
    have c_w2 := R2.ref.2
    have r_w3 := R3.ref.1
    have c_w3 := R3.ref.2
    replace E_b27 := E_b27.keep K43
    replace V_c0 := V_c0.keep K43 (ninS ne_c0_b28 nin0)
    replace Zs := Nat.le_trans Zs K43.1
    replace V_b28 := Vn43
    refine own_go (x' := T43.setTop (mkF m 190 #[.val (.int p0), .val (.int p1), .val (.int p2), .val (.int p3), .val (.int p4), .val (.int (1 : Int32)), .val (.int s1), .val (.int u2), .val (.int s2), .val (.int m9), .val (.ref b27), .val (.ref b28), .val (.ref c0), .val .null, .val .null, .val .null, .val (.int (1 : Int32)), .unset] [(.ref b28)])) (fun _ k => st43.trans k) ?_
    refine own_go (x' := T43.setTop (mkF m 199 #[.val (.int p0), .val (.int p1), .val (.int p2), .val (.int p3), .val (.int p4), .val (.int (1 : Int32)), .val (.int s1), .val (.int u2), .val (.int s2), .val (.int m9), .val (.ref b27), .val (.ref b28), .val (.ref c0), .val .null, .val .null, .val .null, .val (.int (1 : Int32)), .val (.ref b28)] [(.ref b28)])) (fun _ k => XS.astore X43.here hx rfl (hb hby at_190) rfl rfl (l' := #[.val (.int p0), .val (.int p1), .val (.int p2), .val (.int p3), .val (.int p4), .val (.int (1 : Int32)), .val (.int s1), .val (.int u2), .val (.int s2), .val (.int m9), .val (.ref b27), .val (.ref b28), .val (.ref c0), .val .null, .val .null, .val .null, .val (.int (1 : Int32)), .val (.ref b28)]) rfl (XS.aload X43.here hx rfl (hb hby at_192) rfl rfl (XS.ifnullNo X43.here hx rfl (hb hby at_194) rfl (XS.aload X43.here hx rfl (hb hby at_197) rfl rfl k)))) ?_
    obtain ⟨cl44, Ar44, -, Sz44, Nn44, -, -⟩ := id V_b28
    refine own_go (x' := T43.setTop (mkF m 200 #[.val (.int p0), .val (.int p1), .val (.int p2), .val (.int p3), .val (.int p4), .val (.int (1 : Int32)), .val (.int s1), .val (.int u2), .val (.int s2), .val (.int m9), .val (.ref b27), .val (.ref b28), .val (.ref c0), .val .null, .val .null, .val .null, .val (.int (1 : Int32)), .val (.ref b28)] [(.int (4 : Int32))])) (fun t k => X43.arraylength hx (Eq.trans (congrArg (fun h_ => h_[_]?) rfl) Ar44.1) (State.isArrayOf_alike hZ.alike Ar44.2.1) (g := (mkF m 199 #[.val (.int p0), .val (.int p1), .val (.int p2), .val (.int p3), .val (.int p4), .val (.int (1 : Int32)), .val (.int s1), .val (.int u2), .val (.int s2), .val (.int m9), .val (.ref b27), .val (.ref b28), .val (.ref c0), .val .null, .val .null, .val .null, .val (.int (1 : Int32)), .val (.ref b28)] [(.ref b28)])) rfl rfl (hb hby at_199) t (by rw [len_of Sz44 Nn44]; exact k)) ?_
    refine own_go (x' := T43.setTop (mkF m 215 #[.val (.int p0), .val (.int p1), .val (.int p2), .val (.int p3), .val (.int p4), .val (.int (1 : Int32)), .val (.int s1), .val (.int u2), .val (.int s2), .val (.int m9), .val (.ref b27), .val (.ref b28), .val (.ref c0), .val .null, .val .null, .val .null, .val (.int (1 : Int32)), .val (.ref b28)] [(.ref b28), (.ref c0)])) (fun _ k => XS.iconst X43.here hx rfl (hb hby at_200) (XS.icmpYes X43.here hx rfl (pc0 := 201) (pc' := 206) rfl (hb hby at_201) rfl (teq rfl).1 (by decide) (by decide) (XS.iload X43.here hx rfl (hb hby at_206) rfl (XS.ifNo X43.here hx rfl (hb hby at_208) rfl ((if0 _ _).trans (feq (by decide +kernel : ¬ ((1 : Int32) = (0 : Int32)))).1) (XS.aload X43.here hx rfl (hb hby at_211) rfl rfl (XS.aload X43.here hx rfl (hb hby at_213) rfl rfl k)))))) ?_
    refine own_go (x' := T43.setTop (mkF m 216 #[.val (.int p0), .val (.int p1), .val (.int p2), .val (.int p3), .val (.int p4), .val (.int (1 : Int32)), .val (.int s1), .val (.int u2), .val (.int s2), .val (.int m9), .val (.ref b27), .val (.ref b28), .val (.ref c0), .val .null, .val .null, .val .null, .val (.int (1 : Int32)), .val (.ref b28)] [(.int (0 : Int32)), (.ref b28), (.ref c0)])) (fun _ k => XS.iconst X43.here hx rfl (hb hby at_215) k) ?_
    obtain ⟨cl45, Ar45, q45, Sz45, Nn45, Hh45, Gg45⟩ := id V_b28
    have hin45 : ¬ ((0 : Int32) < 0 ∨ cl45.slots.size ≤ ((0 : Int32)).toNatClampNeg) := inb_of Sz45 ⟨by decide, by decide⟩
    refine own_go (x' := T43.setTop (mkF m 217 #[.val (.int p0), .val (.int p1), .val (.int p2), .val (.int p3), .val (.int p4), .val (.int (1 : Int32)), .val (.int s1), .val (.int u2), .val (.int s2), .val (.int m9), .val (.ref b27), .val (.ref b28), .val (.ref c0), .val .null, .val .null, .val .null, .val (.int (1 : Int32)), .val (.ref b28)] [w0, (.ref c0)])) (X43.aaload hx (j := (0 : Int32)) (v := w0) (Eq.trans (congrArg (fun h_ => h_[_]?) rfl) Ar45.1) (State.isArrayOf_alike hZ.alike Ar45.2.1) rfl Ar45.2.2 hin45 (Hh45.at hin45 rfl) (g := (mkF m 216 #[.val (.int p0), .val (.int p1), .val (.int p2), .val (.int p3), .val (.int p4), .val (.int (1 : Int32)), .val (.int s1), .val (.int u2), .val (.int s2), .val (.int m9), .val (.ref b27), .val (.ref b28), .val (.ref c0), .val .null, .val .null, .val .null, .val (.int (1 : Int32)), .val (.ref b28)] [(.int (0 : Int32)), (.ref b28), (.ref c0)])) rfl rfl (hb hby at_216)) ?_
    refine own_go (x' := T43.setTop (mkF m 224 #[.val (.int p0), .val (.int p1), .val (.int p2), .val (.int p3), .val (.int p4), .val (.int (1 : Int32)), .val (.int s1), .val (.int u2), .val (.int s2), .val (.int m9), .val (.ref b27), .val (.ref b28), .val (.ref c0), .val .null, .val .null, .val .null, .val (.int (1 : Int32)), .val (.ref b28)] [(.int m9), (.int s2), (.int u2), (.int (0 : Int32)), w0, (.ref c0)])) (fun _ k => XS.iconst X43.here hx rfl (hb hby at_217) (XS.iload X43.here hx rfl (hb hby at_218) rfl (XS.iload X43.here hx rfl (hb hby at_220) rfl (XS.iload X43.here hx rfl (hb hby at_222) rfl k)))) ?_
    obtain ⟨_, _, ⟨T46, L46, k46, n46⟩, -, X46, ⟨Lc46, hQ46, l46, y46, z46⟩, st46⟩ := Jvm.LawKit.callS X43 hx (y := (⟨"com/example/wee_match/weematch/WindowsCharsPinLaw", "after", "([C[CIIIC)Z"⟩ : MethodName)) hown (mvT hZ (own_w hw 36 rfl)) (mvT hZ (own_w hw 37 rfl)) (mvT hZ (own_w hw 29 rfl)) (mvT hZ (own_w hw 38 rfl)) (by decide) (backOf (W := 0) (rm6p l Z a0 hw [] c0 w0 (0 : Int32) u2 s1 s2 m9 kk0 _ T43.heap n0 Zs V_c0 lt_c0 R0) hZ (own_w hw 38 rfl) (own_w hw 29 rfl) (by decide) (by decide)) (g := (mkF m 224 #[.val (.int p0), .val (.int p1), .val (.int p2), .val (.int p3), .val (.int p4), .val (.int (1 : Int32)), .val (.int s1), .val (.int u2), .val (.int s2), .val (.int m9), .val (.ref b27), .val (.ref b28), .val (.ref c0), .val .null, .val .null, .val .null, .val (.int (1 : Int32)), .val (.ref b28)] [(.int m9), (.int s2), (.int u2), (.int (0 : Int32)), w0, (.ref c0)])) rfl (by rw [hml]; rfl) (argsL := [(.ref c0), w0, (.int (0 : Int32)), (.int u2), (.int s2), (.int m9)]) (rest := []) (lenOf pd_4 rfl) rfl (by show 2 * 0 + _ ≤ _; exact Nat.le_of_eq rfl) (hb hby at_224) (fun _ _ => ⟨rfl, rfl, (by decide : 9 + 0 ≤ _), (by decide : 306 + 0 ≤ _)⟩)
    dsimp only [Pt.U, Pt.locs, Pt.cells, Pt.slots] at X46 l46 y46 z46 st46 hQ46
    subst l46 y46 z46
    obtain ⟨hv46, Nq46, eq46⟩ := hQ46
    subst hv46
    replace Nf := Fr.app Nf Nq46
    refine own_go (x' := T46.setTop (mkF m 227 #[.val (.int p0), .val (.int p1), .val (.int p2), .val (.int p3), .val (.int p4), .val (.int (1 : Int32)), .val (.int s1), .val (.int u2), .val (.int s2), .val (.int m9), .val (.ref b27), .val (.ref b28), .val (.ref c0), .val .null, .val .null, .val .null, .val (.int (1 : Int32)), .val (.ref b28)] [(.int (1 : Int32))])) st46 ?_
    refine own_go (x' := T46.setTop (mkF m 235 #[.val (.int p0), .val (.int p1), .val (.int p2), .val (.int p3), .val (.int p4), .val (.int (1 : Int32)), .val (.int s1), .val (.int u2), .val (.int s2), .val (.int m9), .val (.ref b27), .val (.ref b28), .val (.ref c0), .val .null, .val .null, .val .null, .val (.int (1 : Int32)), .val (.ref b28)] [(.int (1 : Int32)), (.ref b28), .null])) (fun _ k => XS.ifNo X46.here hx rfl (hb hby at_227) rfl ((if0 _ _).trans (feq (by decide +kernel : ¬ ((1 : Int32) = (0 : Int32)))).1) (XS.aload X46.here hx rfl (hb hby at_230) rfl rfl (XS.aload X46.here hx rfl (hb hby at_232) rfl rfl (XS.iconst X46.here hx rfl (hb hby at_234) k)))) ?_
    obtain ⟨cl47, Ar47, q47, Sz47, Nn47, Hh47, Gg47⟩ := id V_b28
    have hin47 : ¬ ((1 : Int32) < 0 ∨ cl47.slots.size ≤ ((1 : Int32)).toNatClampNeg) := inb_of Sz47 ⟨by decide, by decide⟩
    refine own_go (x' := T46.setTop (mkF m 236 #[.val (.int p0), .val (.int p1), .val (.int p2), .val (.int p3), .val (.int p4), .val (.int (1 : Int32)), .val (.int s1), .val (.int u2), .val (.int s2), .val (.int m9), .val (.ref b27), .val (.ref b28), .val (.ref c0), .val .null, .val .null, .val .null, .val (.int (1 : Int32)), .val (.ref b28)] [w1, .null])) (X46.aaload hx (j := (1 : Int32)) (v := w1) (Eq.trans (congrArg (fun h_ => h_[_]?) eq46) Ar47.1) (State.isArrayOf_alike hZ.alike Ar47.2.1) rfl Ar47.2.2 hin47 (Hh47.at hin47 rfl) (g := (mkF m 235 #[.val (.int p0), .val (.int p1), .val (.int p2), .val (.int p3), .val (.int p4), .val (.int (1 : Int32)), .val (.int s1), .val (.int u2), .val (.int s2), .val (.int m9), .val (.ref b27), .val (.ref b28), .val (.ref c0), .val .null, .val .null, .val .null, .val (.int (1 : Int32)), .val (.ref b28)] [(.int (1 : Int32)), (.ref b28), .null])) rfl rfl (hb hby at_235)) ?_
    refine own_go (x' := T46.setTop (mkF m 243 #[.val (.int p0), .val (.int p1), .val (.int p2), .val (.int p3), .val (.int p4), .val (.int (1 : Int32)), .val (.int s1), .val (.int u2), .val (.int s2), .val (.int m9), .val (.ref b27), .val (.ref b28), .val (.ref c0), .val .null, .val .null, .val .null, .val (.int (1 : Int32)), .val (.ref b28)] [(.int m9), (.int s2), (.int u2), (.int (1 : Int32)), w1, .null])) (fun _ k => XS.iconst X46.here hx rfl (hb hby at_236) (XS.iload X46.here hx rfl (hb hby at_237) rfl (XS.iload X46.here hx rfl (hb hby at_239) rfl (XS.iload X46.here hx rfl (hb hby at_241) rfl k)))) ?_
    obtain ⟨_, _, ⟨T48, L48, k48, n48⟩, -, X48, ⟨Lc48, hQ48, l48, y48, z48⟩, st48⟩ := Jvm.LawKit.callS X46 hx (y := (⟨"com/example/wee_match/weematch/WindowsCharsPinLaw", "after", "([C[CIIIC)Z"⟩ : MethodName)) hown (mvT hZ (own_w hw 36 rfl)) (mvT hZ (own_w hw 37 rfl)) (mvT hZ (own_w hw 29 rfl)) (mvT hZ (own_w hw 38 rfl)) (by decide) (backOf (W := 0) (rm6n l Z a0 hw [] w1 (1 : Int32) u2 s2 m9 T43.heap n0 Zs R1) hZ (own_w hw 38 rfl) (own_w hw 29 rfl) (by decide) (by decide)) (g := (mkF m 243 #[.val (.int p0), .val (.int p1), .val (.int p2), .val (.int p3), .val (.int p4), .val (.int (1 : Int32)), .val (.int s1), .val (.int u2), .val (.int s2), .val (.int m9), .val (.ref b27), .val (.ref b28), .val (.ref c0), .val .null, .val .null, .val .null, .val (.int (1 : Int32)), .val (.ref b28)] [(.int m9), (.int s2), (.int u2), (.int (1 : Int32)), w1, .null])) rfl (by rw [hml]; rfl) (argsL := [.null, w1, (.int (1 : Int32)), (.int u2), (.int s2), (.int m9)]) (rest := []) (lenOf pd_4 rfl) rfl (by show 2 * 0 + _ ≤ _; exact Nat.le_of_eq rfl) (hb hby at_243) (fun _ _ => ⟨rfl, eq46, (by decide : 9 + 0 ≤ _), (by decide : 306 + 0 ≤ _)⟩)
    dsimp only [Pt.U, Pt.locs, Pt.cells, Pt.slots] at X48 l48 y48 z48 st48 hQ48
    subst l48 y48 z48
    obtain ⟨hv48, Nq48, eq48⟩ := hQ48
    subst hv48
    replace Nf := Fr.app Nf Nq48
    refine own_go (x' := T48.setTop (mkF m 246 #[.val (.int p0), .val (.int p1), .val (.int p2), .val (.int p3), .val (.int p4), .val (.int (1 : Int32)), .val (.int s1), .val (.int u2), .val (.int s2), .val (.int m9), .val (.ref b27), .val (.ref b28), .val (.ref c0), .val .null, .val .null, .val .null, .val (.int (1 : Int32)), .val (.ref b28)] [(.int (1 : Int32))])) st48 ?_
    refine own_go (x' := T48.setTop (mkF m 254 #[.val (.int p0), .val (.int p1), .val (.int p2), .val (.int p3), .val (.int p4), .val (.int (1 : Int32)), .val (.int s1), .val (.int u2), .val (.int s2), .val (.int m9), .val (.ref b27), .val (.ref b28), .val (.ref c0), .val .null, .val .null, .val .null, .val (.int (1 : Int32)), .val (.ref b28)] [(.int (2 : Int32)), (.ref b28), .null])) (fun _ k => XS.ifNo X48.here hx rfl (hb hby at_246) rfl ((if0 _ _).trans (feq (by decide +kernel : ¬ ((1 : Int32) = (0 : Int32)))).1) (XS.aload X48.here hx rfl (hb hby at_249) rfl rfl (XS.aload X48.here hx rfl (hb hby at_251) rfl rfl (XS.iconst X48.here hx rfl (hb hby at_253) k)))) ?_
    obtain ⟨cl49, Ar49, q49, Sz49, Nn49, Hh49, Gg49⟩ := id V_b28
    have hin49 : ¬ ((2 : Int32) < 0 ∨ cl49.slots.size ≤ ((2 : Int32)).toNatClampNeg) := inb_of Sz49 ⟨by decide, by decide⟩
    refine own_go (x' := T48.setTop (mkF m 255 #[.val (.int p0), .val (.int p1), .val (.int p2), .val (.int p3), .val (.int p4), .val (.int (1 : Int32)), .val (.int s1), .val (.int u2), .val (.int s2), .val (.int m9), .val (.ref b27), .val (.ref b28), .val (.ref c0), .val .null, .val .null, .val .null, .val (.int (1 : Int32)), .val (.ref b28)] [w2, .null])) (X48.aaload hx (j := (2 : Int32)) (v := w2) (Eq.trans (congrArg (fun h_ => h_[_]?) eq48) Ar49.1) (State.isArrayOf_alike hZ.alike Ar49.2.1) rfl Ar49.2.2 hin49 (Hh49.at hin49 rfl) (g := (mkF m 254 #[.val (.int p0), .val (.int p1), .val (.int p2), .val (.int p3), .val (.int p4), .val (.int (1 : Int32)), .val (.int s1), .val (.int u2), .val (.int s2), .val (.int m9), .val (.ref b27), .val (.ref b28), .val (.ref c0), .val .null, .val .null, .val .null, .val (.int (1 : Int32)), .val (.ref b28)] [(.int (2 : Int32)), (.ref b28), .null])) rfl rfl (hb hby at_254)) ?_
    refine own_go (x' := T48.setTop (mkF m 262 #[.val (.int p0), .val (.int p1), .val (.int p2), .val (.int p3), .val (.int p4), .val (.int (1 : Int32)), .val (.int s1), .val (.int u2), .val (.int s2), .val (.int m9), .val (.ref b27), .val (.ref b28), .val (.ref c0), .val .null, .val .null, .val .null, .val (.int (1 : Int32)), .val (.ref b28)] [(.int m9), (.int s2), (.int u2), (.int (2 : Int32)), w2, .null])) (fun _ k => XS.iconst X48.here hx rfl (hb hby at_255) (XS.iload X48.here hx rfl (hb hby at_256) rfl (XS.iload X48.here hx rfl (hb hby at_258) rfl (XS.iload X48.here hx rfl (hb hby at_260) rfl k)))) ?_
    obtain ⟨_, _, ⟨T50, L50, k50, n50⟩, -, X50, ⟨Lc50, hQ50, l50, y50, z50⟩, st50⟩ := Jvm.LawKit.callS X48 hx (y := (⟨"com/example/wee_match/weematch/WindowsCharsPinLaw", "after", "([C[CIIIC)Z"⟩ : MethodName)) hown (mvT hZ (own_w hw 36 rfl)) (mvT hZ (own_w hw 37 rfl)) (mvT hZ (own_w hw 29 rfl)) (mvT hZ (own_w hw 38 rfl)) (by decide) (backOf (W := 0) (rm6n l Z a0 hw [] w2 (2 : Int32) u2 s2 m9 T43.heap n0 Zs R2) hZ (own_w hw 38 rfl) (own_w hw 29 rfl) (by decide) (by decide)) (g := (mkF m 262 #[.val (.int p0), .val (.int p1), .val (.int p2), .val (.int p3), .val (.int p4), .val (.int (1 : Int32)), .val (.int s1), .val (.int u2), .val (.int s2), .val (.int m9), .val (.ref b27), .val (.ref b28), .val (.ref c0), .val .null, .val .null, .val .null, .val (.int (1 : Int32)), .val (.ref b28)] [(.int m9), (.int s2), (.int u2), (.int (2 : Int32)), w2, .null])) rfl (by rw [hml]; rfl) (argsL := [.null, w2, (.int (2 : Int32)), (.int u2), (.int s2), (.int m9)]) (rest := []) (lenOf pd_4 rfl) rfl (by show 2 * 0 + _ ≤ _; exact Nat.le_of_eq rfl) (hb hby at_262) (fun _ _ => ⟨rfl, eq48, (by decide : 9 + 0 ≤ _), (by decide : 306 + 0 ≤ _)⟩)
    dsimp only [Pt.U, Pt.locs, Pt.cells, Pt.slots] at X50 l50 y50 z50 st50 hQ50
    subst l50 y50 z50
    obtain ⟨hv50, Nq50, eq50⟩ := hQ50
    subst hv50
    replace Nf := Fr.app Nf Nq50
    refine own_go (x' := T50.setTop (mkF m 265 #[.val (.int p0), .val (.int p1), .val (.int p2), .val (.int p3), .val (.int p4), .val (.int (1 : Int32)), .val (.int s1), .val (.int u2), .val (.int s2), .val (.int m9), .val (.ref b27), .val (.ref b28), .val (.ref c0), .val .null, .val .null, .val .null, .val (.int (1 : Int32)), .val (.ref b28)] [(.int (1 : Int32))])) st50 ?_
    refine own_go (x' := T50.setTop (mkF m 273 #[.val (.int p0), .val (.int p1), .val (.int p2), .val (.int p3), .val (.int p4), .val (.int (1 : Int32)), .val (.int s1), .val (.int u2), .val (.int s2), .val (.int m9), .val (.ref b27), .val (.ref b28), .val (.ref c0), .val .null, .val .null, .val .null, .val (.int (1 : Int32)), .val (.ref b28)] [(.int (3 : Int32)), (.ref b28), .null])) (fun _ k => XS.ifNo X50.here hx rfl (hb hby at_265) rfl ((if0 _ _).trans (feq (by decide +kernel : ¬ ((1 : Int32) = (0 : Int32)))).1) (XS.aload X50.here hx rfl (hb hby at_268) rfl rfl (XS.aload X50.here hx rfl (hb hby at_270) rfl rfl (XS.iconst X50.here hx rfl (hb hby at_272) k)))) ?_
    obtain ⟨cl51, Ar51, q51, Sz51, Nn51, Hh51, Gg51⟩ := id V_b28
    have hin51 : ¬ ((3 : Int32) < 0 ∨ cl51.slots.size ≤ ((3 : Int32)).toNatClampNeg) := inb_of Sz51 ⟨by decide, by decide⟩
    refine own_go (x' := T50.setTop (mkF m 274 #[.val (.int p0), .val (.int p1), .val (.int p2), .val (.int p3), .val (.int p4), .val (.int (1 : Int32)), .val (.int s1), .val (.int u2), .val (.int s2), .val (.int m9), .val (.ref b27), .val (.ref b28), .val (.ref c0), .val .null, .val .null, .val .null, .val (.int (1 : Int32)), .val (.ref b28)] [w3, .null])) (X50.aaload hx (j := (3 : Int32)) (v := w3) (Eq.trans (congrArg (fun h_ => h_[_]?) eq50) Ar51.1) (State.isArrayOf_alike hZ.alike Ar51.2.1) rfl Ar51.2.2 hin51 (Hh51.at hin51 rfl) (g := (mkF m 273 #[.val (.int p0), .val (.int p1), .val (.int p2), .val (.int p3), .val (.int p4), .val (.int (1 : Int32)), .val (.int s1), .val (.int u2), .val (.int s2), .val (.int m9), .val (.ref b27), .val (.ref b28), .val (.ref c0), .val .null, .val .null, .val .null, .val (.int (1 : Int32)), .val (.ref b28)] [(.int (3 : Int32)), (.ref b28), .null])) rfl rfl (hb hby at_273)) ?_
    refine own_go (x' := T50.setTop (mkF m 281 #[.val (.int p0), .val (.int p1), .val (.int p2), .val (.int p3), .val (.int p4), .val (.int (1 : Int32)), .val (.int s1), .val (.int u2), .val (.int s2), .val (.int m9), .val (.ref b27), .val (.ref b28), .val (.ref c0), .val .null, .val .null, .val .null, .val (.int (1 : Int32)), .val (.ref b28)] [(.int m9), (.int s2), (.int u2), (.int (3 : Int32)), w3, .null])) (fun _ k => XS.iconst X50.here hx rfl (hb hby at_274) (XS.iload X50.here hx rfl (hb hby at_275) rfl (XS.iload X50.here hx rfl (hb hby at_277) rfl (XS.iload X50.here hx rfl (hb hby at_279) rfl k)))) ?_
    obtain ⟨_, _, ⟨T52, L52, k52, n52⟩, -, X52, ⟨Lc52, hQ52, l52, y52, z52⟩, st52⟩ := Jvm.LawKit.callS X50 hx (y := (⟨"com/example/wee_match/weematch/WindowsCharsPinLaw", "after", "([C[CIIIC)Z"⟩ : MethodName)) hown (mvT hZ (own_w hw 36 rfl)) (mvT hZ (own_w hw 37 rfl)) (mvT hZ (own_w hw 29 rfl)) (mvT hZ (own_w hw 38 rfl)) (by decide) (backOf (W := 0) (rm6n l Z a0 hw [] w3 (3 : Int32) u2 s2 m9 T43.heap n0 Zs R3) hZ (own_w hw 38 rfl) (own_w hw 29 rfl) (by decide) (by decide)) (g := (mkF m 281 #[.val (.int p0), .val (.int p1), .val (.int p2), .val (.int p3), .val (.int p4), .val (.int (1 : Int32)), .val (.int s1), .val (.int u2), .val (.int s2), .val (.int m9), .val (.ref b27), .val (.ref b28), .val (.ref c0), .val .null, .val .null, .val .null, .val (.int (1 : Int32)), .val (.ref b28)] [(.int m9), (.int s2), (.int u2), (.int (3 : Int32)), w3, .null])) rfl (by rw [hml]; rfl) (argsL := [.null, w3, (.int (3 : Int32)), (.int u2), (.int s2), (.int m9)]) (rest := []) (lenOf pd_4 rfl) rfl (by show 2 * 0 + _ ≤ _; exact Nat.le_of_eq rfl) (hb hby at_281) (fun _ _ => ⟨rfl, eq50, (by decide : 9 + 0 ≤ _), (by decide : 306 + 0 ≤ _)⟩)
    dsimp only [Pt.U, Pt.locs, Pt.cells, Pt.slots] at X52 l52 y52 z52 st52 hQ52
    subst l52 y52 z52
    obtain ⟨hv52, Nq52, eq52⟩ := hQ52
    subst hv52
    replace Nf := Fr.app Nf Nq52
    refine own_go (x' := T52.setTop (mkF m 284 #[.val (.int p0), .val (.int p1), .val (.int p2), .val (.int p3), .val (.int p4), .val (.int (1 : Int32)), .val (.int s1), .val (.int u2), .val (.int s2), .val (.int m9), .val (.ref b27), .val (.ref b28), .val (.ref c0), .val .null, .val .null, .val .null, .val (.int (1 : Int32)), .val (.ref b28)] [(.int (1 : Int32))])) st52 ?_
    refine own_go (x' := T52.setTop (mkF m 292 #[.val (.int p0), .val (.int p1), .val (.int p2), .val (.int p3), .val (.int p4), .val (.int (1 : Int32)), .val (.int s1), .val (.int u2), .val (.int s2), .val (.int m9), .val (.ref b27), .val (.ref b28), .val (.ref c0), .val .null, .val .null, .val .null, .val (.int (1 : Int32)), .val (.ref b28)] [(.int (1 : Int32))])) (fun _ k => XS.ifNo X52.here hx rfl (hb hby at_284) rfl ((if0 _ _).trans (feq (by decide +kernel : ¬ ((1 : Int32) = (0 : Int32)))).1) (XS.iconst X52.here hx rfl (hb hby at_287) (XS.goto X52.here hx rfl (pc0 := 288) (pc' := 292) rfl (hb hby at_288) (by decide) (by decide) k))) ?_
    refine own_retN X52 hx hlk (t := .boolean) hret (by simp) (hb hby at_292) (w := (1 : Int32)) rfl ?_ (by decide) (by decide)
    rw [eq52]
    exact ⟨rfl, Nf⟩
  · rw [hq]
    obtain ⟨T53, h53, X53, e53, E53, A53, D53, -, st53⟩ := newO X0 hx hZ hown (own_w hw 2 rfl) (own_w hw 3 rfl) (own_w hw 4 rfl) e0 (g := (mkF m 36 #[.val (.int p0), .val (.int p1), .val (.int p2), .val (.int p3), .val (.int p4), .val (.int (2 : Int32)), .val (.int s1), .val (.int u2), .val (.int s2), .val (.int m9), .unset, .unset, .unset, .unset, .unset, .unset, .unset, .unset] [])) rfl (hb hby at_36) (by decide) (by decide)
    obtain ⟨b53, g53⟩ : ∃ z, z = h0.size := ⟨_, rfl⟩
    rw [← g53] at A53 D53 st53
    have g_b53 : n0 ≤ b53 := Nat.le_trans Zs (Nat.le_of_eq g53.symm)
    replace Zs := Nat.le_trans Zs E53.1
    have E_b53 := A53
    have F_b53_bytes : Fld Z h53 b53 "com/example/wee_match/weematch/Sieve$Windows" "bytes" "[[B" .null := D53 (Or.inr (own_w hw 14 rfl)) (ty := (.array (.array .byte))) (by decide)
    have F_b53_chars : Fld Z h53 b53 "com/example/wee_match/weematch/Sieve$Windows" "chars" "[[C" .null := D53 (Or.inr (own_w hw 18 rfl)) (ty := (.array (.array .char))) (by decide)
    have F_b53_starts : Fld Z h53 b53 "com/example/wee_match/weematch/Sieve$Windows" "starts" "[I" .null := D53 (Or.inl (own_w hw 21 rfl)) (ty := (.array .int)) (by decide)
    refine own_go (x' := T53.setTop (mkF m 39 #[.val (.int p0), .val (.int p1), .val (.int p2), .val (.int p3), .val (.int p4), .val (.int (2 : Int32)), .val (.int s1), .val (.int u2), .val (.int s2), .val (.int m9), .unset, .unset, .unset, .unset, .unset, .unset, .unset, .unset] [(.ref b53)])) st53 ?_
    refine own_go (x' := T53.setTop (mkF m 40 #[.val (.int p0), .val (.int p1), .val (.int p2), .val (.int p3), .val (.int p4), .val (.int (2 : Int32)), .val (.int s1), .val (.int u2), .val (.int s2), .val (.int m9), .unset, .unset, .unset, .unset, .unset, .unset, .unset, .unset] [(.ref b53), (.ref b53)])) (fun _ k => XS.dup X53.here hx rfl (hb hby at_39) rfl rfl k) ?_
    obtain ⟨_, _, ⟨T54, L54, k54, n54⟩, -, X54, ⟨Lc54, hQ54, l54, y54, z54⟩, st54⟩ := X53.specialBack hx (y := (⟨"com/example/wee_match/weematch/Sieve$Windows", "<init>", "()V"⟩ : MethodName)) rfl hown (mvT hZ (own_w hw 5 rfl)) (mvT hZ (own_w hw 6 rfl)) (mvT hZ (own_w hw 7 rfl)) (by decide) (backOf (W := 1) (rm1 l Z a0 hw [] b53 h53 n0 Zs E_b53 F_b53_bytes F_b53_chars F_b53_starts g_b53) hZ (own_w hw 7 rfl) (own_w hw 4 rfl) (by decide) (by decide)) (g := (mkF m 40 #[.val (.int p0), .val (.int p1), .val (.int p2), .val (.int p3), .val (.int p4), .val (.int (2 : Int32)), .val (.int s1), .val (.int u2), .val (.int s2), .val (.int m9), .unset, .unset, .unset, .unset, .unset, .unset, .unset, .unset] [(.ref b53), (.ref b53)])) rfl (by rw [hml]; rfl) (Steps.refl _) (a := b53) (argsL := []) (rest := [(.ref b53)]) (lenOf pd_0 rfl) rfl (by show 2 * 0 + _ ≤ _; exact Nat.le_of_eq rfl) (hb hby at_40) (fun _ _ => ⟨rfl, e53, (by decide : 1 + 3 ≤ _), (by decide : 7 + 144 ≤ _)⟩)
    dsimp only [Pt.U, Pt.locs, Pt.cells, Pt.slots] at X54 l54 y54 z54 st54 hQ54
    subst l54 y54 z54
    obtain ⟨b54, kc54, hv54, Nq54, K54, sq54, g_b54, Eo54, Fs54, V_b54, O_b54⟩ := hQ54
    subst hv54
    replace Nf := Fr.app Nf Nq54
    have ne_b53_b54 : b53 ≠ b54 := Nat.ne_of_lt (Nat.lt_of_lt_of_le E_b53.lt sq54)
    replace Zs := Nat.le_trans Zs K54.1
    replace E_b53 := Eo54
    replace F_b53_chars := Fs54
    refine own_go (x' := T54.setTop (mkF m 43 #[.val (.int p0), .val (.int p1), .val (.int p2), .val (.int p3), .val (.int p4), .val (.int (2 : Int32)), .val (.int s1), .val (.int u2), .val (.int s2), .val (.int m9), .unset, .unset, .unset, .unset, .unset, .unset, .unset, .unset] [(.ref b53)])) (fun _ k => st54.trans k) ?_
    refine own_go (x' := T54.setTop (mkF m 51 #[.val (.int p0), .val (.int p1), .val (.int p2), .val (.int p3), .val (.int p4), .val (.int (2 : Int32)), .val (.int s1), .val (.int u2), .val (.int s2), .val (.int m9), .val (.ref b53), .unset, .unset, .unset, .unset, .unset, .unset, .unset] [(.int s1), (.int (2 : Int32)), (.ref b53)])) (fun _ k => XS.astore X54.here hx rfl (hb hby at_43) rfl rfl (l' := #[.val (.int p0), .val (.int p1), .val (.int p2), .val (.int p3), .val (.int p4), .val (.int (2 : Int32)), .val (.int s1), .val (.int u2), .val (.int s2), .val (.int m9), .val (.ref b53), .unset, .unset, .unset, .unset, .unset, .unset, .unset]) rfl (XS.aload X54.here hx rfl (hb hby at_45) rfl rfl (XS.iload X54.here hx rfl (hb hby at_47) rfl (XS.iload X54.here hx rfl (hb hby at_49) rfl k)))) ?_
    have q55b_lt := E_b53.lt
    obtain ⟨cq55, kq55, q55a, q55b, q55c⟩ := isOf hZ rfl E_b53
    obtain ⟨_, _, ⟨T55, L55, k55, n55⟩, -, X55, ⟨Lc55, hQ55, l55, y55, z55⟩, st55⟩ := X54.virtualBack hx (y := (⟨"com/example/wee_match/weematch/Sieve$Windows", "chars", "(II)[[C"⟩ : MethodName)) (z := (⟨"com/example/wee_match/weematch/Sieve$Windows", "chars", "(II)[[C"⟩ : MethodName)) hown (mvT hZ (own_w hw 22 rfl)) (mvT hZ (own_w hw 23 rfl)) (notFace_of_selects (args := #[]) (mvT hZ (own_w hw 25 rfl))) (mvT hZ (own_w hw 25 rfl)) (mvT hZ (own_w hw 24 rfl)) (by decide) (backOf (W := 0) (rmF_2 l Z a0 hw [] b53 s1 b54 kc54 T54.heap n0 Zs F_b53_chars V_b54 O_b54 ne_b53_b54 g_b54 hs1) hZ (own_w hw 26 rfl) (own_w hw 4 rfl) (by decide) (by decide)) q55a q55c (g := (mkF m 51 #[.val (.int p0), .val (.int p1), .val (.int p2), .val (.int p3), .val (.int p4), .val (.int (2 : Int32)), .val (.int s1), .val (.int u2), .val (.int s2), .val (.int m9), .val (.ref b53), .unset, .unset, .unset, .unset, .unset, .unset, .unset] [(.int s1), (.int (2 : Int32)), (.ref b53)])) rfl (by rw [hml]; rfl) (Steps.refl _) (argsL := [(.int (2 : Int32)), (.int s1)]) (rest := []) (lenOf pd_1 rfl) rfl (by show 2 * 0 + _ ≤ _; exact Nat.le_of_eq rfl) (hb hby at_51) (fun _ _ => ⟨rfl, rfl, (by decide : 4 + 2 ≤ _), (by decide : 151 + 62 ≤ _)⟩)
    dsimp only [Pt.U, Pt.locs, Pt.cells, Pt.slots] at X55 l55 y55 z55 st55 hQ55
    subst l55 y55 z55
    obtain ⟨c0, kk0, c1, kk1, hv55, Nq55, K55, Fs55, Vn55, sq_c0, g_c0, V_c0, sq_c1, g_c1, V_c1, ne_c0_c1⟩ := hQ55
    subst hv55
    replace Nf := Fr.app Nf Nq55
    replace E_b53 := E_b53.keep K55
    replace Zs := Nat.le_trans Zs K55.1
    replace V_b54 := Vn55
    replace F_b53_chars := Fs55
    have ne_c0_b54 : c0 ≠ b54 := own_two V_c0 V_b54 (by decide)
    have ne_b53_c0 : b53 ≠ c0 := Nat.ne_of_lt (Nat.lt_of_lt_of_le q55b_lt sq_c0)
    have ne_c1_b54 : c1 ≠ b54 := own_two V_c1 V_b54 (by decide)
    have ne_b53_c1 : b53 ≠ c1 := Nat.ne_of_lt (Nat.lt_of_lt_of_le q55b_lt sq_c1)
    refine own_go (x' := T55.setTop (mkF m 54 #[.val (.int p0), .val (.int p1), .val (.int p2), .val (.int p3), .val (.int p4), .val (.int (2 : Int32)), .val (.int s1), .val (.int u2), .val (.int s2), .val (.int m9), .val (.ref b53), .unset, .unset, .unset, .unset, .unset, .unset, .unset] [(.ref b54)])) (fun _ k => st55.trans k) ?_
    refine own_go (x' := T55.setTop (mkF m 63 #[.val (.int p0), .val (.int p1), .val (.int p2), .val (.int p3), .val (.int p4), .val (.int (2 : Int32)), .val (.int s1), .val (.int u2), .val (.int s2), .val (.int m9), .val (.ref b53), .val (.ref b54), .unset, .unset, .unset, .unset, .unset, .unset] [(.ref b54)])) (fun _ k => XS.astore X55.here hx rfl (hb hby at_54) rfl rfl (l' := #[.val (.int p0), .val (.int p1), .val (.int p2), .val (.int p3), .val (.int p4), .val (.int (2 : Int32)), .val (.int s1), .val (.int u2), .val (.int s2), .val (.int m9), .val (.ref b53), .val (.ref b54), .unset, .unset, .unset, .unset, .unset, .unset]) rfl (XS.aload X55.here hx rfl (hb hby at_56) rfl rfl (XS.ifnullNo X55.here hx rfl (hb hby at_58) rfl (XS.aload X55.here hx rfl (hb hby at_61) rfl rfl k)))) ?_
    obtain ⟨cl56, Ar56, -, Sz56, Nn56, -, -⟩ := id V_b54
    refine own_go (x' := T55.setTop (mkF m 64 #[.val (.int p0), .val (.int p1), .val (.int p2), .val (.int p3), .val (.int p4), .val (.int (2 : Int32)), .val (.int s1), .val (.int u2), .val (.int s2), .val (.int m9), .val (.ref b53), .val (.ref b54), .unset, .unset, .unset, .unset, .unset, .unset] [(.int (4 : Int32))])) (fun t k => X55.arraylength hx (Eq.trans (congrArg (fun h_ => h_[_]?) rfl) Ar56.1) (State.isArrayOf_alike hZ.alike Ar56.2.1) (g := (mkF m 63 #[.val (.int p0), .val (.int p1), .val (.int p2), .val (.int p3), .val (.int p4), .val (.int (2 : Int32)), .val (.int s1), .val (.int u2), .val (.int s2), .val (.int m9), .val (.ref b53), .val (.ref b54), .unset, .unset, .unset, .unset, .unset, .unset] [(.ref b54)])) rfl rfl (hb hby at_63) t (by rw [len_of Sz56 Nn56]; exact k)) ?_
    refine own_go (x' := T55.setTop (mkF m 73 #[.val (.int p0), .val (.int p1), .val (.int p2), .val (.int p3), .val (.int p4), .val (.int (2 : Int32)), .val (.int s1), .val (.int u2), .val (.int s2), .val (.int m9), .val (.ref b53), .val (.ref b54), .unset, .unset, .unset, .unset, .unset, .unset] [(.int (0 : Int32)), (.ref b54)])) (fun _ k => XS.iconst X55.here hx rfl (hb hby at_64) (XS.icmpYes X55.here hx rfl (pc0 := 65) (pc' := 70) rfl (hb hby at_65) rfl (teq rfl).1 (by decide) (by decide) (XS.aload X55.here hx rfl (hb hby at_70) rfl rfl (XS.iconst X55.here hx rfl (hb hby at_72) k)))) ?_
    obtain ⟨cl57, Ar57, q57, Sz57, Nn57, Hh57, Gg57⟩ := id V_b54
    have hin57 : ¬ ((0 : Int32) < 0 ∨ cl57.slots.size ≤ ((0 : Int32)).toNatClampNeg) := inb_of Sz57 ⟨by decide, by decide⟩
    refine own_go (x' := T55.setTop (mkF m 74 #[.val (.int p0), .val (.int p1), .val (.int p2), .val (.int p3), .val (.int p4), .val (.int (2 : Int32)), .val (.int s1), .val (.int u2), .val (.int s2), .val (.int m9), .val (.ref b53), .val (.ref b54), .unset, .unset, .unset, .unset, .unset, .unset] [(.ref c0)])) (X55.aaload hx (j := (0 : Int32)) (v := (.ref c0)) (Eq.trans (congrArg (fun h_ => h_[_]?) rfl) Ar57.1) (State.isArrayOf_alike hZ.alike Ar57.2.1) rfl Ar57.2.2 hin57 (Hh57.at hin57 rfl) (g := (mkF m 73 #[.val (.int p0), .val (.int p1), .val (.int p2), .val (.int p3), .val (.int p4), .val (.int (2 : Int32)), .val (.int s1), .val (.int u2), .val (.int s2), .val (.int m9), .val (.ref b53), .val (.ref b54), .unset, .unset, .unset, .unset, .unset, .unset] [(.int (0 : Int32)), (.ref b54)])) rfl rfl (hb hby at_73)) ?_
    refine own_go (x' := T55.setTop (mkF m 79 #[.val (.int p0), .val (.int p1), .val (.int p2), .val (.int p3), .val (.int p4), .val (.int (2 : Int32)), .val (.int s1), .val (.int u2), .val (.int s2), .val (.int m9), .val (.ref b53), .val (.ref b54), .val (.ref c0), .unset, .unset, .unset, .unset, .unset] [(.int (1 : Int32)), (.ref b54)])) (fun _ k => XS.astore X55.here hx rfl (hb hby at_74) rfl rfl (l' := #[.val (.int p0), .val (.int p1), .val (.int p2), .val (.int p3), .val (.int p4), .val (.int (2 : Int32)), .val (.int s1), .val (.int u2), .val (.int s2), .val (.int m9), .val (.ref b53), .val (.ref b54), .val (.ref c0), .unset, .unset, .unset, .unset, .unset]) rfl (XS.aload X55.here hx rfl (hb hby at_76) rfl rfl (XS.iconst X55.here hx rfl (hb hby at_78) k))) ?_
    obtain ⟨cl58, Ar58, q58, Sz58, Nn58, Hh58, Gg58⟩ := id V_b54
    have hin58 : ¬ ((1 : Int32) < 0 ∨ cl58.slots.size ≤ ((1 : Int32)).toNatClampNeg) := inb_of Sz58 ⟨by decide, by decide⟩
    refine own_go (x' := T55.setTop (mkF m 80 #[.val (.int p0), .val (.int p1), .val (.int p2), .val (.int p3), .val (.int p4), .val (.int (2 : Int32)), .val (.int s1), .val (.int u2), .val (.int s2), .val (.int m9), .val (.ref b53), .val (.ref b54), .val (.ref c0), .unset, .unset, .unset, .unset, .unset] [(.ref c1)])) (X55.aaload hx (j := (1 : Int32)) (v := (.ref c1)) (Eq.trans (congrArg (fun h_ => h_[_]?) rfl) Ar58.1) (State.isArrayOf_alike hZ.alike Ar58.2.1) rfl Ar58.2.2 hin58 (Hh58.at hin58 rfl) (g := (mkF m 79 #[.val (.int p0), .val (.int p1), .val (.int p2), .val (.int p3), .val (.int p4), .val (.int (2 : Int32)), .val (.int s1), .val (.int u2), .val (.int s2), .val (.int m9), .val (.ref b53), .val (.ref b54), .val (.ref c0), .unset, .unset, .unset, .unset, .unset] [(.int (1 : Int32)), (.ref b54)])) rfl rfl (hb hby at_79)) ?_
    refine own_go (x' := T55.setTop (mkF m 85 #[.val (.int p0), .val (.int p1), .val (.int p2), .val (.int p3), .val (.int p4), .val (.int (2 : Int32)), .val (.int s1), .val (.int u2), .val (.int s2), .val (.int m9), .val (.ref b53), .val (.ref b54), .val (.ref c0), .val (.ref c1), .unset, .unset, .unset, .unset] [(.int (2 : Int32)), (.ref b54)])) (fun _ k => XS.astore X55.here hx rfl (hb hby at_80) rfl rfl (l' := #[.val (.int p0), .val (.int p1), .val (.int p2), .val (.int p3), .val (.int p4), .val (.int (2 : Int32)), .val (.int s1), .val (.int u2), .val (.int s2), .val (.int m9), .val (.ref b53), .val (.ref b54), .val (.ref c0), .val (.ref c1), .unset, .unset, .unset, .unset]) rfl (XS.aload X55.here hx rfl (hb hby at_82) rfl rfl (XS.iconst X55.here hx rfl (hb hby at_84) k))) ?_
    obtain ⟨cl59, Ar59, q59, Sz59, Nn59, Hh59, Gg59⟩ := id V_b54
    have hin59 : ¬ ((2 : Int32) < 0 ∨ cl59.slots.size ≤ ((2 : Int32)).toNatClampNeg) := inb_of Sz59 ⟨by decide, by decide⟩
    refine own_go (x' := T55.setTop (mkF m 86 #[.val (.int p0), .val (.int p1), .val (.int p2), .val (.int p3), .val (.int p4), .val (.int (2 : Int32)), .val (.int s1), .val (.int u2), .val (.int s2), .val (.int m9), .val (.ref b53), .val (.ref b54), .val (.ref c0), .val (.ref c1), .unset, .unset, .unset, .unset] [.null])) (X55.aaload hx (j := (2 : Int32)) (v := .null) (Eq.trans (congrArg (fun h_ => h_[_]?) rfl) Ar59.1) (State.isArrayOf_alike hZ.alike Ar59.2.1) rfl Ar59.2.2 hin59 (Hh59.at hin59 rfl) (g := (mkF m 85 #[.val (.int p0), .val (.int p1), .val (.int p2), .val (.int p3), .val (.int p4), .val (.int (2 : Int32)), .val (.int s1), .val (.int u2), .val (.int s2), .val (.int m9), .val (.ref b53), .val (.ref b54), .val (.ref c0), .val (.ref c1), .unset, .unset, .unset, .unset] [(.int (2 : Int32)), (.ref b54)])) rfl rfl (hb hby at_85)) ?_
    refine own_go (x' := T55.setTop (mkF m 91 #[.val (.int p0), .val (.int p1), .val (.int p2), .val (.int p3), .val (.int p4), .val (.int (2 : Int32)), .val (.int s1), .val (.int u2), .val (.int s2), .val (.int m9), .val (.ref b53), .val (.ref b54), .val (.ref c0), .val (.ref c1), .val .null, .unset, .unset, .unset] [(.int (3 : Int32)), (.ref b54)])) (fun _ k => XS.astore X55.here hx rfl (hb hby at_86) rfl rfl (l' := #[.val (.int p0), .val (.int p1), .val (.int p2), .val (.int p3), .val (.int p4), .val (.int (2 : Int32)), .val (.int s1), .val (.int u2), .val (.int s2), .val (.int m9), .val (.ref b53), .val (.ref b54), .val (.ref c0), .val (.ref c1), .val .null, .unset, .unset, .unset]) rfl (XS.aload X55.here hx rfl (hb hby at_88) rfl rfl (XS.iconst X55.here hx rfl (hb hby at_90) k))) ?_
    obtain ⟨cl60, Ar60, q60, Sz60, Nn60, Hh60, Gg60⟩ := id V_b54
    have hin60 : ¬ ((3 : Int32) < 0 ∨ cl60.slots.size ≤ ((3 : Int32)).toNatClampNeg) := inb_of Sz60 ⟨by decide, by decide⟩
    refine own_go (x' := T55.setTop (mkF m 92 #[.val (.int p0), .val (.int p1), .val (.int p2), .val (.int p3), .val (.int p4), .val (.int (2 : Int32)), .val (.int s1), .val (.int u2), .val (.int s2), .val (.int m9), .val (.ref b53), .val (.ref b54), .val (.ref c0), .val (.ref c1), .val .null, .unset, .unset, .unset] [.null])) (X55.aaload hx (j := (3 : Int32)) (v := .null) (Eq.trans (congrArg (fun h_ => h_[_]?) rfl) Ar60.1) (State.isArrayOf_alike hZ.alike Ar60.2.1) rfl Ar60.2.2 hin60 (Hh60.at hin60 rfl) (g := (mkF m 91 #[.val (.int p0), .val (.int p1), .val (.int p2), .val (.int p3), .val (.int p4), .val (.int (2 : Int32)), .val (.int s1), .val (.int u2), .val (.int s2), .val (.int m9), .val (.ref b53), .val (.ref b54), .val (.ref c0), .val (.ref c1), .val .null, .unset, .unset, .unset] [(.int (3 : Int32)), (.ref b54)])) rfl rfl (hb hby at_91)) ?_
    refine own_go (x' := T55.setTop (mkF m 101 #[.val (.int p0), .val (.int p1), .val (.int p2), .val (.int p3), .val (.int p4), .val (.int (2 : Int32)), .val (.int s1), .val (.int u2), .val (.int s2), .val (.int m9), .val (.ref b53), .val (.ref b54), .val (.ref c0), .val (.ref c1), .val .null, .val .null, .unset, .unset] [(.int s1), (.int (2 : Int32)), (.int (0 : Int32)), (.ref c0)])) (fun _ k => XS.astore X55.here hx rfl (hb hby at_92) rfl rfl (l' := #[.val (.int p0), .val (.int p1), .val (.int p2), .val (.int p3), .val (.int p4), .val (.int (2 : Int32)), .val (.int s1), .val (.int u2), .val (.int s2), .val (.int m9), .val (.ref b53), .val (.ref b54), .val (.ref c0), .val (.ref c1), .val .null, .val .null, .unset, .unset]) rfl (XS.aload X55.here hx rfl (hb hby at_94) rfl rfl (XS.iconst X55.here hx rfl (hb hby at_96) (XS.iload X55.here hx rfl (hb hby at_97) rfl (XS.iload X55.here hx rfl (hb hby at_99) rfl k))))) ?_
    obtain ⟨_, _, ⟨T61, L61, k61, n61⟩, -, X61, ⟨Lc61, hQ61, l61, y61, z61⟩, st61⟩ := Jvm.LawKit.callS X55 hx (y := (⟨"com/example/wee_match/weematch/WindowsCharsPinLaw", "made", "([CIII)Z"⟩ : MethodName)) hown (mvT hZ (own_w hw 27 rfl)) (mvT hZ (own_w hw 28 rfl)) (mvT hZ (own_w hw 29 rfl)) (mvT hZ (own_w hw 30 rfl)) (by decide) (backOf (W := 0) (rm4p l Z a0 hw [] c0 (0 : Int32) (2 : Int32) s1 kk0 T55.heap n0 Zs V_c0 (by decide)) hZ (own_w hw 30 rfl) (own_w hw 29 rfl) (by decide) (by decide)) (g := (mkF m 101 #[.val (.int p0), .val (.int p1), .val (.int p2), .val (.int p3), .val (.int p4), .val (.int (2 : Int32)), .val (.int s1), .val (.int u2), .val (.int s2), .val (.int m9), .val (.ref b53), .val (.ref b54), .val (.ref c0), .val (.ref c1), .val .null, .val .null, .unset, .unset] [(.int s1), (.int (2 : Int32)), (.int (0 : Int32)), (.ref c0)])) rfl (by rw [hml]; rfl) (argsL := [(.ref c0), (.int (0 : Int32)), (.int (2 : Int32)), (.int s1)]) (rest := []) (lenOf pd_2 rfl) rfl (by show 2 * 0 + _ ≤ _; exact Nat.le_of_eq rfl) (hb hby at_101) (fun _ _ => ⟨rfl, rfl, (by decide : 6 + 0 ≤ _), (by decide : 213 + 0 ≤ _)⟩)
    dsimp only [Pt.U, Pt.locs, Pt.cells, Pt.slots] at X61 l61 y61 z61 st61 hQ61
    subst l61 y61 z61
    obtain ⟨hv61, Nq61, eq61⟩ := hQ61
    subst hv61
    replace Nf := Fr.app Nf Nq61
    refine own_go (x' := T61.setTop (mkF m 104 #[.val (.int p0), .val (.int p1), .val (.int p2), .val (.int p3), .val (.int p4), .val (.int (2 : Int32)), .val (.int s1), .val (.int u2), .val (.int s2), .val (.int m9), .val (.ref b53), .val (.ref b54), .val (.ref c0), .val (.ref c1), .val .null, .val .null, .unset, .unset] [(.int (1 : Int32))])) st61 ?_
    refine own_go (x' := T61.setTop (mkF m 114 #[.val (.int p0), .val (.int p1), .val (.int p2), .val (.int p3), .val (.int p4), .val (.int (2 : Int32)), .val (.int s1), .val (.int u2), .val (.int s2), .val (.int m9), .val (.ref b53), .val (.ref b54), .val (.ref c0), .val (.ref c1), .val .null, .val .null, .unset, .unset] [(.int s1), (.int (2 : Int32)), (.int (1 : Int32)), (.ref c1)])) (fun _ k => XS.ifNo X61.here hx rfl (hb hby at_104) rfl ((if0 _ _).trans (feq (by decide +kernel : ¬ ((1 : Int32) = (0 : Int32)))).1) (XS.aload X61.here hx rfl (hb hby at_107) rfl rfl (XS.iconst X61.here hx rfl (hb hby at_109) (XS.iload X61.here hx rfl (hb hby at_110) rfl (XS.iload X61.here hx rfl (hb hby at_112) rfl k))))) ?_
    obtain ⟨_, _, ⟨T62, L62, k62, n62⟩, -, X62, ⟨Lc62, hQ62, l62, y62, z62⟩, st62⟩ := Jvm.LawKit.callS X61 hx (y := (⟨"com/example/wee_match/weematch/WindowsCharsPinLaw", "made", "([CIII)Z"⟩ : MethodName)) hown (mvT hZ (own_w hw 27 rfl)) (mvT hZ (own_w hw 28 rfl)) (mvT hZ (own_w hw 29 rfl)) (mvT hZ (own_w hw 30 rfl)) (by decide) (backOf (W := 0) (rm4p l Z a0 hw [] c1 (1 : Int32) (2 : Int32) s1 kk1 T55.heap n0 Zs V_c1 (by decide)) hZ (own_w hw 30 rfl) (own_w hw 29 rfl) (by decide) (by decide)) (g := (mkF m 114 #[.val (.int p0), .val (.int p1), .val (.int p2), .val (.int p3), .val (.int p4), .val (.int (2 : Int32)), .val (.int s1), .val (.int u2), .val (.int s2), .val (.int m9), .val (.ref b53), .val (.ref b54), .val (.ref c0), .val (.ref c1), .val .null, .val .null, .unset, .unset] [(.int s1), (.int (2 : Int32)), (.int (1 : Int32)), (.ref c1)])) rfl (by rw [hml]; rfl) (argsL := [(.ref c1), (.int (1 : Int32)), (.int (2 : Int32)), (.int s1)]) (rest := []) (lenOf pd_2 rfl) rfl (by show 2 * 0 + _ ≤ _; exact Nat.le_of_eq rfl) (hb hby at_114) (fun _ _ => ⟨rfl, eq61, (by decide : 6 + 0 ≤ _), (by decide : 213 + 0 ≤ _)⟩)
    dsimp only [Pt.U, Pt.locs, Pt.cells, Pt.slots] at X62 l62 y62 z62 st62 hQ62
    subst l62 y62 z62
    obtain ⟨hv62, Nq62, eq62⟩ := hQ62
    subst hv62
    replace Nf := Fr.app Nf Nq62
    refine own_go (x' := T62.setTop (mkF m 117 #[.val (.int p0), .val (.int p1), .val (.int p2), .val (.int p3), .val (.int p4), .val (.int (2 : Int32)), .val (.int s1), .val (.int u2), .val (.int s2), .val (.int m9), .val (.ref b53), .val (.ref b54), .val (.ref c0), .val (.ref c1), .val .null, .val .null, .unset, .unset] [(.int (1 : Int32))])) st62 ?_
    refine own_go (x' := T62.setTop (mkF m 127 #[.val (.int p0), .val (.int p1), .val (.int p2), .val (.int p3), .val (.int p4), .val (.int (2 : Int32)), .val (.int s1), .val (.int u2), .val (.int s2), .val (.int m9), .val (.ref b53), .val (.ref b54), .val (.ref c0), .val (.ref c1), .val .null, .val .null, .unset, .unset] [(.int s1), (.int (2 : Int32)), (.int (2 : Int32)), .null])) (fun _ k => XS.ifNo X62.here hx rfl (hb hby at_117) rfl ((if0 _ _).trans (feq (by decide +kernel : ¬ ((1 : Int32) = (0 : Int32)))).1) (XS.aload X62.here hx rfl (hb hby at_120) rfl rfl (XS.iconst X62.here hx rfl (hb hby at_122) (XS.iload X62.here hx rfl (hb hby at_123) rfl (XS.iload X62.here hx rfl (hb hby at_125) rfl k))))) ?_
    obtain ⟨_, _, ⟨T63, L63, k63, n63⟩, -, X63, ⟨Lc63, hQ63, l63, y63, z63⟩, st63⟩ := Jvm.LawKit.callS X62 hx (y := (⟨"com/example/wee_match/weematch/WindowsCharsPinLaw", "made", "([CIII)Z"⟩ : MethodName)) hown (mvT hZ (own_w hw 27 rfl)) (mvT hZ (own_w hw 28 rfl)) (mvT hZ (own_w hw 29 rfl)) (mvT hZ (own_w hw 30 rfl)) (by decide) (backOf (W := 0) (rm4n l Z a0 hw [] (2 : Int32) (2 : Int32) s1 T55.heap n0 Zs (by decide)) hZ (own_w hw 30 rfl) (own_w hw 29 rfl) (by decide) (by decide)) (g := (mkF m 127 #[.val (.int p0), .val (.int p1), .val (.int p2), .val (.int p3), .val (.int p4), .val (.int (2 : Int32)), .val (.int s1), .val (.int u2), .val (.int s2), .val (.int m9), .val (.ref b53), .val (.ref b54), .val (.ref c0), .val (.ref c1), .val .null, .val .null, .unset, .unset] [(.int s1), (.int (2 : Int32)), (.int (2 : Int32)), .null])) rfl (by rw [hml]; rfl) (argsL := [.null, (.int (2 : Int32)), (.int (2 : Int32)), (.int s1)]) (rest := []) (lenOf pd_2 rfl) rfl (by show 2 * 0 + _ ≤ _; exact Nat.le_of_eq rfl) (hb hby at_127) (fun _ _ => ⟨rfl, eq62, (by decide : 6 + 0 ≤ _), (by decide : 213 + 0 ≤ _)⟩)
    dsimp only [Pt.U, Pt.locs, Pt.cells, Pt.slots] at X63 l63 y63 z63 st63 hQ63
    subst l63 y63 z63
    obtain ⟨hv63, Nq63, eq63⟩ := hQ63
    subst hv63
    replace Nf := Fr.app Nf Nq63
    refine own_go (x' := T63.setTop (mkF m 130 #[.val (.int p0), .val (.int p1), .val (.int p2), .val (.int p3), .val (.int p4), .val (.int (2 : Int32)), .val (.int s1), .val (.int u2), .val (.int s2), .val (.int m9), .val (.ref b53), .val (.ref b54), .val (.ref c0), .val (.ref c1), .val .null, .val .null, .unset, .unset] [(.int (1 : Int32))])) st63 ?_
    refine own_go (x' := T63.setTop (mkF m 140 #[.val (.int p0), .val (.int p1), .val (.int p2), .val (.int p3), .val (.int p4), .val (.int (2 : Int32)), .val (.int s1), .val (.int u2), .val (.int s2), .val (.int m9), .val (.ref b53), .val (.ref b54), .val (.ref c0), .val (.ref c1), .val .null, .val .null, .unset, .unset] [(.int s1), (.int (2 : Int32)), (.int (3 : Int32)), .null])) (fun _ k => XS.ifNo X63.here hx rfl (hb hby at_130) rfl ((if0 _ _).trans (feq (by decide +kernel : ¬ ((1 : Int32) = (0 : Int32)))).1) (XS.aload X63.here hx rfl (hb hby at_133) rfl rfl (XS.iconst X63.here hx rfl (hb hby at_135) (XS.iload X63.here hx rfl (hb hby at_136) rfl (XS.iload X63.here hx rfl (hb hby at_138) rfl k))))) ?_
    obtain ⟨_, _, ⟨T64, L64, k64, n64⟩, -, X64, ⟨Lc64, hQ64, l64, y64, z64⟩, st64⟩ := Jvm.LawKit.callS X63 hx (y := (⟨"com/example/wee_match/weematch/WindowsCharsPinLaw", "made", "([CIII)Z"⟩ : MethodName)) hown (mvT hZ (own_w hw 27 rfl)) (mvT hZ (own_w hw 28 rfl)) (mvT hZ (own_w hw 29 rfl)) (mvT hZ (own_w hw 30 rfl)) (by decide) (backOf (W := 0) (rm4n l Z a0 hw [] (3 : Int32) (2 : Int32) s1 T55.heap n0 Zs (by decide)) hZ (own_w hw 30 rfl) (own_w hw 29 rfl) (by decide) (by decide)) (g := (mkF m 140 #[.val (.int p0), .val (.int p1), .val (.int p2), .val (.int p3), .val (.int p4), .val (.int (2 : Int32)), .val (.int s1), .val (.int u2), .val (.int s2), .val (.int m9), .val (.ref b53), .val (.ref b54), .val (.ref c0), .val (.ref c1), .val .null, .val .null, .unset, .unset] [(.int s1), (.int (2 : Int32)), (.int (3 : Int32)), .null])) rfl (by rw [hml]; rfl) (argsL := [.null, (.int (3 : Int32)), (.int (2 : Int32)), (.int s1)]) (rest := []) (lenOf pd_2 rfl) rfl (by show 2 * 0 + _ ≤ _; exact Nat.le_of_eq rfl) (hb hby at_140) (fun _ _ => ⟨rfl, eq63, (by decide : 6 + 0 ≤ _), (by decide : 213 + 0 ≤ _)⟩)
    dsimp only [Pt.U, Pt.locs, Pt.cells, Pt.slots] at X64 l64 y64 z64 st64 hQ64
    subst l64 y64 z64
    obtain ⟨hv64, Nq64, eq64⟩ := hQ64
    subst hv64
    replace Nf := Fr.app Nf Nq64
    refine own_go (x' := T64.setTop (mkF m 143 #[.val (.int p0), .val (.int p1), .val (.int p2), .val (.int p3), .val (.int p4), .val (.int (2 : Int32)), .val (.int s1), .val (.int u2), .val (.int s2), .val (.int m9), .val (.ref b53), .val (.ref b54), .val (.ref c0), .val (.ref c1), .val .null, .val .null, .unset, .unset] [(.int (1 : Int32))])) st64 ?_
    refine own_go (x' := T64.setTop (mkF m 157 #[.val (.int p0), .val (.int p1), .val (.int p2), .val (.int p3), .val (.int p4), .val (.int (2 : Int32)), .val (.int s1), .val (.int u2), .val (.int s2), .val (.int m9), .val (.ref b53), .val (.ref b54), .val (.ref c0), .val (.ref c1), .val .null, .val .null, .val (.int (1 : Int32)), .unset] [(.int m9), (.ref c0)])) (fun _ k => XS.ifNo X64.here hx rfl (hb hby at_143) rfl ((if0 _ _).trans (feq (by decide +kernel : ¬ ((1 : Int32) = (0 : Int32)))).1) (XS.iconst X64.here hx rfl (hb hby at_146) (XS.goto X64.here hx rfl (pc0 := 147) (pc' := 151) rfl (hb hby at_147) (by decide) (by decide) (XS.istore X64.here hx rfl (hb hby at_151) rfl (l' := #[.val (.int p0), .val (.int p1), .val (.int p2), .val (.int p3), .val (.int p4), .val (.int (2 : Int32)), .val (.int s1), .val (.int u2), .val (.int s2), .val (.int m9), .val (.ref b53), .val (.ref b54), .val (.ref c0), .val (.ref c1), .val .null, .val .null, .val (.int (1 : Int32)), .unset]) rfl (XS.aload X64.here hx rfl (hb hby at_153) rfl rfl (XS.iload X64.here hx rfl (hb hby at_155) rfl k)))))) ?_
    obtain ⟨_, _, ⟨T65, L65, k65, n65⟩, -, X65, ⟨Lc65, hQ65, l65, y65, z65⟩, st65⟩ := Jvm.LawKit.callS X64 hx (y := (⟨"com/example/wee_match/weematch/WindowsCharsPinLaw", "stamp", "([CC)V"⟩ : MethodName)) hown (mvT hZ (own_w hw 31 rfl)) (mvT hZ (own_w hw 32 rfl)) (mvT hZ (own_w hw 29 rfl)) (mvT hZ (own_w hw 33 rfl)) (by decide) (backOf (W := 0) (rm5p l Z a0 hw [] c0 m9 s1 kk0 T55.heap n0 Zs V_c0 g_c0 hm9) hZ (own_w hw 33 rfl) (own_w hw 29 rfl) (by decide) (by decide)) (g := (mkF m 157 #[.val (.int p0), .val (.int p1), .val (.int p2), .val (.int p3), .val (.int p4), .val (.int (2 : Int32)), .val (.int s1), .val (.int u2), .val (.int s2), .val (.int m9), .val (.ref b53), .val (.ref b54), .val (.ref c0), .val (.ref c1), .val .null, .val .null, .val (.int (1 : Int32)), .unset] [(.int m9), (.ref c0)])) rfl (by rw [hml]; rfl) (argsL := [(.ref c0), (.int m9)]) (rest := []) (lenOf pd_3 rfl) rfl (by show 2 * 0 + _ ≤ _; exact Nat.le_of_eq rfl) (hb hby at_157) (fun _ _ => ⟨rfl, eq64, (by decide : 6 + 0 ≤ _), (by decide : 213 + 0 ≤ _)⟩)
    dsimp only [Pt.U, Pt.locs, Pt.cells, Pt.slots] at X65 l65 y65 z65 st65 hQ65
    subst l65 y65 z65
    obtain ⟨hv65, Nq65, K65, Vn65⟩ := hQ65
    subst hv65
    replace Nf := Fr.app Nf Nq65
    replace E_b53 := E_b53.keep K65
    replace F_b53_chars := F_b53_chars.keep K65 (ninS ne_b53_c0 nin0)
    replace V_b54 := V_b54.keep K65 (ninS (Ne.symm ne_c0_b54) nin0)
    replace V_c1 := V_c1.keep K65 (ninS (Ne.symm ne_c0_c1) nin0)
    replace Zs := Nat.le_trans Zs K65.1
    replace V_c0 := Vn65
    refine own_go (x' := T65.setTop (mkF m 160 #[.val (.int p0), .val (.int p1), .val (.int p2), .val (.int p3), .val (.int p4), .val (.int (2 : Int32)), .val (.int s1), .val (.int u2), .val (.int s2), .val (.int m9), .val (.ref b53), .val (.ref b54), .val (.ref c0), .val (.ref c1), .val .null, .val .null, .val (.int (1 : Int32)), .unset] [])) st65 ?_
    refine own_go (x' := T65.setTop (mkF m 164 #[.val (.int p0), .val (.int p1), .val (.int p2), .val (.int p3), .val (.int p4), .val (.int (2 : Int32)), .val (.int s1), .val (.int u2), .val (.int s2), .val (.int m9), .val (.ref b53), .val (.ref b54), .val (.ref c0), .val (.ref c1), .val .null, .val .null, .val (.int (1 : Int32)), .unset] [(.int m9), (.ref c1)])) (fun _ k => XS.aload X65.here hx rfl (hb hby at_160) rfl rfl (XS.iload X65.here hx rfl (hb hby at_162) rfl k)) ?_
    obtain ⟨_, _, ⟨T66, L66, k66, n66⟩, -, X66, ⟨Lc66, hQ66, l66, y66, z66⟩, st66⟩ := Jvm.LawKit.callS X65 hx (y := (⟨"com/example/wee_match/weematch/WindowsCharsPinLaw", "stamp", "([CC)V"⟩ : MethodName)) hown (mvT hZ (own_w hw 31 rfl)) (mvT hZ (own_w hw 32 rfl)) (mvT hZ (own_w hw 29 rfl)) (mvT hZ (own_w hw 33 rfl)) (by decide) (backOf (W := 0) (rm5p l Z a0 hw [] c1 m9 s1 kk1 T65.heap n0 Zs V_c1 g_c1 hm9) hZ (own_w hw 33 rfl) (own_w hw 29 rfl) (by decide) (by decide)) (g := (mkF m 164 #[.val (.int p0), .val (.int p1), .val (.int p2), .val (.int p3), .val (.int p4), .val (.int (2 : Int32)), .val (.int s1), .val (.int u2), .val (.int s2), .val (.int m9), .val (.ref b53), .val (.ref b54), .val (.ref c0), .val (.ref c1), .val .null, .val .null, .val (.int (1 : Int32)), .unset] [(.int m9), (.ref c1)])) rfl (by rw [hml]; rfl) (argsL := [(.ref c1), (.int m9)]) (rest := []) (lenOf pd_3 rfl) rfl (by show 2 * 0 + _ ≤ _; exact Nat.le_of_eq rfl) (hb hby at_164) (fun _ _ => ⟨rfl, rfl, (by decide : 6 + 0 ≤ _), (by decide : 213 + 0 ≤ _)⟩)
    dsimp only [Pt.U, Pt.locs, Pt.cells, Pt.slots] at X66 l66 y66 z66 st66 hQ66
    subst l66 y66 z66
    obtain ⟨hv66, Nq66, K66, Vn66⟩ := hQ66
    subst hv66
    replace Nf := Fr.app Nf Nq66
    replace E_b53 := E_b53.keep K66
    replace F_b53_chars := F_b53_chars.keep K66 (ninS ne_b53_c1 nin0)
    replace V_b54 := V_b54.keep K66 (ninS (Ne.symm ne_c1_b54) nin0)
    replace V_c0 := V_c0.keep K66 (ninS ne_c0_c1 nin0)
    replace Zs := Nat.le_trans Zs K66.1
    replace V_c1 := Vn66
    refine own_go (x' := T66.setTop (mkF m 167 #[.val (.int p0), .val (.int p1), .val (.int p2), .val (.int p3), .val (.int p4), .val (.int (2 : Int32)), .val (.int s1), .val (.int u2), .val (.int s2), .val (.int m9), .val (.ref b53), .val (.ref b54), .val (.ref c0), .val (.ref c1), .val .null, .val .null, .val (.int (1 : Int32)), .unset] [])) st66 ?_
    refine own_go (x' := T66.setTop (mkF m 171 #[.val (.int p0), .val (.int p1), .val (.int p2), .val (.int p3), .val (.int p4), .val (.int (2 : Int32)), .val (.int s1), .val (.int u2), .val (.int s2), .val (.int m9), .val (.ref b53), .val (.ref b54), .val (.ref c0), .val (.ref c1), .val .null, .val .null, .val (.int (1 : Int32)), .unset] [(.int m9), .null])) (fun _ k => XS.aload X66.here hx rfl (hb hby at_167) rfl rfl (XS.iload X66.here hx rfl (hb hby at_169) rfl k)) ?_
    obtain ⟨_, _, ⟨T67, L67, k67, n67⟩, -, X67, ⟨Lc67, hQ67, l67, y67, z67⟩, st67⟩ := Jvm.LawKit.callS X66 hx (y := (⟨"com/example/wee_match/weematch/WindowsCharsPinLaw", "stamp", "([CC)V"⟩ : MethodName)) hown (mvT hZ (own_w hw 31 rfl)) (mvT hZ (own_w hw 32 rfl)) (mvT hZ (own_w hw 29 rfl)) (mvT hZ (own_w hw 33 rfl)) (by decide) (backOf (W := 0) (rm5n l Z a0 hw [] m9 T66.heap n0 Zs) hZ (own_w hw 33 rfl) (own_w hw 29 rfl) (by decide) (by decide)) (g := (mkF m 171 #[.val (.int p0), .val (.int p1), .val (.int p2), .val (.int p3), .val (.int p4), .val (.int (2 : Int32)), .val (.int s1), .val (.int u2), .val (.int s2), .val (.int m9), .val (.ref b53), .val (.ref b54), .val (.ref c0), .val (.ref c1), .val .null, .val .null, .val (.int (1 : Int32)), .unset] [(.int m9), .null])) rfl (by rw [hml]; rfl) (argsL := [.null, (.int m9)]) (rest := []) (lenOf pd_3 rfl) rfl (by show 2 * 0 + _ ≤ _; exact Nat.le_of_eq rfl) (hb hby at_171) (fun _ _ => ⟨rfl, rfl, (by decide : 6 + 0 ≤ _), (by decide : 213 + 0 ≤ _)⟩)
    dsimp only [Pt.U, Pt.locs, Pt.cells, Pt.slots] at X67 l67 y67 z67 st67 hQ67
    subst l67 y67 z67
    obtain ⟨hv67, Nq67, eq67⟩ := hQ67
    subst hv67
    replace Nf := Fr.app Nf Nq67
    refine own_go (x' := T67.setTop (mkF m 174 #[.val (.int p0), .val (.int p1), .val (.int p2), .val (.int p3), .val (.int p4), .val (.int (2 : Int32)), .val (.int s1), .val (.int u2), .val (.int s2), .val (.int m9), .val (.ref b53), .val (.ref b54), .val (.ref c0), .val (.ref c1), .val .null, .val .null, .val (.int (1 : Int32)), .unset] [])) st67 ?_
    refine own_go (x' := T67.setTop (mkF m 178 #[.val (.int p0), .val (.int p1), .val (.int p2), .val (.int p3), .val (.int p4), .val (.int (2 : Int32)), .val (.int s1), .val (.int u2), .val (.int s2), .val (.int m9), .val (.ref b53), .val (.ref b54), .val (.ref c0), .val (.ref c1), .val .null, .val .null, .val (.int (1 : Int32)), .unset] [(.int m9), .null])) (fun _ k => XS.aload X67.here hx rfl (hb hby at_174) rfl rfl (XS.iload X67.here hx rfl (hb hby at_176) rfl k)) ?_
    obtain ⟨_, _, ⟨T68, L68, k68, n68⟩, -, X68, ⟨Lc68, hQ68, l68, y68, z68⟩, st68⟩ := Jvm.LawKit.callS X67 hx (y := (⟨"com/example/wee_match/weematch/WindowsCharsPinLaw", "stamp", "([CC)V"⟩ : MethodName)) hown (mvT hZ (own_w hw 31 rfl)) (mvT hZ (own_w hw 32 rfl)) (mvT hZ (own_w hw 29 rfl)) (mvT hZ (own_w hw 33 rfl)) (by decide) (backOf (W := 0) (rm5n l Z a0 hw [] m9 T66.heap n0 Zs) hZ (own_w hw 33 rfl) (own_w hw 29 rfl) (by decide) (by decide)) (g := (mkF m 178 #[.val (.int p0), .val (.int p1), .val (.int p2), .val (.int p3), .val (.int p4), .val (.int (2 : Int32)), .val (.int s1), .val (.int u2), .val (.int s2), .val (.int m9), .val (.ref b53), .val (.ref b54), .val (.ref c0), .val (.ref c1), .val .null, .val .null, .val (.int (1 : Int32)), .unset] [(.int m9), .null])) rfl (by rw [hml]; rfl) (argsL := [.null, (.int m9)]) (rest := []) (lenOf pd_3 rfl) rfl (by show 2 * 0 + _ ≤ _; exact Nat.le_of_eq rfl) (hb hby at_178) (fun _ _ => ⟨rfl, eq67, (by decide : 6 + 0 ≤ _), (by decide : 213 + 0 ≤ _)⟩)
    dsimp only [Pt.U, Pt.locs, Pt.cells, Pt.slots] at X68 l68 y68 z68 st68 hQ68
    subst l68 y68 z68
    obtain ⟨hv68, Nq68, eq68⟩ := hQ68
    subst hv68
    replace Nf := Fr.app Nf Nq68
    refine own_go (x' := T68.setTop (mkF m 181 #[.val (.int p0), .val (.int p1), .val (.int p2), .val (.int p3), .val (.int p4), .val (.int (2 : Int32)), .val (.int s1), .val (.int u2), .val (.int s2), .val (.int m9), .val (.ref b53), .val (.ref b54), .val (.ref c0), .val (.ref c1), .val .null, .val .null, .val (.int (1 : Int32)), .unset] [])) st68 ?_
    refine own_go (x' := T68.setTop (mkF m 187 #[.val (.int p0), .val (.int p1), .val (.int p2), .val (.int p3), .val (.int p4), .val (.int (2 : Int32)), .val (.int s1), .val (.int u2), .val (.int s2), .val (.int m9), .val (.ref b53), .val (.ref b54), .val (.ref c0), .val (.ref c1), .val .null, .val .null, .val (.int (1 : Int32)), .unset] [(.int s2), (.int u2), (.ref b53)])) (fun _ k => XS.aload X68.here hx rfl (hb hby at_181) rfl rfl (XS.iload X68.here hx rfl (hb hby at_183) rfl (XS.iload X68.here hx rfl (hb hby at_185) rfl k))) ?_
    obtain ⟨cq69, kq69, q69a, q69b, q69c⟩ := isOf hZ eq68 E_b53
    obtain ⟨_, _, ⟨T69, L69, k69, n69⟩, -, X69, ⟨Lc69, hQ69, l69, y69, z69⟩, st69⟩ := X68.virtualBack hx (y := (⟨"com/example/wee_match/weematch/Sieve$Windows", "chars", "(II)[[C"⟩ : MethodName)) (z := (⟨"com/example/wee_match/weematch/Sieve$Windows", "chars", "(II)[[C"⟩ : MethodName)) hown (mvT hZ (own_w hw 22 rfl)) (mvT hZ (own_w hw 23 rfl)) (notFace_of_selects (args := #[]) (mvT hZ (own_w hw 25 rfl))) (mvT hZ (own_w hw 25 rfl)) (mvT hZ (own_w hw 24 rfl)) (by decide) (backOf (W := 0) (rmS_2 l Z a0 hw [] b53 u2 s2 b54 kc54 s1 m9 c0 kk0 c1 kk1 T66.heap n0 Zs F_b53_chars V_b54 O_b54 ne_b53_b54 g_b54 hs2 hu2 V_c0 V_c1 ne_c0_b54 ne_c1_b54) hZ (own_w hw 26 rfl) (own_w hw 4 rfl) (by decide) (by decide)) q69a q69c (g := (mkF m 187 #[.val (.int p0), .val (.int p1), .val (.int p2), .val (.int p3), .val (.int p4), .val (.int (2 : Int32)), .val (.int s1), .val (.int u2), .val (.int s2), .val (.int m9), .val (.ref b53), .val (.ref b54), .val (.ref c0), .val (.ref c1), .val .null, .val .null, .val (.int (1 : Int32)), .unset] [(.int s2), (.int u2), (.ref b53)])) rfl (by rw [hml]; rfl) (Steps.refl _) (argsL := [(.int u2), (.int s2)]) (rest := []) (lenOf pd_1 rfl) rfl (by show 2 * 0 + _ ≤ _; exact Nat.le_of_eq rfl) (hb hby at_187) (fun _ _ => ⟨rfl, eq68, (by decide : 6 + 4 ≤ _), (by decide : 213 + 124 ≤ _)⟩)
    dsimp only [Pt.U, Pt.locs, Pt.cells, Pt.slots] at X69 l69 y69 z69 st69 hQ69
    subst l69 y69 z69
    obtain ⟨w0, w1, w2, w3, hv69, Nq69, K69, Vn69, R0, R1, R2, R3⟩ := hQ69
    subst hv69
    replace Nf := Fr.app Nf Nq69
    have lt_c0 := V_c0.lt
    have lt_c1 := V_c1.lt
    have r_w0 := R0.ref.1
    have c_w0 := R0.ref.2
    have r_w1 := R1.ref.1
    have c_w1 := R1.ref.2
    have r_w2 := R2.ref.1
    have c_w2 := R2.ref.2
    have r_w3 := R3.ref.1
    have c_w3 := R3.ref.2
    replace E_b53 := E_b53.keep K69
    replace V_c0 := V_c0.keep K69 (ninS ne_c0_b54 nin0)
    replace V_c1 := V_c1.keep K69 (ninS ne_c1_b54 nin0)
    replace Zs := Nat.le_trans Zs K69.1
    replace V_b54 := Vn69
    refine own_go (x' := T69.setTop (mkF m 190 #[.val (.int p0), .val (.int p1), .val (.int p2), .val (.int p3), .val (.int p4), .val (.int (2 : Int32)), .val (.int s1), .val (.int u2), .val (.int s2), .val (.int m9), .val (.ref b53), .val (.ref b54), .val (.ref c0), .val (.ref c1), .val .null, .val .null, .val (.int (1 : Int32)), .unset] [(.ref b54)])) (fun _ k => st69.trans k) ?_
    refine own_go (x' := T69.setTop (mkF m 199 #[.val (.int p0), .val (.int p1), .val (.int p2), .val (.int p3), .val (.int p4), .val (.int (2 : Int32)), .val (.int s1), .val (.int u2), .val (.int s2), .val (.int m9), .val (.ref b53), .val (.ref b54), .val (.ref c0), .val (.ref c1), .val .null, .val .null, .val (.int (1 : Int32)), .val (.ref b54)] [(.ref b54)])) (fun _ k => XS.astore X69.here hx rfl (hb hby at_190) rfl rfl (l' := #[.val (.int p0), .val (.int p1), .val (.int p2), .val (.int p3), .val (.int p4), .val (.int (2 : Int32)), .val (.int s1), .val (.int u2), .val (.int s2), .val (.int m9), .val (.ref b53), .val (.ref b54), .val (.ref c0), .val (.ref c1), .val .null, .val .null, .val (.int (1 : Int32)), .val (.ref b54)]) rfl (XS.aload X69.here hx rfl (hb hby at_192) rfl rfl (XS.ifnullNo X69.here hx rfl (hb hby at_194) rfl (XS.aload X69.here hx rfl (hb hby at_197) rfl rfl k)))) ?_
    obtain ⟨cl70, Ar70, -, Sz70, Nn70, -, -⟩ := id V_b54
    refine own_go (x' := T69.setTop (mkF m 200 #[.val (.int p0), .val (.int p1), .val (.int p2), .val (.int p3), .val (.int p4), .val (.int (2 : Int32)), .val (.int s1), .val (.int u2), .val (.int s2), .val (.int m9), .val (.ref b53), .val (.ref b54), .val (.ref c0), .val (.ref c1), .val .null, .val .null, .val (.int (1 : Int32)), .val (.ref b54)] [(.int (4 : Int32))])) (fun t k => X69.arraylength hx (Eq.trans (congrArg (fun h_ => h_[_]?) rfl) Ar70.1) (State.isArrayOf_alike hZ.alike Ar70.2.1) (g := (mkF m 199 #[.val (.int p0), .val (.int p1), .val (.int p2), .val (.int p3), .val (.int p4), .val (.int (2 : Int32)), .val (.int s1), .val (.int u2), .val (.int s2), .val (.int m9), .val (.ref b53), .val (.ref b54), .val (.ref c0), .val (.ref c1), .val .null, .val .null, .val (.int (1 : Int32)), .val (.ref b54)] [(.ref b54)])) rfl rfl (hb hby at_199) t (by rw [len_of Sz70 Nn70]; exact k)) ?_
    refine own_go (x' := T69.setTop (mkF m 215 #[.val (.int p0), .val (.int p1), .val (.int p2), .val (.int p3), .val (.int p4), .val (.int (2 : Int32)), .val (.int s1), .val (.int u2), .val (.int s2), .val (.int m9), .val (.ref b53), .val (.ref b54), .val (.ref c0), .val (.ref c1), .val .null, .val .null, .val (.int (1 : Int32)), .val (.ref b54)] [(.ref b54), (.ref c0)])) (fun _ k => XS.iconst X69.here hx rfl (hb hby at_200) (XS.icmpYes X69.here hx rfl (pc0 := 201) (pc' := 206) rfl (hb hby at_201) rfl (teq rfl).1 (by decide) (by decide) (XS.iload X69.here hx rfl (hb hby at_206) rfl (XS.ifNo X69.here hx rfl (hb hby at_208) rfl ((if0 _ _).trans (feq (by decide +kernel : ¬ ((1 : Int32) = (0 : Int32)))).1) (XS.aload X69.here hx rfl (hb hby at_211) rfl rfl (XS.aload X69.here hx rfl (hb hby at_213) rfl rfl k)))))) ?_
    refine own_go (x' := T69.setTop (mkF m 216 #[.val (.int p0), .val (.int p1), .val (.int p2), .val (.int p3), .val (.int p4), .val (.int (2 : Int32)), .val (.int s1), .val (.int u2), .val (.int s2), .val (.int m9), .val (.ref b53), .val (.ref b54), .val (.ref c0), .val (.ref c1), .val .null, .val .null, .val (.int (1 : Int32)), .val (.ref b54)] [(.int (0 : Int32)), (.ref b54), (.ref c0)])) (fun _ k => XS.iconst X69.here hx rfl (hb hby at_215) k) ?_
    obtain ⟨cl71, Ar71, q71, Sz71, Nn71, Hh71, Gg71⟩ := id V_b54
    have hin71 : ¬ ((0 : Int32) < 0 ∨ cl71.slots.size ≤ ((0 : Int32)).toNatClampNeg) := inb_of Sz71 ⟨by decide, by decide⟩
    refine own_go (x' := T69.setTop (mkF m 217 #[.val (.int p0), .val (.int p1), .val (.int p2), .val (.int p3), .val (.int p4), .val (.int (2 : Int32)), .val (.int s1), .val (.int u2), .val (.int s2), .val (.int m9), .val (.ref b53), .val (.ref b54), .val (.ref c0), .val (.ref c1), .val .null, .val .null, .val (.int (1 : Int32)), .val (.ref b54)] [w0, (.ref c0)])) (X69.aaload hx (j := (0 : Int32)) (v := w0) (Eq.trans (congrArg (fun h_ => h_[_]?) rfl) Ar71.1) (State.isArrayOf_alike hZ.alike Ar71.2.1) rfl Ar71.2.2 hin71 (Hh71.at hin71 rfl) (g := (mkF m 216 #[.val (.int p0), .val (.int p1), .val (.int p2), .val (.int p3), .val (.int p4), .val (.int (2 : Int32)), .val (.int s1), .val (.int u2), .val (.int s2), .val (.int m9), .val (.ref b53), .val (.ref b54), .val (.ref c0), .val (.ref c1), .val .null, .val .null, .val (.int (1 : Int32)), .val (.ref b54)] [(.int (0 : Int32)), (.ref b54), (.ref c0)])) rfl rfl (hb hby at_216)) ?_
    refine own_go (x' := T69.setTop (mkF m 224 #[.val (.int p0), .val (.int p1), .val (.int p2), .val (.int p3), .val (.int p4), .val (.int (2 : Int32)), .val (.int s1), .val (.int u2), .val (.int s2), .val (.int m9), .val (.ref b53), .val (.ref b54), .val (.ref c0), .val (.ref c1), .val .null, .val .null, .val (.int (1 : Int32)), .val (.ref b54)] [(.int m9), (.int s2), (.int u2), (.int (0 : Int32)), w0, (.ref c0)])) (fun _ k => XS.iconst X69.here hx rfl (hb hby at_217) (XS.iload X69.here hx rfl (hb hby at_218) rfl (XS.iload X69.here hx rfl (hb hby at_220) rfl (XS.iload X69.here hx rfl (hb hby at_222) rfl k)))) ?_
    obtain ⟨_, _, ⟨T72, L72, k72, n72⟩, -, X72, ⟨Lc72, hQ72, l72, y72, z72⟩, st72⟩ := Jvm.LawKit.callS X69 hx (y := (⟨"com/example/wee_match/weematch/WindowsCharsPinLaw", "after", "([C[CIIIC)Z"⟩ : MethodName)) hown (mvT hZ (own_w hw 36 rfl)) (mvT hZ (own_w hw 37 rfl)) (mvT hZ (own_w hw 29 rfl)) (mvT hZ (own_w hw 38 rfl)) (by decide) (backOf (W := 0) (rm6p l Z a0 hw [] c0 w0 (0 : Int32) u2 s1 s2 m9 kk0 _ T69.heap n0 Zs V_c0 lt_c0 R0) hZ (own_w hw 38 rfl) (own_w hw 29 rfl) (by decide) (by decide)) (g := (mkF m 224 #[.val (.int p0), .val (.int p1), .val (.int p2), .val (.int p3), .val (.int p4), .val (.int (2 : Int32)), .val (.int s1), .val (.int u2), .val (.int s2), .val (.int m9), .val (.ref b53), .val (.ref b54), .val (.ref c0), .val (.ref c1), .val .null, .val .null, .val (.int (1 : Int32)), .val (.ref b54)] [(.int m9), (.int s2), (.int u2), (.int (0 : Int32)), w0, (.ref c0)])) rfl (by rw [hml]; rfl) (argsL := [(.ref c0), w0, (.int (0 : Int32)), (.int u2), (.int s2), (.int m9)]) (rest := []) (lenOf pd_4 rfl) rfl (by show 2 * 0 + _ ≤ _; exact Nat.le_of_eq rfl) (hb hby at_224) (fun _ _ => ⟨rfl, rfl, (by decide : 10 + 0 ≤ _), (by decide : 337 + 0 ≤ _)⟩)
    dsimp only [Pt.U, Pt.locs, Pt.cells, Pt.slots] at X72 l72 y72 z72 st72 hQ72
    subst l72 y72 z72
    obtain ⟨hv72, Nq72, eq72⟩ := hQ72
    subst hv72
    replace Nf := Fr.app Nf Nq72
    refine own_go (x' := T72.setTop (mkF m 227 #[.val (.int p0), .val (.int p1), .val (.int p2), .val (.int p3), .val (.int p4), .val (.int (2 : Int32)), .val (.int s1), .val (.int u2), .val (.int s2), .val (.int m9), .val (.ref b53), .val (.ref b54), .val (.ref c0), .val (.ref c1), .val .null, .val .null, .val (.int (1 : Int32)), .val (.ref b54)] [(.int (1 : Int32))])) st72 ?_
    refine own_go (x' := T72.setTop (mkF m 235 #[.val (.int p0), .val (.int p1), .val (.int p2), .val (.int p3), .val (.int p4), .val (.int (2 : Int32)), .val (.int s1), .val (.int u2), .val (.int s2), .val (.int m9), .val (.ref b53), .val (.ref b54), .val (.ref c0), .val (.ref c1), .val .null, .val .null, .val (.int (1 : Int32)), .val (.ref b54)] [(.int (1 : Int32)), (.ref b54), (.ref c1)])) (fun _ k => XS.ifNo X72.here hx rfl (hb hby at_227) rfl ((if0 _ _).trans (feq (by decide +kernel : ¬ ((1 : Int32) = (0 : Int32)))).1) (XS.aload X72.here hx rfl (hb hby at_230) rfl rfl (XS.aload X72.here hx rfl (hb hby at_232) rfl rfl (XS.iconst X72.here hx rfl (hb hby at_234) k)))) ?_
    obtain ⟨cl73, Ar73, q73, Sz73, Nn73, Hh73, Gg73⟩ := id V_b54
    have hin73 : ¬ ((1 : Int32) < 0 ∨ cl73.slots.size ≤ ((1 : Int32)).toNatClampNeg) := inb_of Sz73 ⟨by decide, by decide⟩
    refine own_go (x' := T72.setTop (mkF m 236 #[.val (.int p0), .val (.int p1), .val (.int p2), .val (.int p3), .val (.int p4), .val (.int (2 : Int32)), .val (.int s1), .val (.int u2), .val (.int s2), .val (.int m9), .val (.ref b53), .val (.ref b54), .val (.ref c0), .val (.ref c1), .val .null, .val .null, .val (.int (1 : Int32)), .val (.ref b54)] [w1, (.ref c1)])) (X72.aaload hx (j := (1 : Int32)) (v := w1) (Eq.trans (congrArg (fun h_ => h_[_]?) eq72) Ar73.1) (State.isArrayOf_alike hZ.alike Ar73.2.1) rfl Ar73.2.2 hin73 (Hh73.at hin73 rfl) (g := (mkF m 235 #[.val (.int p0), .val (.int p1), .val (.int p2), .val (.int p3), .val (.int p4), .val (.int (2 : Int32)), .val (.int s1), .val (.int u2), .val (.int s2), .val (.int m9), .val (.ref b53), .val (.ref b54), .val (.ref c0), .val (.ref c1), .val .null, .val .null, .val (.int (1 : Int32)), .val (.ref b54)] [(.int (1 : Int32)), (.ref b54), (.ref c1)])) rfl rfl (hb hby at_235)) ?_
    refine own_go (x' := T72.setTop (mkF m 243 #[.val (.int p0), .val (.int p1), .val (.int p2), .val (.int p3), .val (.int p4), .val (.int (2 : Int32)), .val (.int s1), .val (.int u2), .val (.int s2), .val (.int m9), .val (.ref b53), .val (.ref b54), .val (.ref c0), .val (.ref c1), .val .null, .val .null, .val (.int (1 : Int32)), .val (.ref b54)] [(.int m9), (.int s2), (.int u2), (.int (1 : Int32)), w1, (.ref c1)])) (fun _ k => XS.iconst X72.here hx rfl (hb hby at_236) (XS.iload X72.here hx rfl (hb hby at_237) rfl (XS.iload X72.here hx rfl (hb hby at_239) rfl (XS.iload X72.here hx rfl (hb hby at_241) rfl k)))) ?_
    obtain ⟨_, _, ⟨T74, L74, k74, n74⟩, -, X74, ⟨Lc74, hQ74, l74, y74, z74⟩, st74⟩ := Jvm.LawKit.callS X72 hx (y := (⟨"com/example/wee_match/weematch/WindowsCharsPinLaw", "after", "([C[CIIIC)Z"⟩ : MethodName)) hown (mvT hZ (own_w hw 36 rfl)) (mvT hZ (own_w hw 37 rfl)) (mvT hZ (own_w hw 29 rfl)) (mvT hZ (own_w hw 38 rfl)) (by decide) (backOf (W := 0) (rm6p l Z a0 hw [] c1 w1 (1 : Int32) u2 s1 s2 m9 kk1 _ T69.heap n0 Zs V_c1 lt_c1 R1) hZ (own_w hw 38 rfl) (own_w hw 29 rfl) (by decide) (by decide)) (g := (mkF m 243 #[.val (.int p0), .val (.int p1), .val (.int p2), .val (.int p3), .val (.int p4), .val (.int (2 : Int32)), .val (.int s1), .val (.int u2), .val (.int s2), .val (.int m9), .val (.ref b53), .val (.ref b54), .val (.ref c0), .val (.ref c1), .val .null, .val .null, .val (.int (1 : Int32)), .val (.ref b54)] [(.int m9), (.int s2), (.int u2), (.int (1 : Int32)), w1, (.ref c1)])) rfl (by rw [hml]; rfl) (argsL := [(.ref c1), w1, (.int (1 : Int32)), (.int u2), (.int s2), (.int m9)]) (rest := []) (lenOf pd_4 rfl) rfl (by show 2 * 0 + _ ≤ _; exact Nat.le_of_eq rfl) (hb hby at_243) (fun _ _ => ⟨rfl, eq72, (by decide : 10 + 0 ≤ _), (by decide : 337 + 0 ≤ _)⟩)
    dsimp only [Pt.U, Pt.locs, Pt.cells, Pt.slots] at X74 l74 y74 z74 st74 hQ74
    subst l74 y74 z74
    obtain ⟨hv74, Nq74, eq74⟩ := hQ74
    subst hv74
    replace Nf := Fr.app Nf Nq74
    refine own_go (x' := T74.setTop (mkF m 246 #[.val (.int p0), .val (.int p1), .val (.int p2), .val (.int p3), .val (.int p4), .val (.int (2 : Int32)), .val (.int s1), .val (.int u2), .val (.int s2), .val (.int m9), .val (.ref b53), .val (.ref b54), .val (.ref c0), .val (.ref c1), .val .null, .val .null, .val (.int (1 : Int32)), .val (.ref b54)] [(.int (1 : Int32))])) st74 ?_
    refine own_go (x' := T74.setTop (mkF m 254 #[.val (.int p0), .val (.int p1), .val (.int p2), .val (.int p3), .val (.int p4), .val (.int (2 : Int32)), .val (.int s1), .val (.int u2), .val (.int s2), .val (.int m9), .val (.ref b53), .val (.ref b54), .val (.ref c0), .val (.ref c1), .val .null, .val .null, .val (.int (1 : Int32)), .val (.ref b54)] [(.int (2 : Int32)), (.ref b54), .null])) (fun _ k => XS.ifNo X74.here hx rfl (hb hby at_246) rfl ((if0 _ _).trans (feq (by decide +kernel : ¬ ((1 : Int32) = (0 : Int32)))).1) (XS.aload X74.here hx rfl (hb hby at_249) rfl rfl (XS.aload X74.here hx rfl (hb hby at_251) rfl rfl (XS.iconst X74.here hx rfl (hb hby at_253) k)))) ?_
    obtain ⟨cl75, Ar75, q75, Sz75, Nn75, Hh75, Gg75⟩ := id V_b54
    have hin75 : ¬ ((2 : Int32) < 0 ∨ cl75.slots.size ≤ ((2 : Int32)).toNatClampNeg) := inb_of Sz75 ⟨by decide, by decide⟩
    refine own_go (x' := T74.setTop (mkF m 255 #[.val (.int p0), .val (.int p1), .val (.int p2), .val (.int p3), .val (.int p4), .val (.int (2 : Int32)), .val (.int s1), .val (.int u2), .val (.int s2), .val (.int m9), .val (.ref b53), .val (.ref b54), .val (.ref c0), .val (.ref c1), .val .null, .val .null, .val (.int (1 : Int32)), .val (.ref b54)] [w2, .null])) (X74.aaload hx (j := (2 : Int32)) (v := w2) (Eq.trans (congrArg (fun h_ => h_[_]?) eq74) Ar75.1) (State.isArrayOf_alike hZ.alike Ar75.2.1) rfl Ar75.2.2 hin75 (Hh75.at hin75 rfl) (g := (mkF m 254 #[.val (.int p0), .val (.int p1), .val (.int p2), .val (.int p3), .val (.int p4), .val (.int (2 : Int32)), .val (.int s1), .val (.int u2), .val (.int s2), .val (.int m9), .val (.ref b53), .val (.ref b54), .val (.ref c0), .val (.ref c1), .val .null, .val .null, .val (.int (1 : Int32)), .val (.ref b54)] [(.int (2 : Int32)), (.ref b54), .null])) rfl rfl (hb hby at_254)) ?_
    refine own_go (x' := T74.setTop (mkF m 262 #[.val (.int p0), .val (.int p1), .val (.int p2), .val (.int p3), .val (.int p4), .val (.int (2 : Int32)), .val (.int s1), .val (.int u2), .val (.int s2), .val (.int m9), .val (.ref b53), .val (.ref b54), .val (.ref c0), .val (.ref c1), .val .null, .val .null, .val (.int (1 : Int32)), .val (.ref b54)] [(.int m9), (.int s2), (.int u2), (.int (2 : Int32)), w2, .null])) (fun _ k => XS.iconst X74.here hx rfl (hb hby at_255) (XS.iload X74.here hx rfl (hb hby at_256) rfl (XS.iload X74.here hx rfl (hb hby at_258) rfl (XS.iload X74.here hx rfl (hb hby at_260) rfl k)))) ?_
    obtain ⟨_, _, ⟨T76, L76, k76, n76⟩, -, X76, ⟨Lc76, hQ76, l76, y76, z76⟩, st76⟩ := Jvm.LawKit.callS X74 hx (y := (⟨"com/example/wee_match/weematch/WindowsCharsPinLaw", "after", "([C[CIIIC)Z"⟩ : MethodName)) hown (mvT hZ (own_w hw 36 rfl)) (mvT hZ (own_w hw 37 rfl)) (mvT hZ (own_w hw 29 rfl)) (mvT hZ (own_w hw 38 rfl)) (by decide) (backOf (W := 0) (rm6n l Z a0 hw [] w2 (2 : Int32) u2 s2 m9 T69.heap n0 Zs R2) hZ (own_w hw 38 rfl) (own_w hw 29 rfl) (by decide) (by decide)) (g := (mkF m 262 #[.val (.int p0), .val (.int p1), .val (.int p2), .val (.int p3), .val (.int p4), .val (.int (2 : Int32)), .val (.int s1), .val (.int u2), .val (.int s2), .val (.int m9), .val (.ref b53), .val (.ref b54), .val (.ref c0), .val (.ref c1), .val .null, .val .null, .val (.int (1 : Int32)), .val (.ref b54)] [(.int m9), (.int s2), (.int u2), (.int (2 : Int32)), w2, .null])) rfl (by rw [hml]; rfl) (argsL := [.null, w2, (.int (2 : Int32)), (.int u2), (.int s2), (.int m9)]) (rest := []) (lenOf pd_4 rfl) rfl (by show 2 * 0 + _ ≤ _; exact Nat.le_of_eq rfl) (hb hby at_262) (fun _ _ => ⟨rfl, eq74, (by decide : 10 + 0 ≤ _), (by decide : 337 + 0 ≤ _)⟩)
    dsimp only [Pt.U, Pt.locs, Pt.cells, Pt.slots] at X76 l76 y76 z76 st76 hQ76
    subst l76 y76 z76
    obtain ⟨hv76, Nq76, eq76⟩ := hQ76
    subst hv76
    replace Nf := Fr.app Nf Nq76
    refine own_go (x' := T76.setTop (mkF m 265 #[.val (.int p0), .val (.int p1), .val (.int p2), .val (.int p3), .val (.int p4), .val (.int (2 : Int32)), .val (.int s1), .val (.int u2), .val (.int s2), .val (.int m9), .val (.ref b53), .val (.ref b54), .val (.ref c0), .val (.ref c1), .val .null, .val .null, .val (.int (1 : Int32)), .val (.ref b54)] [(.int (1 : Int32))])) st76 ?_
    refine own_go (x' := T76.setTop (mkF m 273 #[.val (.int p0), .val (.int p1), .val (.int p2), .val (.int p3), .val (.int p4), .val (.int (2 : Int32)), .val (.int s1), .val (.int u2), .val (.int s2), .val (.int m9), .val (.ref b53), .val (.ref b54), .val (.ref c0), .val (.ref c1), .val .null, .val .null, .val (.int (1 : Int32)), .val (.ref b54)] [(.int (3 : Int32)), (.ref b54), .null])) (fun _ k => XS.ifNo X76.here hx rfl (hb hby at_265) rfl ((if0 _ _).trans (feq (by decide +kernel : ¬ ((1 : Int32) = (0 : Int32)))).1) (XS.aload X76.here hx rfl (hb hby at_268) rfl rfl (XS.aload X76.here hx rfl (hb hby at_270) rfl rfl (XS.iconst X76.here hx rfl (hb hby at_272) k)))) ?_
    obtain ⟨cl77, Ar77, q77, Sz77, Nn77, Hh77, Gg77⟩ := id V_b54
    have hin77 : ¬ ((3 : Int32) < 0 ∨ cl77.slots.size ≤ ((3 : Int32)).toNatClampNeg) := inb_of Sz77 ⟨by decide, by decide⟩
    refine own_go (x' := T76.setTop (mkF m 274 #[.val (.int p0), .val (.int p1), .val (.int p2), .val (.int p3), .val (.int p4), .val (.int (2 : Int32)), .val (.int s1), .val (.int u2), .val (.int s2), .val (.int m9), .val (.ref b53), .val (.ref b54), .val (.ref c0), .val (.ref c1), .val .null, .val .null, .val (.int (1 : Int32)), .val (.ref b54)] [w3, .null])) (X76.aaload hx (j := (3 : Int32)) (v := w3) (Eq.trans (congrArg (fun h_ => h_[_]?) eq76) Ar77.1) (State.isArrayOf_alike hZ.alike Ar77.2.1) rfl Ar77.2.2 hin77 (Hh77.at hin77 rfl) (g := (mkF m 273 #[.val (.int p0), .val (.int p1), .val (.int p2), .val (.int p3), .val (.int p4), .val (.int (2 : Int32)), .val (.int s1), .val (.int u2), .val (.int s2), .val (.int m9), .val (.ref b53), .val (.ref b54), .val (.ref c0), .val (.ref c1), .val .null, .val .null, .val (.int (1 : Int32)), .val (.ref b54)] [(.int (3 : Int32)), (.ref b54), .null])) rfl rfl (hb hby at_273)) ?_
    refine own_go (x' := T76.setTop (mkF m 281 #[.val (.int p0), .val (.int p1), .val (.int p2), .val (.int p3), .val (.int p4), .val (.int (2 : Int32)), .val (.int s1), .val (.int u2), .val (.int s2), .val (.int m9), .val (.ref b53), .val (.ref b54), .val (.ref c0), .val (.ref c1), .val .null, .val .null, .val (.int (1 : Int32)), .val (.ref b54)] [(.int m9), (.int s2), (.int u2), (.int (3 : Int32)), w3, .null])) (fun _ k => XS.iconst X76.here hx rfl (hb hby at_274) (XS.iload X76.here hx rfl (hb hby at_275) rfl (XS.iload X76.here hx rfl (hb hby at_277) rfl (XS.iload X76.here hx rfl (hb hby at_279) rfl k)))) ?_
    obtain ⟨_, _, ⟨T78, L78, k78, n78⟩, -, X78, ⟨Lc78, hQ78, l78, y78, z78⟩, st78⟩ := Jvm.LawKit.callS X76 hx (y := (⟨"com/example/wee_match/weematch/WindowsCharsPinLaw", "after", "([C[CIIIC)Z"⟩ : MethodName)) hown (mvT hZ (own_w hw 36 rfl)) (mvT hZ (own_w hw 37 rfl)) (mvT hZ (own_w hw 29 rfl)) (mvT hZ (own_w hw 38 rfl)) (by decide) (backOf (W := 0) (rm6n l Z a0 hw [] w3 (3 : Int32) u2 s2 m9 T69.heap n0 Zs R3) hZ (own_w hw 38 rfl) (own_w hw 29 rfl) (by decide) (by decide)) (g := (mkF m 281 #[.val (.int p0), .val (.int p1), .val (.int p2), .val (.int p3), .val (.int p4), .val (.int (2 : Int32)), .val (.int s1), .val (.int u2), .val (.int s2), .val (.int m9), .val (.ref b53), .val (.ref b54), .val (.ref c0), .val (.ref c1), .val .null, .val .null, .val (.int (1 : Int32)), .val (.ref b54)] [(.int m9), (.int s2), (.int u2), (.int (3 : Int32)), w3, .null])) rfl (by rw [hml]; rfl) (argsL := [.null, w3, (.int (3 : Int32)), (.int u2), (.int s2), (.int m9)]) (rest := []) (lenOf pd_4 rfl) rfl (by show 2 * 0 + _ ≤ _; exact Nat.le_of_eq rfl) (hb hby at_281) (fun _ _ => ⟨rfl, eq76, (by decide : 10 + 0 ≤ _), (by decide : 337 + 0 ≤ _)⟩)
    dsimp only [Pt.U, Pt.locs, Pt.cells, Pt.slots] at X78 l78 y78 z78 st78 hQ78
    subst l78 y78 z78
    obtain ⟨hv78, Nq78, eq78⟩ := hQ78
    subst hv78
    replace Nf := Fr.app Nf Nq78
    refine own_go (x' := T78.setTop (mkF m 284 #[.val (.int p0), .val (.int p1), .val (.int p2), .val (.int p3), .val (.int p4), .val (.int (2 : Int32)), .val (.int s1), .val (.int u2), .val (.int s2), .val (.int m9), .val (.ref b53), .val (.ref b54), .val (.ref c0), .val (.ref c1), .val .null, .val .null, .val (.int (1 : Int32)), .val (.ref b54)] [(.int (1 : Int32))])) st78 ?_
    refine own_go (x' := T78.setTop (mkF m 292 #[.val (.int p0), .val (.int p1), .val (.int p2), .val (.int p3), .val (.int p4), .val (.int (2 : Int32)), .val (.int s1), .val (.int u2), .val (.int s2), .val (.int m9), .val (.ref b53), .val (.ref b54), .val (.ref c0), .val (.ref c1), .val .null, .val .null, .val (.int (1 : Int32)), .val (.ref b54)] [(.int (1 : Int32))])) (fun _ k => XS.ifNo X78.here hx rfl (hb hby at_284) rfl ((if0 _ _).trans (feq (by decide +kernel : ¬ ((1 : Int32) = (0 : Int32)))).1) (XS.iconst X78.here hx rfl (hb hby at_287) (XS.goto X78.here hx rfl (pc0 := 288) (pc' := 292) rfl (hb hby at_288) (by decide) (by decide) k))) ?_
    refine own_retN X78 hx hlk (t := .boolean) hret (by simp) (hb hby at_292) (w := (1 : Int32)) rfl ?_ (by decide) (by decide)
    rw [eq78]
    exact ⟨rfl, Nf⟩
  · rw [hq]
    obtain ⟨T79, h79, X79, e79, E79, A79, D79, -, st79⟩ := newO X0 hx hZ hown (own_w hw 2 rfl) (own_w hw 3 rfl) (own_w hw 4 rfl) e0 (g := (mkF m 36 #[.val (.int p0), .val (.int p1), .val (.int p2), .val (.int p3), .val (.int p4), .val (.int (3 : Int32)), .val (.int s1), .val (.int u2), .val (.int s2), .val (.int m9), .unset, .unset, .unset, .unset, .unset, .unset, .unset, .unset] [])) rfl (hb hby at_36) (by decide) (by decide)
    obtain ⟨b79, g79⟩ : ∃ z, z = h0.size := ⟨_, rfl⟩
    rw [← g79] at A79 D79 st79
    have g_b79 : n0 ≤ b79 := Nat.le_trans Zs (Nat.le_of_eq g79.symm)
    replace Zs := Nat.le_trans Zs E79.1
    have E_b79 := A79
    have F_b79_bytes : Fld Z h79 b79 "com/example/wee_match/weematch/Sieve$Windows" "bytes" "[[B" .null := D79 (Or.inr (own_w hw 14 rfl)) (ty := (.array (.array .byte))) (by decide)
    have F_b79_chars : Fld Z h79 b79 "com/example/wee_match/weematch/Sieve$Windows" "chars" "[[C" .null := D79 (Or.inr (own_w hw 18 rfl)) (ty := (.array (.array .char))) (by decide)
    have F_b79_starts : Fld Z h79 b79 "com/example/wee_match/weematch/Sieve$Windows" "starts" "[I" .null := D79 (Or.inl (own_w hw 21 rfl)) (ty := (.array .int)) (by decide)
    refine own_go (x' := T79.setTop (mkF m 39 #[.val (.int p0), .val (.int p1), .val (.int p2), .val (.int p3), .val (.int p4), .val (.int (3 : Int32)), .val (.int s1), .val (.int u2), .val (.int s2), .val (.int m9), .unset, .unset, .unset, .unset, .unset, .unset, .unset, .unset] [(.ref b79)])) st79 ?_
    refine own_go (x' := T79.setTop (mkF m 40 #[.val (.int p0), .val (.int p1), .val (.int p2), .val (.int p3), .val (.int p4), .val (.int (3 : Int32)), .val (.int s1), .val (.int u2), .val (.int s2), .val (.int m9), .unset, .unset, .unset, .unset, .unset, .unset, .unset, .unset] [(.ref b79), (.ref b79)])) (fun _ k => XS.dup X79.here hx rfl (hb hby at_39) rfl rfl k) ?_
    obtain ⟨_, _, ⟨T80, L80, k80, n80⟩, -, X80, ⟨Lc80, hQ80, l80, y80, z80⟩, st80⟩ := X79.specialBack hx (y := (⟨"com/example/wee_match/weematch/Sieve$Windows", "<init>", "()V"⟩ : MethodName)) rfl hown (mvT hZ (own_w hw 5 rfl)) (mvT hZ (own_w hw 6 rfl)) (mvT hZ (own_w hw 7 rfl)) (by decide) (backOf (W := 1) (rm1 l Z a0 hw [] b79 h79 n0 Zs E_b79 F_b79_bytes F_b79_chars F_b79_starts g_b79) hZ (own_w hw 7 rfl) (own_w hw 4 rfl) (by decide) (by decide)) (g := (mkF m 40 #[.val (.int p0), .val (.int p1), .val (.int p2), .val (.int p3), .val (.int p4), .val (.int (3 : Int32)), .val (.int s1), .val (.int u2), .val (.int s2), .val (.int m9), .unset, .unset, .unset, .unset, .unset, .unset, .unset, .unset] [(.ref b79), (.ref b79)])) rfl (by rw [hml]; rfl) (Steps.refl _) (a := b79) (argsL := []) (rest := [(.ref b79)]) (lenOf pd_0 rfl) rfl (by show 2 * 0 + _ ≤ _; exact Nat.le_of_eq rfl) (hb hby at_40) (fun _ _ => ⟨rfl, e79, (by decide : 1 + 3 ≤ _), (by decide : 7 + 144 ≤ _)⟩)
    dsimp only [Pt.U, Pt.locs, Pt.cells, Pt.slots] at X80 l80 y80 z80 st80 hQ80
    subst l80 y80 z80
    obtain ⟨b80, kc80, hv80, Nq80, K80, sq80, g_b80, Eo80, Fs80, V_b80, O_b80⟩ := hQ80
    subst hv80
    replace Nf := Fr.app Nf Nq80
    have ne_b79_b80 : b79 ≠ b80 := Nat.ne_of_lt (Nat.lt_of_lt_of_le E_b79.lt sq80)
    replace Zs := Nat.le_trans Zs K80.1
    replace E_b79 := Eo80
    replace F_b79_chars := Fs80
    refine own_go (x' := T80.setTop (mkF m 43 #[.val (.int p0), .val (.int p1), .val (.int p2), .val (.int p3), .val (.int p4), .val (.int (3 : Int32)), .val (.int s1), .val (.int u2), .val (.int s2), .val (.int m9), .unset, .unset, .unset, .unset, .unset, .unset, .unset, .unset] [(.ref b79)])) (fun _ k => st80.trans k) ?_
    refine own_go (x' := T80.setTop (mkF m 51 #[.val (.int p0), .val (.int p1), .val (.int p2), .val (.int p3), .val (.int p4), .val (.int (3 : Int32)), .val (.int s1), .val (.int u2), .val (.int s2), .val (.int m9), .val (.ref b79), .unset, .unset, .unset, .unset, .unset, .unset, .unset] [(.int s1), (.int (3 : Int32)), (.ref b79)])) (fun _ k => XS.astore X80.here hx rfl (hb hby at_43) rfl rfl (l' := #[.val (.int p0), .val (.int p1), .val (.int p2), .val (.int p3), .val (.int p4), .val (.int (3 : Int32)), .val (.int s1), .val (.int u2), .val (.int s2), .val (.int m9), .val (.ref b79), .unset, .unset, .unset, .unset, .unset, .unset, .unset]) rfl (XS.aload X80.here hx rfl (hb hby at_45) rfl rfl (XS.iload X80.here hx rfl (hb hby at_47) rfl (XS.iload X80.here hx rfl (hb hby at_49) rfl k)))) ?_
    have q81b_lt := E_b79.lt
    obtain ⟨cq81, kq81, q81a, q81b, q81c⟩ := isOf hZ rfl E_b79
    obtain ⟨_, _, ⟨T81, L81, k81, n81⟩, -, X81, ⟨Lc81, hQ81, l81, y81, z81⟩, st81⟩ := X80.virtualBack hx (y := (⟨"com/example/wee_match/weematch/Sieve$Windows", "chars", "(II)[[C"⟩ : MethodName)) (z := (⟨"com/example/wee_match/weematch/Sieve$Windows", "chars", "(II)[[C"⟩ : MethodName)) hown (mvT hZ (own_w hw 22 rfl)) (mvT hZ (own_w hw 23 rfl)) (notFace_of_selects (args := #[]) (mvT hZ (own_w hw 25 rfl))) (mvT hZ (own_w hw 25 rfl)) (mvT hZ (own_w hw 24 rfl)) (by decide) (backOf (W := 0) (rmF_3 l Z a0 hw [] b79 s1 b80 kc80 T80.heap n0 Zs F_b79_chars V_b80 O_b80 ne_b79_b80 g_b80 hs1) hZ (own_w hw 26 rfl) (own_w hw 4 rfl) (by decide) (by decide)) q81a q81c (g := (mkF m 51 #[.val (.int p0), .val (.int p1), .val (.int p2), .val (.int p3), .val (.int p4), .val (.int (3 : Int32)), .val (.int s1), .val (.int u2), .val (.int s2), .val (.int m9), .val (.ref b79), .unset, .unset, .unset, .unset, .unset, .unset, .unset] [(.int s1), (.int (3 : Int32)), (.ref b79)])) rfl (by rw [hml]; rfl) (Steps.refl _) (argsL := [(.int (3 : Int32)), (.int s1)]) (rest := []) (lenOf pd_1 rfl) rfl (by show 2 * 0 + _ ≤ _; exact Nat.le_of_eq rfl) (hb hby at_51) (fun _ _ => ⟨rfl, rfl, (by decide : 4 + 3 ≤ _), (by decide : 151 + 93 ≤ _)⟩)
    dsimp only [Pt.U, Pt.locs, Pt.cells, Pt.slots] at X81 l81 y81 z81 st81 hQ81
    subst l81 y81 z81
    obtain ⟨c0, kk0, c1, kk1, c2, kk2, hv81, Nq81, K81, Fs81, Vn81, sq_c0, g_c0, V_c0, sq_c1, g_c1, V_c1, sq_c2, g_c2, V_c2, ne_c0_c1, ne_c0_c2, ne_c1_c2⟩ := hQ81
    subst hv81
    replace Nf := Fr.app Nf Nq81
    replace E_b79 := E_b79.keep K81
    replace Zs := Nat.le_trans Zs K81.1
    replace V_b80 := Vn81
    replace F_b79_chars := Fs81
    have ne_c0_b80 : c0 ≠ b80 := own_two V_c0 V_b80 (by decide)
    have ne_b79_c0 : b79 ≠ c0 := Nat.ne_of_lt (Nat.lt_of_lt_of_le q81b_lt sq_c0)
    have ne_c1_b80 : c1 ≠ b80 := own_two V_c1 V_b80 (by decide)
    have ne_b79_c1 : b79 ≠ c1 := Nat.ne_of_lt (Nat.lt_of_lt_of_le q81b_lt sq_c1)
    have ne_c2_b80 : c2 ≠ b80 := own_two V_c2 V_b80 (by decide)
    have ne_b79_c2 : b79 ≠ c2 := Nat.ne_of_lt (Nat.lt_of_lt_of_le q81b_lt sq_c2)
    refine own_go (x' := T81.setTop (mkF m 54 #[.val (.int p0), .val (.int p1), .val (.int p2), .val (.int p3), .val (.int p4), .val (.int (3 : Int32)), .val (.int s1), .val (.int u2), .val (.int s2), .val (.int m9), .val (.ref b79), .unset, .unset, .unset, .unset, .unset, .unset, .unset] [(.ref b80)])) (fun _ k => st81.trans k) ?_
    refine own_go (x' := T81.setTop (mkF m 63 #[.val (.int p0), .val (.int p1), .val (.int p2), .val (.int p3), .val (.int p4), .val (.int (3 : Int32)), .val (.int s1), .val (.int u2), .val (.int s2), .val (.int m9), .val (.ref b79), .val (.ref b80), .unset, .unset, .unset, .unset, .unset, .unset] [(.ref b80)])) (fun _ k => XS.astore X81.here hx rfl (hb hby at_54) rfl rfl (l' := #[.val (.int p0), .val (.int p1), .val (.int p2), .val (.int p3), .val (.int p4), .val (.int (3 : Int32)), .val (.int s1), .val (.int u2), .val (.int s2), .val (.int m9), .val (.ref b79), .val (.ref b80), .unset, .unset, .unset, .unset, .unset, .unset]) rfl (XS.aload X81.here hx rfl (hb hby at_56) rfl rfl (XS.ifnullNo X81.here hx rfl (hb hby at_58) rfl (XS.aload X81.here hx rfl (hb hby at_61) rfl rfl k)))) ?_
    obtain ⟨cl82, Ar82, -, Sz82, Nn82, -, -⟩ := id V_b80
    refine own_go (x' := T81.setTop (mkF m 64 #[.val (.int p0), .val (.int p1), .val (.int p2), .val (.int p3), .val (.int p4), .val (.int (3 : Int32)), .val (.int s1), .val (.int u2), .val (.int s2), .val (.int m9), .val (.ref b79), .val (.ref b80), .unset, .unset, .unset, .unset, .unset, .unset] [(.int (4 : Int32))])) (fun t k => X81.arraylength hx (Eq.trans (congrArg (fun h_ => h_[_]?) rfl) Ar82.1) (State.isArrayOf_alike hZ.alike Ar82.2.1) (g := (mkF m 63 #[.val (.int p0), .val (.int p1), .val (.int p2), .val (.int p3), .val (.int p4), .val (.int (3 : Int32)), .val (.int s1), .val (.int u2), .val (.int s2), .val (.int m9), .val (.ref b79), .val (.ref b80), .unset, .unset, .unset, .unset, .unset, .unset] [(.ref b80)])) rfl rfl (hb hby at_63) t (by rw [len_of Sz82 Nn82]; exact k)) ?_
    refine own_go (x' := T81.setTop (mkF m 73 #[.val (.int p0), .val (.int p1), .val (.int p2), .val (.int p3), .val (.int p4), .val (.int (3 : Int32)), .val (.int s1), .val (.int u2), .val (.int s2), .val (.int m9), .val (.ref b79), .val (.ref b80), .unset, .unset, .unset, .unset, .unset, .unset] [(.int (0 : Int32)), (.ref b80)])) (fun _ k => XS.iconst X81.here hx rfl (hb hby at_64) (XS.icmpYes X81.here hx rfl (pc0 := 65) (pc' := 70) rfl (hb hby at_65) rfl (teq rfl).1 (by decide) (by decide) (XS.aload X81.here hx rfl (hb hby at_70) rfl rfl (XS.iconst X81.here hx rfl (hb hby at_72) k)))) ?_
    obtain ⟨cl83, Ar83, q83, Sz83, Nn83, Hh83, Gg83⟩ := id V_b80
    have hin83 : ¬ ((0 : Int32) < 0 ∨ cl83.slots.size ≤ ((0 : Int32)).toNatClampNeg) := inb_of Sz83 ⟨by decide, by decide⟩
    refine own_go (x' := T81.setTop (mkF m 74 #[.val (.int p0), .val (.int p1), .val (.int p2), .val (.int p3), .val (.int p4), .val (.int (3 : Int32)), .val (.int s1), .val (.int u2), .val (.int s2), .val (.int m9), .val (.ref b79), .val (.ref b80), .unset, .unset, .unset, .unset, .unset, .unset] [(.ref c0)])) (X81.aaload hx (j := (0 : Int32)) (v := (.ref c0)) (Eq.trans (congrArg (fun h_ => h_[_]?) rfl) Ar83.1) (State.isArrayOf_alike hZ.alike Ar83.2.1) rfl Ar83.2.2 hin83 (Hh83.at hin83 rfl) (g := (mkF m 73 #[.val (.int p0), .val (.int p1), .val (.int p2), .val (.int p3), .val (.int p4), .val (.int (3 : Int32)), .val (.int s1), .val (.int u2), .val (.int s2), .val (.int m9), .val (.ref b79), .val (.ref b80), .unset, .unset, .unset, .unset, .unset, .unset] [(.int (0 : Int32)), (.ref b80)])) rfl rfl (hb hby at_73)) ?_
    refine own_go (x' := T81.setTop (mkF m 79 #[.val (.int p0), .val (.int p1), .val (.int p2), .val (.int p3), .val (.int p4), .val (.int (3 : Int32)), .val (.int s1), .val (.int u2), .val (.int s2), .val (.int m9), .val (.ref b79), .val (.ref b80), .val (.ref c0), .unset, .unset, .unset, .unset, .unset] [(.int (1 : Int32)), (.ref b80)])) (fun _ k => XS.astore X81.here hx rfl (hb hby at_74) rfl rfl (l' := #[.val (.int p0), .val (.int p1), .val (.int p2), .val (.int p3), .val (.int p4), .val (.int (3 : Int32)), .val (.int s1), .val (.int u2), .val (.int s2), .val (.int m9), .val (.ref b79), .val (.ref b80), .val (.ref c0), .unset, .unset, .unset, .unset, .unset]) rfl (XS.aload X81.here hx rfl (hb hby at_76) rfl rfl (XS.iconst X81.here hx rfl (hb hby at_78) k))) ?_
    obtain ⟨cl84, Ar84, q84, Sz84, Nn84, Hh84, Gg84⟩ := id V_b80
    have hin84 : ¬ ((1 : Int32) < 0 ∨ cl84.slots.size ≤ ((1 : Int32)).toNatClampNeg) := inb_of Sz84 ⟨by decide, by decide⟩
    refine own_go (x' := T81.setTop (mkF m 80 #[.val (.int p0), .val (.int p1), .val (.int p2), .val (.int p3), .val (.int p4), .val (.int (3 : Int32)), .val (.int s1), .val (.int u2), .val (.int s2), .val (.int m9), .val (.ref b79), .val (.ref b80), .val (.ref c0), .unset, .unset, .unset, .unset, .unset] [(.ref c1)])) (X81.aaload hx (j := (1 : Int32)) (v := (.ref c1)) (Eq.trans (congrArg (fun h_ => h_[_]?) rfl) Ar84.1) (State.isArrayOf_alike hZ.alike Ar84.2.1) rfl Ar84.2.2 hin84 (Hh84.at hin84 rfl) (g := (mkF m 79 #[.val (.int p0), .val (.int p1), .val (.int p2), .val (.int p3), .val (.int p4), .val (.int (3 : Int32)), .val (.int s1), .val (.int u2), .val (.int s2), .val (.int m9), .val (.ref b79), .val (.ref b80), .val (.ref c0), .unset, .unset, .unset, .unset, .unset] [(.int (1 : Int32)), (.ref b80)])) rfl rfl (hb hby at_79)) ?_
    refine own_go (x' := T81.setTop (mkF m 85 #[.val (.int p0), .val (.int p1), .val (.int p2), .val (.int p3), .val (.int p4), .val (.int (3 : Int32)), .val (.int s1), .val (.int u2), .val (.int s2), .val (.int m9), .val (.ref b79), .val (.ref b80), .val (.ref c0), .val (.ref c1), .unset, .unset, .unset, .unset] [(.int (2 : Int32)), (.ref b80)])) (fun _ k => XS.astore X81.here hx rfl (hb hby at_80) rfl rfl (l' := #[.val (.int p0), .val (.int p1), .val (.int p2), .val (.int p3), .val (.int p4), .val (.int (3 : Int32)), .val (.int s1), .val (.int u2), .val (.int s2), .val (.int m9), .val (.ref b79), .val (.ref b80), .val (.ref c0), .val (.ref c1), .unset, .unset, .unset, .unset]) rfl (XS.aload X81.here hx rfl (hb hby at_82) rfl rfl (XS.iconst X81.here hx rfl (hb hby at_84) k))) ?_
    obtain ⟨cl85, Ar85, q85, Sz85, Nn85, Hh85, Gg85⟩ := id V_b80
    have hin85 : ¬ ((2 : Int32) < 0 ∨ cl85.slots.size ≤ ((2 : Int32)).toNatClampNeg) := inb_of Sz85 ⟨by decide, by decide⟩
    refine own_go (x' := T81.setTop (mkF m 86 #[.val (.int p0), .val (.int p1), .val (.int p2), .val (.int p3), .val (.int p4), .val (.int (3 : Int32)), .val (.int s1), .val (.int u2), .val (.int s2), .val (.int m9), .val (.ref b79), .val (.ref b80), .val (.ref c0), .val (.ref c1), .unset, .unset, .unset, .unset] [(.ref c2)])) (X81.aaload hx (j := (2 : Int32)) (v := (.ref c2)) (Eq.trans (congrArg (fun h_ => h_[_]?) rfl) Ar85.1) (State.isArrayOf_alike hZ.alike Ar85.2.1) rfl Ar85.2.2 hin85 (Hh85.at hin85 rfl) (g := (mkF m 85 #[.val (.int p0), .val (.int p1), .val (.int p2), .val (.int p3), .val (.int p4), .val (.int (3 : Int32)), .val (.int s1), .val (.int u2), .val (.int s2), .val (.int m9), .val (.ref b79), .val (.ref b80), .val (.ref c0), .val (.ref c1), .unset, .unset, .unset, .unset] [(.int (2 : Int32)), (.ref b80)])) rfl rfl (hb hby at_85)) ?_
    refine own_go (x' := T81.setTop (mkF m 91 #[.val (.int p0), .val (.int p1), .val (.int p2), .val (.int p3), .val (.int p4), .val (.int (3 : Int32)), .val (.int s1), .val (.int u2), .val (.int s2), .val (.int m9), .val (.ref b79), .val (.ref b80), .val (.ref c0), .val (.ref c1), .val (.ref c2), .unset, .unset, .unset] [(.int (3 : Int32)), (.ref b80)])) (fun _ k => XS.astore X81.here hx rfl (hb hby at_86) rfl rfl (l' := #[.val (.int p0), .val (.int p1), .val (.int p2), .val (.int p3), .val (.int p4), .val (.int (3 : Int32)), .val (.int s1), .val (.int u2), .val (.int s2), .val (.int m9), .val (.ref b79), .val (.ref b80), .val (.ref c0), .val (.ref c1), .val (.ref c2), .unset, .unset, .unset]) rfl (XS.aload X81.here hx rfl (hb hby at_88) rfl rfl (XS.iconst X81.here hx rfl (hb hby at_90) k))) ?_
    obtain ⟨cl86, Ar86, q86, Sz86, Nn86, Hh86, Gg86⟩ := id V_b80
    have hin86 : ¬ ((3 : Int32) < 0 ∨ cl86.slots.size ≤ ((3 : Int32)).toNatClampNeg) := inb_of Sz86 ⟨by decide, by decide⟩
    refine own_go (x' := T81.setTop (mkF m 92 #[.val (.int p0), .val (.int p1), .val (.int p2), .val (.int p3), .val (.int p4), .val (.int (3 : Int32)), .val (.int s1), .val (.int u2), .val (.int s2), .val (.int m9), .val (.ref b79), .val (.ref b80), .val (.ref c0), .val (.ref c1), .val (.ref c2), .unset, .unset, .unset] [.null])) (X81.aaload hx (j := (3 : Int32)) (v := .null) (Eq.trans (congrArg (fun h_ => h_[_]?) rfl) Ar86.1) (State.isArrayOf_alike hZ.alike Ar86.2.1) rfl Ar86.2.2 hin86 (Hh86.at hin86 rfl) (g := (mkF m 91 #[.val (.int p0), .val (.int p1), .val (.int p2), .val (.int p3), .val (.int p4), .val (.int (3 : Int32)), .val (.int s1), .val (.int u2), .val (.int s2), .val (.int m9), .val (.ref b79), .val (.ref b80), .val (.ref c0), .val (.ref c1), .val (.ref c2), .unset, .unset, .unset] [(.int (3 : Int32)), (.ref b80)])) rfl rfl (hb hby at_91)) ?_
    refine own_go (x' := T81.setTop (mkF m 101 #[.val (.int p0), .val (.int p1), .val (.int p2), .val (.int p3), .val (.int p4), .val (.int (3 : Int32)), .val (.int s1), .val (.int u2), .val (.int s2), .val (.int m9), .val (.ref b79), .val (.ref b80), .val (.ref c0), .val (.ref c1), .val (.ref c2), .val .null, .unset, .unset] [(.int s1), (.int (3 : Int32)), (.int (0 : Int32)), (.ref c0)])) (fun _ k => XS.astore X81.here hx rfl (hb hby at_92) rfl rfl (l' := #[.val (.int p0), .val (.int p1), .val (.int p2), .val (.int p3), .val (.int p4), .val (.int (3 : Int32)), .val (.int s1), .val (.int u2), .val (.int s2), .val (.int m9), .val (.ref b79), .val (.ref b80), .val (.ref c0), .val (.ref c1), .val (.ref c2), .val .null, .unset, .unset]) rfl (XS.aload X81.here hx rfl (hb hby at_94) rfl rfl (XS.iconst X81.here hx rfl (hb hby at_96) (XS.iload X81.here hx rfl (hb hby at_97) rfl (XS.iload X81.here hx rfl (hb hby at_99) rfl k))))) ?_
    obtain ⟨_, _, ⟨T87, L87, k87, n87⟩, -, X87, ⟨Lc87, hQ87, l87, y87, z87⟩, st87⟩ := Jvm.LawKit.callS X81 hx (y := (⟨"com/example/wee_match/weematch/WindowsCharsPinLaw", "made", "([CIII)Z"⟩ : MethodName)) hown (mvT hZ (own_w hw 27 rfl)) (mvT hZ (own_w hw 28 rfl)) (mvT hZ (own_w hw 29 rfl)) (mvT hZ (own_w hw 30 rfl)) (by decide) (backOf (W := 0) (rm4p l Z a0 hw [] c0 (0 : Int32) (3 : Int32) s1 kk0 T81.heap n0 Zs V_c0 (by decide)) hZ (own_w hw 30 rfl) (own_w hw 29 rfl) (by decide) (by decide)) (g := (mkF m 101 #[.val (.int p0), .val (.int p1), .val (.int p2), .val (.int p3), .val (.int p4), .val (.int (3 : Int32)), .val (.int s1), .val (.int u2), .val (.int s2), .val (.int m9), .val (.ref b79), .val (.ref b80), .val (.ref c0), .val (.ref c1), .val (.ref c2), .val .null, .unset, .unset] [(.int s1), (.int (3 : Int32)), (.int (0 : Int32)), (.ref c0)])) rfl (by rw [hml]; rfl) (argsL := [(.ref c0), (.int (0 : Int32)), (.int (3 : Int32)), (.int s1)]) (rest := []) (lenOf pd_2 rfl) rfl (by show 2 * 0 + _ ≤ _; exact Nat.le_of_eq rfl) (hb hby at_101) (fun _ _ => ⟨rfl, rfl, (by decide : 7 + 0 ≤ _), (by decide : 244 + 0 ≤ _)⟩)
    dsimp only [Pt.U, Pt.locs, Pt.cells, Pt.slots] at X87 l87 y87 z87 st87 hQ87
    subst l87 y87 z87
    obtain ⟨hv87, Nq87, eq87⟩ := hQ87
    subst hv87
    replace Nf := Fr.app Nf Nq87
    refine own_go (x' := T87.setTop (mkF m 104 #[.val (.int p0), .val (.int p1), .val (.int p2), .val (.int p3), .val (.int p4), .val (.int (3 : Int32)), .val (.int s1), .val (.int u2), .val (.int s2), .val (.int m9), .val (.ref b79), .val (.ref b80), .val (.ref c0), .val (.ref c1), .val (.ref c2), .val .null, .unset, .unset] [(.int (1 : Int32))])) st87 ?_
    refine own_go (x' := T87.setTop (mkF m 114 #[.val (.int p0), .val (.int p1), .val (.int p2), .val (.int p3), .val (.int p4), .val (.int (3 : Int32)), .val (.int s1), .val (.int u2), .val (.int s2), .val (.int m9), .val (.ref b79), .val (.ref b80), .val (.ref c0), .val (.ref c1), .val (.ref c2), .val .null, .unset, .unset] [(.int s1), (.int (3 : Int32)), (.int (1 : Int32)), (.ref c1)])) (fun _ k => XS.ifNo X87.here hx rfl (hb hby at_104) rfl ((if0 _ _).trans (feq (by decide +kernel : ¬ ((1 : Int32) = (0 : Int32)))).1) (XS.aload X87.here hx rfl (hb hby at_107) rfl rfl (XS.iconst X87.here hx rfl (hb hby at_109) (XS.iload X87.here hx rfl (hb hby at_110) rfl (XS.iload X87.here hx rfl (hb hby at_112) rfl k))))) ?_
    obtain ⟨_, _, ⟨T88, L88, k88, n88⟩, -, X88, ⟨Lc88, hQ88, l88, y88, z88⟩, st88⟩ := Jvm.LawKit.callS X87 hx (y := (⟨"com/example/wee_match/weematch/WindowsCharsPinLaw", "made", "([CIII)Z"⟩ : MethodName)) hown (mvT hZ (own_w hw 27 rfl)) (mvT hZ (own_w hw 28 rfl)) (mvT hZ (own_w hw 29 rfl)) (mvT hZ (own_w hw 30 rfl)) (by decide) (backOf (W := 0) (rm4p l Z a0 hw [] c1 (1 : Int32) (3 : Int32) s1 kk1 T81.heap n0 Zs V_c1 (by decide)) hZ (own_w hw 30 rfl) (own_w hw 29 rfl) (by decide) (by decide)) (g := (mkF m 114 #[.val (.int p0), .val (.int p1), .val (.int p2), .val (.int p3), .val (.int p4), .val (.int (3 : Int32)), .val (.int s1), .val (.int u2), .val (.int s2), .val (.int m9), .val (.ref b79), .val (.ref b80), .val (.ref c0), .val (.ref c1), .val (.ref c2), .val .null, .unset, .unset] [(.int s1), (.int (3 : Int32)), (.int (1 : Int32)), (.ref c1)])) rfl (by rw [hml]; rfl) (argsL := [(.ref c1), (.int (1 : Int32)), (.int (3 : Int32)), (.int s1)]) (rest := []) (lenOf pd_2 rfl) rfl (by show 2 * 0 + _ ≤ _; exact Nat.le_of_eq rfl) (hb hby at_114) (fun _ _ => ⟨rfl, eq87, (by decide : 7 + 0 ≤ _), (by decide : 244 + 0 ≤ _)⟩)
    dsimp only [Pt.U, Pt.locs, Pt.cells, Pt.slots] at X88 l88 y88 z88 st88 hQ88
    subst l88 y88 z88
    obtain ⟨hv88, Nq88, eq88⟩ := hQ88
    subst hv88
    replace Nf := Fr.app Nf Nq88
    refine own_go (x' := T88.setTop (mkF m 117 #[.val (.int p0), .val (.int p1), .val (.int p2), .val (.int p3), .val (.int p4), .val (.int (3 : Int32)), .val (.int s1), .val (.int u2), .val (.int s2), .val (.int m9), .val (.ref b79), .val (.ref b80), .val (.ref c0), .val (.ref c1), .val (.ref c2), .val .null, .unset, .unset] [(.int (1 : Int32))])) st88 ?_
    refine own_go (x' := T88.setTop (mkF m 127 #[.val (.int p0), .val (.int p1), .val (.int p2), .val (.int p3), .val (.int p4), .val (.int (3 : Int32)), .val (.int s1), .val (.int u2), .val (.int s2), .val (.int m9), .val (.ref b79), .val (.ref b80), .val (.ref c0), .val (.ref c1), .val (.ref c2), .val .null, .unset, .unset] [(.int s1), (.int (3 : Int32)), (.int (2 : Int32)), (.ref c2)])) (fun _ k => XS.ifNo X88.here hx rfl (hb hby at_117) rfl ((if0 _ _).trans (feq (by decide +kernel : ¬ ((1 : Int32) = (0 : Int32)))).1) (XS.aload X88.here hx rfl (hb hby at_120) rfl rfl (XS.iconst X88.here hx rfl (hb hby at_122) (XS.iload X88.here hx rfl (hb hby at_123) rfl (XS.iload X88.here hx rfl (hb hby at_125) rfl k))))) ?_
    obtain ⟨_, _, ⟨T89, L89, k89, n89⟩, -, X89, ⟨Lc89, hQ89, l89, y89, z89⟩, st89⟩ := Jvm.LawKit.callS X88 hx (y := (⟨"com/example/wee_match/weematch/WindowsCharsPinLaw", "made", "([CIII)Z"⟩ : MethodName)) hown (mvT hZ (own_w hw 27 rfl)) (mvT hZ (own_w hw 28 rfl)) (mvT hZ (own_w hw 29 rfl)) (mvT hZ (own_w hw 30 rfl)) (by decide) (backOf (W := 0) (rm4p l Z a0 hw [] c2 (2 : Int32) (3 : Int32) s1 kk2 T81.heap n0 Zs V_c2 (by decide)) hZ (own_w hw 30 rfl) (own_w hw 29 rfl) (by decide) (by decide)) (g := (mkF m 127 #[.val (.int p0), .val (.int p1), .val (.int p2), .val (.int p3), .val (.int p4), .val (.int (3 : Int32)), .val (.int s1), .val (.int u2), .val (.int s2), .val (.int m9), .val (.ref b79), .val (.ref b80), .val (.ref c0), .val (.ref c1), .val (.ref c2), .val .null, .unset, .unset] [(.int s1), (.int (3 : Int32)), (.int (2 : Int32)), (.ref c2)])) rfl (by rw [hml]; rfl) (argsL := [(.ref c2), (.int (2 : Int32)), (.int (3 : Int32)), (.int s1)]) (rest := []) (lenOf pd_2 rfl) rfl (by show 2 * 0 + _ ≤ _; exact Nat.le_of_eq rfl) (hb hby at_127) (fun _ _ => ⟨rfl, eq88, (by decide : 7 + 0 ≤ _), (by decide : 244 + 0 ≤ _)⟩)
    dsimp only [Pt.U, Pt.locs, Pt.cells, Pt.slots] at X89 l89 y89 z89 st89 hQ89
    subst l89 y89 z89
    obtain ⟨hv89, Nq89, eq89⟩ := hQ89
    subst hv89
    replace Nf := Fr.app Nf Nq89
    refine own_go (x' := T89.setTop (mkF m 130 #[.val (.int p0), .val (.int p1), .val (.int p2), .val (.int p3), .val (.int p4), .val (.int (3 : Int32)), .val (.int s1), .val (.int u2), .val (.int s2), .val (.int m9), .val (.ref b79), .val (.ref b80), .val (.ref c0), .val (.ref c1), .val (.ref c2), .val .null, .unset, .unset] [(.int (1 : Int32))])) st89 ?_
    refine own_go (x' := T89.setTop (mkF m 140 #[.val (.int p0), .val (.int p1), .val (.int p2), .val (.int p3), .val (.int p4), .val (.int (3 : Int32)), .val (.int s1), .val (.int u2), .val (.int s2), .val (.int m9), .val (.ref b79), .val (.ref b80), .val (.ref c0), .val (.ref c1), .val (.ref c2), .val .null, .unset, .unset] [(.int s1), (.int (3 : Int32)), (.int (3 : Int32)), .null])) (fun _ k => XS.ifNo X89.here hx rfl (hb hby at_130) rfl ((if0 _ _).trans (feq (by decide +kernel : ¬ ((1 : Int32) = (0 : Int32)))).1) (XS.aload X89.here hx rfl (hb hby at_133) rfl rfl (XS.iconst X89.here hx rfl (hb hby at_135) (XS.iload X89.here hx rfl (hb hby at_136) rfl (XS.iload X89.here hx rfl (hb hby at_138) rfl k))))) ?_
    obtain ⟨_, _, ⟨T90, L90, k90, n90⟩, -, X90, ⟨Lc90, hQ90, l90, y90, z90⟩, st90⟩ := Jvm.LawKit.callS X89 hx (y := (⟨"com/example/wee_match/weematch/WindowsCharsPinLaw", "made", "([CIII)Z"⟩ : MethodName)) hown (mvT hZ (own_w hw 27 rfl)) (mvT hZ (own_w hw 28 rfl)) (mvT hZ (own_w hw 29 rfl)) (mvT hZ (own_w hw 30 rfl)) (by decide) (backOf (W := 0) (rm4n l Z a0 hw [] (3 : Int32) (3 : Int32) s1 T81.heap n0 Zs (by decide)) hZ (own_w hw 30 rfl) (own_w hw 29 rfl) (by decide) (by decide)) (g := (mkF m 140 #[.val (.int p0), .val (.int p1), .val (.int p2), .val (.int p3), .val (.int p4), .val (.int (3 : Int32)), .val (.int s1), .val (.int u2), .val (.int s2), .val (.int m9), .val (.ref b79), .val (.ref b80), .val (.ref c0), .val (.ref c1), .val (.ref c2), .val .null, .unset, .unset] [(.int s1), (.int (3 : Int32)), (.int (3 : Int32)), .null])) rfl (by rw [hml]; rfl) (argsL := [.null, (.int (3 : Int32)), (.int (3 : Int32)), (.int s1)]) (rest := []) (lenOf pd_2 rfl) rfl (by show 2 * 0 + _ ≤ _; exact Nat.le_of_eq rfl) (hb hby at_140) (fun _ _ => ⟨rfl, eq89, (by decide : 7 + 0 ≤ _), (by decide : 244 + 0 ≤ _)⟩)
    dsimp only [Pt.U, Pt.locs, Pt.cells, Pt.slots] at X90 l90 y90 z90 st90 hQ90
    subst l90 y90 z90
    obtain ⟨hv90, Nq90, eq90⟩ := hQ90
    subst hv90
    replace Nf := Fr.app Nf Nq90
    refine own_go (x' := T90.setTop (mkF m 143 #[.val (.int p0), .val (.int p1), .val (.int p2), .val (.int p3), .val (.int p4), .val (.int (3 : Int32)), .val (.int s1), .val (.int u2), .val (.int s2), .val (.int m9), .val (.ref b79), .val (.ref b80), .val (.ref c0), .val (.ref c1), .val (.ref c2), .val .null, .unset, .unset] [(.int (1 : Int32))])) st90 ?_
    refine own_go (x' := T90.setTop (mkF m 157 #[.val (.int p0), .val (.int p1), .val (.int p2), .val (.int p3), .val (.int p4), .val (.int (3 : Int32)), .val (.int s1), .val (.int u2), .val (.int s2), .val (.int m9), .val (.ref b79), .val (.ref b80), .val (.ref c0), .val (.ref c1), .val (.ref c2), .val .null, .val (.int (1 : Int32)), .unset] [(.int m9), (.ref c0)])) (fun _ k => XS.ifNo X90.here hx rfl (hb hby at_143) rfl ((if0 _ _).trans (feq (by decide +kernel : ¬ ((1 : Int32) = (0 : Int32)))).1) (XS.iconst X90.here hx rfl (hb hby at_146) (XS.goto X90.here hx rfl (pc0 := 147) (pc' := 151) rfl (hb hby at_147) (by decide) (by decide) (XS.istore X90.here hx rfl (hb hby at_151) rfl (l' := #[.val (.int p0), .val (.int p1), .val (.int p2), .val (.int p3), .val (.int p4), .val (.int (3 : Int32)), .val (.int s1), .val (.int u2), .val (.int s2), .val (.int m9), .val (.ref b79), .val (.ref b80), .val (.ref c0), .val (.ref c1), .val (.ref c2), .val .null, .val (.int (1 : Int32)), .unset]) rfl (XS.aload X90.here hx rfl (hb hby at_153) rfl rfl (XS.iload X90.here hx rfl (hb hby at_155) rfl k)))))) ?_
    obtain ⟨_, _, ⟨T91, L91, k91, n91⟩, -, X91, ⟨Lc91, hQ91, l91, y91, z91⟩, st91⟩ := Jvm.LawKit.callS X90 hx (y := (⟨"com/example/wee_match/weematch/WindowsCharsPinLaw", "stamp", "([CC)V"⟩ : MethodName)) hown (mvT hZ (own_w hw 31 rfl)) (mvT hZ (own_w hw 32 rfl)) (mvT hZ (own_w hw 29 rfl)) (mvT hZ (own_w hw 33 rfl)) (by decide) (backOf (W := 0) (rm5p l Z a0 hw [] c0 m9 s1 kk0 T81.heap n0 Zs V_c0 g_c0 hm9) hZ (own_w hw 33 rfl) (own_w hw 29 rfl) (by decide) (by decide)) (g := (mkF m 157 #[.val (.int p0), .val (.int p1), .val (.int p2), .val (.int p3), .val (.int p4), .val (.int (3 : Int32)), .val (.int s1), .val (.int u2), .val (.int s2), .val (.int m9), .val (.ref b79), .val (.ref b80), .val (.ref c0), .val (.ref c1), .val (.ref c2), .val .null, .val (.int (1 : Int32)), .unset] [(.int m9), (.ref c0)])) rfl (by rw [hml]; rfl) (argsL := [(.ref c0), (.int m9)]) (rest := []) (lenOf pd_3 rfl) rfl (by show 2 * 0 + _ ≤ _; exact Nat.le_of_eq rfl) (hb hby at_157) (fun _ _ => ⟨rfl, eq90, (by decide : 7 + 0 ≤ _), (by decide : 244 + 0 ≤ _)⟩)
    dsimp only [Pt.U, Pt.locs, Pt.cells, Pt.slots] at X91 l91 y91 z91 st91 hQ91
    subst l91 y91 z91
    obtain ⟨hv91, Nq91, K91, Vn91⟩ := hQ91
    subst hv91
    replace Nf := Fr.app Nf Nq91
    replace E_b79 := E_b79.keep K91
    replace F_b79_chars := F_b79_chars.keep K91 (ninS ne_b79_c0 nin0)
    replace V_b80 := V_b80.keep K91 (ninS (Ne.symm ne_c0_b80) nin0)
    replace V_c1 := V_c1.keep K91 (ninS (Ne.symm ne_c0_c1) nin0)
    replace V_c2 := V_c2.keep K91 (ninS (Ne.symm ne_c0_c2) nin0)
    replace Zs := Nat.le_trans Zs K91.1
    replace V_c0 := Vn91
    refine own_go (x' := T91.setTop (mkF m 160 #[.val (.int p0), .val (.int p1), .val (.int p2), .val (.int p3), .val (.int p4), .val (.int (3 : Int32)), .val (.int s1), .val (.int u2), .val (.int s2), .val (.int m9), .val (.ref b79), .val (.ref b80), .val (.ref c0), .val (.ref c1), .val (.ref c2), .val .null, .val (.int (1 : Int32)), .unset] [])) st91 ?_
    refine own_go (x' := T91.setTop (mkF m 164 #[.val (.int p0), .val (.int p1), .val (.int p2), .val (.int p3), .val (.int p4), .val (.int (3 : Int32)), .val (.int s1), .val (.int u2), .val (.int s2), .val (.int m9), .val (.ref b79), .val (.ref b80), .val (.ref c0), .val (.ref c1), .val (.ref c2), .val .null, .val (.int (1 : Int32)), .unset] [(.int m9), (.ref c1)])) (fun _ k => XS.aload X91.here hx rfl (hb hby at_160) rfl rfl (XS.iload X91.here hx rfl (hb hby at_162) rfl k)) ?_
    obtain ⟨_, _, ⟨T92, L92, k92, n92⟩, -, X92, ⟨Lc92, hQ92, l92, y92, z92⟩, st92⟩ := Jvm.LawKit.callS X91 hx (y := (⟨"com/example/wee_match/weematch/WindowsCharsPinLaw", "stamp", "([CC)V"⟩ : MethodName)) hown (mvT hZ (own_w hw 31 rfl)) (mvT hZ (own_w hw 32 rfl)) (mvT hZ (own_w hw 29 rfl)) (mvT hZ (own_w hw 33 rfl)) (by decide) (backOf (W := 0) (rm5p l Z a0 hw [] c1 m9 s1 kk1 T91.heap n0 Zs V_c1 g_c1 hm9) hZ (own_w hw 33 rfl) (own_w hw 29 rfl) (by decide) (by decide)) (g := (mkF m 164 #[.val (.int p0), .val (.int p1), .val (.int p2), .val (.int p3), .val (.int p4), .val (.int (3 : Int32)), .val (.int s1), .val (.int u2), .val (.int s2), .val (.int m9), .val (.ref b79), .val (.ref b80), .val (.ref c0), .val (.ref c1), .val (.ref c2), .val .null, .val (.int (1 : Int32)), .unset] [(.int m9), (.ref c1)])) rfl (by rw [hml]; rfl) (argsL := [(.ref c1), (.int m9)]) (rest := []) (lenOf pd_3 rfl) rfl (by show 2 * 0 + _ ≤ _; exact Nat.le_of_eq rfl) (hb hby at_164) (fun _ _ => ⟨rfl, rfl, (by decide : 7 + 0 ≤ _), (by decide : 244 + 0 ≤ _)⟩)
    dsimp only [Pt.U, Pt.locs, Pt.cells, Pt.slots] at X92 l92 y92 z92 st92 hQ92
    subst l92 y92 z92
    obtain ⟨hv92, Nq92, K92, Vn92⟩ := hQ92
    subst hv92
    replace Nf := Fr.app Nf Nq92
    replace E_b79 := E_b79.keep K92
    replace F_b79_chars := F_b79_chars.keep K92 (ninS ne_b79_c1 nin0)
    replace V_b80 := V_b80.keep K92 (ninS (Ne.symm ne_c1_b80) nin0)
    replace V_c0 := V_c0.keep K92 (ninS ne_c0_c1 nin0)
    replace V_c2 := V_c2.keep K92 (ninS (Ne.symm ne_c1_c2) nin0)
    replace Zs := Nat.le_trans Zs K92.1
    replace V_c1 := Vn92
    refine own_go (x' := T92.setTop (mkF m 167 #[.val (.int p0), .val (.int p1), .val (.int p2), .val (.int p3), .val (.int p4), .val (.int (3 : Int32)), .val (.int s1), .val (.int u2), .val (.int s2), .val (.int m9), .val (.ref b79), .val (.ref b80), .val (.ref c0), .val (.ref c1), .val (.ref c2), .val .null, .val (.int (1 : Int32)), .unset] [])) st92 ?_
    refine own_go (x' := T92.setTop (mkF m 171 #[.val (.int p0), .val (.int p1), .val (.int p2), .val (.int p3), .val (.int p4), .val (.int (3 : Int32)), .val (.int s1), .val (.int u2), .val (.int s2), .val (.int m9), .val (.ref b79), .val (.ref b80), .val (.ref c0), .val (.ref c1), .val (.ref c2), .val .null, .val (.int (1 : Int32)), .unset] [(.int m9), (.ref c2)])) (fun _ k => XS.aload X92.here hx rfl (hb hby at_167) rfl rfl (XS.iload X92.here hx rfl (hb hby at_169) rfl k)) ?_
    obtain ⟨_, _, ⟨T93, L93, k93, n93⟩, -, X93, ⟨Lc93, hQ93, l93, y93, z93⟩, st93⟩ := Jvm.LawKit.callS X92 hx (y := (⟨"com/example/wee_match/weematch/WindowsCharsPinLaw", "stamp", "([CC)V"⟩ : MethodName)) hown (mvT hZ (own_w hw 31 rfl)) (mvT hZ (own_w hw 32 rfl)) (mvT hZ (own_w hw 29 rfl)) (mvT hZ (own_w hw 33 rfl)) (by decide) (backOf (W := 0) (rm5p l Z a0 hw [] c2 m9 s1 kk2 T92.heap n0 Zs V_c2 g_c2 hm9) hZ (own_w hw 33 rfl) (own_w hw 29 rfl) (by decide) (by decide)) (g := (mkF m 171 #[.val (.int p0), .val (.int p1), .val (.int p2), .val (.int p3), .val (.int p4), .val (.int (3 : Int32)), .val (.int s1), .val (.int u2), .val (.int s2), .val (.int m9), .val (.ref b79), .val (.ref b80), .val (.ref c0), .val (.ref c1), .val (.ref c2), .val .null, .val (.int (1 : Int32)), .unset] [(.int m9), (.ref c2)])) rfl (by rw [hml]; rfl) (argsL := [(.ref c2), (.int m9)]) (rest := []) (lenOf pd_3 rfl) rfl (by show 2 * 0 + _ ≤ _; exact Nat.le_of_eq rfl) (hb hby at_171) (fun _ _ => ⟨rfl, rfl, (by decide : 7 + 0 ≤ _), (by decide : 244 + 0 ≤ _)⟩)
    dsimp only [Pt.U, Pt.locs, Pt.cells, Pt.slots] at X93 l93 y93 z93 st93 hQ93
    subst l93 y93 z93
    obtain ⟨hv93, Nq93, K93, Vn93⟩ := hQ93
    subst hv93
    replace Nf := Fr.app Nf Nq93
    replace E_b79 := E_b79.keep K93
    replace F_b79_chars := F_b79_chars.keep K93 (ninS ne_b79_c2 nin0)
    replace V_b80 := V_b80.keep K93 (ninS (Ne.symm ne_c2_b80) nin0)
    replace V_c0 := V_c0.keep K93 (ninS ne_c0_c2 nin0)
    replace V_c1 := V_c1.keep K93 (ninS ne_c1_c2 nin0)
    replace Zs := Nat.le_trans Zs K93.1
    replace V_c2 := Vn93
    refine own_go (x' := T93.setTop (mkF m 174 #[.val (.int p0), .val (.int p1), .val (.int p2), .val (.int p3), .val (.int p4), .val (.int (3 : Int32)), .val (.int s1), .val (.int u2), .val (.int s2), .val (.int m9), .val (.ref b79), .val (.ref b80), .val (.ref c0), .val (.ref c1), .val (.ref c2), .val .null, .val (.int (1 : Int32)), .unset] [])) st93 ?_
    refine own_go (x' := T93.setTop (mkF m 178 #[.val (.int p0), .val (.int p1), .val (.int p2), .val (.int p3), .val (.int p4), .val (.int (3 : Int32)), .val (.int s1), .val (.int u2), .val (.int s2), .val (.int m9), .val (.ref b79), .val (.ref b80), .val (.ref c0), .val (.ref c1), .val (.ref c2), .val .null, .val (.int (1 : Int32)), .unset] [(.int m9), .null])) (fun _ k => XS.aload X93.here hx rfl (hb hby at_174) rfl rfl (XS.iload X93.here hx rfl (hb hby at_176) rfl k)) ?_
    obtain ⟨_, _, ⟨T94, L94, k94, n94⟩, -, X94, ⟨Lc94, hQ94, l94, y94, z94⟩, st94⟩ := Jvm.LawKit.callS X93 hx (y := (⟨"com/example/wee_match/weematch/WindowsCharsPinLaw", "stamp", "([CC)V"⟩ : MethodName)) hown (mvT hZ (own_w hw 31 rfl)) (mvT hZ (own_w hw 32 rfl)) (mvT hZ (own_w hw 29 rfl)) (mvT hZ (own_w hw 33 rfl)) (by decide) (backOf (W := 0) (rm5n l Z a0 hw [] m9 T93.heap n0 Zs) hZ (own_w hw 33 rfl) (own_w hw 29 rfl) (by decide) (by decide)) (g := (mkF m 178 #[.val (.int p0), .val (.int p1), .val (.int p2), .val (.int p3), .val (.int p4), .val (.int (3 : Int32)), .val (.int s1), .val (.int u2), .val (.int s2), .val (.int m9), .val (.ref b79), .val (.ref b80), .val (.ref c0), .val (.ref c1), .val (.ref c2), .val .null, .val (.int (1 : Int32)), .unset] [(.int m9), .null])) rfl (by rw [hml]; rfl) (argsL := [.null, (.int m9)]) (rest := []) (lenOf pd_3 rfl) rfl (by show 2 * 0 + _ ≤ _; exact Nat.le_of_eq rfl) (hb hby at_178) (fun _ _ => ⟨rfl, rfl, (by decide : 7 + 0 ≤ _), (by decide : 244 + 0 ≤ _)⟩)
    dsimp only [Pt.U, Pt.locs, Pt.cells, Pt.slots] at X94 l94 y94 z94 st94 hQ94
    subst l94 y94 z94
    obtain ⟨hv94, Nq94, eq94⟩ := hQ94
    subst hv94
    replace Nf := Fr.app Nf Nq94
    refine own_go (x' := T94.setTop (mkF m 181 #[.val (.int p0), .val (.int p1), .val (.int p2), .val (.int p3), .val (.int p4), .val (.int (3 : Int32)), .val (.int s1), .val (.int u2), .val (.int s2), .val (.int m9), .val (.ref b79), .val (.ref b80), .val (.ref c0), .val (.ref c1), .val (.ref c2), .val .null, .val (.int (1 : Int32)), .unset] [])) st94 ?_
    refine own_go (x' := T94.setTop (mkF m 187 #[.val (.int p0), .val (.int p1), .val (.int p2), .val (.int p3), .val (.int p4), .val (.int (3 : Int32)), .val (.int s1), .val (.int u2), .val (.int s2), .val (.int m9), .val (.ref b79), .val (.ref b80), .val (.ref c0), .val (.ref c1), .val (.ref c2), .val .null, .val (.int (1 : Int32)), .unset] [(.int s2), (.int u2), (.ref b79)])) (fun _ k => XS.aload X94.here hx rfl (hb hby at_181) rfl rfl (XS.iload X94.here hx rfl (hb hby at_183) rfl (XS.iload X94.here hx rfl (hb hby at_185) rfl k))) ?_
    obtain ⟨cq95, kq95, q95a, q95b, q95c⟩ := isOf hZ eq94 E_b79
    obtain ⟨_, _, ⟨T95, L95, k95, n95⟩, -, X95, ⟨Lc95, hQ95, l95, y95, z95⟩, st95⟩ := X94.virtualBack hx (y := (⟨"com/example/wee_match/weematch/Sieve$Windows", "chars", "(II)[[C"⟩ : MethodName)) (z := (⟨"com/example/wee_match/weematch/Sieve$Windows", "chars", "(II)[[C"⟩ : MethodName)) hown (mvT hZ (own_w hw 22 rfl)) (mvT hZ (own_w hw 23 rfl)) (notFace_of_selects (args := #[]) (mvT hZ (own_w hw 25 rfl))) (mvT hZ (own_w hw 25 rfl)) (mvT hZ (own_w hw 24 rfl)) (by decide) (backOf (W := 0) (rmS_3 l Z a0 hw [] b79 u2 s2 b80 kc80 s1 m9 c0 kk0 c1 kk1 c2 kk2 T93.heap n0 Zs F_b79_chars V_b80 O_b80 ne_b79_b80 g_b80 hs2 hu2 V_c0 V_c1 V_c2 ne_c0_b80 ne_c1_b80 ne_c2_b80) hZ (own_w hw 26 rfl) (own_w hw 4 rfl) (by decide) (by decide)) q95a q95c (g := (mkF m 187 #[.val (.int p0), .val (.int p1), .val (.int p2), .val (.int p3), .val (.int p4), .val (.int (3 : Int32)), .val (.int s1), .val (.int u2), .val (.int s2), .val (.int m9), .val (.ref b79), .val (.ref b80), .val (.ref c0), .val (.ref c1), .val (.ref c2), .val .null, .val (.int (1 : Int32)), .unset] [(.int s2), (.int u2), (.ref b79)])) rfl (by rw [hml]; rfl) (Steps.refl _) (argsL := [(.int u2), (.int s2)]) (rest := []) (lenOf pd_1 rfl) rfl (by show 2 * 0 + _ ≤ _; exact Nat.le_of_eq rfl) (hb hby at_187) (fun _ _ => ⟨rfl, eq94, (by decide : 7 + 4 ≤ _), (by decide : 244 + 124 ≤ _)⟩)
    dsimp only [Pt.U, Pt.locs, Pt.cells, Pt.slots] at X95 l95 y95 z95 st95 hQ95
    subst l95 y95 z95
    obtain ⟨w0, w1, w2, w3, hv95, Nq95, K95, Vn95, R0, R1, R2, R3⟩ := hQ95
    subst hv95
    replace Nf := Fr.app Nf Nq95
    have lt_c0 := V_c0.lt
    have lt_c1 := V_c1.lt
    have lt_c2 := V_c2.lt
    have r_w0 := R0.ref.1
    have c_w0 := R0.ref.2
    have r_w1 := R1.ref.1
    have c_w1 := R1.ref.2
    have r_w2 := R2.ref.1
    have c_w2 := R2.ref.2
    have r_w3 := R3.ref.1
    have c_w3 := R3.ref.2
    replace E_b79 := E_b79.keep K95
    replace V_c0 := V_c0.keep K95 (ninS ne_c0_b80 nin0)
    replace V_c1 := V_c1.keep K95 (ninS ne_c1_b80 nin0)
    replace V_c2 := V_c2.keep K95 (ninS ne_c2_b80 nin0)
    replace Zs := Nat.le_trans Zs K95.1
    replace V_b80 := Vn95
    refine own_go (x' := T95.setTop (mkF m 190 #[.val (.int p0), .val (.int p1), .val (.int p2), .val (.int p3), .val (.int p4), .val (.int (3 : Int32)), .val (.int s1), .val (.int u2), .val (.int s2), .val (.int m9), .val (.ref b79), .val (.ref b80), .val (.ref c0), .val (.ref c1), .val (.ref c2), .val .null, .val (.int (1 : Int32)), .unset] [(.ref b80)])) (fun _ k => st95.trans k) ?_
    refine own_go (x' := T95.setTop (mkF m 199 #[.val (.int p0), .val (.int p1), .val (.int p2), .val (.int p3), .val (.int p4), .val (.int (3 : Int32)), .val (.int s1), .val (.int u2), .val (.int s2), .val (.int m9), .val (.ref b79), .val (.ref b80), .val (.ref c0), .val (.ref c1), .val (.ref c2), .val .null, .val (.int (1 : Int32)), .val (.ref b80)] [(.ref b80)])) (fun _ k => XS.astore X95.here hx rfl (hb hby at_190) rfl rfl (l' := #[.val (.int p0), .val (.int p1), .val (.int p2), .val (.int p3), .val (.int p4), .val (.int (3 : Int32)), .val (.int s1), .val (.int u2), .val (.int s2), .val (.int m9), .val (.ref b79), .val (.ref b80), .val (.ref c0), .val (.ref c1), .val (.ref c2), .val .null, .val (.int (1 : Int32)), .val (.ref b80)]) rfl (XS.aload X95.here hx rfl (hb hby at_192) rfl rfl (XS.ifnullNo X95.here hx rfl (hb hby at_194) rfl (XS.aload X95.here hx rfl (hb hby at_197) rfl rfl k)))) ?_
    obtain ⟨cl96, Ar96, -, Sz96, Nn96, -, -⟩ := id V_b80
    refine own_go (x' := T95.setTop (mkF m 200 #[.val (.int p0), .val (.int p1), .val (.int p2), .val (.int p3), .val (.int p4), .val (.int (3 : Int32)), .val (.int s1), .val (.int u2), .val (.int s2), .val (.int m9), .val (.ref b79), .val (.ref b80), .val (.ref c0), .val (.ref c1), .val (.ref c2), .val .null, .val (.int (1 : Int32)), .val (.ref b80)] [(.int (4 : Int32))])) (fun t k => X95.arraylength hx (Eq.trans (congrArg (fun h_ => h_[_]?) rfl) Ar96.1) (State.isArrayOf_alike hZ.alike Ar96.2.1) (g := (mkF m 199 #[.val (.int p0), .val (.int p1), .val (.int p2), .val (.int p3), .val (.int p4), .val (.int (3 : Int32)), .val (.int s1), .val (.int u2), .val (.int s2), .val (.int m9), .val (.ref b79), .val (.ref b80), .val (.ref c0), .val (.ref c1), .val (.ref c2), .val .null, .val (.int (1 : Int32)), .val (.ref b80)] [(.ref b80)])) rfl rfl (hb hby at_199) t (by rw [len_of Sz96 Nn96]; exact k)) ?_
    refine own_go (x' := T95.setTop (mkF m 215 #[.val (.int p0), .val (.int p1), .val (.int p2), .val (.int p3), .val (.int p4), .val (.int (3 : Int32)), .val (.int s1), .val (.int u2), .val (.int s2), .val (.int m9), .val (.ref b79), .val (.ref b80), .val (.ref c0), .val (.ref c1), .val (.ref c2), .val .null, .val (.int (1 : Int32)), .val (.ref b80)] [(.ref b80), (.ref c0)])) (fun _ k => XS.iconst X95.here hx rfl (hb hby at_200) (XS.icmpYes X95.here hx rfl (pc0 := 201) (pc' := 206) rfl (hb hby at_201) rfl (teq rfl).1 (by decide) (by decide) (XS.iload X95.here hx rfl (hb hby at_206) rfl (XS.ifNo X95.here hx rfl (hb hby at_208) rfl ((if0 _ _).trans (feq (by decide +kernel : ¬ ((1 : Int32) = (0 : Int32)))).1) (XS.aload X95.here hx rfl (hb hby at_211) rfl rfl (XS.aload X95.here hx rfl (hb hby at_213) rfl rfl k)))))) ?_
    refine own_go (x' := T95.setTop (mkF m 216 #[.val (.int p0), .val (.int p1), .val (.int p2), .val (.int p3), .val (.int p4), .val (.int (3 : Int32)), .val (.int s1), .val (.int u2), .val (.int s2), .val (.int m9), .val (.ref b79), .val (.ref b80), .val (.ref c0), .val (.ref c1), .val (.ref c2), .val .null, .val (.int (1 : Int32)), .val (.ref b80)] [(.int (0 : Int32)), (.ref b80), (.ref c0)])) (fun _ k => XS.iconst X95.here hx rfl (hb hby at_215) k) ?_
    obtain ⟨cl97, Ar97, q97, Sz97, Nn97, Hh97, Gg97⟩ := id V_b80
    have hin97 : ¬ ((0 : Int32) < 0 ∨ cl97.slots.size ≤ ((0 : Int32)).toNatClampNeg) := inb_of Sz97 ⟨by decide, by decide⟩
    refine own_go (x' := T95.setTop (mkF m 217 #[.val (.int p0), .val (.int p1), .val (.int p2), .val (.int p3), .val (.int p4), .val (.int (3 : Int32)), .val (.int s1), .val (.int u2), .val (.int s2), .val (.int m9), .val (.ref b79), .val (.ref b80), .val (.ref c0), .val (.ref c1), .val (.ref c2), .val .null, .val (.int (1 : Int32)), .val (.ref b80)] [w0, (.ref c0)])) (X95.aaload hx (j := (0 : Int32)) (v := w0) (Eq.trans (congrArg (fun h_ => h_[_]?) rfl) Ar97.1) (State.isArrayOf_alike hZ.alike Ar97.2.1) rfl Ar97.2.2 hin97 (Hh97.at hin97 rfl) (g := (mkF m 216 #[.val (.int p0), .val (.int p1), .val (.int p2), .val (.int p3), .val (.int p4), .val (.int (3 : Int32)), .val (.int s1), .val (.int u2), .val (.int s2), .val (.int m9), .val (.ref b79), .val (.ref b80), .val (.ref c0), .val (.ref c1), .val (.ref c2), .val .null, .val (.int (1 : Int32)), .val (.ref b80)] [(.int (0 : Int32)), (.ref b80), (.ref c0)])) rfl rfl (hb hby at_216)) ?_
    refine own_go (x' := T95.setTop (mkF m 224 #[.val (.int p0), .val (.int p1), .val (.int p2), .val (.int p3), .val (.int p4), .val (.int (3 : Int32)), .val (.int s1), .val (.int u2), .val (.int s2), .val (.int m9), .val (.ref b79), .val (.ref b80), .val (.ref c0), .val (.ref c1), .val (.ref c2), .val .null, .val (.int (1 : Int32)), .val (.ref b80)] [(.int m9), (.int s2), (.int u2), (.int (0 : Int32)), w0, (.ref c0)])) (fun _ k => XS.iconst X95.here hx rfl (hb hby at_217) (XS.iload X95.here hx rfl (hb hby at_218) rfl (XS.iload X95.here hx rfl (hb hby at_220) rfl (XS.iload X95.here hx rfl (hb hby at_222) rfl k)))) ?_
    obtain ⟨_, _, ⟨T98, L98, k98, n98⟩, -, X98, ⟨Lc98, hQ98, l98, y98, z98⟩, st98⟩ := Jvm.LawKit.callS X95 hx (y := (⟨"com/example/wee_match/weematch/WindowsCharsPinLaw", "after", "([C[CIIIC)Z"⟩ : MethodName)) hown (mvT hZ (own_w hw 36 rfl)) (mvT hZ (own_w hw 37 rfl)) (mvT hZ (own_w hw 29 rfl)) (mvT hZ (own_w hw 38 rfl)) (by decide) (backOf (W := 0) (rm6p l Z a0 hw [] c0 w0 (0 : Int32) u2 s1 s2 m9 kk0 _ T95.heap n0 Zs V_c0 lt_c0 R0) hZ (own_w hw 38 rfl) (own_w hw 29 rfl) (by decide) (by decide)) (g := (mkF m 224 #[.val (.int p0), .val (.int p1), .val (.int p2), .val (.int p3), .val (.int p4), .val (.int (3 : Int32)), .val (.int s1), .val (.int u2), .val (.int s2), .val (.int m9), .val (.ref b79), .val (.ref b80), .val (.ref c0), .val (.ref c1), .val (.ref c2), .val .null, .val (.int (1 : Int32)), .val (.ref b80)] [(.int m9), (.int s2), (.int u2), (.int (0 : Int32)), w0, (.ref c0)])) rfl (by rw [hml]; rfl) (argsL := [(.ref c0), w0, (.int (0 : Int32)), (.int u2), (.int s2), (.int m9)]) (rest := []) (lenOf pd_4 rfl) rfl (by show 2 * 0 + _ ≤ _; exact Nat.le_of_eq rfl) (hb hby at_224) (fun _ _ => ⟨rfl, rfl, (by decide : 11 + 0 ≤ _), (by decide : 368 + 0 ≤ _)⟩)
    dsimp only [Pt.U, Pt.locs, Pt.cells, Pt.slots] at X98 l98 y98 z98 st98 hQ98
    subst l98 y98 z98
    obtain ⟨hv98, Nq98, eq98⟩ := hQ98
    subst hv98
    replace Nf := Fr.app Nf Nq98
    refine own_go (x' := T98.setTop (mkF m 227 #[.val (.int p0), .val (.int p1), .val (.int p2), .val (.int p3), .val (.int p4), .val (.int (3 : Int32)), .val (.int s1), .val (.int u2), .val (.int s2), .val (.int m9), .val (.ref b79), .val (.ref b80), .val (.ref c0), .val (.ref c1), .val (.ref c2), .val .null, .val (.int (1 : Int32)), .val (.ref b80)] [(.int (1 : Int32))])) st98 ?_
    refine own_go (x' := T98.setTop (mkF m 235 #[.val (.int p0), .val (.int p1), .val (.int p2), .val (.int p3), .val (.int p4), .val (.int (3 : Int32)), .val (.int s1), .val (.int u2), .val (.int s2), .val (.int m9), .val (.ref b79), .val (.ref b80), .val (.ref c0), .val (.ref c1), .val (.ref c2), .val .null, .val (.int (1 : Int32)), .val (.ref b80)] [(.int (1 : Int32)), (.ref b80), (.ref c1)])) (fun _ k => XS.ifNo X98.here hx rfl (hb hby at_227) rfl ((if0 _ _).trans (feq (by decide +kernel : ¬ ((1 : Int32) = (0 : Int32)))).1) (XS.aload X98.here hx rfl (hb hby at_230) rfl rfl (XS.aload X98.here hx rfl (hb hby at_232) rfl rfl (XS.iconst X98.here hx rfl (hb hby at_234) k)))) ?_
    obtain ⟨cl99, Ar99, q99, Sz99, Nn99, Hh99, Gg99⟩ := id V_b80
    have hin99 : ¬ ((1 : Int32) < 0 ∨ cl99.slots.size ≤ ((1 : Int32)).toNatClampNeg) := inb_of Sz99 ⟨by decide, by decide⟩
    refine own_go (x' := T98.setTop (mkF m 236 #[.val (.int p0), .val (.int p1), .val (.int p2), .val (.int p3), .val (.int p4), .val (.int (3 : Int32)), .val (.int s1), .val (.int u2), .val (.int s2), .val (.int m9), .val (.ref b79), .val (.ref b80), .val (.ref c0), .val (.ref c1), .val (.ref c2), .val .null, .val (.int (1 : Int32)), .val (.ref b80)] [w1, (.ref c1)])) (X98.aaload hx (j := (1 : Int32)) (v := w1) (Eq.trans (congrArg (fun h_ => h_[_]?) eq98) Ar99.1) (State.isArrayOf_alike hZ.alike Ar99.2.1) rfl Ar99.2.2 hin99 (Hh99.at hin99 rfl) (g := (mkF m 235 #[.val (.int p0), .val (.int p1), .val (.int p2), .val (.int p3), .val (.int p4), .val (.int (3 : Int32)), .val (.int s1), .val (.int u2), .val (.int s2), .val (.int m9), .val (.ref b79), .val (.ref b80), .val (.ref c0), .val (.ref c1), .val (.ref c2), .val .null, .val (.int (1 : Int32)), .val (.ref b80)] [(.int (1 : Int32)), (.ref b80), (.ref c1)])) rfl rfl (hb hby at_235)) ?_
    refine own_go (x' := T98.setTop (mkF m 243 #[.val (.int p0), .val (.int p1), .val (.int p2), .val (.int p3), .val (.int p4), .val (.int (3 : Int32)), .val (.int s1), .val (.int u2), .val (.int s2), .val (.int m9), .val (.ref b79), .val (.ref b80), .val (.ref c0), .val (.ref c1), .val (.ref c2), .val .null, .val (.int (1 : Int32)), .val (.ref b80)] [(.int m9), (.int s2), (.int u2), (.int (1 : Int32)), w1, (.ref c1)])) (fun _ k => XS.iconst X98.here hx rfl (hb hby at_236) (XS.iload X98.here hx rfl (hb hby at_237) rfl (XS.iload X98.here hx rfl (hb hby at_239) rfl (XS.iload X98.here hx rfl (hb hby at_241) rfl k)))) ?_
    obtain ⟨_, _, ⟨T100, L100, k100, n100⟩, -, X100, ⟨Lc100, hQ100, l100, y100, z100⟩, st100⟩ := Jvm.LawKit.callS X98 hx (y := (⟨"com/example/wee_match/weematch/WindowsCharsPinLaw", "after", "([C[CIIIC)Z"⟩ : MethodName)) hown (mvT hZ (own_w hw 36 rfl)) (mvT hZ (own_w hw 37 rfl)) (mvT hZ (own_w hw 29 rfl)) (mvT hZ (own_w hw 38 rfl)) (by decide) (backOf (W := 0) (rm6p l Z a0 hw [] c1 w1 (1 : Int32) u2 s1 s2 m9 kk1 _ T95.heap n0 Zs V_c1 lt_c1 R1) hZ (own_w hw 38 rfl) (own_w hw 29 rfl) (by decide) (by decide)) (g := (mkF m 243 #[.val (.int p0), .val (.int p1), .val (.int p2), .val (.int p3), .val (.int p4), .val (.int (3 : Int32)), .val (.int s1), .val (.int u2), .val (.int s2), .val (.int m9), .val (.ref b79), .val (.ref b80), .val (.ref c0), .val (.ref c1), .val (.ref c2), .val .null, .val (.int (1 : Int32)), .val (.ref b80)] [(.int m9), (.int s2), (.int u2), (.int (1 : Int32)), w1, (.ref c1)])) rfl (by rw [hml]; rfl) (argsL := [(.ref c1), w1, (.int (1 : Int32)), (.int u2), (.int s2), (.int m9)]) (rest := []) (lenOf pd_4 rfl) rfl (by show 2 * 0 + _ ≤ _; exact Nat.le_of_eq rfl) (hb hby at_243) (fun _ _ => ⟨rfl, eq98, (by decide : 11 + 0 ≤ _), (by decide : 368 + 0 ≤ _)⟩)
    dsimp only [Pt.U, Pt.locs, Pt.cells, Pt.slots] at X100 l100 y100 z100 st100 hQ100
    subst l100 y100 z100
    obtain ⟨hv100, Nq100, eq100⟩ := hQ100
    subst hv100
    replace Nf := Fr.app Nf Nq100
    refine own_go (x' := T100.setTop (mkF m 246 #[.val (.int p0), .val (.int p1), .val (.int p2), .val (.int p3), .val (.int p4), .val (.int (3 : Int32)), .val (.int s1), .val (.int u2), .val (.int s2), .val (.int m9), .val (.ref b79), .val (.ref b80), .val (.ref c0), .val (.ref c1), .val (.ref c2), .val .null, .val (.int (1 : Int32)), .val (.ref b80)] [(.int (1 : Int32))])) st100 ?_
    refine own_go (x' := T100.setTop (mkF m 254 #[.val (.int p0), .val (.int p1), .val (.int p2), .val (.int p3), .val (.int p4), .val (.int (3 : Int32)), .val (.int s1), .val (.int u2), .val (.int s2), .val (.int m9), .val (.ref b79), .val (.ref b80), .val (.ref c0), .val (.ref c1), .val (.ref c2), .val .null, .val (.int (1 : Int32)), .val (.ref b80)] [(.int (2 : Int32)), (.ref b80), (.ref c2)])) (fun _ k => XS.ifNo X100.here hx rfl (hb hby at_246) rfl ((if0 _ _).trans (feq (by decide +kernel : ¬ ((1 : Int32) = (0 : Int32)))).1) (XS.aload X100.here hx rfl (hb hby at_249) rfl rfl (XS.aload X100.here hx rfl (hb hby at_251) rfl rfl (XS.iconst X100.here hx rfl (hb hby at_253) k)))) ?_
    obtain ⟨cl101, Ar101, q101, Sz101, Nn101, Hh101, Gg101⟩ := id V_b80
    have hin101 : ¬ ((2 : Int32) < 0 ∨ cl101.slots.size ≤ ((2 : Int32)).toNatClampNeg) := inb_of Sz101 ⟨by decide, by decide⟩
    refine own_go (x' := T100.setTop (mkF m 255 #[.val (.int p0), .val (.int p1), .val (.int p2), .val (.int p3), .val (.int p4), .val (.int (3 : Int32)), .val (.int s1), .val (.int u2), .val (.int s2), .val (.int m9), .val (.ref b79), .val (.ref b80), .val (.ref c0), .val (.ref c1), .val (.ref c2), .val .null, .val (.int (1 : Int32)), .val (.ref b80)] [w2, (.ref c2)])) (X100.aaload hx (j := (2 : Int32)) (v := w2) (Eq.trans (congrArg (fun h_ => h_[_]?) eq100) Ar101.1) (State.isArrayOf_alike hZ.alike Ar101.2.1) rfl Ar101.2.2 hin101 (Hh101.at hin101 rfl) (g := (mkF m 254 #[.val (.int p0), .val (.int p1), .val (.int p2), .val (.int p3), .val (.int p4), .val (.int (3 : Int32)), .val (.int s1), .val (.int u2), .val (.int s2), .val (.int m9), .val (.ref b79), .val (.ref b80), .val (.ref c0), .val (.ref c1), .val (.ref c2), .val .null, .val (.int (1 : Int32)), .val (.ref b80)] [(.int (2 : Int32)), (.ref b80), (.ref c2)])) rfl rfl (hb hby at_254)) ?_
    refine own_go (x' := T100.setTop (mkF m 262 #[.val (.int p0), .val (.int p1), .val (.int p2), .val (.int p3), .val (.int p4), .val (.int (3 : Int32)), .val (.int s1), .val (.int u2), .val (.int s2), .val (.int m9), .val (.ref b79), .val (.ref b80), .val (.ref c0), .val (.ref c1), .val (.ref c2), .val .null, .val (.int (1 : Int32)), .val (.ref b80)] [(.int m9), (.int s2), (.int u2), (.int (2 : Int32)), w2, (.ref c2)])) (fun _ k => XS.iconst X100.here hx rfl (hb hby at_255) (XS.iload X100.here hx rfl (hb hby at_256) rfl (XS.iload X100.here hx rfl (hb hby at_258) rfl (XS.iload X100.here hx rfl (hb hby at_260) rfl k)))) ?_
    obtain ⟨_, _, ⟨T102, L102, k102, n102⟩, -, X102, ⟨Lc102, hQ102, l102, y102, z102⟩, st102⟩ := Jvm.LawKit.callS X100 hx (y := (⟨"com/example/wee_match/weematch/WindowsCharsPinLaw", "after", "([C[CIIIC)Z"⟩ : MethodName)) hown (mvT hZ (own_w hw 36 rfl)) (mvT hZ (own_w hw 37 rfl)) (mvT hZ (own_w hw 29 rfl)) (mvT hZ (own_w hw 38 rfl)) (by decide) (backOf (W := 0) (rm6p l Z a0 hw [] c2 w2 (2 : Int32) u2 s1 s2 m9 kk2 _ T95.heap n0 Zs V_c2 lt_c2 R2) hZ (own_w hw 38 rfl) (own_w hw 29 rfl) (by decide) (by decide)) (g := (mkF m 262 #[.val (.int p0), .val (.int p1), .val (.int p2), .val (.int p3), .val (.int p4), .val (.int (3 : Int32)), .val (.int s1), .val (.int u2), .val (.int s2), .val (.int m9), .val (.ref b79), .val (.ref b80), .val (.ref c0), .val (.ref c1), .val (.ref c2), .val .null, .val (.int (1 : Int32)), .val (.ref b80)] [(.int m9), (.int s2), (.int u2), (.int (2 : Int32)), w2, (.ref c2)])) rfl (by rw [hml]; rfl) (argsL := [(.ref c2), w2, (.int (2 : Int32)), (.int u2), (.int s2), (.int m9)]) (rest := []) (lenOf pd_4 rfl) rfl (by show 2 * 0 + _ ≤ _; exact Nat.le_of_eq rfl) (hb hby at_262) (fun _ _ => ⟨rfl, eq100, (by decide : 11 + 0 ≤ _), (by decide : 368 + 0 ≤ _)⟩)
    dsimp only [Pt.U, Pt.locs, Pt.cells, Pt.slots] at X102 l102 y102 z102 st102 hQ102
    subst l102 y102 z102
    obtain ⟨hv102, Nq102, eq102⟩ := hQ102
    subst hv102
    replace Nf := Fr.app Nf Nq102
    refine own_go (x' := T102.setTop (mkF m 265 #[.val (.int p0), .val (.int p1), .val (.int p2), .val (.int p3), .val (.int p4), .val (.int (3 : Int32)), .val (.int s1), .val (.int u2), .val (.int s2), .val (.int m9), .val (.ref b79), .val (.ref b80), .val (.ref c0), .val (.ref c1), .val (.ref c2), .val .null, .val (.int (1 : Int32)), .val (.ref b80)] [(.int (1 : Int32))])) st102 ?_
    refine own_go (x' := T102.setTop (mkF m 273 #[.val (.int p0), .val (.int p1), .val (.int p2), .val (.int p3), .val (.int p4), .val (.int (3 : Int32)), .val (.int s1), .val (.int u2), .val (.int s2), .val (.int m9), .val (.ref b79), .val (.ref b80), .val (.ref c0), .val (.ref c1), .val (.ref c2), .val .null, .val (.int (1 : Int32)), .val (.ref b80)] [(.int (3 : Int32)), (.ref b80), .null])) (fun _ k => XS.ifNo X102.here hx rfl (hb hby at_265) rfl ((if0 _ _).trans (feq (by decide +kernel : ¬ ((1 : Int32) = (0 : Int32)))).1) (XS.aload X102.here hx rfl (hb hby at_268) rfl rfl (XS.aload X102.here hx rfl (hb hby at_270) rfl rfl (XS.iconst X102.here hx rfl (hb hby at_272) k)))) ?_
    obtain ⟨cl103, Ar103, q103, Sz103, Nn103, Hh103, Gg103⟩ := id V_b80
    have hin103 : ¬ ((3 : Int32) < 0 ∨ cl103.slots.size ≤ ((3 : Int32)).toNatClampNeg) := inb_of Sz103 ⟨by decide, by decide⟩
    refine own_go (x' := T102.setTop (mkF m 274 #[.val (.int p0), .val (.int p1), .val (.int p2), .val (.int p3), .val (.int p4), .val (.int (3 : Int32)), .val (.int s1), .val (.int u2), .val (.int s2), .val (.int m9), .val (.ref b79), .val (.ref b80), .val (.ref c0), .val (.ref c1), .val (.ref c2), .val .null, .val (.int (1 : Int32)), .val (.ref b80)] [w3, .null])) (X102.aaload hx (j := (3 : Int32)) (v := w3) (Eq.trans (congrArg (fun h_ => h_[_]?) eq102) Ar103.1) (State.isArrayOf_alike hZ.alike Ar103.2.1) rfl Ar103.2.2 hin103 (Hh103.at hin103 rfl) (g := (mkF m 273 #[.val (.int p0), .val (.int p1), .val (.int p2), .val (.int p3), .val (.int p4), .val (.int (3 : Int32)), .val (.int s1), .val (.int u2), .val (.int s2), .val (.int m9), .val (.ref b79), .val (.ref b80), .val (.ref c0), .val (.ref c1), .val (.ref c2), .val .null, .val (.int (1 : Int32)), .val (.ref b80)] [(.int (3 : Int32)), (.ref b80), .null])) rfl rfl (hb hby at_273)) ?_
    refine own_go (x' := T102.setTop (mkF m 281 #[.val (.int p0), .val (.int p1), .val (.int p2), .val (.int p3), .val (.int p4), .val (.int (3 : Int32)), .val (.int s1), .val (.int u2), .val (.int s2), .val (.int m9), .val (.ref b79), .val (.ref b80), .val (.ref c0), .val (.ref c1), .val (.ref c2), .val .null, .val (.int (1 : Int32)), .val (.ref b80)] [(.int m9), (.int s2), (.int u2), (.int (3 : Int32)), w3, .null])) (fun _ k => XS.iconst X102.here hx rfl (hb hby at_274) (XS.iload X102.here hx rfl (hb hby at_275) rfl (XS.iload X102.here hx rfl (hb hby at_277) rfl (XS.iload X102.here hx rfl (hb hby at_279) rfl k)))) ?_
    obtain ⟨_, _, ⟨T104, L104, k104, n104⟩, -, X104, ⟨Lc104, hQ104, l104, y104, z104⟩, st104⟩ := Jvm.LawKit.callS X102 hx (y := (⟨"com/example/wee_match/weematch/WindowsCharsPinLaw", "after", "([C[CIIIC)Z"⟩ : MethodName)) hown (mvT hZ (own_w hw 36 rfl)) (mvT hZ (own_w hw 37 rfl)) (mvT hZ (own_w hw 29 rfl)) (mvT hZ (own_w hw 38 rfl)) (by decide) (backOf (W := 0) (rm6n l Z a0 hw [] w3 (3 : Int32) u2 s2 m9 T95.heap n0 Zs R3) hZ (own_w hw 38 rfl) (own_w hw 29 rfl) (by decide) (by decide)) (g := (mkF m 281 #[.val (.int p0), .val (.int p1), .val (.int p2), .val (.int p3), .val (.int p4), .val (.int (3 : Int32)), .val (.int s1), .val (.int u2), .val (.int s2), .val (.int m9), .val (.ref b79), .val (.ref b80), .val (.ref c0), .val (.ref c1), .val (.ref c2), .val .null, .val (.int (1 : Int32)), .val (.ref b80)] [(.int m9), (.int s2), (.int u2), (.int (3 : Int32)), w3, .null])) rfl (by rw [hml]; rfl) (argsL := [.null, w3, (.int (3 : Int32)), (.int u2), (.int s2), (.int m9)]) (rest := []) (lenOf pd_4 rfl) rfl (by show 2 * 0 + _ ≤ _; exact Nat.le_of_eq rfl) (hb hby at_281) (fun _ _ => ⟨rfl, eq102, (by decide : 11 + 0 ≤ _), (by decide : 368 + 0 ≤ _)⟩)
    dsimp only [Pt.U, Pt.locs, Pt.cells, Pt.slots] at X104 l104 y104 z104 st104 hQ104
    subst l104 y104 z104
    obtain ⟨hv104, Nq104, eq104⟩ := hQ104
    subst hv104
    replace Nf := Fr.app Nf Nq104
    refine own_go (x' := T104.setTop (mkF m 284 #[.val (.int p0), .val (.int p1), .val (.int p2), .val (.int p3), .val (.int p4), .val (.int (3 : Int32)), .val (.int s1), .val (.int u2), .val (.int s2), .val (.int m9), .val (.ref b79), .val (.ref b80), .val (.ref c0), .val (.ref c1), .val (.ref c2), .val .null, .val (.int (1 : Int32)), .val (.ref b80)] [(.int (1 : Int32))])) st104 ?_
    refine own_go (x' := T104.setTop (mkF m 292 #[.val (.int p0), .val (.int p1), .val (.int p2), .val (.int p3), .val (.int p4), .val (.int (3 : Int32)), .val (.int s1), .val (.int u2), .val (.int s2), .val (.int m9), .val (.ref b79), .val (.ref b80), .val (.ref c0), .val (.ref c1), .val (.ref c2), .val .null, .val (.int (1 : Int32)), .val (.ref b80)] [(.int (1 : Int32))])) (fun _ k => XS.ifNo X104.here hx rfl (hb hby at_284) rfl ((if0 _ _).trans (feq (by decide +kernel : ¬ ((1 : Int32) = (0 : Int32)))).1) (XS.iconst X104.here hx rfl (hb hby at_287) (XS.goto X104.here hx rfl (pc0 := 288) (pc' := 292) rfl (hb hby at_288) (by decide) (by decide) k))) ?_
    refine own_retN X104 hx hlk (t := .boolean) hret (by simp) (hb hby at_292) (w := (1 : Int32)) rfl ?_ (by decide) (by decide)
    rw [eq104]
    exact ⟨rfl, Nf⟩
  · rw [hq]
    obtain ⟨T105, h105, X105, e105, E105, A105, D105, -, st105⟩ := newO X0 hx hZ hown (own_w hw 2 rfl) (own_w hw 3 rfl) (own_w hw 4 rfl) e0 (g := (mkF m 36 #[.val (.int p0), .val (.int p1), .val (.int p2), .val (.int p3), .val (.int p4), .val (.int (4 : Int32)), .val (.int s1), .val (.int u2), .val (.int s2), .val (.int m9), .unset, .unset, .unset, .unset, .unset, .unset, .unset, .unset] [])) rfl (hb hby at_36) (by decide) (by decide)
    obtain ⟨b105, g105⟩ : ∃ z, z = h0.size := ⟨_, rfl⟩
    rw [← g105] at A105 D105 st105
    have g_b105 : n0 ≤ b105 := Nat.le_trans Zs (Nat.le_of_eq g105.symm)
    replace Zs := Nat.le_trans Zs E105.1
    have E_b105 := A105
    have F_b105_bytes : Fld Z h105 b105 "com/example/wee_match/weematch/Sieve$Windows" "bytes" "[[B" .null := D105 (Or.inr (own_w hw 14 rfl)) (ty := (.array (.array .byte))) (by decide)
    have F_b105_chars : Fld Z h105 b105 "com/example/wee_match/weematch/Sieve$Windows" "chars" "[[C" .null := D105 (Or.inr (own_w hw 18 rfl)) (ty := (.array (.array .char))) (by decide)
    have F_b105_starts : Fld Z h105 b105 "com/example/wee_match/weematch/Sieve$Windows" "starts" "[I" .null := D105 (Or.inl (own_w hw 21 rfl)) (ty := (.array .int)) (by decide)
    refine own_go (x' := T105.setTop (mkF m 39 #[.val (.int p0), .val (.int p1), .val (.int p2), .val (.int p3), .val (.int p4), .val (.int (4 : Int32)), .val (.int s1), .val (.int u2), .val (.int s2), .val (.int m9), .unset, .unset, .unset, .unset, .unset, .unset, .unset, .unset] [(.ref b105)])) st105 ?_
    refine own_go (x' := T105.setTop (mkF m 40 #[.val (.int p0), .val (.int p1), .val (.int p2), .val (.int p3), .val (.int p4), .val (.int (4 : Int32)), .val (.int s1), .val (.int u2), .val (.int s2), .val (.int m9), .unset, .unset, .unset, .unset, .unset, .unset, .unset, .unset] [(.ref b105), (.ref b105)])) (fun _ k => XS.dup X105.here hx rfl (hb hby at_39) rfl rfl k) ?_
    obtain ⟨_, _, ⟨T106, L106, k106, n106⟩, -, X106, ⟨Lc106, hQ106, l106, y106, z106⟩, st106⟩ := X105.specialBack hx (y := (⟨"com/example/wee_match/weematch/Sieve$Windows", "<init>", "()V"⟩ : MethodName)) rfl hown (mvT hZ (own_w hw 5 rfl)) (mvT hZ (own_w hw 6 rfl)) (mvT hZ (own_w hw 7 rfl)) (by decide) (backOf (W := 1) (rm1 l Z a0 hw [] b105 h105 n0 Zs E_b105 F_b105_bytes F_b105_chars F_b105_starts g_b105) hZ (own_w hw 7 rfl) (own_w hw 4 rfl) (by decide) (by decide)) (g := (mkF m 40 #[.val (.int p0), .val (.int p1), .val (.int p2), .val (.int p3), .val (.int p4), .val (.int (4 : Int32)), .val (.int s1), .val (.int u2), .val (.int s2), .val (.int m9), .unset, .unset, .unset, .unset, .unset, .unset, .unset, .unset] [(.ref b105), (.ref b105)])) rfl (by rw [hml]; rfl) (Steps.refl _) (a := b105) (argsL := []) (rest := [(.ref b105)]) (lenOf pd_0 rfl) rfl (by show 2 * 0 + _ ≤ _; exact Nat.le_of_eq rfl) (hb hby at_40) (fun _ _ => ⟨rfl, e105, (by decide : 1 + 3 ≤ _), (by decide : 7 + 144 ≤ _)⟩)
    dsimp only [Pt.U, Pt.locs, Pt.cells, Pt.slots] at X106 l106 y106 z106 st106 hQ106
    subst l106 y106 z106
    obtain ⟨b106, kc106, hv106, Nq106, K106, sq106, g_b106, Eo106, Fs106, V_b106, O_b106⟩ := hQ106
    subst hv106
    replace Nf := Fr.app Nf Nq106
    have ne_b105_b106 : b105 ≠ b106 := Nat.ne_of_lt (Nat.lt_of_lt_of_le E_b105.lt sq106)
    replace Zs := Nat.le_trans Zs K106.1
    replace E_b105 := Eo106
    replace F_b105_chars := Fs106
    refine own_go (x' := T106.setTop (mkF m 43 #[.val (.int p0), .val (.int p1), .val (.int p2), .val (.int p3), .val (.int p4), .val (.int (4 : Int32)), .val (.int s1), .val (.int u2), .val (.int s2), .val (.int m9), .unset, .unset, .unset, .unset, .unset, .unset, .unset, .unset] [(.ref b105)])) (fun _ k => st106.trans k) ?_
    refine own_go (x' := T106.setTop (mkF m 51 #[.val (.int p0), .val (.int p1), .val (.int p2), .val (.int p3), .val (.int p4), .val (.int (4 : Int32)), .val (.int s1), .val (.int u2), .val (.int s2), .val (.int m9), .val (.ref b105), .unset, .unset, .unset, .unset, .unset, .unset, .unset] [(.int s1), (.int (4 : Int32)), (.ref b105)])) (fun _ k => XS.astore X106.here hx rfl (hb hby at_43) rfl rfl (l' := #[.val (.int p0), .val (.int p1), .val (.int p2), .val (.int p3), .val (.int p4), .val (.int (4 : Int32)), .val (.int s1), .val (.int u2), .val (.int s2), .val (.int m9), .val (.ref b105), .unset, .unset, .unset, .unset, .unset, .unset, .unset]) rfl (XS.aload X106.here hx rfl (hb hby at_45) rfl rfl (XS.iload X106.here hx rfl (hb hby at_47) rfl (XS.iload X106.here hx rfl (hb hby at_49) rfl k)))) ?_
    have q107b_lt := E_b105.lt
    obtain ⟨cq107, kq107, q107a, q107b, q107c⟩ := isOf hZ rfl E_b105
    obtain ⟨_, _, ⟨T107, L107, k107, n107⟩, -, X107, ⟨Lc107, hQ107, l107, y107, z107⟩, st107⟩ := X106.virtualBack hx (y := (⟨"com/example/wee_match/weematch/Sieve$Windows", "chars", "(II)[[C"⟩ : MethodName)) (z := (⟨"com/example/wee_match/weematch/Sieve$Windows", "chars", "(II)[[C"⟩ : MethodName)) hown (mvT hZ (own_w hw 22 rfl)) (mvT hZ (own_w hw 23 rfl)) (notFace_of_selects (args := #[]) (mvT hZ (own_w hw 25 rfl))) (mvT hZ (own_w hw 25 rfl)) (mvT hZ (own_w hw 24 rfl)) (by decide) (backOf (W := 0) (rmF_4 l Z a0 hw [] b105 s1 b106 kc106 T106.heap n0 Zs F_b105_chars V_b106 O_b106 ne_b105_b106 g_b106 hs1) hZ (own_w hw 26 rfl) (own_w hw 4 rfl) (by decide) (by decide)) q107a q107c (g := (mkF m 51 #[.val (.int p0), .val (.int p1), .val (.int p2), .val (.int p3), .val (.int p4), .val (.int (4 : Int32)), .val (.int s1), .val (.int u2), .val (.int s2), .val (.int m9), .val (.ref b105), .unset, .unset, .unset, .unset, .unset, .unset, .unset] [(.int s1), (.int (4 : Int32)), (.ref b105)])) rfl (by rw [hml]; rfl) (Steps.refl _) (argsL := [(.int (4 : Int32)), (.int s1)]) (rest := []) (lenOf pd_1 rfl) rfl (by show 2 * 0 + _ ≤ _; exact Nat.le_of_eq rfl) (hb hby at_51) (fun _ _ => ⟨rfl, rfl, (by decide : 4 + 4 ≤ _), (by decide : 151 + 124 ≤ _)⟩)
    dsimp only [Pt.U, Pt.locs, Pt.cells, Pt.slots] at X107 l107 y107 z107 st107 hQ107
    subst l107 y107 z107
    obtain ⟨c0, kk0, c1, kk1, c2, kk2, c3, kk3, hv107, Nq107, K107, Fs107, Vn107, sq_c0, g_c0, V_c0, sq_c1, g_c1, V_c1, sq_c2, g_c2, V_c2, sq_c3, g_c3, V_c3, ne_c0_c1, ne_c0_c2, ne_c0_c3, ne_c1_c2, ne_c1_c3, ne_c2_c3⟩ := hQ107
    subst hv107
    replace Nf := Fr.app Nf Nq107
    replace E_b105 := E_b105.keep K107
    replace Zs := Nat.le_trans Zs K107.1
    replace V_b106 := Vn107
    replace F_b105_chars := Fs107
    have ne_c0_b106 : c0 ≠ b106 := own_two V_c0 V_b106 (by decide)
    have ne_b105_c0 : b105 ≠ c0 := Nat.ne_of_lt (Nat.lt_of_lt_of_le q107b_lt sq_c0)
    have ne_c1_b106 : c1 ≠ b106 := own_two V_c1 V_b106 (by decide)
    have ne_b105_c1 : b105 ≠ c1 := Nat.ne_of_lt (Nat.lt_of_lt_of_le q107b_lt sq_c1)
    have ne_c2_b106 : c2 ≠ b106 := own_two V_c2 V_b106 (by decide)
    have ne_b105_c2 : b105 ≠ c2 := Nat.ne_of_lt (Nat.lt_of_lt_of_le q107b_lt sq_c2)
    have ne_c3_b106 : c3 ≠ b106 := own_two V_c3 V_b106 (by decide)
    have ne_b105_c3 : b105 ≠ c3 := Nat.ne_of_lt (Nat.lt_of_lt_of_le q107b_lt sq_c3)
    refine own_go (x' := T107.setTop (mkF m 54 #[.val (.int p0), .val (.int p1), .val (.int p2), .val (.int p3), .val (.int p4), .val (.int (4 : Int32)), .val (.int s1), .val (.int u2), .val (.int s2), .val (.int m9), .val (.ref b105), .unset, .unset, .unset, .unset, .unset, .unset, .unset] [(.ref b106)])) (fun _ k => st107.trans k) ?_
    refine own_go (x' := T107.setTop (mkF m 63 #[.val (.int p0), .val (.int p1), .val (.int p2), .val (.int p3), .val (.int p4), .val (.int (4 : Int32)), .val (.int s1), .val (.int u2), .val (.int s2), .val (.int m9), .val (.ref b105), .val (.ref b106), .unset, .unset, .unset, .unset, .unset, .unset] [(.ref b106)])) (fun _ k => XS.astore X107.here hx rfl (hb hby at_54) rfl rfl (l' := #[.val (.int p0), .val (.int p1), .val (.int p2), .val (.int p3), .val (.int p4), .val (.int (4 : Int32)), .val (.int s1), .val (.int u2), .val (.int s2), .val (.int m9), .val (.ref b105), .val (.ref b106), .unset, .unset, .unset, .unset, .unset, .unset]) rfl (XS.aload X107.here hx rfl (hb hby at_56) rfl rfl (XS.ifnullNo X107.here hx rfl (hb hby at_58) rfl (XS.aload X107.here hx rfl (hb hby at_61) rfl rfl k)))) ?_
    obtain ⟨cl108, Ar108, -, Sz108, Nn108, -, -⟩ := id V_b106
    refine own_go (x' := T107.setTop (mkF m 64 #[.val (.int p0), .val (.int p1), .val (.int p2), .val (.int p3), .val (.int p4), .val (.int (4 : Int32)), .val (.int s1), .val (.int u2), .val (.int s2), .val (.int m9), .val (.ref b105), .val (.ref b106), .unset, .unset, .unset, .unset, .unset, .unset] [(.int (4 : Int32))])) (fun t k => X107.arraylength hx (Eq.trans (congrArg (fun h_ => h_[_]?) rfl) Ar108.1) (State.isArrayOf_alike hZ.alike Ar108.2.1) (g := (mkF m 63 #[.val (.int p0), .val (.int p1), .val (.int p2), .val (.int p3), .val (.int p4), .val (.int (4 : Int32)), .val (.int s1), .val (.int u2), .val (.int s2), .val (.int m9), .val (.ref b105), .val (.ref b106), .unset, .unset, .unset, .unset, .unset, .unset] [(.ref b106)])) rfl rfl (hb hby at_63) t (by rw [len_of Sz108 Nn108]; exact k)) ?_
    refine own_go (x' := T107.setTop (mkF m 73 #[.val (.int p0), .val (.int p1), .val (.int p2), .val (.int p3), .val (.int p4), .val (.int (4 : Int32)), .val (.int s1), .val (.int u2), .val (.int s2), .val (.int m9), .val (.ref b105), .val (.ref b106), .unset, .unset, .unset, .unset, .unset, .unset] [(.int (0 : Int32)), (.ref b106)])) (fun _ k => XS.iconst X107.here hx rfl (hb hby at_64) (XS.icmpYes X107.here hx rfl (pc0 := 65) (pc' := 70) rfl (hb hby at_65) rfl (teq rfl).1 (by decide) (by decide) (XS.aload X107.here hx rfl (hb hby at_70) rfl rfl (XS.iconst X107.here hx rfl (hb hby at_72) k)))) ?_
    obtain ⟨cl109, Ar109, q109, Sz109, Nn109, Hh109, Gg109⟩ := id V_b106
    have hin109 : ¬ ((0 : Int32) < 0 ∨ cl109.slots.size ≤ ((0 : Int32)).toNatClampNeg) := inb_of Sz109 ⟨by decide, by decide⟩
    refine own_go (x' := T107.setTop (mkF m 74 #[.val (.int p0), .val (.int p1), .val (.int p2), .val (.int p3), .val (.int p4), .val (.int (4 : Int32)), .val (.int s1), .val (.int u2), .val (.int s2), .val (.int m9), .val (.ref b105), .val (.ref b106), .unset, .unset, .unset, .unset, .unset, .unset] [(.ref c0)])) (X107.aaload hx (j := (0 : Int32)) (v := (.ref c0)) (Eq.trans (congrArg (fun h_ => h_[_]?) rfl) Ar109.1) (State.isArrayOf_alike hZ.alike Ar109.2.1) rfl Ar109.2.2 hin109 (Hh109.at hin109 rfl) (g := (mkF m 73 #[.val (.int p0), .val (.int p1), .val (.int p2), .val (.int p3), .val (.int p4), .val (.int (4 : Int32)), .val (.int s1), .val (.int u2), .val (.int s2), .val (.int m9), .val (.ref b105), .val (.ref b106), .unset, .unset, .unset, .unset, .unset, .unset] [(.int (0 : Int32)), (.ref b106)])) rfl rfl (hb hby at_73)) ?_
    refine own_go (x' := T107.setTop (mkF m 79 #[.val (.int p0), .val (.int p1), .val (.int p2), .val (.int p3), .val (.int p4), .val (.int (4 : Int32)), .val (.int s1), .val (.int u2), .val (.int s2), .val (.int m9), .val (.ref b105), .val (.ref b106), .val (.ref c0), .unset, .unset, .unset, .unset, .unset] [(.int (1 : Int32)), (.ref b106)])) (fun _ k => XS.astore X107.here hx rfl (hb hby at_74) rfl rfl (l' := #[.val (.int p0), .val (.int p1), .val (.int p2), .val (.int p3), .val (.int p4), .val (.int (4 : Int32)), .val (.int s1), .val (.int u2), .val (.int s2), .val (.int m9), .val (.ref b105), .val (.ref b106), .val (.ref c0), .unset, .unset, .unset, .unset, .unset]) rfl (XS.aload X107.here hx rfl (hb hby at_76) rfl rfl (XS.iconst X107.here hx rfl (hb hby at_78) k))) ?_
    obtain ⟨cl110, Ar110, q110, Sz110, Nn110, Hh110, Gg110⟩ := id V_b106
    have hin110 : ¬ ((1 : Int32) < 0 ∨ cl110.slots.size ≤ ((1 : Int32)).toNatClampNeg) := inb_of Sz110 ⟨by decide, by decide⟩
    refine own_go (x' := T107.setTop (mkF m 80 #[.val (.int p0), .val (.int p1), .val (.int p2), .val (.int p3), .val (.int p4), .val (.int (4 : Int32)), .val (.int s1), .val (.int u2), .val (.int s2), .val (.int m9), .val (.ref b105), .val (.ref b106), .val (.ref c0), .unset, .unset, .unset, .unset, .unset] [(.ref c1)])) (X107.aaload hx (j := (1 : Int32)) (v := (.ref c1)) (Eq.trans (congrArg (fun h_ => h_[_]?) rfl) Ar110.1) (State.isArrayOf_alike hZ.alike Ar110.2.1) rfl Ar110.2.2 hin110 (Hh110.at hin110 rfl) (g := (mkF m 79 #[.val (.int p0), .val (.int p1), .val (.int p2), .val (.int p3), .val (.int p4), .val (.int (4 : Int32)), .val (.int s1), .val (.int u2), .val (.int s2), .val (.int m9), .val (.ref b105), .val (.ref b106), .val (.ref c0), .unset, .unset, .unset, .unset, .unset] [(.int (1 : Int32)), (.ref b106)])) rfl rfl (hb hby at_79)) ?_
    refine own_go (x' := T107.setTop (mkF m 85 #[.val (.int p0), .val (.int p1), .val (.int p2), .val (.int p3), .val (.int p4), .val (.int (4 : Int32)), .val (.int s1), .val (.int u2), .val (.int s2), .val (.int m9), .val (.ref b105), .val (.ref b106), .val (.ref c0), .val (.ref c1), .unset, .unset, .unset, .unset] [(.int (2 : Int32)), (.ref b106)])) (fun _ k => XS.astore X107.here hx rfl (hb hby at_80) rfl rfl (l' := #[.val (.int p0), .val (.int p1), .val (.int p2), .val (.int p3), .val (.int p4), .val (.int (4 : Int32)), .val (.int s1), .val (.int u2), .val (.int s2), .val (.int m9), .val (.ref b105), .val (.ref b106), .val (.ref c0), .val (.ref c1), .unset, .unset, .unset, .unset]) rfl (XS.aload X107.here hx rfl (hb hby at_82) rfl rfl (XS.iconst X107.here hx rfl (hb hby at_84) k))) ?_
    obtain ⟨cl111, Ar111, q111, Sz111, Nn111, Hh111, Gg111⟩ := id V_b106
    have hin111 : ¬ ((2 : Int32) < 0 ∨ cl111.slots.size ≤ ((2 : Int32)).toNatClampNeg) := inb_of Sz111 ⟨by decide, by decide⟩
    refine own_go (x' := T107.setTop (mkF m 86 #[.val (.int p0), .val (.int p1), .val (.int p2), .val (.int p3), .val (.int p4), .val (.int (4 : Int32)), .val (.int s1), .val (.int u2), .val (.int s2), .val (.int m9), .val (.ref b105), .val (.ref b106), .val (.ref c0), .val (.ref c1), .unset, .unset, .unset, .unset] [(.ref c2)])) (X107.aaload hx (j := (2 : Int32)) (v := (.ref c2)) (Eq.trans (congrArg (fun h_ => h_[_]?) rfl) Ar111.1) (State.isArrayOf_alike hZ.alike Ar111.2.1) rfl Ar111.2.2 hin111 (Hh111.at hin111 rfl) (g := (mkF m 85 #[.val (.int p0), .val (.int p1), .val (.int p2), .val (.int p3), .val (.int p4), .val (.int (4 : Int32)), .val (.int s1), .val (.int u2), .val (.int s2), .val (.int m9), .val (.ref b105), .val (.ref b106), .val (.ref c0), .val (.ref c1), .unset, .unset, .unset, .unset] [(.int (2 : Int32)), (.ref b106)])) rfl rfl (hb hby at_85)) ?_
    refine own_go (x' := T107.setTop (mkF m 91 #[.val (.int p0), .val (.int p1), .val (.int p2), .val (.int p3), .val (.int p4), .val (.int (4 : Int32)), .val (.int s1), .val (.int u2), .val (.int s2), .val (.int m9), .val (.ref b105), .val (.ref b106), .val (.ref c0), .val (.ref c1), .val (.ref c2), .unset, .unset, .unset] [(.int (3 : Int32)), (.ref b106)])) (fun _ k => XS.astore X107.here hx rfl (hb hby at_86) rfl rfl (l' := #[.val (.int p0), .val (.int p1), .val (.int p2), .val (.int p3), .val (.int p4), .val (.int (4 : Int32)), .val (.int s1), .val (.int u2), .val (.int s2), .val (.int m9), .val (.ref b105), .val (.ref b106), .val (.ref c0), .val (.ref c1), .val (.ref c2), .unset, .unset, .unset]) rfl (XS.aload X107.here hx rfl (hb hby at_88) rfl rfl (XS.iconst X107.here hx rfl (hb hby at_90) k))) ?_
    obtain ⟨cl112, Ar112, q112, Sz112, Nn112, Hh112, Gg112⟩ := id V_b106
    have hin112 : ¬ ((3 : Int32) < 0 ∨ cl112.slots.size ≤ ((3 : Int32)).toNatClampNeg) := inb_of Sz112 ⟨by decide, by decide⟩
    refine own_go (x' := T107.setTop (mkF m 92 #[.val (.int p0), .val (.int p1), .val (.int p2), .val (.int p3), .val (.int p4), .val (.int (4 : Int32)), .val (.int s1), .val (.int u2), .val (.int s2), .val (.int m9), .val (.ref b105), .val (.ref b106), .val (.ref c0), .val (.ref c1), .val (.ref c2), .unset, .unset, .unset] [(.ref c3)])) (X107.aaload hx (j := (3 : Int32)) (v := (.ref c3)) (Eq.trans (congrArg (fun h_ => h_[_]?) rfl) Ar112.1) (State.isArrayOf_alike hZ.alike Ar112.2.1) rfl Ar112.2.2 hin112 (Hh112.at hin112 rfl) (g := (mkF m 91 #[.val (.int p0), .val (.int p1), .val (.int p2), .val (.int p3), .val (.int p4), .val (.int (4 : Int32)), .val (.int s1), .val (.int u2), .val (.int s2), .val (.int m9), .val (.ref b105), .val (.ref b106), .val (.ref c0), .val (.ref c1), .val (.ref c2), .unset, .unset, .unset] [(.int (3 : Int32)), (.ref b106)])) rfl rfl (hb hby at_91)) ?_
    refine own_go (x' := T107.setTop (mkF m 101 #[.val (.int p0), .val (.int p1), .val (.int p2), .val (.int p3), .val (.int p4), .val (.int (4 : Int32)), .val (.int s1), .val (.int u2), .val (.int s2), .val (.int m9), .val (.ref b105), .val (.ref b106), .val (.ref c0), .val (.ref c1), .val (.ref c2), .val (.ref c3), .unset, .unset] [(.int s1), (.int (4 : Int32)), (.int (0 : Int32)), (.ref c0)])) (fun _ k => XS.astore X107.here hx rfl (hb hby at_92) rfl rfl (l' := #[.val (.int p0), .val (.int p1), .val (.int p2), .val (.int p3), .val (.int p4), .val (.int (4 : Int32)), .val (.int s1), .val (.int u2), .val (.int s2), .val (.int m9), .val (.ref b105), .val (.ref b106), .val (.ref c0), .val (.ref c1), .val (.ref c2), .val (.ref c3), .unset, .unset]) rfl (XS.aload X107.here hx rfl (hb hby at_94) rfl rfl (XS.iconst X107.here hx rfl (hb hby at_96) (XS.iload X107.here hx rfl (hb hby at_97) rfl (XS.iload X107.here hx rfl (hb hby at_99) rfl k))))) ?_
    obtain ⟨_, _, ⟨T113, L113, k113, n113⟩, -, X113, ⟨Lc113, hQ113, l113, y113, z113⟩, st113⟩ := Jvm.LawKit.callS X107 hx (y := (⟨"com/example/wee_match/weematch/WindowsCharsPinLaw", "made", "([CIII)Z"⟩ : MethodName)) hown (mvT hZ (own_w hw 27 rfl)) (mvT hZ (own_w hw 28 rfl)) (mvT hZ (own_w hw 29 rfl)) (mvT hZ (own_w hw 30 rfl)) (by decide) (backOf (W := 0) (rm4p l Z a0 hw [] c0 (0 : Int32) (4 : Int32) s1 kk0 T107.heap n0 Zs V_c0 (by decide)) hZ (own_w hw 30 rfl) (own_w hw 29 rfl) (by decide) (by decide)) (g := (mkF m 101 #[.val (.int p0), .val (.int p1), .val (.int p2), .val (.int p3), .val (.int p4), .val (.int (4 : Int32)), .val (.int s1), .val (.int u2), .val (.int s2), .val (.int m9), .val (.ref b105), .val (.ref b106), .val (.ref c0), .val (.ref c1), .val (.ref c2), .val (.ref c3), .unset, .unset] [(.int s1), (.int (4 : Int32)), (.int (0 : Int32)), (.ref c0)])) rfl (by rw [hml]; rfl) (argsL := [(.ref c0), (.int (0 : Int32)), (.int (4 : Int32)), (.int s1)]) (rest := []) (lenOf pd_2 rfl) rfl (by show 2 * 0 + _ ≤ _; exact Nat.le_of_eq rfl) (hb hby at_101) (fun _ _ => ⟨rfl, rfl, (by decide : 8 + 0 ≤ _), (by decide : 275 + 0 ≤ _)⟩)
    dsimp only [Pt.U, Pt.locs, Pt.cells, Pt.slots] at X113 l113 y113 z113 st113 hQ113
    subst l113 y113 z113
    obtain ⟨hv113, Nq113, eq113⟩ := hQ113
    subst hv113
    replace Nf := Fr.app Nf Nq113
    refine own_go (x' := T113.setTop (mkF m 104 #[.val (.int p0), .val (.int p1), .val (.int p2), .val (.int p3), .val (.int p4), .val (.int (4 : Int32)), .val (.int s1), .val (.int u2), .val (.int s2), .val (.int m9), .val (.ref b105), .val (.ref b106), .val (.ref c0), .val (.ref c1), .val (.ref c2), .val (.ref c3), .unset, .unset] [(.int (1 : Int32))])) st113 ?_
    refine own_go (x' := T113.setTop (mkF m 114 #[.val (.int p0), .val (.int p1), .val (.int p2), .val (.int p3), .val (.int p4), .val (.int (4 : Int32)), .val (.int s1), .val (.int u2), .val (.int s2), .val (.int m9), .val (.ref b105), .val (.ref b106), .val (.ref c0), .val (.ref c1), .val (.ref c2), .val (.ref c3), .unset, .unset] [(.int s1), (.int (4 : Int32)), (.int (1 : Int32)), (.ref c1)])) (fun _ k => XS.ifNo X113.here hx rfl (hb hby at_104) rfl ((if0 _ _).trans (feq (by decide +kernel : ¬ ((1 : Int32) = (0 : Int32)))).1) (XS.aload X113.here hx rfl (hb hby at_107) rfl rfl (XS.iconst X113.here hx rfl (hb hby at_109) (XS.iload X113.here hx rfl (hb hby at_110) rfl (XS.iload X113.here hx rfl (hb hby at_112) rfl k))))) ?_
    obtain ⟨_, _, ⟨T114, L114, k114, n114⟩, -, X114, ⟨Lc114, hQ114, l114, y114, z114⟩, st114⟩ := Jvm.LawKit.callS X113 hx (y := (⟨"com/example/wee_match/weematch/WindowsCharsPinLaw", "made", "([CIII)Z"⟩ : MethodName)) hown (mvT hZ (own_w hw 27 rfl)) (mvT hZ (own_w hw 28 rfl)) (mvT hZ (own_w hw 29 rfl)) (mvT hZ (own_w hw 30 rfl)) (by decide) (backOf (W := 0) (rm4p l Z a0 hw [] c1 (1 : Int32) (4 : Int32) s1 kk1 T107.heap n0 Zs V_c1 (by decide)) hZ (own_w hw 30 rfl) (own_w hw 29 rfl) (by decide) (by decide)) (g := (mkF m 114 #[.val (.int p0), .val (.int p1), .val (.int p2), .val (.int p3), .val (.int p4), .val (.int (4 : Int32)), .val (.int s1), .val (.int u2), .val (.int s2), .val (.int m9), .val (.ref b105), .val (.ref b106), .val (.ref c0), .val (.ref c1), .val (.ref c2), .val (.ref c3), .unset, .unset] [(.int s1), (.int (4 : Int32)), (.int (1 : Int32)), (.ref c1)])) rfl (by rw [hml]; rfl) (argsL := [(.ref c1), (.int (1 : Int32)), (.int (4 : Int32)), (.int s1)]) (rest := []) (lenOf pd_2 rfl) rfl (by show 2 * 0 + _ ≤ _; exact Nat.le_of_eq rfl) (hb hby at_114) (fun _ _ => ⟨rfl, eq113, (by decide : 8 + 0 ≤ _), (by decide : 275 + 0 ≤ _)⟩)
    dsimp only [Pt.U, Pt.locs, Pt.cells, Pt.slots] at X114 l114 y114 z114 st114 hQ114
    subst l114 y114 z114
    obtain ⟨hv114, Nq114, eq114⟩ := hQ114
    subst hv114
    replace Nf := Fr.app Nf Nq114
    refine own_go (x' := T114.setTop (mkF m 117 #[.val (.int p0), .val (.int p1), .val (.int p2), .val (.int p3), .val (.int p4), .val (.int (4 : Int32)), .val (.int s1), .val (.int u2), .val (.int s2), .val (.int m9), .val (.ref b105), .val (.ref b106), .val (.ref c0), .val (.ref c1), .val (.ref c2), .val (.ref c3), .unset, .unset] [(.int (1 : Int32))])) st114 ?_
    refine own_go (x' := T114.setTop (mkF m 127 #[.val (.int p0), .val (.int p1), .val (.int p2), .val (.int p3), .val (.int p4), .val (.int (4 : Int32)), .val (.int s1), .val (.int u2), .val (.int s2), .val (.int m9), .val (.ref b105), .val (.ref b106), .val (.ref c0), .val (.ref c1), .val (.ref c2), .val (.ref c3), .unset, .unset] [(.int s1), (.int (4 : Int32)), (.int (2 : Int32)), (.ref c2)])) (fun _ k => XS.ifNo X114.here hx rfl (hb hby at_117) rfl ((if0 _ _).trans (feq (by decide +kernel : ¬ ((1 : Int32) = (0 : Int32)))).1) (XS.aload X114.here hx rfl (hb hby at_120) rfl rfl (XS.iconst X114.here hx rfl (hb hby at_122) (XS.iload X114.here hx rfl (hb hby at_123) rfl (XS.iload X114.here hx rfl (hb hby at_125) rfl k))))) ?_
    obtain ⟨_, _, ⟨T115, L115, k115, n115⟩, -, X115, ⟨Lc115, hQ115, l115, y115, z115⟩, st115⟩ := Jvm.LawKit.callS X114 hx (y := (⟨"com/example/wee_match/weematch/WindowsCharsPinLaw", "made", "([CIII)Z"⟩ : MethodName)) hown (mvT hZ (own_w hw 27 rfl)) (mvT hZ (own_w hw 28 rfl)) (mvT hZ (own_w hw 29 rfl)) (mvT hZ (own_w hw 30 rfl)) (by decide) (backOf (W := 0) (rm4p l Z a0 hw [] c2 (2 : Int32) (4 : Int32) s1 kk2 T107.heap n0 Zs V_c2 (by decide)) hZ (own_w hw 30 rfl) (own_w hw 29 rfl) (by decide) (by decide)) (g := (mkF m 127 #[.val (.int p0), .val (.int p1), .val (.int p2), .val (.int p3), .val (.int p4), .val (.int (4 : Int32)), .val (.int s1), .val (.int u2), .val (.int s2), .val (.int m9), .val (.ref b105), .val (.ref b106), .val (.ref c0), .val (.ref c1), .val (.ref c2), .val (.ref c3), .unset, .unset] [(.int s1), (.int (4 : Int32)), (.int (2 : Int32)), (.ref c2)])) rfl (by rw [hml]; rfl) (argsL := [(.ref c2), (.int (2 : Int32)), (.int (4 : Int32)), (.int s1)]) (rest := []) (lenOf pd_2 rfl) rfl (by show 2 * 0 + _ ≤ _; exact Nat.le_of_eq rfl) (hb hby at_127) (fun _ _ => ⟨rfl, eq114, (by decide : 8 + 0 ≤ _), (by decide : 275 + 0 ≤ _)⟩)
    dsimp only [Pt.U, Pt.locs, Pt.cells, Pt.slots] at X115 l115 y115 z115 st115 hQ115
    subst l115 y115 z115
    obtain ⟨hv115, Nq115, eq115⟩ := hQ115
    subst hv115
    replace Nf := Fr.app Nf Nq115
    refine own_go (x' := T115.setTop (mkF m 130 #[.val (.int p0), .val (.int p1), .val (.int p2), .val (.int p3), .val (.int p4), .val (.int (4 : Int32)), .val (.int s1), .val (.int u2), .val (.int s2), .val (.int m9), .val (.ref b105), .val (.ref b106), .val (.ref c0), .val (.ref c1), .val (.ref c2), .val (.ref c3), .unset, .unset] [(.int (1 : Int32))])) st115 ?_
    refine own_go (x' := T115.setTop (mkF m 140 #[.val (.int p0), .val (.int p1), .val (.int p2), .val (.int p3), .val (.int p4), .val (.int (4 : Int32)), .val (.int s1), .val (.int u2), .val (.int s2), .val (.int m9), .val (.ref b105), .val (.ref b106), .val (.ref c0), .val (.ref c1), .val (.ref c2), .val (.ref c3), .unset, .unset] [(.int s1), (.int (4 : Int32)), (.int (3 : Int32)), (.ref c3)])) (fun _ k => XS.ifNo X115.here hx rfl (hb hby at_130) rfl ((if0 _ _).trans (feq (by decide +kernel : ¬ ((1 : Int32) = (0 : Int32)))).1) (XS.aload X115.here hx rfl (hb hby at_133) rfl rfl (XS.iconst X115.here hx rfl (hb hby at_135) (XS.iload X115.here hx rfl (hb hby at_136) rfl (XS.iload X115.here hx rfl (hb hby at_138) rfl k))))) ?_
    obtain ⟨_, _, ⟨T116, L116, k116, n116⟩, -, X116, ⟨Lc116, hQ116, l116, y116, z116⟩, st116⟩ := Jvm.LawKit.callS X115 hx (y := (⟨"com/example/wee_match/weematch/WindowsCharsPinLaw", "made", "([CIII)Z"⟩ : MethodName)) hown (mvT hZ (own_w hw 27 rfl)) (mvT hZ (own_w hw 28 rfl)) (mvT hZ (own_w hw 29 rfl)) (mvT hZ (own_w hw 30 rfl)) (by decide) (backOf (W := 0) (rm4p l Z a0 hw [] c3 (3 : Int32) (4 : Int32) s1 kk3 T107.heap n0 Zs V_c3 (by decide)) hZ (own_w hw 30 rfl) (own_w hw 29 rfl) (by decide) (by decide)) (g := (mkF m 140 #[.val (.int p0), .val (.int p1), .val (.int p2), .val (.int p3), .val (.int p4), .val (.int (4 : Int32)), .val (.int s1), .val (.int u2), .val (.int s2), .val (.int m9), .val (.ref b105), .val (.ref b106), .val (.ref c0), .val (.ref c1), .val (.ref c2), .val (.ref c3), .unset, .unset] [(.int s1), (.int (4 : Int32)), (.int (3 : Int32)), (.ref c3)])) rfl (by rw [hml]; rfl) (argsL := [(.ref c3), (.int (3 : Int32)), (.int (4 : Int32)), (.int s1)]) (rest := []) (lenOf pd_2 rfl) rfl (by show 2 * 0 + _ ≤ _; exact Nat.le_of_eq rfl) (hb hby at_140) (fun _ _ => ⟨rfl, eq115, (by decide : 8 + 0 ≤ _), (by decide : 275 + 0 ≤ _)⟩)
    dsimp only [Pt.U, Pt.locs, Pt.cells, Pt.slots] at X116 l116 y116 z116 st116 hQ116
    subst l116 y116 z116
    obtain ⟨hv116, Nq116, eq116⟩ := hQ116
    subst hv116
    replace Nf := Fr.app Nf Nq116
    refine own_go (x' := T116.setTop (mkF m 143 #[.val (.int p0), .val (.int p1), .val (.int p2), .val (.int p3), .val (.int p4), .val (.int (4 : Int32)), .val (.int s1), .val (.int u2), .val (.int s2), .val (.int m9), .val (.ref b105), .val (.ref b106), .val (.ref c0), .val (.ref c1), .val (.ref c2), .val (.ref c3), .unset, .unset] [(.int (1 : Int32))])) st116 ?_
    refine own_go (x' := T116.setTop (mkF m 157 #[.val (.int p0), .val (.int p1), .val (.int p2), .val (.int p3), .val (.int p4), .val (.int (4 : Int32)), .val (.int s1), .val (.int u2), .val (.int s2), .val (.int m9), .val (.ref b105), .val (.ref b106), .val (.ref c0), .val (.ref c1), .val (.ref c2), .val (.ref c3), .val (.int (1 : Int32)), .unset] [(.int m9), (.ref c0)])) (fun _ k => XS.ifNo X116.here hx rfl (hb hby at_143) rfl ((if0 _ _).trans (feq (by decide +kernel : ¬ ((1 : Int32) = (0 : Int32)))).1) (XS.iconst X116.here hx rfl (hb hby at_146) (XS.goto X116.here hx rfl (pc0 := 147) (pc' := 151) rfl (hb hby at_147) (by decide) (by decide) (XS.istore X116.here hx rfl (hb hby at_151) rfl (l' := #[.val (.int p0), .val (.int p1), .val (.int p2), .val (.int p3), .val (.int p4), .val (.int (4 : Int32)), .val (.int s1), .val (.int u2), .val (.int s2), .val (.int m9), .val (.ref b105), .val (.ref b106), .val (.ref c0), .val (.ref c1), .val (.ref c2), .val (.ref c3), .val (.int (1 : Int32)), .unset]) rfl (XS.aload X116.here hx rfl (hb hby at_153) rfl rfl (XS.iload X116.here hx rfl (hb hby at_155) rfl k)))))) ?_
    obtain ⟨_, _, ⟨T117, L117, k117, n117⟩, -, X117, ⟨Lc117, hQ117, l117, y117, z117⟩, st117⟩ := Jvm.LawKit.callS X116 hx (y := (⟨"com/example/wee_match/weematch/WindowsCharsPinLaw", "stamp", "([CC)V"⟩ : MethodName)) hown (mvT hZ (own_w hw 31 rfl)) (mvT hZ (own_w hw 32 rfl)) (mvT hZ (own_w hw 29 rfl)) (mvT hZ (own_w hw 33 rfl)) (by decide) (backOf (W := 0) (rm5p l Z a0 hw [] c0 m9 s1 kk0 T107.heap n0 Zs V_c0 g_c0 hm9) hZ (own_w hw 33 rfl) (own_w hw 29 rfl) (by decide) (by decide)) (g := (mkF m 157 #[.val (.int p0), .val (.int p1), .val (.int p2), .val (.int p3), .val (.int p4), .val (.int (4 : Int32)), .val (.int s1), .val (.int u2), .val (.int s2), .val (.int m9), .val (.ref b105), .val (.ref b106), .val (.ref c0), .val (.ref c1), .val (.ref c2), .val (.ref c3), .val (.int (1 : Int32)), .unset] [(.int m9), (.ref c0)])) rfl (by rw [hml]; rfl) (argsL := [(.ref c0), (.int m9)]) (rest := []) (lenOf pd_3 rfl) rfl (by show 2 * 0 + _ ≤ _; exact Nat.le_of_eq rfl) (hb hby at_157) (fun _ _ => ⟨rfl, eq116, (by decide : 8 + 0 ≤ _), (by decide : 275 + 0 ≤ _)⟩)
    dsimp only [Pt.U, Pt.locs, Pt.cells, Pt.slots] at X117 l117 y117 z117 st117 hQ117
    subst l117 y117 z117
    obtain ⟨hv117, Nq117, K117, Vn117⟩ := hQ117
    subst hv117
    replace Nf := Fr.app Nf Nq117
    replace E_b105 := E_b105.keep K117
    replace F_b105_chars := F_b105_chars.keep K117 (ninS ne_b105_c0 nin0)
    replace V_b106 := V_b106.keep K117 (ninS (Ne.symm ne_c0_b106) nin0)
    replace V_c1 := V_c1.keep K117 (ninS (Ne.symm ne_c0_c1) nin0)
    replace V_c2 := V_c2.keep K117 (ninS (Ne.symm ne_c0_c2) nin0)
    replace V_c3 := V_c3.keep K117 (ninS (Ne.symm ne_c0_c3) nin0)
    replace Zs := Nat.le_trans Zs K117.1
    replace V_c0 := Vn117
    refine own_go (x' := T117.setTop (mkF m 160 #[.val (.int p0), .val (.int p1), .val (.int p2), .val (.int p3), .val (.int p4), .val (.int (4 : Int32)), .val (.int s1), .val (.int u2), .val (.int s2), .val (.int m9), .val (.ref b105), .val (.ref b106), .val (.ref c0), .val (.ref c1), .val (.ref c2), .val (.ref c3), .val (.int (1 : Int32)), .unset] [])) st117 ?_
    refine own_go (x' := T117.setTop (mkF m 164 #[.val (.int p0), .val (.int p1), .val (.int p2), .val (.int p3), .val (.int p4), .val (.int (4 : Int32)), .val (.int s1), .val (.int u2), .val (.int s2), .val (.int m9), .val (.ref b105), .val (.ref b106), .val (.ref c0), .val (.ref c1), .val (.ref c2), .val (.ref c3), .val (.int (1 : Int32)), .unset] [(.int m9), (.ref c1)])) (fun _ k => XS.aload X117.here hx rfl (hb hby at_160) rfl rfl (XS.iload X117.here hx rfl (hb hby at_162) rfl k)) ?_
    obtain ⟨_, _, ⟨T118, L118, k118, n118⟩, -, X118, ⟨Lc118, hQ118, l118, y118, z118⟩, st118⟩ := Jvm.LawKit.callS X117 hx (y := (⟨"com/example/wee_match/weematch/WindowsCharsPinLaw", "stamp", "([CC)V"⟩ : MethodName)) hown (mvT hZ (own_w hw 31 rfl)) (mvT hZ (own_w hw 32 rfl)) (mvT hZ (own_w hw 29 rfl)) (mvT hZ (own_w hw 33 rfl)) (by decide) (backOf (W := 0) (rm5p l Z a0 hw [] c1 m9 s1 kk1 T117.heap n0 Zs V_c1 g_c1 hm9) hZ (own_w hw 33 rfl) (own_w hw 29 rfl) (by decide) (by decide)) (g := (mkF m 164 #[.val (.int p0), .val (.int p1), .val (.int p2), .val (.int p3), .val (.int p4), .val (.int (4 : Int32)), .val (.int s1), .val (.int u2), .val (.int s2), .val (.int m9), .val (.ref b105), .val (.ref b106), .val (.ref c0), .val (.ref c1), .val (.ref c2), .val (.ref c3), .val (.int (1 : Int32)), .unset] [(.int m9), (.ref c1)])) rfl (by rw [hml]; rfl) (argsL := [(.ref c1), (.int m9)]) (rest := []) (lenOf pd_3 rfl) rfl (by show 2 * 0 + _ ≤ _; exact Nat.le_of_eq rfl) (hb hby at_164) (fun _ _ => ⟨rfl, rfl, (by decide : 8 + 0 ≤ _), (by decide : 275 + 0 ≤ _)⟩)
    dsimp only [Pt.U, Pt.locs, Pt.cells, Pt.slots] at X118 l118 y118 z118 st118 hQ118
    subst l118 y118 z118
    obtain ⟨hv118, Nq118, K118, Vn118⟩ := hQ118
    subst hv118
    replace Nf := Fr.app Nf Nq118
    replace E_b105 := E_b105.keep K118
    replace F_b105_chars := F_b105_chars.keep K118 (ninS ne_b105_c1 nin0)
    replace V_b106 := V_b106.keep K118 (ninS (Ne.symm ne_c1_b106) nin0)
    replace V_c0 := V_c0.keep K118 (ninS ne_c0_c1 nin0)
    replace V_c2 := V_c2.keep K118 (ninS (Ne.symm ne_c1_c2) nin0)
    replace V_c3 := V_c3.keep K118 (ninS (Ne.symm ne_c1_c3) nin0)
    replace Zs := Nat.le_trans Zs K118.1
    replace V_c1 := Vn118
    refine own_go (x' := T118.setTop (mkF m 167 #[.val (.int p0), .val (.int p1), .val (.int p2), .val (.int p3), .val (.int p4), .val (.int (4 : Int32)), .val (.int s1), .val (.int u2), .val (.int s2), .val (.int m9), .val (.ref b105), .val (.ref b106), .val (.ref c0), .val (.ref c1), .val (.ref c2), .val (.ref c3), .val (.int (1 : Int32)), .unset] [])) st118 ?_
    refine own_go (x' := T118.setTop (mkF m 171 #[.val (.int p0), .val (.int p1), .val (.int p2), .val (.int p3), .val (.int p4), .val (.int (4 : Int32)), .val (.int s1), .val (.int u2), .val (.int s2), .val (.int m9), .val (.ref b105), .val (.ref b106), .val (.ref c0), .val (.ref c1), .val (.ref c2), .val (.ref c3), .val (.int (1 : Int32)), .unset] [(.int m9), (.ref c2)])) (fun _ k => XS.aload X118.here hx rfl (hb hby at_167) rfl rfl (XS.iload X118.here hx rfl (hb hby at_169) rfl k)) ?_
    obtain ⟨_, _, ⟨T119, L119, k119, n119⟩, -, X119, ⟨Lc119, hQ119, l119, y119, z119⟩, st119⟩ := Jvm.LawKit.callS X118 hx (y := (⟨"com/example/wee_match/weematch/WindowsCharsPinLaw", "stamp", "([CC)V"⟩ : MethodName)) hown (mvT hZ (own_w hw 31 rfl)) (mvT hZ (own_w hw 32 rfl)) (mvT hZ (own_w hw 29 rfl)) (mvT hZ (own_w hw 33 rfl)) (by decide) (backOf (W := 0) (rm5p l Z a0 hw [] c2 m9 s1 kk2 T118.heap n0 Zs V_c2 g_c2 hm9) hZ (own_w hw 33 rfl) (own_w hw 29 rfl) (by decide) (by decide)) (g := (mkF m 171 #[.val (.int p0), .val (.int p1), .val (.int p2), .val (.int p3), .val (.int p4), .val (.int (4 : Int32)), .val (.int s1), .val (.int u2), .val (.int s2), .val (.int m9), .val (.ref b105), .val (.ref b106), .val (.ref c0), .val (.ref c1), .val (.ref c2), .val (.ref c3), .val (.int (1 : Int32)), .unset] [(.int m9), (.ref c2)])) rfl (by rw [hml]; rfl) (argsL := [(.ref c2), (.int m9)]) (rest := []) (lenOf pd_3 rfl) rfl (by show 2 * 0 + _ ≤ _; exact Nat.le_of_eq rfl) (hb hby at_171) (fun _ _ => ⟨rfl, rfl, (by decide : 8 + 0 ≤ _), (by decide : 275 + 0 ≤ _)⟩)
    dsimp only [Pt.U, Pt.locs, Pt.cells, Pt.slots] at X119 l119 y119 z119 st119 hQ119
    subst l119 y119 z119
    obtain ⟨hv119, Nq119, K119, Vn119⟩ := hQ119
    subst hv119
    replace Nf := Fr.app Nf Nq119
    replace E_b105 := E_b105.keep K119
    replace F_b105_chars := F_b105_chars.keep K119 (ninS ne_b105_c2 nin0)
    replace V_b106 := V_b106.keep K119 (ninS (Ne.symm ne_c2_b106) nin0)
    replace V_c0 := V_c0.keep K119 (ninS ne_c0_c2 nin0)
    replace V_c1 := V_c1.keep K119 (ninS ne_c1_c2 nin0)
    replace V_c3 := V_c3.keep K119 (ninS (Ne.symm ne_c2_c3) nin0)
    replace Zs := Nat.le_trans Zs K119.1
    replace V_c2 := Vn119
    refine own_go (x' := T119.setTop (mkF m 174 #[.val (.int p0), .val (.int p1), .val (.int p2), .val (.int p3), .val (.int p4), .val (.int (4 : Int32)), .val (.int s1), .val (.int u2), .val (.int s2), .val (.int m9), .val (.ref b105), .val (.ref b106), .val (.ref c0), .val (.ref c1), .val (.ref c2), .val (.ref c3), .val (.int (1 : Int32)), .unset] [])) st119 ?_
    refine own_go (x' := T119.setTop (mkF m 178 #[.val (.int p0), .val (.int p1), .val (.int p2), .val (.int p3), .val (.int p4), .val (.int (4 : Int32)), .val (.int s1), .val (.int u2), .val (.int s2), .val (.int m9), .val (.ref b105), .val (.ref b106), .val (.ref c0), .val (.ref c1), .val (.ref c2), .val (.ref c3), .val (.int (1 : Int32)), .unset] [(.int m9), (.ref c3)])) (fun _ k => XS.aload X119.here hx rfl (hb hby at_174) rfl rfl (XS.iload X119.here hx rfl (hb hby at_176) rfl k)) ?_
    obtain ⟨_, _, ⟨T120, L120, k120, n120⟩, -, X120, ⟨Lc120, hQ120, l120, y120, z120⟩, st120⟩ := Jvm.LawKit.callS X119 hx (y := (⟨"com/example/wee_match/weematch/WindowsCharsPinLaw", "stamp", "([CC)V"⟩ : MethodName)) hown (mvT hZ (own_w hw 31 rfl)) (mvT hZ (own_w hw 32 rfl)) (mvT hZ (own_w hw 29 rfl)) (mvT hZ (own_w hw 33 rfl)) (by decide) (backOf (W := 0) (rm5p l Z a0 hw [] c3 m9 s1 kk3 T119.heap n0 Zs V_c3 g_c3 hm9) hZ (own_w hw 33 rfl) (own_w hw 29 rfl) (by decide) (by decide)) (g := (mkF m 178 #[.val (.int p0), .val (.int p1), .val (.int p2), .val (.int p3), .val (.int p4), .val (.int (4 : Int32)), .val (.int s1), .val (.int u2), .val (.int s2), .val (.int m9), .val (.ref b105), .val (.ref b106), .val (.ref c0), .val (.ref c1), .val (.ref c2), .val (.ref c3), .val (.int (1 : Int32)), .unset] [(.int m9), (.ref c3)])) rfl (by rw [hml]; rfl) (argsL := [(.ref c3), (.int m9)]) (rest := []) (lenOf pd_3 rfl) rfl (by show 2 * 0 + _ ≤ _; exact Nat.le_of_eq rfl) (hb hby at_178) (fun _ _ => ⟨rfl, rfl, (by decide : 8 + 0 ≤ _), (by decide : 275 + 0 ≤ _)⟩)
    dsimp only [Pt.U, Pt.locs, Pt.cells, Pt.slots] at X120 l120 y120 z120 st120 hQ120
    subst l120 y120 z120
    obtain ⟨hv120, Nq120, K120, Vn120⟩ := hQ120
    subst hv120
    replace Nf := Fr.app Nf Nq120
    replace E_b105 := E_b105.keep K120
    replace F_b105_chars := F_b105_chars.keep K120 (ninS ne_b105_c3 nin0)
    replace V_b106 := V_b106.keep K120 (ninS (Ne.symm ne_c3_b106) nin0)
    replace V_c0 := V_c0.keep K120 (ninS ne_c0_c3 nin0)
    replace V_c1 := V_c1.keep K120 (ninS ne_c1_c3 nin0)
    replace V_c2 := V_c2.keep K120 (ninS ne_c2_c3 nin0)
    replace Zs := Nat.le_trans Zs K120.1
    replace V_c3 := Vn120
    refine own_go (x' := T120.setTop (mkF m 181 #[.val (.int p0), .val (.int p1), .val (.int p2), .val (.int p3), .val (.int p4), .val (.int (4 : Int32)), .val (.int s1), .val (.int u2), .val (.int s2), .val (.int m9), .val (.ref b105), .val (.ref b106), .val (.ref c0), .val (.ref c1), .val (.ref c2), .val (.ref c3), .val (.int (1 : Int32)), .unset] [])) st120 ?_
    refine own_go (x' := T120.setTop (mkF m 187 #[.val (.int p0), .val (.int p1), .val (.int p2), .val (.int p3), .val (.int p4), .val (.int (4 : Int32)), .val (.int s1), .val (.int u2), .val (.int s2), .val (.int m9), .val (.ref b105), .val (.ref b106), .val (.ref c0), .val (.ref c1), .val (.ref c2), .val (.ref c3), .val (.int (1 : Int32)), .unset] [(.int s2), (.int u2), (.ref b105)])) (fun _ k => XS.aload X120.here hx rfl (hb hby at_181) rfl rfl (XS.iload X120.here hx rfl (hb hby at_183) rfl (XS.iload X120.here hx rfl (hb hby at_185) rfl k))) ?_
    obtain ⟨cq121, kq121, q121a, q121b, q121c⟩ := isOf hZ rfl E_b105
    obtain ⟨_, _, ⟨T121, L121, k121, n121⟩, -, X121, ⟨Lc121, hQ121, l121, y121, z121⟩, st121⟩ := X120.virtualBack hx (y := (⟨"com/example/wee_match/weematch/Sieve$Windows", "chars", "(II)[[C"⟩ : MethodName)) (z := (⟨"com/example/wee_match/weematch/Sieve$Windows", "chars", "(II)[[C"⟩ : MethodName)) hown (mvT hZ (own_w hw 22 rfl)) (mvT hZ (own_w hw 23 rfl)) (notFace_of_selects (args := #[]) (mvT hZ (own_w hw 25 rfl))) (mvT hZ (own_w hw 25 rfl)) (mvT hZ (own_w hw 24 rfl)) (by decide) (backOf (W := 0) (rmS_4 l Z a0 hw [] b105 u2 s2 b106 kc106 s1 m9 c0 kk0 c1 kk1 c2 kk2 c3 kk3 T120.heap n0 Zs F_b105_chars V_b106 O_b106 ne_b105_b106 g_b106 hs2 hu2 V_c0 V_c1 V_c2 V_c3 ne_c0_b106 ne_c1_b106 ne_c2_b106 ne_c3_b106) hZ (own_w hw 26 rfl) (own_w hw 4 rfl) (by decide) (by decide)) q121a q121c (g := (mkF m 187 #[.val (.int p0), .val (.int p1), .val (.int p2), .val (.int p3), .val (.int p4), .val (.int (4 : Int32)), .val (.int s1), .val (.int u2), .val (.int s2), .val (.int m9), .val (.ref b105), .val (.ref b106), .val (.ref c0), .val (.ref c1), .val (.ref c2), .val (.ref c3), .val (.int (1 : Int32)), .unset] [(.int s2), (.int u2), (.ref b105)])) rfl (by rw [hml]; rfl) (Steps.refl _) (argsL := [(.int u2), (.int s2)]) (rest := []) (lenOf pd_1 rfl) rfl (by show 2 * 0 + _ ≤ _; exact Nat.le_of_eq rfl) (hb hby at_187) (fun _ _ => ⟨rfl, rfl, (by decide : 8 + 4 ≤ _), (by decide : 275 + 124 ≤ _)⟩)
    dsimp only [Pt.U, Pt.locs, Pt.cells, Pt.slots] at X121 l121 y121 z121 st121 hQ121
    subst l121 y121 z121
    obtain ⟨w0, w1, w2, w3, hv121, Nq121, K121, Vn121, R0, R1, R2, R3⟩ := hQ121
    subst hv121
    replace Nf := Fr.app Nf Nq121
    have lt_c0 := V_c0.lt
    have lt_c1 := V_c1.lt
    have lt_c2 := V_c2.lt
    have lt_c3 := V_c3.lt
    have r_w0 := R0.ref.1
    have c_w0 := R0.ref.2
    have r_w1 := R1.ref.1
    have c_w1 := R1.ref.2
    have r_w2 := R2.ref.1
    have c_w2 := R2.ref.2
    have r_w3 := R3.ref.1
    have c_w3 := R3.ref.2
    replace E_b105 := E_b105.keep K121
    replace V_c0 := V_c0.keep K121 (ninS ne_c0_b106 nin0)
    replace V_c1 := V_c1.keep K121 (ninS ne_c1_b106 nin0)
    replace V_c2 := V_c2.keep K121 (ninS ne_c2_b106 nin0)
    replace V_c3 := V_c3.keep K121 (ninS ne_c3_b106 nin0)
    replace Zs := Nat.le_trans Zs K121.1
    replace V_b106 := Vn121
    refine own_go (x' := T121.setTop (mkF m 190 #[.val (.int p0), .val (.int p1), .val (.int p2), .val (.int p3), .val (.int p4), .val (.int (4 : Int32)), .val (.int s1), .val (.int u2), .val (.int s2), .val (.int m9), .val (.ref b105), .val (.ref b106), .val (.ref c0), .val (.ref c1), .val (.ref c2), .val (.ref c3), .val (.int (1 : Int32)), .unset] [(.ref b106)])) (fun _ k => st121.trans k) ?_
    refine own_go (x' := T121.setTop (mkF m 199 #[.val (.int p0), .val (.int p1), .val (.int p2), .val (.int p3), .val (.int p4), .val (.int (4 : Int32)), .val (.int s1), .val (.int u2), .val (.int s2), .val (.int m9), .val (.ref b105), .val (.ref b106), .val (.ref c0), .val (.ref c1), .val (.ref c2), .val (.ref c3), .val (.int (1 : Int32)), .val (.ref b106)] [(.ref b106)])) (fun _ k => XS.astore X121.here hx rfl (hb hby at_190) rfl rfl (l' := #[.val (.int p0), .val (.int p1), .val (.int p2), .val (.int p3), .val (.int p4), .val (.int (4 : Int32)), .val (.int s1), .val (.int u2), .val (.int s2), .val (.int m9), .val (.ref b105), .val (.ref b106), .val (.ref c0), .val (.ref c1), .val (.ref c2), .val (.ref c3), .val (.int (1 : Int32)), .val (.ref b106)]) rfl (XS.aload X121.here hx rfl (hb hby at_192) rfl rfl (XS.ifnullNo X121.here hx rfl (hb hby at_194) rfl (XS.aload X121.here hx rfl (hb hby at_197) rfl rfl k)))) ?_
    obtain ⟨cl122, Ar122, -, Sz122, Nn122, -, -⟩ := id V_b106
    refine own_go (x' := T121.setTop (mkF m 200 #[.val (.int p0), .val (.int p1), .val (.int p2), .val (.int p3), .val (.int p4), .val (.int (4 : Int32)), .val (.int s1), .val (.int u2), .val (.int s2), .val (.int m9), .val (.ref b105), .val (.ref b106), .val (.ref c0), .val (.ref c1), .val (.ref c2), .val (.ref c3), .val (.int (1 : Int32)), .val (.ref b106)] [(.int (4 : Int32))])) (fun t k => X121.arraylength hx (Eq.trans (congrArg (fun h_ => h_[_]?) rfl) Ar122.1) (State.isArrayOf_alike hZ.alike Ar122.2.1) (g := (mkF m 199 #[.val (.int p0), .val (.int p1), .val (.int p2), .val (.int p3), .val (.int p4), .val (.int (4 : Int32)), .val (.int s1), .val (.int u2), .val (.int s2), .val (.int m9), .val (.ref b105), .val (.ref b106), .val (.ref c0), .val (.ref c1), .val (.ref c2), .val (.ref c3), .val (.int (1 : Int32)), .val (.ref b106)] [(.ref b106)])) rfl rfl (hb hby at_199) t (by rw [len_of Sz122 Nn122]; exact k)) ?_
    refine own_go (x' := T121.setTop (mkF m 215 #[.val (.int p0), .val (.int p1), .val (.int p2), .val (.int p3), .val (.int p4), .val (.int (4 : Int32)), .val (.int s1), .val (.int u2), .val (.int s2), .val (.int m9), .val (.ref b105), .val (.ref b106), .val (.ref c0), .val (.ref c1), .val (.ref c2), .val (.ref c3), .val (.int (1 : Int32)), .val (.ref b106)] [(.ref b106), (.ref c0)])) (fun _ k => XS.iconst X121.here hx rfl (hb hby at_200) (XS.icmpYes X121.here hx rfl (pc0 := 201) (pc' := 206) rfl (hb hby at_201) rfl (teq rfl).1 (by decide) (by decide) (XS.iload X121.here hx rfl (hb hby at_206) rfl (XS.ifNo X121.here hx rfl (hb hby at_208) rfl ((if0 _ _).trans (feq (by decide +kernel : ¬ ((1 : Int32) = (0 : Int32)))).1) (XS.aload X121.here hx rfl (hb hby at_211) rfl rfl (XS.aload X121.here hx rfl (hb hby at_213) rfl rfl k)))))) ?_
    refine own_go (x' := T121.setTop (mkF m 216 #[.val (.int p0), .val (.int p1), .val (.int p2), .val (.int p3), .val (.int p4), .val (.int (4 : Int32)), .val (.int s1), .val (.int u2), .val (.int s2), .val (.int m9), .val (.ref b105), .val (.ref b106), .val (.ref c0), .val (.ref c1), .val (.ref c2), .val (.ref c3), .val (.int (1 : Int32)), .val (.ref b106)] [(.int (0 : Int32)), (.ref b106), (.ref c0)])) (fun _ k => XS.iconst X121.here hx rfl (hb hby at_215) k) ?_
    obtain ⟨cl123, Ar123, q123, Sz123, Nn123, Hh123, Gg123⟩ := id V_b106
    have hin123 : ¬ ((0 : Int32) < 0 ∨ cl123.slots.size ≤ ((0 : Int32)).toNatClampNeg) := inb_of Sz123 ⟨by decide, by decide⟩
    refine own_go (x' := T121.setTop (mkF m 217 #[.val (.int p0), .val (.int p1), .val (.int p2), .val (.int p3), .val (.int p4), .val (.int (4 : Int32)), .val (.int s1), .val (.int u2), .val (.int s2), .val (.int m9), .val (.ref b105), .val (.ref b106), .val (.ref c0), .val (.ref c1), .val (.ref c2), .val (.ref c3), .val (.int (1 : Int32)), .val (.ref b106)] [w0, (.ref c0)])) (X121.aaload hx (j := (0 : Int32)) (v := w0) (Eq.trans (congrArg (fun h_ => h_[_]?) rfl) Ar123.1) (State.isArrayOf_alike hZ.alike Ar123.2.1) rfl Ar123.2.2 hin123 (Hh123.at hin123 rfl) (g := (mkF m 216 #[.val (.int p0), .val (.int p1), .val (.int p2), .val (.int p3), .val (.int p4), .val (.int (4 : Int32)), .val (.int s1), .val (.int u2), .val (.int s2), .val (.int m9), .val (.ref b105), .val (.ref b106), .val (.ref c0), .val (.ref c1), .val (.ref c2), .val (.ref c3), .val (.int (1 : Int32)), .val (.ref b106)] [(.int (0 : Int32)), (.ref b106), (.ref c0)])) rfl rfl (hb hby at_216)) ?_
    refine own_go (x' := T121.setTop (mkF m 224 #[.val (.int p0), .val (.int p1), .val (.int p2), .val (.int p3), .val (.int p4), .val (.int (4 : Int32)), .val (.int s1), .val (.int u2), .val (.int s2), .val (.int m9), .val (.ref b105), .val (.ref b106), .val (.ref c0), .val (.ref c1), .val (.ref c2), .val (.ref c3), .val (.int (1 : Int32)), .val (.ref b106)] [(.int m9), (.int s2), (.int u2), (.int (0 : Int32)), w0, (.ref c0)])) (fun _ k => XS.iconst X121.here hx rfl (hb hby at_217) (XS.iload X121.here hx rfl (hb hby at_218) rfl (XS.iload X121.here hx rfl (hb hby at_220) rfl (XS.iload X121.here hx rfl (hb hby at_222) rfl k)))) ?_
    obtain ⟨_, _, ⟨T124, L124, k124, n124⟩, -, X124, ⟨Lc124, hQ124, l124, y124, z124⟩, st124⟩ := Jvm.LawKit.callS X121 hx (y := (⟨"com/example/wee_match/weematch/WindowsCharsPinLaw", "after", "([C[CIIIC)Z"⟩ : MethodName)) hown (mvT hZ (own_w hw 36 rfl)) (mvT hZ (own_w hw 37 rfl)) (mvT hZ (own_w hw 29 rfl)) (mvT hZ (own_w hw 38 rfl)) (by decide) (backOf (W := 0) (rm6p l Z a0 hw [] c0 w0 (0 : Int32) u2 s1 s2 m9 kk0 _ T121.heap n0 Zs V_c0 lt_c0 R0) hZ (own_w hw 38 rfl) (own_w hw 29 rfl) (by decide) (by decide)) (g := (mkF m 224 #[.val (.int p0), .val (.int p1), .val (.int p2), .val (.int p3), .val (.int p4), .val (.int (4 : Int32)), .val (.int s1), .val (.int u2), .val (.int s2), .val (.int m9), .val (.ref b105), .val (.ref b106), .val (.ref c0), .val (.ref c1), .val (.ref c2), .val (.ref c3), .val (.int (1 : Int32)), .val (.ref b106)] [(.int m9), (.int s2), (.int u2), (.int (0 : Int32)), w0, (.ref c0)])) rfl (by rw [hml]; rfl) (argsL := [(.ref c0), w0, (.int (0 : Int32)), (.int u2), (.int s2), (.int m9)]) (rest := []) (lenOf pd_4 rfl) rfl (by show 2 * 0 + _ ≤ _; exact Nat.le_of_eq rfl) (hb hby at_224) (fun _ _ => ⟨rfl, rfl, (by decide : 12 + 0 ≤ _), (by decide : 399 + 0 ≤ _)⟩)
    dsimp only [Pt.U, Pt.locs, Pt.cells, Pt.slots] at X124 l124 y124 z124 st124 hQ124
    subst l124 y124 z124
    obtain ⟨hv124, Nq124, eq124⟩ := hQ124
    subst hv124
    replace Nf := Fr.app Nf Nq124
    refine own_go (x' := T124.setTop (mkF m 227 #[.val (.int p0), .val (.int p1), .val (.int p2), .val (.int p3), .val (.int p4), .val (.int (4 : Int32)), .val (.int s1), .val (.int u2), .val (.int s2), .val (.int m9), .val (.ref b105), .val (.ref b106), .val (.ref c0), .val (.ref c1), .val (.ref c2), .val (.ref c3), .val (.int (1 : Int32)), .val (.ref b106)] [(.int (1 : Int32))])) st124 ?_
    refine own_go (x' := T124.setTop (mkF m 235 #[.val (.int p0), .val (.int p1), .val (.int p2), .val (.int p3), .val (.int p4), .val (.int (4 : Int32)), .val (.int s1), .val (.int u2), .val (.int s2), .val (.int m9), .val (.ref b105), .val (.ref b106), .val (.ref c0), .val (.ref c1), .val (.ref c2), .val (.ref c3), .val (.int (1 : Int32)), .val (.ref b106)] [(.int (1 : Int32)), (.ref b106), (.ref c1)])) (fun _ k => XS.ifNo X124.here hx rfl (hb hby at_227) rfl ((if0 _ _).trans (feq (by decide +kernel : ¬ ((1 : Int32) = (0 : Int32)))).1) (XS.aload X124.here hx rfl (hb hby at_230) rfl rfl (XS.aload X124.here hx rfl (hb hby at_232) rfl rfl (XS.iconst X124.here hx rfl (hb hby at_234) k)))) ?_
    obtain ⟨cl125, Ar125, q125, Sz125, Nn125, Hh125, Gg125⟩ := id V_b106
    have hin125 : ¬ ((1 : Int32) < 0 ∨ cl125.slots.size ≤ ((1 : Int32)).toNatClampNeg) := inb_of Sz125 ⟨by decide, by decide⟩
    refine own_go (x' := T124.setTop (mkF m 236 #[.val (.int p0), .val (.int p1), .val (.int p2), .val (.int p3), .val (.int p4), .val (.int (4 : Int32)), .val (.int s1), .val (.int u2), .val (.int s2), .val (.int m9), .val (.ref b105), .val (.ref b106), .val (.ref c0), .val (.ref c1), .val (.ref c2), .val (.ref c3), .val (.int (1 : Int32)), .val (.ref b106)] [w1, (.ref c1)])) (X124.aaload hx (j := (1 : Int32)) (v := w1) (Eq.trans (congrArg (fun h_ => h_[_]?) eq124) Ar125.1) (State.isArrayOf_alike hZ.alike Ar125.2.1) rfl Ar125.2.2 hin125 (Hh125.at hin125 rfl) (g := (mkF m 235 #[.val (.int p0), .val (.int p1), .val (.int p2), .val (.int p3), .val (.int p4), .val (.int (4 : Int32)), .val (.int s1), .val (.int u2), .val (.int s2), .val (.int m9), .val (.ref b105), .val (.ref b106), .val (.ref c0), .val (.ref c1), .val (.ref c2), .val (.ref c3), .val (.int (1 : Int32)), .val (.ref b106)] [(.int (1 : Int32)), (.ref b106), (.ref c1)])) rfl rfl (hb hby at_235)) ?_
    refine own_go (x' := T124.setTop (mkF m 243 #[.val (.int p0), .val (.int p1), .val (.int p2), .val (.int p3), .val (.int p4), .val (.int (4 : Int32)), .val (.int s1), .val (.int u2), .val (.int s2), .val (.int m9), .val (.ref b105), .val (.ref b106), .val (.ref c0), .val (.ref c1), .val (.ref c2), .val (.ref c3), .val (.int (1 : Int32)), .val (.ref b106)] [(.int m9), (.int s2), (.int u2), (.int (1 : Int32)), w1, (.ref c1)])) (fun _ k => XS.iconst X124.here hx rfl (hb hby at_236) (XS.iload X124.here hx rfl (hb hby at_237) rfl (XS.iload X124.here hx rfl (hb hby at_239) rfl (XS.iload X124.here hx rfl (hb hby at_241) rfl k)))) ?_
    obtain ⟨_, _, ⟨T126, L126, k126, n126⟩, -, X126, ⟨Lc126, hQ126, l126, y126, z126⟩, st126⟩ := Jvm.LawKit.callS X124 hx (y := (⟨"com/example/wee_match/weematch/WindowsCharsPinLaw", "after", "([C[CIIIC)Z"⟩ : MethodName)) hown (mvT hZ (own_w hw 36 rfl)) (mvT hZ (own_w hw 37 rfl)) (mvT hZ (own_w hw 29 rfl)) (mvT hZ (own_w hw 38 rfl)) (by decide) (backOf (W := 0) (rm6p l Z a0 hw [] c1 w1 (1 : Int32) u2 s1 s2 m9 kk1 _ T121.heap n0 Zs V_c1 lt_c1 R1) hZ (own_w hw 38 rfl) (own_w hw 29 rfl) (by decide) (by decide)) (g := (mkF m 243 #[.val (.int p0), .val (.int p1), .val (.int p2), .val (.int p3), .val (.int p4), .val (.int (4 : Int32)), .val (.int s1), .val (.int u2), .val (.int s2), .val (.int m9), .val (.ref b105), .val (.ref b106), .val (.ref c0), .val (.ref c1), .val (.ref c2), .val (.ref c3), .val (.int (1 : Int32)), .val (.ref b106)] [(.int m9), (.int s2), (.int u2), (.int (1 : Int32)), w1, (.ref c1)])) rfl (by rw [hml]; rfl) (argsL := [(.ref c1), w1, (.int (1 : Int32)), (.int u2), (.int s2), (.int m9)]) (rest := []) (lenOf pd_4 rfl) rfl (by show 2 * 0 + _ ≤ _; exact Nat.le_of_eq rfl) (hb hby at_243) (fun _ _ => ⟨rfl, eq124, (by decide : 12 + 0 ≤ _), (by decide : 399 + 0 ≤ _)⟩)
    dsimp only [Pt.U, Pt.locs, Pt.cells, Pt.slots] at X126 l126 y126 z126 st126 hQ126
    subst l126 y126 z126
    obtain ⟨hv126, Nq126, eq126⟩ := hQ126
    subst hv126
    replace Nf := Fr.app Nf Nq126
    refine own_go (x' := T126.setTop (mkF m 246 #[.val (.int p0), .val (.int p1), .val (.int p2), .val (.int p3), .val (.int p4), .val (.int (4 : Int32)), .val (.int s1), .val (.int u2), .val (.int s2), .val (.int m9), .val (.ref b105), .val (.ref b106), .val (.ref c0), .val (.ref c1), .val (.ref c2), .val (.ref c3), .val (.int (1 : Int32)), .val (.ref b106)] [(.int (1 : Int32))])) st126 ?_
    refine own_go (x' := T126.setTop (mkF m 254 #[.val (.int p0), .val (.int p1), .val (.int p2), .val (.int p3), .val (.int p4), .val (.int (4 : Int32)), .val (.int s1), .val (.int u2), .val (.int s2), .val (.int m9), .val (.ref b105), .val (.ref b106), .val (.ref c0), .val (.ref c1), .val (.ref c2), .val (.ref c3), .val (.int (1 : Int32)), .val (.ref b106)] [(.int (2 : Int32)), (.ref b106), (.ref c2)])) (fun _ k => XS.ifNo X126.here hx rfl (hb hby at_246) rfl ((if0 _ _).trans (feq (by decide +kernel : ¬ ((1 : Int32) = (0 : Int32)))).1) (XS.aload X126.here hx rfl (hb hby at_249) rfl rfl (XS.aload X126.here hx rfl (hb hby at_251) rfl rfl (XS.iconst X126.here hx rfl (hb hby at_253) k)))) ?_
    obtain ⟨cl127, Ar127, q127, Sz127, Nn127, Hh127, Gg127⟩ := id V_b106
    have hin127 : ¬ ((2 : Int32) < 0 ∨ cl127.slots.size ≤ ((2 : Int32)).toNatClampNeg) := inb_of Sz127 ⟨by decide, by decide⟩
    refine own_go (x' := T126.setTop (mkF m 255 #[.val (.int p0), .val (.int p1), .val (.int p2), .val (.int p3), .val (.int p4), .val (.int (4 : Int32)), .val (.int s1), .val (.int u2), .val (.int s2), .val (.int m9), .val (.ref b105), .val (.ref b106), .val (.ref c0), .val (.ref c1), .val (.ref c2), .val (.ref c3), .val (.int (1 : Int32)), .val (.ref b106)] [w2, (.ref c2)])) (X126.aaload hx (j := (2 : Int32)) (v := w2) (Eq.trans (congrArg (fun h_ => h_[_]?) eq126) Ar127.1) (State.isArrayOf_alike hZ.alike Ar127.2.1) rfl Ar127.2.2 hin127 (Hh127.at hin127 rfl) (g := (mkF m 254 #[.val (.int p0), .val (.int p1), .val (.int p2), .val (.int p3), .val (.int p4), .val (.int (4 : Int32)), .val (.int s1), .val (.int u2), .val (.int s2), .val (.int m9), .val (.ref b105), .val (.ref b106), .val (.ref c0), .val (.ref c1), .val (.ref c2), .val (.ref c3), .val (.int (1 : Int32)), .val (.ref b106)] [(.int (2 : Int32)), (.ref b106), (.ref c2)])) rfl rfl (hb hby at_254)) ?_
    refine own_go (x' := T126.setTop (mkF m 262 #[.val (.int p0), .val (.int p1), .val (.int p2), .val (.int p3), .val (.int p4), .val (.int (4 : Int32)), .val (.int s1), .val (.int u2), .val (.int s2), .val (.int m9), .val (.ref b105), .val (.ref b106), .val (.ref c0), .val (.ref c1), .val (.ref c2), .val (.ref c3), .val (.int (1 : Int32)), .val (.ref b106)] [(.int m9), (.int s2), (.int u2), (.int (2 : Int32)), w2, (.ref c2)])) (fun _ k => XS.iconst X126.here hx rfl (hb hby at_255) (XS.iload X126.here hx rfl (hb hby at_256) rfl (XS.iload X126.here hx rfl (hb hby at_258) rfl (XS.iload X126.here hx rfl (hb hby at_260) rfl k)))) ?_
    obtain ⟨_, _, ⟨T128, L128, k128, n128⟩, -, X128, ⟨Lc128, hQ128, l128, y128, z128⟩, st128⟩ := Jvm.LawKit.callS X126 hx (y := (⟨"com/example/wee_match/weematch/WindowsCharsPinLaw", "after", "([C[CIIIC)Z"⟩ : MethodName)) hown (mvT hZ (own_w hw 36 rfl)) (mvT hZ (own_w hw 37 rfl)) (mvT hZ (own_w hw 29 rfl)) (mvT hZ (own_w hw 38 rfl)) (by decide) (backOf (W := 0) (rm6p l Z a0 hw [] c2 w2 (2 : Int32) u2 s1 s2 m9 kk2 _ T121.heap n0 Zs V_c2 lt_c2 R2) hZ (own_w hw 38 rfl) (own_w hw 29 rfl) (by decide) (by decide)) (g := (mkF m 262 #[.val (.int p0), .val (.int p1), .val (.int p2), .val (.int p3), .val (.int p4), .val (.int (4 : Int32)), .val (.int s1), .val (.int u2), .val (.int s2), .val (.int m9), .val (.ref b105), .val (.ref b106), .val (.ref c0), .val (.ref c1), .val (.ref c2), .val (.ref c3), .val (.int (1 : Int32)), .val (.ref b106)] [(.int m9), (.int s2), (.int u2), (.int (2 : Int32)), w2, (.ref c2)])) rfl (by rw [hml]; rfl) (argsL := [(.ref c2), w2, (.int (2 : Int32)), (.int u2), (.int s2), (.int m9)]) (rest := []) (lenOf pd_4 rfl) rfl (by show 2 * 0 + _ ≤ _; exact Nat.le_of_eq rfl) (hb hby at_262) (fun _ _ => ⟨rfl, eq126, (by decide : 12 + 0 ≤ _), (by decide : 399 + 0 ≤ _)⟩)
    dsimp only [Pt.U, Pt.locs, Pt.cells, Pt.slots] at X128 l128 y128 z128 st128 hQ128
    subst l128 y128 z128
    obtain ⟨hv128, Nq128, eq128⟩ := hQ128
    subst hv128
    replace Nf := Fr.app Nf Nq128
    refine own_go (x' := T128.setTop (mkF m 265 #[.val (.int p0), .val (.int p1), .val (.int p2), .val (.int p3), .val (.int p4), .val (.int (4 : Int32)), .val (.int s1), .val (.int u2), .val (.int s2), .val (.int m9), .val (.ref b105), .val (.ref b106), .val (.ref c0), .val (.ref c1), .val (.ref c2), .val (.ref c3), .val (.int (1 : Int32)), .val (.ref b106)] [(.int (1 : Int32))])) st128 ?_
    refine own_go (x' := T128.setTop (mkF m 273 #[.val (.int p0), .val (.int p1), .val (.int p2), .val (.int p3), .val (.int p4), .val (.int (4 : Int32)), .val (.int s1), .val (.int u2), .val (.int s2), .val (.int m9), .val (.ref b105), .val (.ref b106), .val (.ref c0), .val (.ref c1), .val (.ref c2), .val (.ref c3), .val (.int (1 : Int32)), .val (.ref b106)] [(.int (3 : Int32)), (.ref b106), (.ref c3)])) (fun _ k => XS.ifNo X128.here hx rfl (hb hby at_265) rfl ((if0 _ _).trans (feq (by decide +kernel : ¬ ((1 : Int32) = (0 : Int32)))).1) (XS.aload X128.here hx rfl (hb hby at_268) rfl rfl (XS.aload X128.here hx rfl (hb hby at_270) rfl rfl (XS.iconst X128.here hx rfl (hb hby at_272) k)))) ?_
    obtain ⟨cl129, Ar129, q129, Sz129, Nn129, Hh129, Gg129⟩ := id V_b106
    have hin129 : ¬ ((3 : Int32) < 0 ∨ cl129.slots.size ≤ ((3 : Int32)).toNatClampNeg) := inb_of Sz129 ⟨by decide, by decide⟩
    refine own_go (x' := T128.setTop (mkF m 274 #[.val (.int p0), .val (.int p1), .val (.int p2), .val (.int p3), .val (.int p4), .val (.int (4 : Int32)), .val (.int s1), .val (.int u2), .val (.int s2), .val (.int m9), .val (.ref b105), .val (.ref b106), .val (.ref c0), .val (.ref c1), .val (.ref c2), .val (.ref c3), .val (.int (1 : Int32)), .val (.ref b106)] [w3, (.ref c3)])) (X128.aaload hx (j := (3 : Int32)) (v := w3) (Eq.trans (congrArg (fun h_ => h_[_]?) eq128) Ar129.1) (State.isArrayOf_alike hZ.alike Ar129.2.1) rfl Ar129.2.2 hin129 (Hh129.at hin129 rfl) (g := (mkF m 273 #[.val (.int p0), .val (.int p1), .val (.int p2), .val (.int p3), .val (.int p4), .val (.int (4 : Int32)), .val (.int s1), .val (.int u2), .val (.int s2), .val (.int m9), .val (.ref b105), .val (.ref b106), .val (.ref c0), .val (.ref c1), .val (.ref c2), .val (.ref c3), .val (.int (1 : Int32)), .val (.ref b106)] [(.int (3 : Int32)), (.ref b106), (.ref c3)])) rfl rfl (hb hby at_273)) ?_
    refine own_go (x' := T128.setTop (mkF m 281 #[.val (.int p0), .val (.int p1), .val (.int p2), .val (.int p3), .val (.int p4), .val (.int (4 : Int32)), .val (.int s1), .val (.int u2), .val (.int s2), .val (.int m9), .val (.ref b105), .val (.ref b106), .val (.ref c0), .val (.ref c1), .val (.ref c2), .val (.ref c3), .val (.int (1 : Int32)), .val (.ref b106)] [(.int m9), (.int s2), (.int u2), (.int (3 : Int32)), w3, (.ref c3)])) (fun _ k => XS.iconst X128.here hx rfl (hb hby at_274) (XS.iload X128.here hx rfl (hb hby at_275) rfl (XS.iload X128.here hx rfl (hb hby at_277) rfl (XS.iload X128.here hx rfl (hb hby at_279) rfl k)))) ?_
    obtain ⟨_, _, ⟨T130, L130, k130, n130⟩, -, X130, ⟨Lc130, hQ130, l130, y130, z130⟩, st130⟩ := Jvm.LawKit.callS X128 hx (y := (⟨"com/example/wee_match/weematch/WindowsCharsPinLaw", "after", "([C[CIIIC)Z"⟩ : MethodName)) hown (mvT hZ (own_w hw 36 rfl)) (mvT hZ (own_w hw 37 rfl)) (mvT hZ (own_w hw 29 rfl)) (mvT hZ (own_w hw 38 rfl)) (by decide) (backOf (W := 0) (rm6p l Z a0 hw [] c3 w3 (3 : Int32) u2 s1 s2 m9 kk3 _ T121.heap n0 Zs V_c3 lt_c3 R3) hZ (own_w hw 38 rfl) (own_w hw 29 rfl) (by decide) (by decide)) (g := (mkF m 281 #[.val (.int p0), .val (.int p1), .val (.int p2), .val (.int p3), .val (.int p4), .val (.int (4 : Int32)), .val (.int s1), .val (.int u2), .val (.int s2), .val (.int m9), .val (.ref b105), .val (.ref b106), .val (.ref c0), .val (.ref c1), .val (.ref c2), .val (.ref c3), .val (.int (1 : Int32)), .val (.ref b106)] [(.int m9), (.int s2), (.int u2), (.int (3 : Int32)), w3, (.ref c3)])) rfl (by rw [hml]; rfl) (argsL := [(.ref c3), w3, (.int (3 : Int32)), (.int u2), (.int s2), (.int m9)]) (rest := []) (lenOf pd_4 rfl) rfl (by show 2 * 0 + _ ≤ _; exact Nat.le_of_eq rfl) (hb hby at_281) (fun _ _ => ⟨rfl, eq128, (by decide : 12 + 0 ≤ _), (by decide : 399 + 0 ≤ _)⟩)
    dsimp only [Pt.U, Pt.locs, Pt.cells, Pt.slots] at X130 l130 y130 z130 st130 hQ130
    subst l130 y130 z130
    obtain ⟨hv130, Nq130, eq130⟩ := hQ130
    subst hv130
    replace Nf := Fr.app Nf Nq130
    refine own_go (x' := T130.setTop (mkF m 284 #[.val (.int p0), .val (.int p1), .val (.int p2), .val (.int p3), .val (.int p4), .val (.int (4 : Int32)), .val (.int s1), .val (.int u2), .val (.int s2), .val (.int m9), .val (.ref b105), .val (.ref b106), .val (.ref c0), .val (.ref c1), .val (.ref c2), .val (.ref c3), .val (.int (1 : Int32)), .val (.ref b106)] [(.int (1 : Int32))])) st130 ?_
    refine own_go (x' := T130.setTop (mkF m 292 #[.val (.int p0), .val (.int p1), .val (.int p2), .val (.int p3), .val (.int p4), .val (.int (4 : Int32)), .val (.int s1), .val (.int u2), .val (.int s2), .val (.int m9), .val (.ref b105), .val (.ref b106), .val (.ref c0), .val (.ref c1), .val (.ref c2), .val (.ref c3), .val (.int (1 : Int32)), .val (.ref b106)] [(.int (1 : Int32))])) (fun _ k => XS.ifNo X130.here hx rfl (hb hby at_284) rfl ((if0 _ _).trans (feq (by decide +kernel : ¬ ((1 : Int32) = (0 : Int32)))).1) (XS.iconst X130.here hx rfl (hb hby at_287) (XS.goto X130.here hx rfl (pc0 := 288) (pc' := 292) rfl (hb hby at_288) (by decide) (by decide) k))) ?_
    refine own_retN X130 hx hlk (t := .boolean) hret (by simp) (hb hby at_292) (w := (1 : Int32)) rfl ?_ (by decide) (by decide)
    rw [eq130]
    exact ⟨rfl, Nf⟩
set_option maxRecDepth 65536 in
set_option maxHeartbeats 40000000 in
theorem comes_1 {Post : Tables → Env → Array Value → State → Outcome → State → Prop} (hpost : ∀ tb e args s v u, (limb_1_1.after args s (.returned v) u = true ∧ limb_1_2.after args s (.returned v) u = true ∧ True) → FrameEnd s (.returned v) u (Jvm.fieldLocs frame_1_writes args s ++ Jvm.arrayLocs frame_1_arrays args s ++ Jvm.staticLocs frame_1_statics s) 32 832 → Post tb e args s (.returned v) u) :
    ArmFor flags0 classFile x code maxLocals ret World_1 tables_1 room_1 Calls_1 rest_1 Pre_1 Post := by
  intro l hfl _ _ p e ha hc hk s m args below hf hA hF happ hP
  obtain ⟨hcalls, hrest, hpre⟩ := hP
  obtain ⟨-, -, -, hnamed, -, -, -, hat⟩ := (Spec.applies_iff hf).mp happ
  obtain ⟨hg, hn⟩ := and_e (Cond.before_iff.mp (show (Jvm.Cond.and given_1 narrow_1).before args s = true from hpre))
  obtain ⟨gg1, gg2⟩ := and_e hg
  obtain ⟨gg3, gg4⟩ := and_e gg2
  obtain ⟨gg5, gg6⟩ := and_e gg4
  obtain ⟨gg7, gg8⟩ := and_e gg6
  obtain ⟨gg9, gg10⟩ := and_e gg8
  obtain ⟨w0, w1, w2, w3, w4, rfl⟩ : ∃ w0 w1 w2 w3 w4 : Value, args = #[w0, w1, w2, w3, w4] := by
    have hs : args.size = 5 := by simpa [Cond.value, given_1] using gg1
    obtain ⟨L⟩ := args
    match L, hs with
    | [w0, w1, w2, w3, w4], _ => exact ⟨w0, w1, w2, w3, w4, rfl⟩
  have hw := fun d (hd : d ∈ tables_1) => atoms_spec (ws := Jvm.Cond.code x code maxLocals ret :: tables_1) hat d (List.mem_cons_of_mem _ hd)
  have hfit : Fit s := fun {y c} hc i hi => by
    obtain ⟨ha, rfl⟩ := Array.getElem?_eq_some_iff.mp hc
    have q := List.all_eq_true.mp ((Array.all_eq_true_iff_forall_mem.mp hF) _ (Array.getElem_mem ha)) i (List.mem_range.mpr hi)
    simpa [Array.getElem?_eq_getElem hi] using q
  obtain ⟨i0, ei0⟩ := is_v gg3
  obtain rfl : w0 = (.int i0) := Option.some.inj ei0
  obtain ⟨i1, ei1⟩ := is_v gg5
  obtain rfl : w1 = (.int i1) := Option.some.inj ei1
  obtain ⟨i2, ei2⟩ := is_v gg7
  obtain rfl : w2 = (.int i2) := Option.some.inj ei2
  obtain ⟨i3, ei3⟩ := is_v gg9
  obtain rfl : w3 = (.int i3) := Option.some.inj ei3
  obtain ⟨i4, ei4⟩ := is_v gg10
  obtain rfl : w4 = (.int i4) := Option.some.inj ei4
  obtain ⟨n, o, h1, h2, h3, _, L, rfl, ⟨rfl, N⟩, hq⟩ := rm0 l s _ hw tables_1 i0 i1 i2 i3 i4  s.heap s.heap.size (Nat.le_refl _)  p e ha hc hk s m _ below hf ((Spec.applies_iff_loose hf).mp happ).1 ⟨rfl, State.Warmed39.refl s, rfl⟩ trivial
  refine ⟨n, _, h1, h2, h3, hpost _ _ _ _ _ _ ⟨Cond.after_iff.mpr rfl, Cond.after_iff.mpr (eq_i res_at (Term.int_eval (1)) rfl), trivial⟩ ⟨hq.1, hq.2.1, (hq.2.2.sift fun y hy => Or.inr (N y hy)).mono (by decide) (by decide)⟩⟩
theorem main_1_1 : Claimed_1_1 := comes_1 fun _ _ _ _ _ _ h hF => ⟨h.1, hF⟩
theorem main_1_2 : Claimed_1_2 := comes_1 fun _ _ _ _ _ _ h hF => ⟨h.2.1, hF⟩
end Jvm.Pilot.@@N@@
namespace Jvm.Pilot.@@N@@
open Jvm Jvm.ClassFile Sem Op Lib Jvm.Free Jvm.Stand Jvm.Pilot.@@N@@.Jvm.D
/-! MADE BY PROGRAM (witnessworld.py) out of the Statement's table words and the real class files: 11 classes; the members and pool entries that the words name. The judged class is class 1, her method 1. -/
namespace start1
open Jvm.ClassFile
def u (s : String) : CpInfo := .utf8 (stringToUtf16 s)
/-- a pool by its gaps: so many unusable entries, then the entry; so many at the end -/
def gap : Nat → List CpInfo → List CpInfo
  | 0, r => r
  | n + 1, r => .unusable :: gap n r
def poolList (es : List (Nat × CpInfo)) (last : Nat) : List CpInfo := es.foldr (fun e r => gap e.1 (e.2 :: r)) (gap last [])
def pool (es : List (Nat × CpInfo)) (last : Nat) : Array CpInfo := ⟨poolList es last⟩
def fileOf (pool : Array CpInfo) (this : Nat) (attrs : Array Attribute := #[]) (ms : Array MethodInfo := #[]) (fl : Nat := 33) (sup : Nat := 0) (ifs : Array Nat := #[]) (fds : Array FieldInfo := #[]) : ClassFile where
  minorVersion := 0
  majorVersion := 65
  constantPool := pool
  accessFlags := fl
  thisClass := this
  superClass := sup
  interfaces := ifs
  fields := fds
  methods := ms
  attributes := attrs
def plain (name : String) (sup : Option ClassId) : Class where
  name := name
  kind := .ordinary
  loader := none
  accessFlags := 33
  super := sup
  interfaces := #[]
  cf := none
  fields := #[]
  methods := #[]
  instanceTypes := #[]
  staticTypes := #[]
  resolved := #[]
  callSites := []
  init := .initialized
  statics := none
  mirror := none

def pool0 : Array CpInfo := pool [(5, u "<init>"), (0, u "()V"), (1, .class_ 10), (1, u "java/lang/Object")] 113

def k0c0 : Code := { maxStack := 0, maxLocals := 1, code := object_method_1_code, exceptionTable := #[], attributes := #[] }
def k0m0 : Method := { name := "<init>", desc := "()V", sig := { parameters := [], returnType := none }, accessFlags := 1, code := some k0c0 }
/-- java/lang/Object -/
def k0 : Class := { plain "java/lang/Object" none with
  accessFlags := 33
  interfaces := #[]
  cf := some (fileOf pool0 8 #[] #[{ accessFlags := 1, nameIndex := 5, descriptorIndex := 6, attributes := #[] }] 33 0 #[] #[])
  fields := #[]
  methods := #[k0m0]
  instanceTypes := #[]
  staticTypes := #[]
  resolved := Array.replicate 124 none
  statics := none }

def pool1 : Array CpInfo := pool [(2, .class_ 4), (0, .nameAndType 5 6), (0, u "java/lang/Object"), (0, u "<init>"), (0, u "()V"), (0, .integer 2147483647), (0, .integer 65535), (0, .class_ 10), (0, u "com/example/wee_match/weematch/Sieve$Windows"), (0, .methodref 9 3), (0, .methodref 9 13), (0, .nameAndType 14 15), (0, u "chars"), (0, u "(II)[[C"), (2, .methodref 19 20), (0, .class_ 21), (0, .nameAndType 22 23), (0, u "com/example/wee_match/weematch/WindowsCharsPinLaw"), (0, u "made"), (0, u "([CIII)Z"), (0, .methodref 19 25), (0, .nameAndType 26 27), (0, u "stamp"), (0, u "([CC)V"), (0, .methodref 19 29), (0, .nameAndType 30 31), (0, u "after"), (0, u "([C[CIIIC)Z"), (2, u "law"), (0, u "(IIIII)Z")] 9

def k1m0 : Method := { name := "<init>", desc := "()V", sig := { parameters := [], returnType := none }, accessFlags := 1, code := none }
def k1c1 : Code := { maxStack := 6, maxLocals := 18, code := code, exceptionTable := #[], attributes := #[] }
def k1m1 : Method := { name := "law", desc := "(IIIII)Z", sig := { parameters := [.int, .int, .int, .int, .int], returnType := some .boolean }, accessFlags := 9, code := some k1c1 }
def k1c2 : Code := { maxStack := 2, maxLocals := 4, code := method_3_code, exceptionTable := #[], attributes := #[] }
def k1m2 : Method := { name := "made", desc := "([CIII)Z", sig := { parameters := [(.array .char), .int, .int, .int], returnType := some .boolean }, accessFlags := 10, code := some k1c2 }
def k1c3 : Code := { maxStack := 3, maxLocals := 2, code := method_4_code, exceptionTable := #[], attributes := #[] }
def k1m3 : Method := { name := "stamp", desc := "([CC)V", sig := { parameters := [(.array .char), .char], returnType := none }, accessFlags := 10, code := some k1c3 }
def k1c4 : Code := { maxStack := 2, maxLocals := 6, code := method_5_code, exceptionTable := #[], attributes := #[] }
def k1m4 : Method := { name := "after", desc := "([C[CIIIC)Z", sig := { parameters := [(.array .char), (.array .char), .int, .int, .int, .char], returnType := some .boolean }, accessFlags := 10, code := some k1c4 }
/-- com/example/wee_match/weematch/WindowsCharsPinLaw -/
def k1 : Class := { plain "com/example/wee_match/weematch/WindowsCharsPinLaw" (some 0) with
  accessFlags := 49
  interfaces := #[]
  cf := some (fileOf pool1 19 #[] #[{ accessFlags := 1, nameIndex := 5, descriptorIndex := 6, attributes := #[] }, { accessFlags := 9, nameIndex := 34, descriptorIndex := 35, attributes := #[] }, { accessFlags := 10, nameIndex := 22, descriptorIndex := 23, attributes := #[] }, { accessFlags := 10, nameIndex := 26, descriptorIndex := 27, attributes := #[] }, { accessFlags := 10, nameIndex := 30, descriptorIndex := 31, attributes := #[] }] 49 2 #[] #[])
  fields := #[]
  methods := #[k1m0, k1m1, k1m2, k1m3, k1m4]
  instanceTypes := #[]
  staticTypes := #[]
  resolved := Array.replicate 45 none
  statics := none }

def pool2 : Array CpInfo := pool [(1, .class_ 2), (0, u "com/example/wee_match/weematch/Sieve"), (0, .methodref 4 5), (0, .class_ 6), (0, .nameAndType 7 8), (0, u "java/lang/Object"), (0, u "<init>"), (0, u "()V"), (0, .class_ 10), (0, u "[B"), (0, .fieldref 12 13), (0, .class_ 14), (0, .nameAndType 15 16), (0, u "com/example/wee_match/weematch/Sieve$Windows"), (0, u "bytes"), (0, u "[[B"), (0, .class_ 18), (0, u "[C"), (0, .fieldref 12 20), (0, .nameAndType 21 22), (0, u "chars"), (0, u "[[C"), (0, .fieldref 12 24), (0, .nameAndType 25 26), (0, u "starts"), (0, u "[I"), (2, u "run"), (8, u "runCopy"), (2, u "stretch"), (7, u "converted"), (0, u "Lcom/example/wee_match/weematch/Latin1Copy;"), (13, u "(II)[[C")] 5

def k2c0 : Code := { maxStack := 2, maxLocals := 1, code := prog_20_method_1_code, exceptionTable := #[], attributes := #[] }
def k2m0 : Method := { name := "<init>", desc := "()V", sig := { parameters := [], returnType := none }, accessFlags := 0, code := some k2c0 }
def k2c1 : Code := { maxStack := 3, maxLocals := 4, code := prog_20_method_9_code, exceptionTable := #[], attributes := #[] }
def k2m1 : Method := { name := "chars", desc := "(II)[[C", sig := { parameters := [.int, .int], returnType := some (.array (.array .char)) }, accessFlags := 0, code := some k2c1 }
/-- com/example/wee_match/weematch/Sieve$Windows -/
def k2 : Class := { plain "com/example/wee_match/weematch/Sieve$Windows" (some 0) with
  accessFlags := 32
  interfaces := #[]
  cf := some (fileOf pool2 12 #[.nestHost 1] #[{ accessFlags := 0, nameIndex := 7, descriptorIndex := 8, attributes := #[] }, { accessFlags := 0, nameIndex := 21, descriptorIndex := 64, attributes := #[] }] 32 4 #[] #[{ accessFlags := 18, nameIndex := 15, descriptorIndex := 16, attributes := #[] }, { accessFlags := 18, nameIndex := 21, descriptorIndex := 22, attributes := #[] }, { accessFlags := 2, nameIndex := 29, descriptorIndex := 10, attributes := #[] }, { accessFlags := 2, nameIndex := 38, descriptorIndex := 10, attributes := #[] }, { accessFlags := 2, nameIndex := 25, descriptorIndex := 26, attributes := #[] }, { accessFlags := 2, nameIndex := 41, descriptorIndex := 18, attributes := #[] }, { accessFlags := 2, nameIndex := 49, descriptorIndex := 50, attributes := #[] }])
  fields := #[{ name := "bytes", type := (.array (.array .byte)), accessFlags := 18, slot := 0, constantValue := 0 }, { name := "chars", type := (.array (.array .char)), accessFlags := 18, slot := 1, constantValue := 0 }, { name := "run", type := (.array .byte), accessFlags := 2, slot := 2, constantValue := 0 }, { name := "runCopy", type := (.array .byte), accessFlags := 2, slot := 3, constantValue := 0 }, { name := "starts", type := (.array .int), accessFlags := 2, slot := 4, constantValue := 0 }, { name := "stretch", type := (.array .char), accessFlags := 2, slot := 5, constantValue := 0 }, { name := "converted", type := (.object "com/example/wee_match/weematch/Latin1Copy"), accessFlags := 2, slot := 6, constantValue := 0 }]
  methods := #[k2m0, k2m1]
  instanceTypes := #[(.array (.array .byte)), (.array (.array .char)), (.array .byte), (.array .byte), (.array .int), (.array .char), (.object "com/example/wee_match/weematch/Latin1Copy")]
  staticTypes := #[]
  resolved := Array.replicate 70 none
  statics := none }

def pool3 : Array CpInfo := pool [(1, u "java/lang/Cloneable"), (0, .class_ 1), (0, u "java/lang/Object"), (0, .class_ 3)] 3

/-- java/lang/Cloneable -/
def k3 : Class := { plain "java/lang/Cloneable" (some 0) with
  accessFlags := 1537
  interfaces := #[]
  cf := some (fileOf pool3 2 #[] #[] 1537 4 #[] #[])
  fields := #[]
  methods := #[]
  instanceTypes := #[]
  staticTypes := #[]
  resolved := Array.replicate 8 none
  statics := none }

def pool4 : Array CpInfo := pool [(1, u "java/io/Serializable"), (0, .class_ 1), (0, u "java/lang/Object"), (0, .class_ 3)] 3

/-- java/io/Serializable -/
def k4 : Class := { plain "java/io/Serializable" (some 0) with
  accessFlags := 1537
  interfaces := #[]
  cf := some (fileOf pool4 2 #[] #[] 1537 4 #[] #[])
  fields := #[]
  methods := #[]
  instanceTypes := #[]
  staticTypes := #[]
  resolved := Array.replicate 8 none
  statics := none }

/-- the primitive byte -/
def k5 : Class := { plain "byte" none with kind := .primitive 'B', accessFlags := 0x411 }
/-- [B -/
def k6 : Class := { plain "[B" (some 0) with kind := .array 5 .byte, interfaces := #[3, 4], accessFlags := 1041 }

/-- the primitive char -/
def k7 : Class := { plain "char" none with kind := .primitive 'C', accessFlags := 0x411 }
/-- [C -/
def k8 : Class := { plain "[C" (some 0) with kind := .array 7 .char, interfaces := #[3, 4], accessFlags := 1041 }

/-- the primitive int -/
def k9 : Class := { plain "int" none with kind := .primitive 'I', accessFlags := 0x411 }
/-- [I -/
def k10 : Class := { plain "[I" (some 0) with kind := .array 9 .int, interfaces := #[3, 4], accessFlags := 1041 }

/-- [[B -/
def k11 : Class := { plain "[[B" (some 0) with kind := .array 6 (.array .byte), interfaces := #[3, 4], accessFlags := 1041 }
/-- [[C -/
def k12 : Class := { plain "[[C" (some 0) with kind := .array 8 (.array .char), interfaces := #[3, 4], accessFlags := 1041 }

def heap : Heap := #[]
def classes : Array Class := #[k0, k1, k2, k3, k4, k5, k6, k7, k8, k9, k10, k11, k12]
def interned : List (Array UInt16 × Addr) := []
def slotsUsed : Nat := 0
def theMethod : MethodId := ⟨1, 1⟩
def args0 : Array Value := #[.int 3, .int 4, .int 5, .int 6, .int 7]
def aboutOver (below : List Frame) : State where
  vm := { classes := classes, interned := interned.toArray }
  heap := heap
  slotsUsed := slotsUsed
  threads := #[{ frames := .invoking theMethod args0 :: below }]
def below0 : List Frame := [.native { method := ⟨0, 0⟩, args := #[] }]
def about1 : State := aboutOver below0
def p0 : Program := .bare "" "" ""
def e0 : Env := launch0.env 0 0 0
theorem w_frames : about1.frames = Frame.invoking theMethod args0 :: below0 := rfl
set_option maxRecDepth 65536 in
theorem w_args : argsFit about1.vm theMethod args0 = true := by decide +kernel
set_option maxRecDepth 65536 in
theorem w_heap : heapFits about1 = true := by decide +kernel
set_option maxRecDepth 65536 in
theorem w_runnable : about1.curStatus? = some .runnable := by decide +kernel
set_option maxRecDepth 65536 in
theorem w_alone : about1.alone = true := by decide +kernel
set_option maxRecDepth 65536 in
theorem w_named : about1.methodNamed? x = some theMethod := by decide +kernel
set_option maxRecDepth 65536 in
theorem w_hears : about1.hears theMethod below0 = true := by decide +kernel
set_option maxRecDepth 65536 in
theorem w_ripe : about1.ripe theMethod args0 below0 = true := by decide +kernel
theorem w_running : about1.status = .running := rfl
set_option maxRecDepth 65536 in
theorem w_room : about1.hasRoom e0.platform room_1 = true :=
  launch0.hasRoom_least _ room_1 (by decide +kernel) (by decide +kernel) (by decide +kernel) (by decide +kernel) (by decide +kernel) (by decide +kernel)
theorem allAtoms_all (ts : List Jvm.Cond) (a : Array Jvm.Value) (st : Jvm.State) : (allAtoms ts).before a st = ts.all (fun c => c.before a st) := by
  induction ts with
  | nil => rfl
  | cons c t ih =>
    show (Jvm.Cond.and c (allAtoms t)).before a st = _
    rw [Jvm.Cond.before_and, ih, List.all_cons]
def words1 : List Jvm.Cond := Jvm.Cond.code x code maxLocals ret :: tables_1
/-- a 'code' word, met by the world's own term for the bytes: nothing is compared byte by byte -/
theorem code_word {y : MethodName} {bytes : ByteArray} {mx : Nat} {rt : Option FieldType} {a : Array Value} {s : State} {m : MethodId} {meth : Method} {c : Code} (h1 : s.methodNamed? y = some m) (h2 : s.vm.method? m = some meth) (h3 : meth.code = some c) (h4 : c.code = bytes)
    (h5 : (c.maxLocals == mx && c.exceptionTable.isEmpty && decide (c.maxStack ≤ mostOperands) && decide (meth.sig.returnType = rt) && !meth.locks && decide (parseMethodDescriptor y.desc = some meth.sig)) = true) : (Jvm.Cond.code y bytes mx rt).before a s = true := by
  simp only [Bool.and_eq_true, beq_iff_eq, Bool.not_eq_true', decide_eq_true_eq] at h5
  obtain ⟨⟨⟨⟨⟨g1, g2⟩, g3⟩, g4⟩, g5⟩, g6⟩ := h5
  simp [Cond.before, Cond.holds, Cond.value, h1, h2, h3, h4, g1, g2, g3, g4, g5, g6]
def isCode : Jvm.Cond → Bool
  | .code _ _ _ _ => true
  | _ => false
theorem all_split {L : List Jvm.Cond} {P : Jvm.Cond → Bool} (h1 : L.all (fun c => isCode c || P c) = true) (h2 : ∀ c ∈ L.filter isCode, P c = true) : L.all P = true := by
  refine List.all_eq_true.mpr fun c hc => ?_
  have h := List.all_eq_true.mp h1 c hc
  rcases Bool.eq_false_or_eq_true (isCode c) with hi | hi
  · exact h2 c (List.mem_filter.mpr ⟨hc, hi⟩)
  · simpa [hi] using h
set_option maxRecDepth 65536 in
theorem w_c0 : (Jvm.Cond.code x code maxLocals ret).before args0 about1 = true := code_word (m := ⟨1, 1⟩) (meth := k1m1) (c := k1c1) (by decide +kernel) rfl rfl rfl (by decide +kernel)
set_option maxRecDepth 65536 in
theorem w_c1 : (Jvm.Cond.code ({ cls := "com/example/wee_match/weematch/Sieve$Windows", name := "<init>", desc := "()V" } : Jvm.MethodName) prog_20_method_1_code (1 : Nat) (Option.none : Option Jvm.ClassFile.FieldType)).before args0 about1 = true := code_word (m := ⟨2, 0⟩) (meth := k2m0) (c := k2c0) (by decide +kernel) rfl rfl rfl (by decide +kernel)
set_option maxRecDepth 65536 in
theorem w_c2 : (Jvm.Cond.code ({ cls := "java/lang/Object", name := "<init>", desc := "()V" } : Jvm.MethodName) object_method_1_code (1 : Nat) (Option.none : Option Jvm.ClassFile.FieldType)).before args0 about1 = true := code_word (m := ⟨0, 0⟩) (meth := k0m0) (c := k0c0) (by decide +kernel) rfl rfl rfl (by decide +kernel)
set_option maxRecDepth 65536 in
theorem w_c3 : (Jvm.Cond.code ({ cls := "com/example/wee_match/weematch/Sieve$Windows", name := "chars", desc := "(II)[[C" } : Jvm.MethodName) prog_20_method_9_code (4 : Nat) (Option.some (Jvm.ClassFile.FieldType.array (Jvm.ClassFile.FieldType.array Jvm.ClassFile.FieldType.char)))).before args0 about1 = true := code_word (m := ⟨2, 1⟩) (meth := k2m1) (c := k2c1) (by decide +kernel) rfl rfl rfl (by decide +kernel)
set_option maxRecDepth 65536 in
theorem w_c4 : (Jvm.Cond.code ({ cls := "com/example/wee_match/weematch/WindowsCharsPinLaw", name := "made", desc := "([CIII)Z" } : Jvm.MethodName) method_3_code (4 : Nat) (Option.some Jvm.ClassFile.FieldType.boolean)).before args0 about1 = true := code_word (m := ⟨1, 2⟩) (meth := k1m2) (c := k1c2) (by decide +kernel) rfl rfl rfl (by decide +kernel)
set_option maxRecDepth 65536 in
theorem w_c5 : (Jvm.Cond.code ({ cls := "com/example/wee_match/weematch/WindowsCharsPinLaw", name := "stamp", desc := "([CC)V" } : Jvm.MethodName) method_4_code (2 : Nat) (Option.none : Option Jvm.ClassFile.FieldType)).before args0 about1 = true := code_word (m := ⟨1, 3⟩) (meth := k1m3) (c := k1c3) (by decide +kernel) rfl rfl rfl (by decide +kernel)
set_option maxRecDepth 65536 in
theorem w_c6 : (Jvm.Cond.code ({ cls := "com/example/wee_match/weematch/WindowsCharsPinLaw", name := "after", desc := "([C[CIIIC)Z" } : Jvm.MethodName) method_5_code (6 : Nat) (Option.some Jvm.ClassFile.FieldType.boolean)).before args0 about1 = true := code_word (m := ⟨1, 4⟩) (meth := k1m4) (c := k1c4) (by decide +kernel) rfl rfl rfl (by decide +kernel)
def codes1 : List Jvm.Cond := [Jvm.Cond.code x code maxLocals ret, Jvm.Cond.code ({ cls := "com/example/wee_match/weematch/Sieve$Windows", name := "<init>", desc := "()V" } : Jvm.MethodName) prog_20_method_1_code (1 : Nat) (Option.none : Option Jvm.ClassFile.FieldType), Jvm.Cond.code ({ cls := "java/lang/Object", name := "<init>", desc := "()V" } : Jvm.MethodName) object_method_1_code (1 : Nat) (Option.none : Option Jvm.ClassFile.FieldType), Jvm.Cond.code ({ cls := "com/example/wee_match/weematch/Sieve$Windows", name := "chars", desc := "(II)[[C" } : Jvm.MethodName) prog_20_method_9_code (4 : Nat) (Option.some (Jvm.ClassFile.FieldType.array (Jvm.ClassFile.FieldType.array Jvm.ClassFile.FieldType.char))), Jvm.Cond.code ({ cls := "com/example/wee_match/weematch/WindowsCharsPinLaw", name := "made", desc := "([CIII)Z" } : Jvm.MethodName) method_3_code (4 : Nat) (Option.some Jvm.ClassFile.FieldType.boolean), Jvm.Cond.code ({ cls := "com/example/wee_match/weematch/WindowsCharsPinLaw", name := "stamp", desc := "([CC)V" } : Jvm.MethodName) method_4_code (2 : Nat) (Option.none : Option Jvm.ClassFile.FieldType), Jvm.Cond.code ({ cls := "com/example/wee_match/weematch/WindowsCharsPinLaw", name := "after", desc := "([C[CIIIC)Z" } : Jvm.MethodName) method_5_code (6 : Nat) (Option.some Jvm.ClassFile.FieldType.boolean)]
set_option maxRecDepth 65536 in
theorem codes_eq : words1.filter isCode = codes1 := rfl
theorem w_codes : ∀ c ∈ words1.filter isCode, c.before args0 about1 = true := by
  rw [codes_eq]
  intro c hc
  simp only [codes1, List.mem_cons, List.not_mem_nil, or_false] at hc
  rcases hc with rfl | rfl | rfl | rfl | rfl | rfl | rfl
  · exact w_c0
  · exact w_c1
  · exact w_c2
  · exact w_c3
  · exact w_c4
  · exact w_c5
  · exact w_c6
set_option maxRecDepth 65536 in
theorem w_t1 : (words1.take 24).all (fun c => isCode c || c.before args0 about1) = true := by decide +kernel
set_option maxRecDepth 65536 in
theorem w_t2 : (words1.drop 24).all (fun c => isCode c || c.before args0 about1) = true := by decide +kernel
theorem w_tables : (allAtoms (Jvm.Cond.code x code maxLocals ret :: tables_1)).before args0 about1 = true := by
  rw [allAtoms_all]
  show words1.all (fun c => c.before args0 about1) = true
  refine all_split ?_ w_codes
  rw [← List.take_append_drop 24 words1, List.all_append, w_t1, w_t2]
  rfl
set_option maxRecDepth 65536 in
theorem w_case : (Jvm.Cond.and given_1 narrow_1).before args0 about1 = true := by decide +kernel
theorem w_applies : (headSpec (Jvm.Cond.code x code maxLocals ret :: tables_1) room_1).applies x e0.platform about1 = true :=
  (Spec.applies_iff w_frames).mpr ⟨w_running, w_runnable, w_alone, w_named, w_hears, w_ripe, w_room, w_tables⟩
theorem atStart : AtStart classFile x code maxLocals ret World_1 tables_1 room_1 Calls_1 rest_1 Pre_1 launch0 p0 e0 about1 theMethod args0 below0 :=
  ⟨lists_1, trivial, launch0.admits_env _ _ _, launch0.least_env, fairChoices_fair.cas, fairChoices_fair.clock, w_frames, w_args, w_heap, w_applies, trivial, trivial, w_case⟩
end start1
theorem witness_1 : WitnessClaimed_1 := ⟨start1.p0, start1.e0, start1.about1, start1.theMethod, start1.args0, start1.below0, start1.atStart⟩
end Jvm.Pilot.@@N@@
