import JvmDerived
import JvmDerived.Pilot.@@N@@Statement
import JvmDerived.Pilot.@@N@@Code
set_option linter.unusedVariables false
set_option linter.unusedSimpArgs false
namespace Jvm.Pilot.@@N@@
open Jvm Jvm.ClassFile Sem Op Lib Jvm.Free Jvm.Stand Jvm.LawKit Jvm.RoadKit Bundle Jvm.Pilot.@@N@@.Jvm.D
section OwnKit
variable {p : Program} {l : Launch} {e : Env} {R : Room} {s : State} {m : MethodId} {args : Array Value} {below : List Frame} {meth : Method} {c : Code} {T : State} {locs : List Loc} {cells slots : Nat} {Q : Option Value → Heap → List Loc → Prop} {C S : Nat}
/-- from x the run ends, returning, with what Q says -/
def own_End (p : Program) (e : Env) (below : List Frame) (s : State) (Q : Option Value → Heap → List Loc → Prop) (C S : Nat) (x : State) : Prop :=
  ∃ t o, Steps p.tables e below x t ∧ t.status = .running ∧ Ended t below o ∧ ∃ v L, o = .returned v ∧ Q v t.heap L ∧ FrameEnd s o t L C S
theorem own_go {x x' : State} (h : ∀ t, Steps p.tables e below x' t → Steps p.tables e below x t) (k : own_End p e below s Q C S x') : own_End p e below s Q C S x := by
  obtain ⟨t, o, h1, h2⟩ := k
  exact ⟨t, o, h t h1, h2⟩
theorem own_mono {Q' : Option Value → Heap → List Loc → Prop} {x : State} (h : ∀ v h L, Q v h L → Q' v h L) (k : own_End p e below s Q C S x) : own_End p e below s Q' C S x := by
  obtain ⟨t, o, h1, h2, h3, v, L, h4, h5, h6⟩ := k
  exact ⟨t, o, h1, h2, h3, v, L, h4, h _ _ _ h5, h6⟩
theorem own_out (X : Stand p l e R s m args below meth c T locs cells slots) (hlk : meth.locks = false) {v : Option Value} (hv : meth.sig.returnType = none → v = none) {x : State}
    (h : ∀ fs, (∀ (f : JFrame) (acts : List Action), f.method = m → f.locked = none → f.entered = [] → (doReturn e (T.setTop f) acts v).1 = T.setFrames fs) → Steps p.tables e below x (T.setFrames fs))
    (hq : Q v T.heap locs) (hc : cells ≤ C) (hs : slots ≤ S) : own_End p e below s Q C S x := by
  obtain ⟨fs, hr, hrun, hended, hW, hsame⟩ := X.leave hv hlk
  exact ⟨_, _, h fs hr, hrun, hended, _, _, rfl, hq, ⟨_, rfl⟩, hW, hsame.mono hc hs⟩
theorem own_retV (X : Stand p l e R s m args below meth c T locs cells slots) (hx : p.tables.exec = Jvm.exec) (hlk : meth.locks = false) {pc : Nat} {Ls : Array Slot} (hret : meth.sig.returnType = none) (hd : decode c.code pc = .ok (.return_, 1))
    (hq : Q none T.heap locs) (hc : cells ≤ C) (hs : slots ≤ S) : own_End p e below s Q C S (T.setTop (mkF m pc Ls [])) :=
  own_out X hlk (fun _ => rfl) (fun fs hr => X.returnOut hx hret hd hr) hq hc hs
theorem own_retN (X : Stand p l e R s m args below meth c T locs cells slots) (hx : p.tables.exec = Jvm.exec) (hlk : meth.locks = false) {pc : Nat} {Ls : Array Slot} {z w : Int32} {t : FieldType} {rest : List Value} (hret : meth.sig.returnType = some t) (ht : t = .boolean ∨ t = .byte ∨ t = .char ∨ t = .short) (hd : decode c.code pc = .ok (.ireturn, 1))
    (hz : nar t z = w) (hq : Q (some (.int w)) T.heap locs) (hc : cells ≤ C) (hs : slots ≤ S) : own_End p e below s Q C S (T.setTop (mkF m pc Ls (.int z :: rest))) := by
  subst hz
  exact own_out X hlk (fun h => by rw [hret] at h; cases h) (fun fs hr => retN X hx hret ht hd hr) hq hc hs
theorem own_retI (X : Stand p l e R s m args below meth c T locs cells slots) (hx : p.tables.exec = Jvm.exec) (hlk : meth.locks = false) {pc : Nat} {Ls : Array Slot} {z : Int32} {rest : List Value} (hret : meth.sig.returnType = some .int) (hd : decode c.code pc = .ok (.ireturn, 1))
    (hq : Q (some (.int z)) T.heap locs) (hc : cells ≤ C) (hs : slots ≤ S) : own_End p e below s Q C S (T.setTop (mkF m pc Ls (.int z :: rest))) :=
  own_out X hlk (fun h => by rw [hret] at h; cases h) (fun fs hr => retOut X hx hret rfl (Or.inl ⟨rfl, Or.inl rfl, _, rfl⟩) hd hr) hq hc hs
theorem own_retJ (X : Stand p l e R s m args below meth c T locs cells slots) (hx : p.tables.exec = Jvm.exec) (hlk : meth.locks = false) {pc : Nat} {Ls : Array Slot} {z : Int64} {rest : List Value} (hret : meth.sig.returnType = some .long) (hd : decode c.code pc = .ok (.lreturn, 1))
    (hq : Q (some (.long z)) T.heap locs) (hc : cells ≤ C) (hs : slots ≤ S) : own_End p e below s Q C S (T.setTop (mkF m pc Ls (.long z :: rest))) :=
  own_out X hlk (fun h => by rw [hret] at h; cases h) (fun fs hr => retOut X hx hret rfl (Or.inr (Or.inl ⟨rfl, rfl, _, rfl⟩)) hd hr) hq hc hs
theorem own_retR (X : Stand p l e R s m args below meth c T locs cells slots) (hx : p.tables.exec = Jvm.exec) (hlk : meth.locks = false) {pc : Nat} {Ls : Array Slot} {z : Value} {t : FieldType} {rest : List Value} (hret : meth.sig.returnType = some t) (ht : t.isReference = true) (hv : z.isRef = true) (hd : decode c.code pc = .ok (.areturn, 1))
    (hq : Q (some z) T.heap locs) (hc : cells ≤ C) (hs : slots ≤ S) : own_End p e below s Q C S (T.setTop (mkF m pc Ls (z :: rest))) :=
  own_out X hlk (fun h => by rw [hret] at h; cases h) (fun fs hr => retOut X hx hret (by cases t <;> first | rfl | cases ht) (Or.inr (Or.inr (Or.inr (Or.inr ⟨rfl, ht, hv⟩)))) hd hr) hq hc hs
theorem own_w {a0 : Array Value} {Z : State} (hw : ∀ d ∈ tables_1, d.before a0 Z = true) (i : Nat) {d : Jvm.Cond} (h : tables_1[i]? = some d) : d.before a0 Z = true := hw _ (List.mem_of_getElem? h)
end OwnKit
theorem own_fldI {args : Array Value} {s : State} {t : Term} {a : Addr} {C n d : String} {k : Int32} (ev : t.eval args s none [] s = some (.ref a)) (h : (Jvm.Cond.eq (.field t C n d) (.int k)).value args s none s [] = some true) : Fld s s.heap a C n d (.int k) := by
  have e := fld_at (C := C) (n := n) (dd := d) ev
  cases hv : s.fieldOf? a C n d with
  | none => simp only [Jvm.Cond.value, e, hv, Term.int_eval] at h; cases h
  | some v =>
    have q : v = .int k := by
      cases v <;> simp [Jvm.Cond.value, e, hv, Term.int_eval] at h ⊢
      exact h
    rw [q] at hv
    exact Fld.start hv
theorem own_fldJ {args : Array Value} {s : State} {t : Term} {a : Addr} {C n d : String} {k : Int64} (ev : t.eval args s none [] s = some (.ref a)) (h : (Jvm.Cond.eq (.field t C n d) (.long k)).value args s none s [] = some true) : Fld s s.heap a C n d (.long k) := by
  have e := fld_at (C := C) (n := n) (dd := d) ev
  cases hv : s.fieldOf? a C n d with
  | none => simp only [Jvm.Cond.value, e, hv, long_at] at h; cases h
  | some v =>
    have q : v = .long k := by
      cases v <;> simp [Jvm.Cond.value, e, hv, long_at] at h ⊢
      exact h
    rw [q] at hv
    exact Fld.start hv
def own_los : List Int32 := [0, 4, 1, 0, 0, 0, 0, 0, 0, 0, 0, 0, 0, 0, 0, 0, 0, 0, 0, 0, 0, 0]
def own_his : List Int32 := [7, 11, 2, 4, 7, 7, 2, 5, 3, 1, 3, 2, 2, 3, 4, 1, 1, 1, 2, 0, 1, 0]
def own_nth (l : List Int32) (n : Nat) : Int32 := l.getD n 0
def own_at (l : List Int32) (i : Int32) : Int32 := own_nth l i.toNatClampNeg
theorem own_mapI : ∀ (l : List Int32) (n : Nat), (l.map Value.int).getD n (.int 0) = .int (own_nth l n)
  | [], _ => rfl
  | _ :: _, 0 => rfl
  | _ :: l, n + 1 => own_mapI l n
theorem own_mapR : ∀ (l : List Addr) (n : Nat), n < l.length → (l.map Value.ref).getD n .null = .ref (l.getD n 0)
  | [], _, h => absurd h (Nat.not_lt_zero _)
  | _ :: _, 0, _ => rfl
  | _ :: l, n + 1, h => own_mapR l n (Nat.lt_of_succ_lt_succ h)
def own_ix (p : Int32) : Int32 := (p &&& (2147483647 : Int32)) % (22 : Int32)
theorem own_i (p : Int32) : ¬ own_ix p < 0 ∧ own_ix p < 22 := by
  have h1 := c_and p 2147483647 (by decide)
  have h2 := (c_irem (p &&& 2147483647) 22 22 (by decide)).1 h1.1
  have l0 : (0 : Int32).toInt = 0 := by decide
  have l1 : (22 : Int32).toInt = 22 := by decide
  rw [Int32.lt_iff_toInt_lt, Int32.lt_iff_toInt_lt, l0, l1]
  unfold own_ix
  omega
theorem own_n (p : Int32) : (own_ix p).toNatClampNeg < 22 := by
  have h := own_i p
  rw [Int32.lt_iff_toInt_lt, Int32.lt_iff_toInt_lt] at h
  have l0 : (0 : Int32).toInt = 0 := by decide
  have l1 : (22 : Int32).toInt = 22 := by decide
  simp only [Int32.toNatClampNeg]
  omega
def own_sup (t lo hi : Int32) : Int32 := if t < lo then 0 else if hi < t then 0 else 1
theorem d1_0 : decode prog_51_method_9_code 0 = .ok (.iload_n 1, 1) := by decide +kernel
theorem d1_1 : decode prog_51_method_9_code 1 = .ok (.aload_n 0, 1) := by decide +kernel
theorem d1_2 : decode prog_51_method_9_code 2 = .ok (.getfield 99, 3) := by decide +kernel
theorem d1_5 : decode prog_51_method_9_code 5 = .ok (.if_icmp .lt 15, 3) := by decide +kernel
theorem d1_8 : decode prog_51_method_9_code 8 = .ok (.iload_n 1, 1) := by decide +kernel
theorem d1_9 : decode prog_51_method_9_code 9 = .ok (.aload_n 0, 1) := by decide +kernel
theorem d1_10 : decode prog_51_method_9_code 10 = .ok (.getfield 102, 3) := by decide +kernel
theorem d1_13 : decode prog_51_method_9_code 13 = .ok (.if_icmp .gt 7, 3) := by decide +kernel
theorem d1_16 : decode prog_51_method_9_code 16 = .ok (.iconst 1, 1) := by decide +kernel
theorem d1_17 : decode prog_51_method_9_code 17 = .ok (.goto 4, 3) := by decide +kernel
theorem d1_20 : decode prog_51_method_9_code 20 = .ok (.iconst 0, 1) := by decide +kernel
theorem d1_21 : decode prog_51_method_9_code 21 = .ok (.ireturn, 1) := by decide +kernel
def Q_rm1 (Z : State) (ao0 : Addr) (p1 : Int32) (u : Int32) (r : Int32) (h0 : Heap) (n0 : Nat) (v : Option Value) (h : Heap) (L : List Loc) : Prop := v = some (.int (own_sup p1 u r)) ∧ Fr n0 L ∧ h = h0
theorem pn_rm1 : plainName "com/example/mechelen/mechelen/protocol/ApiKey" = true := by first | (simp [plainName, overriddenIn]; done) | decide +kernel
theorem ef_rm1 (m : MethodId) (x0 : Addr) (x1 : Int32) : entryFrame m #[(.ref x0), (.int x1)] 2 = mkF m 0 #[.val (.ref x0), .val (.int x1)] [] := by first | (simp [entryFrame, mkF, argsToLocals, Value.category]; done) | rfl
set_option maxRecDepth 65536 in
set_option maxHeartbeats 40000000 in
theorem rm1 (l : Launch) (Z : State) (a0 : Array Value) (hw : ∀ d ∈ tables_1, d.before a0 Z = true) (ws : List Jvm.Cond) (ao0 : Addr) (p1 : Int32) (u : Int32) (r : Int32) (h0 : Heap) (n0 : Nat) (Z0 : n0 ≤ h0.size) (F_ao0_minVersion : Fld Z h0 ao0 "com/example/mechelen/mechelen/protocol/ApiKey" "minVersion" "S" (.int u)) (F_ao0_maxVersion : Fld Z h0 ao0 "com/example/mechelen/mechelen/protocol/ApiKey" "maxVersion" "S" (.int r)) :
    MetFree l (⟨"com/example/mechelen/mechelen/protocol/ApiKey", "serves", "(S)Z"⟩ : MethodName) (head1 (Jvm.Cond.code (⟨"com/example/mechelen/mechelen/protocol/ApiKey", "serves", "(S)Z"⟩ : MethodName) prog_51_method_9_code 2 (some .boolean) :: ws) ({ frames := 0, cells := 0, slots := 0, locals := 0 } : Room)) (fun a U => a = #[(.ref ao0), (.int p1)] ∧ Z.Warmed39 U.vm ∧ U.heap = h0) (fun _ _ _ _ _ => True) (fun _ U o U' => ∃ v L, o = .returned v ∧ (Q_rm1 Z ao0 p1 u r h0 n0) v U'.heap L ∧ FrameEnd U o U' L ({ frames := 0, cells := 0, slots := 0, locals := 0 } : Room).cells ({ frames := 0, cells := 0, slots := 0, locals := 0 } : Room).slots) := by
  refine MetFree.of_bodySF (plainFor_of_name pn_rm1) hisR ?_
  intro p e s m args below meth c s₁ Bd hml0 hP hK
  obtain ⟨rfl, hZ, hh⟩ := hP
  have hx := Bd.exec
  have hby := Bd.bytes
  have hlk := BodyLoose.notSynchronized Bd
  have hret := Bd.returns
  have hml : c.maxLocals = 2 := hml0
  have hown : s.vm.findClass "com/example/mechelen/mechelen/protocol/ApiKey" = some m.cls := findClass_of_methodNamed Bd.named
  have hnm := (name_of_methodNamed Bd.named Bd.method).1
  have X0 : Stand p l e ({ frames := 0, cells := 0, slots := 0, locals := 0 } : Room) s m #[(.ref ao0), (.int p1)] below meth c s₁ [] 0 0 := Stand.of_body Bd
  have e0 : s₁.heap = h0 := by rw [← hh, Bd.state]; rfl
  have Nf := Fr.nil n0
  have Zs := Z0
  have Kp : Keep h0 h0 [] := Keep.refl _ _
  show own_End p e below s (Q_rm1 Z ao0 p1 u r h0 n0) ({ frames := 0, cells := 0, slots := 0, locals := 0 } : Room).cells ({ frames := 0, cells := 0, slots := 0, locals := 0 } : Room).slots (s₁.setTop (entryFrame m #[(.ref ao0), (.int p1)] 2))
  refine own_go (x' := s₁.setTop (mkF m 0 #[.val (.ref ao0), .val (.int p1)] [])) (fun t k => castTop (ef_rm1 m ao0 p1) k) ?_
  refine own_go (x' := s₁.setTop (mkF m 2 #[.val (.ref ao0), .val (.int p1)] [(.ref ao0), (.int p1)])) (fun _ k => XS.iloadN X0.here hx rfl (hb hby d1_0) rfl (XS.aloadN X0.here hx rfl (hb hby d1_1) rfl rfl k)) ?_
  obtain ⟨T1, X1, e1, st1⟩ := getF X0 hx hZ hown (host := "") (Or.inl (own_w hw 55 rfl)) Via.refl e0 F_ao0_minVersion (g := (mkF m 2 #[.val (.ref ao0), .val (.int p1)] [(.ref ao0), (.int p1)])) rfl rfl (hb hby d1_2)
  refine own_go (x' := T1.setTop (mkF m 5 #[.val (.ref ao0), .val (.int p1)] [(.int u), (.int p1)])) st1 ?_
  by_cases hc5 : p1 < u
  · refine own_go (x' := T1.setTop (mkF m 21 #[.val (.ref ao0), .val (.int p1)] [(.int (0 : Int32))])) (fun _ k => XS.icmpYes X1.here hx rfl (pc0 := 5) (pc' := 20) rfl (hb hby d1_5) rfl (tlt hc5).1 (by decide) (by decide) (XS.iconst X1.here hx rfl (hb hby d1_20) k)) ?_
    refine own_retN X1 hx hlk (t := .boolean) hret (by simp) (hb hby d1_21) (w := (0 : Int32)) rfl ?_ (by decide) (by decide)
    rw [e1]
    exact ⟨by simp only [own_sup, if_pos hc5], Nf, rfl⟩
  · refine own_go (x' := T1.setTop (mkF m 10 #[.val (.ref ao0), .val (.int p1)] [(.ref ao0), (.int p1)])) (fun _ k => XS.icmpNo X1.here hx rfl (hb hby d1_5) rfl (flt hc5).1 (XS.iloadN X1.here hx rfl (hb hby d1_8) rfl (XS.aloadN X1.here hx rfl (hb hby d1_9) rfl rfl k))) ?_
    obtain ⟨T2, X2, e2, st2⟩ := getF X1 hx hZ hown (host := "") (Or.inl (own_w hw 57 rfl)) Via.refl e1 F_ao0_maxVersion (g := (mkF m 10 #[.val (.ref ao0), .val (.int p1)] [(.ref ao0), (.int p1)])) rfl rfl (hb hby d1_10)
    refine own_go (x' := T2.setTop (mkF m 13 #[.val (.ref ao0), .val (.int p1)] [(.int r), (.int p1)])) st2 ?_
    by_cases hc13 : r < p1
    · refine own_go (x' := T2.setTop (mkF m 21 #[.val (.ref ao0), .val (.int p1)] [(.int (0 : Int32))])) (fun _ k => XS.icmpYes X2.here hx rfl (pc0 := 13) (pc' := 20) rfl (hb hby d1_13) rfl (tlt hc13).2.2.1 (by decide) (by decide) (XS.iconst X2.here hx rfl (hb hby d1_20) k)) ?_
      refine own_retN X2 hx hlk (t := .boolean) hret (by simp) (hb hby d1_21) (w := (0 : Int32)) rfl ?_ (by decide) (by decide)
      rw [e2]
      exact ⟨by simp only [own_sup, if_neg hc5, if_pos hc13], Nf, rfl⟩
    · refine own_go (x' := T2.setTop (mkF m 21 #[.val (.ref ao0), .val (.int p1)] [(.int (1 : Int32))])) (fun _ k => XS.icmpNo X2.here hx rfl (hb hby d1_13) rfl (flt hc13).2.2.1 (XS.iconst X2.here hx rfl (hb hby d1_16) (XS.goto X2.here hx rfl (pc0 := 17) (pc' := 21) rfl (hb hby d1_17) (by decide) (by decide) k))) ?_
      refine own_retN X2 hx hlk (t := .boolean) hret (by simp) (hb hby d1_21) (w := (1 : Int32)) rfl ?_ (by decide) (by decide)
      rw [e2]
      exact ⟨by simp only [own_sup, if_neg hc5, if_neg hc13], Nf, rfl⟩
theorem pd_0 : parseMethodDescriptor "(S)Z" = some ⟨[.short], some .boolean⟩ := by decide +kernel
def Q_rm0 (Z : State) (p0 : Int32) (p1 : Int32) (p2 : Int32) (p3 : Int32) (a_PRODUCE a_FETCH a_LIST_OFFSETS a_METADATA a_OFFSET_COMMIT a_OFFSET_FETCH a_FIND_COORDINATOR a_JOIN_GROUP a_HEARTBEAT a_LEAVE_GROUP a_SYNC_GROUP a_DESCRIBE_GROUPS a_LIST_GROUPS a_API_VERSIONS a_CREATE_TOPICS a_DELETE_TOPICS a_DELETE_RECORDS a_INIT_PRODUCER_ID a_DESCRIBE_CONFIGS a_CREATE_PARTITIONS a_DELETE_GROUPS a_OFFSET_DELETE : Addr) (h0 : Heap) (n0 : Nat) (v : Option Value) (h : Heap) (L : List Loc) : Prop := v = some (.int 1) ∧ Fr n0 L
theorem pn_rm0 : plainName "com/example/mechelen/mechelen/protocol/ApiKeyServesPinLaw" = true := by first | (simp [plainName, overriddenIn]; done) | decide +kernel
theorem ef_rm0 (m : MethodId) (x0 : Int32) (x1 : Int32) (x2 : Int32) (x3 : Int32) : entryFrame m #[(.int x0), (.int x1), (.int x2), (.int x3)] maxLocals = mkF m 0 #[.val (.int x0), .val (.int x1), .val (.int x2), .val (.int x3), .unset, .unset, .unset, .unset, .unset, .unset, .unset, .unset] [] := by first | (simp [entryFrame, mkF, argsToLocals, Value.category, maxLocals]; done) | rfl
set_option maxRecDepth 65536 in
set_option maxHeartbeats 40000000 in
theorem rm0 (l : Launch) (Z : State) (a0 : Array Value) (hw : ∀ d ∈ tables_1, d.before a0 Z = true) (ws : List Jvm.Cond) (p0 : Int32) (p1 : Int32) (p2 : Int32) (p3 : Int32) (a_PRODUCE a_FETCH a_LIST_OFFSETS a_METADATA a_OFFSET_COMMIT a_OFFSET_FETCH a_FIND_COORDINATOR a_JOIN_GROUP a_HEARTBEAT a_LEAVE_GROUP a_SYNC_GROUP a_DESCRIBE_GROUPS a_LIST_GROUPS a_API_VERSIONS a_CREATE_TOPICS a_DELETE_TOPICS a_DELETE_RECORDS a_INIT_PRODUCER_ID a_DESCRIBE_CONFIGS a_CREATE_PARTITIONS a_DELETE_GROUPS a_OFFSET_DELETE : Addr) (h0 : Heap) (n0 : Nat) (Z0 : n0 ≤ h0.size) (Od : Old Z n0 h0) (S_PRODUCE : Sta Z Z.heap "com/example/mechelen/mechelen/protocol/ApiKey" "PRODUCE" "Lcom/example/mechelen/mechelen/protocol/ApiKey;" (.ref a_PRODUCE)) (E_a_PRODUCE : Exa Z Z.heap a_PRODUCE "com/example/mechelen/mechelen/protocol/ApiKey") (S_FETCH : Sta Z Z.heap "com/example/mechelen/mechelen/protocol/ApiKey" "FETCH" "Lcom/example/mechelen/mechelen/protocol/ApiKey;" (.ref a_FETCH)) (E_a_FETCH : Exa Z Z.heap a_FETCH "com/example/mechelen/mechelen/protocol/ApiKey") (S_LIST_OFFSETS : Sta Z Z.heap "com/example/mechelen/mechelen/protocol/ApiKey" "LIST_OFFSETS" "Lcom/example/mechelen/mechelen/protocol/ApiKey;" (.ref a_LIST_OFFSETS)) (E_a_LIST_OFFSETS : Exa Z Z.heap a_LIST_OFFSETS "com/example/mechelen/mechelen/protocol/ApiKey") (S_METADATA : Sta Z Z.heap "com/example/mechelen/mechelen/protocol/ApiKey" "METADATA" "Lcom/example/mechelen/mechelen/protocol/ApiKey;" (.ref a_METADATA)) (E_a_METADATA : Exa Z Z.heap a_METADATA "com/example/mechelen/mechelen/protocol/ApiKey") (S_OFFSET_COMMIT : Sta Z Z.heap "com/example/mechelen/mechelen/protocol/ApiKey" "OFFSET_COMMIT" "Lcom/example/mechelen/mechelen/protocol/ApiKey;" (.ref a_OFFSET_COMMIT)) (E_a_OFFSET_COMMIT : Exa Z Z.heap a_OFFSET_COMMIT "com/example/mechelen/mechelen/protocol/ApiKey") (S_OFFSET_FETCH : Sta Z Z.heap "com/example/mechelen/mechelen/protocol/ApiKey" "OFFSET_FETCH" "Lcom/example/mechelen/mechelen/protocol/ApiKey;" (.ref a_OFFSET_FETCH)) (E_a_OFFSET_FETCH : Exa Z Z.heap a_OFFSET_FETCH "com/example/mechelen/mechelen/protocol/ApiKey") (S_FIND_COORDINATOR : Sta Z Z.heap "com/example/mechelen/mechelen/protocol/ApiKey" "FIND_COORDINATOR" "Lcom/example/mechelen/mechelen/protocol/ApiKey;" (.ref a_FIND_COORDINATOR)) (E_a_FIND_COORDINATOR : Exa Z Z.heap a_FIND_COORDINATOR "com/example/mechelen/mechelen/protocol/ApiKey") (S_JOIN_GROUP : Sta Z Z.heap "com/example/mechelen/mechelen/protocol/ApiKey" "JOIN_GROUP" "Lcom/example/mechelen/mechelen/protocol/ApiKey;" (.ref a_JOIN_GROUP)) (E_a_JOIN_GROUP : Exa Z Z.heap a_JOIN_GROUP "com/example/mechelen/mechelen/protocol/ApiKey") (S_HEARTBEAT : Sta Z Z.heap "com/example/mechelen/mechelen/protocol/ApiKey" "HEARTBEAT" "Lcom/example/mechelen/mechelen/protocol/ApiKey;" (.ref a_HEARTBEAT)) (E_a_HEARTBEAT : Exa Z Z.heap a_HEARTBEAT "com/example/mechelen/mechelen/protocol/ApiKey") (S_LEAVE_GROUP : Sta Z Z.heap "com/example/mechelen/mechelen/protocol/ApiKey" "LEAVE_GROUP" "Lcom/example/mechelen/mechelen/protocol/ApiKey;" (.ref a_LEAVE_GROUP)) (E_a_LEAVE_GROUP : Exa Z Z.heap a_LEAVE_GROUP "com/example/mechelen/mechelen/protocol/ApiKey") (S_SYNC_GROUP : Sta Z Z.heap "com/example/mechelen/mechelen/protocol/ApiKey" "SYNC_GROUP" "Lcom/example/mechelen/mechelen/protocol/ApiKey;" (.ref a_SYNC_GROUP)) (E_a_SYNC_GROUP : Exa Z Z.heap a_SYNC_GROUP "com/example/mechelen/mechelen/protocol/ApiKey") (S_DESCRIBE_GROUPS : Sta Z Z.heap "com/example/mechelen/mechelen/protocol/ApiKey" "DESCRIBE_GROUPS" "Lcom/example/mechelen/mechelen/protocol/ApiKey;" (.ref a_DESCRIBE_GROUPS)) (E_a_DESCRIBE_GROUPS : Exa Z Z.heap a_DESCRIBE_GROUPS "com/example/mechelen/mechelen/protocol/ApiKey") (S_LIST_GROUPS : Sta Z Z.heap "com/example/mechelen/mechelen/protocol/ApiKey" "LIST_GROUPS" "Lcom/example/mechelen/mechelen/protocol/ApiKey;" (.ref a_LIST_GROUPS)) (E_a_LIST_GROUPS : Exa Z Z.heap a_LIST_GROUPS "com/example/mechelen/mechelen/protocol/ApiKey") (S_API_VERSIONS : Sta Z Z.heap "com/example/mechelen/mechelen/protocol/ApiKey" "API_VERSIONS" "Lcom/example/mechelen/mechelen/protocol/ApiKey;" (.ref a_API_VERSIONS)) (E_a_API_VERSIONS : Exa Z Z.heap a_API_VERSIONS "com/example/mechelen/mechelen/protocol/ApiKey") (S_CREATE_TOPICS : Sta Z Z.heap "com/example/mechelen/mechelen/protocol/ApiKey" "CREATE_TOPICS" "Lcom/example/mechelen/mechelen/protocol/ApiKey;" (.ref a_CREATE_TOPICS)) (E_a_CREATE_TOPICS : Exa Z Z.heap a_CREATE_TOPICS "com/example/mechelen/mechelen/protocol/ApiKey") (S_DELETE_TOPICS : Sta Z Z.heap "com/example/mechelen/mechelen/protocol/ApiKey" "DELETE_TOPICS" "Lcom/example/mechelen/mechelen/protocol/ApiKey;" (.ref a_DELETE_TOPICS)) (E_a_DELETE_TOPICS : Exa Z Z.heap a_DELETE_TOPICS "com/example/mechelen/mechelen/protocol/ApiKey") (S_DELETE_RECORDS : Sta Z Z.heap "com/example/mechelen/mechelen/protocol/ApiKey" "DELETE_RECORDS" "Lcom/example/mechelen/mechelen/protocol/ApiKey;" (.ref a_DELETE_RECORDS)) (E_a_DELETE_RECORDS : Exa Z Z.heap a_DELETE_RECORDS "com/example/mechelen/mechelen/protocol/ApiKey") (S_INIT_PRODUCER_ID : Sta Z Z.heap "com/example/mechelen/mechelen/protocol/ApiKey" "INIT_PRODUCER_ID" "Lcom/example/mechelen/mechelen/protocol/ApiKey;" (.ref a_INIT_PRODUCER_ID)) (E_a_INIT_PRODUCER_ID : Exa Z Z.heap a_INIT_PRODUCER_ID "com/example/mechelen/mechelen/protocol/ApiKey") (S_DESCRIBE_CONFIGS : Sta Z Z.heap "com/example/mechelen/mechelen/protocol/ApiKey" "DESCRIBE_CONFIGS" "Lcom/example/mechelen/mechelen/protocol/ApiKey;" (.ref a_DESCRIBE_CONFIGS)) (E_a_DESCRIBE_CONFIGS : Exa Z Z.heap a_DESCRIBE_CONFIGS "com/example/mechelen/mechelen/protocol/ApiKey") (S_CREATE_PARTITIONS : Sta Z Z.heap "com/example/mechelen/mechelen/protocol/ApiKey" "CREATE_PARTITIONS" "Lcom/example/mechelen/mechelen/protocol/ApiKey;" (.ref a_CREATE_PARTITIONS)) (E_a_CREATE_PARTITIONS : Exa Z Z.heap a_CREATE_PARTITIONS "com/example/mechelen/mechelen/protocol/ApiKey") (S_DELETE_GROUPS : Sta Z Z.heap "com/example/mechelen/mechelen/protocol/ApiKey" "DELETE_GROUPS" "Lcom/example/mechelen/mechelen/protocol/ApiKey;" (.ref a_DELETE_GROUPS)) (E_a_DELETE_GROUPS : Exa Z Z.heap a_DELETE_GROUPS "com/example/mechelen/mechelen/protocol/ApiKey") (S_OFFSET_DELETE : Sta Z Z.heap "com/example/mechelen/mechelen/protocol/ApiKey" "OFFSET_DELETE" "Lcom/example/mechelen/mechelen/protocol/ApiKey;" (.ref a_OFFSET_DELETE)) (E_a_OFFSET_DELETE : Exa Z Z.heap a_OFFSET_DELETE "com/example/mechelen/mechelen/protocol/ApiKey") (own_key : ∀ n, n < 22 → Exa Z Z.heap (([a_PRODUCE, a_FETCH, a_LIST_OFFSETS, a_METADATA, a_OFFSET_COMMIT, a_OFFSET_FETCH, a_FIND_COORDINATOR, a_JOIN_GROUP, a_HEARTBEAT, a_LEAVE_GROUP, a_SYNC_GROUP, a_DESCRIBE_GROUPS, a_LIST_GROUPS, a_API_VERSIONS, a_CREATE_TOPICS, a_DELETE_TOPICS, a_DELETE_RECORDS, a_INIT_PRODUCER_ID, a_DESCRIBE_CONFIGS, a_CREATE_PARTITIONS, a_DELETE_GROUPS, a_OFFSET_DELETE] : List Addr).getD n 0) "com/example/mechelen/mechelen/protocol/ApiKey" ∧ Fld Z Z.heap (([a_PRODUCE, a_FETCH, a_LIST_OFFSETS, a_METADATA, a_OFFSET_COMMIT, a_OFFSET_FETCH, a_FIND_COORDINATOR, a_JOIN_GROUP, a_HEARTBEAT, a_LEAVE_GROUP, a_SYNC_GROUP, a_DESCRIBE_GROUPS, a_LIST_GROUPS, a_API_VERSIONS, a_CREATE_TOPICS, a_DELETE_TOPICS, a_DELETE_RECORDS, a_INIT_PRODUCER_ID, a_DESCRIBE_CONFIGS, a_CREATE_PARTITIONS, a_DELETE_GROUPS, a_OFFSET_DELETE] : List Addr).getD n 0) "com/example/mechelen/mechelen/protocol/ApiKey" "minVersion" "S" (.int (own_nth own_los n)) ∧ Fld Z Z.heap (([a_PRODUCE, a_FETCH, a_LIST_OFFSETS, a_METADATA, a_OFFSET_COMMIT, a_OFFSET_FETCH, a_FIND_COORDINATOR, a_JOIN_GROUP, a_HEARTBEAT, a_LEAVE_GROUP, a_SYNC_GROUP, a_DESCRIBE_GROUPS, a_LIST_GROUPS, a_API_VERSIONS, a_CREATE_TOPICS, a_DELETE_TOPICS, a_DELETE_RECORDS, a_INIT_PRODUCER_ID, a_DESCRIBE_CONFIGS, a_CREATE_PARTITIONS, a_DELETE_GROUPS, a_OFFSET_DELETE] : List Addr).getD n 0) "com/example/mechelen/mechelen/protocol/ApiKey" "maxVersion" "S" (.int (own_nth own_his n))) :
    MetFree l x (head1 (Jvm.Cond.code x code maxLocals ret :: ws) room_1) (fun a U => a = #[(.int p0), (.int p1), (.int p2), (.int p3)] ∧ Z.Warmed39 U.vm ∧ U.heap = h0) (fun _ _ _ _ _ => True) (fun _ U o U' => ∃ v L, o = .returned v ∧ (Q_rm0 Z p0 p1 p2 p3 a_PRODUCE a_FETCH a_LIST_OFFSETS a_METADATA a_OFFSET_COMMIT a_OFFSET_FETCH a_FIND_COORDINATOR a_JOIN_GROUP a_HEARTBEAT a_LEAVE_GROUP a_SYNC_GROUP a_DESCRIBE_GROUPS a_LIST_GROUPS a_API_VERSIONS a_CREATE_TOPICS a_DELETE_TOPICS a_DELETE_RECORDS a_INIT_PRODUCER_ID a_DESCRIBE_CONFIGS a_CREATE_PARTITIONS a_DELETE_GROUPS a_OFFSET_DELETE h0 n0) v U'.heap L ∧ FrameEnd U o U' L room_1.cells room_1.slots) := by
  refine MetFree.of_bodySF (plainFor_of_name pn_rm0) hisR ?_
  intro p e s m args below meth c s₁ Bd hml0 hP hK
  obtain ⟨rfl, hZ, hh⟩ := hP
  have hx := Bd.exec
  have hby := Bd.bytes
  have hlk := BodyLoose.notSynchronized Bd
  have hret := Bd.returns
  have hml : c.maxLocals = 12 := hml0
  have hown : s.vm.findClass "com/example/mechelen/mechelen/protocol/ApiKeyServesPinLaw" = some m.cls := findClass_of_methodNamed Bd.named
  have hnm := (name_of_methodNamed Bd.named Bd.method).1
  have X0 : Stand p l e room_1 s m #[(.int p0), (.int p1), (.int p2), (.int p3)] below meth c s₁ [] 0 0 := Stand.of_body Bd
  have e0 : s₁.heap = h0 := by rw [← hh, Bd.state]; rfl
  have Nf := Fr.nil n0
  have Zs := Z0
  have Kp : Keep h0 h0 [] := Keep.refl _ _
  show own_End p e below s (Q_rm0 Z p0 p1 p2 p3 a_PRODUCE a_FETCH a_LIST_OFFSETS a_METADATA a_OFFSET_COMMIT a_OFFSET_FETCH a_FIND_COORDINATOR a_JOIN_GROUP a_HEARTBEAT a_LEAVE_GROUP a_SYNC_GROUP a_DESCRIBE_GROUPS a_LIST_GROUPS a_API_VERSIONS a_CREATE_TOPICS a_DELETE_TOPICS a_DELETE_RECORDS a_INIT_PRODUCER_ID a_DESCRIBE_CONFIGS a_CREATE_PARTITIONS a_DELETE_GROUPS a_OFFSET_DELETE h0 n0) room_1.cells room_1.slots (s₁.setTop (entryFrame m #[(.int p0), (.int p1), (.int p2), (.int p3)] maxLocals))
  refine own_go (x' := s₁.setTop (mkF m 0 #[.val (.int p0), .val (.int p1), .val (.int p2), .val (.int p3), .unset, .unset, .unset, .unset, .unset, .unset, .unset, .unset] [])) (fun t k => castTop (ef_rm0 m p0 p1 p2 p3) k) ?_
  refine own_go (x' := s₁.setTop (mkF m 2 #[.val (.int p0), .val (.int p1), .val (.int p2), .val (.int p3), .unset, .unset, .unset, .unset, .unset, .unset, .unset, .unset] [(.int (22 : Int32))])) (fun _ k => XS.bipush X0.here hx rfl (hb hby at_0) k) ?_
  obtain ⟨T1, h1, k1, X1, e1, E1, A1, O1, st1⟩ := newR X0 hx hZ hown (own_w hw 0 rfl) (own_w hw 1 rfl) e0 (g := (mkF m 2 #[.val (.int p0), .val (.int p1), .val (.int p2), .val (.int p3), .unset, .unset, .unset, .unset, .unset, .unset, .unset, .unset] [(.int (22 : Int32))])) rfl (hb hby at_2) rfl (by decide) (cap := 22) (by decide) (by decide) (by decide) (by decide)
  obtain ⟨b1, g1⟩ : ∃ z, z = h0.size := ⟨_, rfl⟩
  rw [← g1] at A1 st1
  have g_b1 : n0 ≤ b1 := Nat.le_trans Zs (Nat.le_of_eq g1.symm)
  replace Od := Od.ext E1
  replace Zs := Nat.le_trans Zs E1.1
  have V_b1 : Arv Z h1 b1 k1 (.object "com/example/mechelen/mechelen/protocol/ApiKey") (22 : Int32) [.null, .null, .null, .null, .null, .null, .null, .null, .null, .null, .null, .null, .null, .null, .null, .null, .null, .null, .null, .null, .null, .null] .null := (Arv.new A1 (by decide)).pad (pad_rep [] .null 22)
  refine own_go (x' := T1.setTop (mkF m 5 #[.val (.int p0), .val (.int p1), .val (.int p2), .val (.int p3), .unset, .unset, .unset, .unset, .unset, .unset, .unset, .unset] [(.ref b1)])) st1 ?_
  refine own_go (x' := T1.setTop (mkF m 7 #[.val (.int p0), .val (.int p1), .val (.int p2), .val (.int p3), .unset, .unset, .unset, .unset, .unset, .unset, .unset, .unset] [(.int (0 : Int32)), (.ref b1), (.ref b1)])) (fun _ k => XS.dup X1.here hx rfl (hb hby at_5) rfl rfl (XS.iconst X1.here hx rfl (hb hby at_6) k)) ?_
  obtain ⟨T2, X2, e2, st2⟩ := getS2 X1 hx hZ hown (host := "") (Or.inl (own_w hw 2 rfl)) Via.refl e1 (Sta.ext Od.2 S_PRODUCE) (g := (mkF m 7 #[.val (.int p0), .val (.int p1), .val (.int p2), .val (.int p3), .unset, .unset, .unset, .unset, .unset, .unset, .unset, .unset] [(.int (0 : Int32)), (.ref b1), (.ref b1)])) rfl (hb hby at_7)
  refine own_go (x' := T2.setTop (mkF m 10 #[.val (.int p0), .val (.int p1), .val (.int p2), .val (.int p3), .unset, .unset, .unset, .unset, .unset, .unset, .unset, .unset] [(.ref a_PRODUCE), (.int (0 : Int32)), (.ref b1), (.ref b1)])) st2 ?_
  obtain ⟨cl3, Ar3, q3, Sz3, Nn3, Hh3, Gg3⟩ := V_b1
  have hin3 : ¬ ((0 : Int32) < 0 ∨ cl3.slots.size ≤ ((0 : Int32)).toNatClampNeg) := inb_of Sz3 ⟨by decide, by decide⟩
  obtain ⟨T3, h3, X3, e3, W3, st3⟩ := stR X2 hx hZ e2 Ar3 (j := (0 : Int32)) hin3 rfl (Sto.ofV Ar3 q3 O1 (Ins.self (Exa.ext Od.2 E_a_PRODUCE))) (g := (mkF m 10 #[.val (.int p0), .val (.int p1), .val (.int p2), .val (.int p3), .unset, .unset, .unset, .unset, .unset, .unset, .unset, .unset] [(.ref a_PRODUCE), (.int (0 : Int32)), (.ref b1), (.ref b1)])) rfl rfl (hb hby at_10)
  refine own_go (x' := T3.setTop (mkF m 11 #[.val (.int p0), .val (.int p1), .val (.int p2), .val (.int p3), .unset, .unset, .unset, .unset, .unset, .unset, .unset, .unset] [(.ref b1)])) st3 ?_
  replace Od := Od.wr W3 g_b1
  replace Zs := Nat.le_trans Zs (Keep.of_wr W3).1
  replace Nf := Fr.snoc X3 Nf g_b1
  have V_b1 : Arv Z h3 b1 k1 (.object "com/example/mechelen/mechelen/protocol/ApiKey") (22 : Int32) [(.ref a_PRODUCE), .null, .null, .null, .null, .null, .null, .null, .null, .null, .null, .null, .null, .null, .null, .null, .null, .null, .null, .null, .null, .null] .null := Arv.set Ar3 q3 Sz3 Nn3 Hh3 Gg3 rfl W3 0 rfl (Nat.le_of_ble_eq_true rfl)
  refine own_go (x' := T3.setTop (mkF m 13 #[.val (.int p0), .val (.int p1), .val (.int p2), .val (.int p3), .unset, .unset, .unset, .unset, .unset, .unset, .unset, .unset] [(.int (1 : Int32)), (.ref b1), (.ref b1)])) (fun _ k => XS.dup X3.here hx rfl (hb hby at_11) rfl rfl (XS.iconst X3.here hx rfl (hb hby at_12) k)) ?_
  obtain ⟨T4, X4, e4, st4⟩ := getS2 X3 hx hZ hown (host := "") (Or.inl (own_w hw 6 rfl)) Via.refl e3 (Sta.ext Od.2 S_FETCH) (g := (mkF m 13 #[.val (.int p0), .val (.int p1), .val (.int p2), .val (.int p3), .unset, .unset, .unset, .unset, .unset, .unset, .unset, .unset] [(.int (1 : Int32)), (.ref b1), (.ref b1)])) rfl (hb hby at_13)
  refine own_go (x' := T4.setTop (mkF m 16 #[.val (.int p0), .val (.int p1), .val (.int p2), .val (.int p3), .unset, .unset, .unset, .unset, .unset, .unset, .unset, .unset] [(.ref a_FETCH), (.int (1 : Int32)), (.ref b1), (.ref b1)])) st4 ?_
  obtain ⟨cl5, Ar5, q5, Sz5, Nn5, Hh5, Gg5⟩ := V_b1
  have hin5 : ¬ ((1 : Int32) < 0 ∨ cl5.slots.size ≤ ((1 : Int32)).toNatClampNeg) := inb_of Sz5 ⟨by decide, by decide⟩
  obtain ⟨T5, h5, X5, e5, W5, st5⟩ := stR X4 hx hZ e4 Ar5 (j := (1 : Int32)) hin5 rfl (Sto.ofV Ar5 q5 O1 (Ins.self (Exa.ext Od.2 E_a_FETCH))) (g := (mkF m 16 #[.val (.int p0), .val (.int p1), .val (.int p2), .val (.int p3), .unset, .unset, .unset, .unset, .unset, .unset, .unset, .unset] [(.ref a_FETCH), (.int (1 : Int32)), (.ref b1), (.ref b1)])) rfl rfl (hb hby at_16)
  refine own_go (x' := T5.setTop (mkF m 17 #[.val (.int p0), .val (.int p1), .val (.int p2), .val (.int p3), .unset, .unset, .unset, .unset, .unset, .unset, .unset, .unset] [(.ref b1)])) st5 ?_
  replace Od := Od.wr W5 g_b1
  replace Zs := Nat.le_trans Zs (Keep.of_wr W5).1
  replace Nf := Fr.snoc X5 Nf g_b1
  have V_b1 : Arv Z h5 b1 k1 (.object "com/example/mechelen/mechelen/protocol/ApiKey") (22 : Int32) [(.ref a_PRODUCE), (.ref a_FETCH), .null, .null, .null, .null, .null, .null, .null, .null, .null, .null, .null, .null, .null, .null, .null, .null, .null, .null, .null, .null] .null := Arv.set Ar5 q5 Sz5 Nn5 Hh5 Gg5 rfl W5 1 rfl (Nat.le_of_ble_eq_true rfl)
  refine own_go (x' := T5.setTop (mkF m 19 #[.val (.int p0), .val (.int p1), .val (.int p2), .val (.int p3), .unset, .unset, .unset, .unset, .unset, .unset, .unset, .unset] [(.int (2 : Int32)), (.ref b1), (.ref b1)])) (fun _ k => XS.dup X5.here hx rfl (hb hby at_17) rfl rfl (XS.iconst X5.here hx rfl (hb hby at_18) k)) ?_
  obtain ⟨T6, X6, e6, st6⟩ := getS2 X5 hx hZ hown (host := "") (Or.inl (own_w hw 8 rfl)) Via.refl e5 (Sta.ext Od.2 S_LIST_OFFSETS) (g := (mkF m 19 #[.val (.int p0), .val (.int p1), .val (.int p2), .val (.int p3), .unset, .unset, .unset, .unset, .unset, .unset, .unset, .unset] [(.int (2 : Int32)), (.ref b1), (.ref b1)])) rfl (hb hby at_19)
  refine own_go (x' := T6.setTop (mkF m 22 #[.val (.int p0), .val (.int p1), .val (.int p2), .val (.int p3), .unset, .unset, .unset, .unset, .unset, .unset, .unset, .unset] [(.ref a_LIST_OFFSETS), (.int (2 : Int32)), (.ref b1), (.ref b1)])) st6 ?_
  obtain ⟨cl7, Ar7, q7, Sz7, Nn7, Hh7, Gg7⟩ := V_b1
  have hin7 : ¬ ((2 : Int32) < 0 ∨ cl7.slots.size ≤ ((2 : Int32)).toNatClampNeg) := inb_of Sz7 ⟨by decide, by decide⟩
  obtain ⟨T7, h7, X7, e7, W7, st7⟩ := stR X6 hx hZ e6 Ar7 (j := (2 : Int32)) hin7 rfl (Sto.ofV Ar7 q7 O1 (Ins.self (Exa.ext Od.2 E_a_LIST_OFFSETS))) (g := (mkF m 22 #[.val (.int p0), .val (.int p1), .val (.int p2), .val (.int p3), .unset, .unset, .unset, .unset, .unset, .unset, .unset, .unset] [(.ref a_LIST_OFFSETS), (.int (2 : Int32)), (.ref b1), (.ref b1)])) rfl rfl (hb hby at_22)
  refine own_go (x' := T7.setTop (mkF m 23 #[.val (.int p0), .val (.int p1), .val (.int p2), .val (.int p3), .unset, .unset, .unset, .unset, .unset, .unset, .unset, .unset] [(.ref b1)])) st7 ?_
  replace Od := Od.wr W7 g_b1
  replace Zs := Nat.le_trans Zs (Keep.of_wr W7).1
  replace Nf := Fr.snoc X7 Nf g_b1
  have V_b1 : Arv Z h7 b1 k1 (.object "com/example/mechelen/mechelen/protocol/ApiKey") (22 : Int32) [(.ref a_PRODUCE), (.ref a_FETCH), (.ref a_LIST_OFFSETS), .null, .null, .null, .null, .null, .null, .null, .null, .null, .null, .null, .null, .null, .null, .null, .null, .null, .null, .null] .null := Arv.set Ar7 q7 Sz7 Nn7 Hh7 Gg7 rfl W7 2 rfl (Nat.le_of_ble_eq_true rfl)
  refine own_go (x' := T7.setTop (mkF m 25 #[.val (.int p0), .val (.int p1), .val (.int p2), .val (.int p3), .unset, .unset, .unset, .unset, .unset, .unset, .unset, .unset] [(.int (3 : Int32)), (.ref b1), (.ref b1)])) (fun _ k => XS.dup X7.here hx rfl (hb hby at_23) rfl rfl (XS.iconst X7.here hx rfl (hb hby at_24) k)) ?_
  obtain ⟨T8, X8, e8, st8⟩ := getS2 X7 hx hZ hown (host := "") (Or.inl (own_w hw 10 rfl)) Via.refl e7 (Sta.ext Od.2 S_METADATA) (g := (mkF m 25 #[.val (.int p0), .val (.int p1), .val (.int p2), .val (.int p3), .unset, .unset, .unset, .unset, .unset, .unset, .unset, .unset] [(.int (3 : Int32)), (.ref b1), (.ref b1)])) rfl (hb hby at_25)
  refine own_go (x' := T8.setTop (mkF m 28 #[.val (.int p0), .val (.int p1), .val (.int p2), .val (.int p3), .unset, .unset, .unset, .unset, .unset, .unset, .unset, .unset] [(.ref a_METADATA), (.int (3 : Int32)), (.ref b1), (.ref b1)])) st8 ?_
  obtain ⟨cl9, Ar9, q9, Sz9, Nn9, Hh9, Gg9⟩ := V_b1
  have hin9 : ¬ ((3 : Int32) < 0 ∨ cl9.slots.size ≤ ((3 : Int32)).toNatClampNeg) := inb_of Sz9 ⟨by decide, by decide⟩
  obtain ⟨T9, h9, X9, e9, W9, st9⟩ := stR X8 hx hZ e8 Ar9 (j := (3 : Int32)) hin9 rfl (Sto.ofV Ar9 q9 O1 (Ins.self (Exa.ext Od.2 E_a_METADATA))) (g := (mkF m 28 #[.val (.int p0), .val (.int p1), .val (.int p2), .val (.int p3), .unset, .unset, .unset, .unset, .unset, .unset, .unset, .unset] [(.ref a_METADATA), (.int (3 : Int32)), (.ref b1), (.ref b1)])) rfl rfl (hb hby at_28)
  refine own_go (x' := T9.setTop (mkF m 29 #[.val (.int p0), .val (.int p1), .val (.int p2), .val (.int p3), .unset, .unset, .unset, .unset, .unset, .unset, .unset, .unset] [(.ref b1)])) st9 ?_
  replace Od := Od.wr W9 g_b1
  replace Zs := Nat.le_trans Zs (Keep.of_wr W9).1
  replace Nf := Fr.snoc X9 Nf g_b1
  have V_b1 : Arv Z h9 b1 k1 (.object "com/example/mechelen/mechelen/protocol/ApiKey") (22 : Int32) [(.ref a_PRODUCE), (.ref a_FETCH), (.ref a_LIST_OFFSETS), (.ref a_METADATA), .null, .null, .null, .null, .null, .null, .null, .null, .null, .null, .null, .null, .null, .null, .null, .null, .null, .null] .null := Arv.set Ar9 q9 Sz9 Nn9 Hh9 Gg9 rfl W9 3 rfl (Nat.le_of_ble_eq_true rfl)
  refine own_go (x' := T9.setTop (mkF m 31 #[.val (.int p0), .val (.int p1), .val (.int p2), .val (.int p3), .unset, .unset, .unset, .unset, .unset, .unset, .unset, .unset] [(.int (4 : Int32)), (.ref b1), (.ref b1)])) (fun _ k => XS.dup X9.here hx rfl (hb hby at_29) rfl rfl (XS.iconst X9.here hx rfl (hb hby at_30) k)) ?_
  obtain ⟨T10, X10, e10, st10⟩ := getS2 X9 hx hZ hown (host := "") (Or.inl (own_w hw 12 rfl)) Via.refl e9 (Sta.ext Od.2 S_OFFSET_COMMIT) (g := (mkF m 31 #[.val (.int p0), .val (.int p1), .val (.int p2), .val (.int p3), .unset, .unset, .unset, .unset, .unset, .unset, .unset, .unset] [(.int (4 : Int32)), (.ref b1), (.ref b1)])) rfl (hb hby at_31)
  refine own_go (x' := T10.setTop (mkF m 34 #[.val (.int p0), .val (.int p1), .val (.int p2), .val (.int p3), .unset, .unset, .unset, .unset, .unset, .unset, .unset, .unset] [(.ref a_OFFSET_COMMIT), (.int (4 : Int32)), (.ref b1), (.ref b1)])) st10 ?_
  obtain ⟨cl11, Ar11, q11, Sz11, Nn11, Hh11, Gg11⟩ := V_b1
  have hin11 : ¬ ((4 : Int32) < 0 ∨ cl11.slots.size ≤ ((4 : Int32)).toNatClampNeg) := inb_of Sz11 ⟨by decide, by decide⟩
  obtain ⟨T11, h11, X11, e11, W11, st11⟩ := stR X10 hx hZ e10 Ar11 (j := (4 : Int32)) hin11 rfl (Sto.ofV Ar11 q11 O1 (Ins.self (Exa.ext Od.2 E_a_OFFSET_COMMIT))) (g := (mkF m 34 #[.val (.int p0), .val (.int p1), .val (.int p2), .val (.int p3), .unset, .unset, .unset, .unset, .unset, .unset, .unset, .unset] [(.ref a_OFFSET_COMMIT), (.int (4 : Int32)), (.ref b1), (.ref b1)])) rfl rfl (hb hby at_34)
  refine own_go (x' := T11.setTop (mkF m 35 #[.val (.int p0), .val (.int p1), .val (.int p2), .val (.int p3), .unset, .unset, .unset, .unset, .unset, .unset, .unset, .unset] [(.ref b1)])) st11 ?_
  replace Od := Od.wr W11 g_b1
  replace Zs := Nat.le_trans Zs (Keep.of_wr W11).1
  replace Nf := Fr.snoc X11 Nf g_b1
  have V_b1 : Arv Z h11 b1 k1 (.object "com/example/mechelen/mechelen/protocol/ApiKey") (22 : Int32) [(.ref a_PRODUCE), (.ref a_FETCH), (.ref a_LIST_OFFSETS), (.ref a_METADATA), (.ref a_OFFSET_COMMIT), .null, .null, .null, .null, .null, .null, .null, .null, .null, .null, .null, .null, .null, .null, .null, .null, .null] .null := Arv.set Ar11 q11 Sz11 Nn11 Hh11 Gg11 rfl W11 4 rfl (Nat.le_of_ble_eq_true rfl)
  refine own_go (x' := T11.setTop (mkF m 37 #[.val (.int p0), .val (.int p1), .val (.int p2), .val (.int p3), .unset, .unset, .unset, .unset, .unset, .unset, .unset, .unset] [(.int (5 : Int32)), (.ref b1), (.ref b1)])) (fun _ k => XS.dup X11.here hx rfl (hb hby at_35) rfl rfl (XS.iconst X11.here hx rfl (hb hby at_36) k)) ?_
  obtain ⟨T12, X12, e12, st12⟩ := getS2 X11 hx hZ hown (host := "") (Or.inl (own_w hw 14 rfl)) Via.refl e11 (Sta.ext Od.2 S_OFFSET_FETCH) (g := (mkF m 37 #[.val (.int p0), .val (.int p1), .val (.int p2), .val (.int p3), .unset, .unset, .unset, .unset, .unset, .unset, .unset, .unset] [(.int (5 : Int32)), (.ref b1), (.ref b1)])) rfl (hb hby at_37)
  refine own_go (x' := T12.setTop (mkF m 40 #[.val (.int p0), .val (.int p1), .val (.int p2), .val (.int p3), .unset, .unset, .unset, .unset, .unset, .unset, .unset, .unset] [(.ref a_OFFSET_FETCH), (.int (5 : Int32)), (.ref b1), (.ref b1)])) st12 ?_
  obtain ⟨cl13, Ar13, q13, Sz13, Nn13, Hh13, Gg13⟩ := V_b1
  have hin13 : ¬ ((5 : Int32) < 0 ∨ cl13.slots.size ≤ ((5 : Int32)).toNatClampNeg) := inb_of Sz13 ⟨by decide, by decide⟩
  obtain ⟨T13, h13, X13, e13, W13, st13⟩ := stR X12 hx hZ e12 Ar13 (j := (5 : Int32)) hin13 rfl (Sto.ofV Ar13 q13 O1 (Ins.self (Exa.ext Od.2 E_a_OFFSET_FETCH))) (g := (mkF m 40 #[.val (.int p0), .val (.int p1), .val (.int p2), .val (.int p3), .unset, .unset, .unset, .unset, .unset, .unset, .unset, .unset] [(.ref a_OFFSET_FETCH), (.int (5 : Int32)), (.ref b1), (.ref b1)])) rfl rfl (hb hby at_40)
  refine own_go (x' := T13.setTop (mkF m 41 #[.val (.int p0), .val (.int p1), .val (.int p2), .val (.int p3), .unset, .unset, .unset, .unset, .unset, .unset, .unset, .unset] [(.ref b1)])) st13 ?_
  replace Od := Od.wr W13 g_b1
  replace Zs := Nat.le_trans Zs (Keep.of_wr W13).1
  replace Nf := Fr.snoc X13 Nf g_b1
  have V_b1 : Arv Z h13 b1 k1 (.object "com/example/mechelen/mechelen/protocol/ApiKey") (22 : Int32) [(.ref a_PRODUCE), (.ref a_FETCH), (.ref a_LIST_OFFSETS), (.ref a_METADATA), (.ref a_OFFSET_COMMIT), (.ref a_OFFSET_FETCH), .null, .null, .null, .null, .null, .null, .null, .null, .null, .null, .null, .null, .null, .null, .null, .null] .null := Arv.set Ar13 q13 Sz13 Nn13 Hh13 Gg13 rfl W13 5 rfl (Nat.le_of_ble_eq_true rfl)
  refine own_go (x' := T13.setTop (mkF m 44 #[.val (.int p0), .val (.int p1), .val (.int p2), .val (.int p3), .unset, .unset, .unset, .unset, .unset, .unset, .unset, .unset] [(.int (6 : Int32)), (.ref b1), (.ref b1)])) (fun _ k => XS.dup X13.here hx rfl (hb hby at_41) rfl rfl (XS.bipush X13.here hx rfl (hb hby at_42) k)) ?_
  obtain ⟨T14, X14, e14, st14⟩ := getS2 X13 hx hZ hown (host := "") (Or.inl (own_w hw 16 rfl)) Via.refl e13 (Sta.ext Od.2 S_FIND_COORDINATOR) (g := (mkF m 44 #[.val (.int p0), .val (.int p1), .val (.int p2), .val (.int p3), .unset, .unset, .unset, .unset, .unset, .unset, .unset, .unset] [(.int (6 : Int32)), (.ref b1), (.ref b1)])) rfl (hb hby at_44)
  refine own_go (x' := T14.setTop (mkF m 47 #[.val (.int p0), .val (.int p1), .val (.int p2), .val (.int p3), .unset, .unset, .unset, .unset, .unset, .unset, .unset, .unset] [(.ref a_FIND_COORDINATOR), (.int (6 : Int32)), (.ref b1), (.ref b1)])) st14 ?_
  obtain ⟨cl15, Ar15, q15, Sz15, Nn15, Hh15, Gg15⟩ := V_b1
  have hin15 : ¬ ((6 : Int32) < 0 ∨ cl15.slots.size ≤ ((6 : Int32)).toNatClampNeg) := inb_of Sz15 ⟨by decide, by decide⟩
  obtain ⟨T15, h15, X15, e15, W15, st15⟩ := stR X14 hx hZ e14 Ar15 (j := (6 : Int32)) hin15 rfl (Sto.ofV Ar15 q15 O1 (Ins.self (Exa.ext Od.2 E_a_FIND_COORDINATOR))) (g := (mkF m 47 #[.val (.int p0), .val (.int p1), .val (.int p2), .val (.int p3), .unset, .unset, .unset, .unset, .unset, .unset, .unset, .unset] [(.ref a_FIND_COORDINATOR), (.int (6 : Int32)), (.ref b1), (.ref b1)])) rfl rfl (hb hby at_47)
  refine own_go (x' := T15.setTop (mkF m 48 #[.val (.int p0), .val (.int p1), .val (.int p2), .val (.int p3), .unset, .unset, .unset, .unset, .unset, .unset, .unset, .unset] [(.ref b1)])) st15 ?_
  replace Od := Od.wr W15 g_b1
  replace Zs := Nat.le_trans Zs (Keep.of_wr W15).1
  replace Nf := Fr.snoc X15 Nf g_b1
  have V_b1 : Arv Z h15 b1 k1 (.object "com/example/mechelen/mechelen/protocol/ApiKey") (22 : Int32) [(.ref a_PRODUCE), (.ref a_FETCH), (.ref a_LIST_OFFSETS), (.ref a_METADATA), (.ref a_OFFSET_COMMIT), (.ref a_OFFSET_FETCH), (.ref a_FIND_COORDINATOR), .null, .null, .null, .null, .null, .null, .null, .null, .null, .null, .null, .null, .null, .null, .null] .null := Arv.set Ar15 q15 Sz15 Nn15 Hh15 Gg15 rfl W15 6 rfl (Nat.le_of_ble_eq_true rfl)
  refine own_go (x' := T15.setTop (mkF m 51 #[.val (.int p0), .val (.int p1), .val (.int p2), .val (.int p3), .unset, .unset, .unset, .unset, .unset, .unset, .unset, .unset] [(.int (7 : Int32)), (.ref b1), (.ref b1)])) (fun _ k => XS.dup X15.here hx rfl (hb hby at_48) rfl rfl (XS.bipush X15.here hx rfl (hb hby at_49) k)) ?_
  obtain ⟨T16, X16, e16, st16⟩ := getS2 X15 hx hZ hown (host := "") (Or.inl (own_w hw 18 rfl)) Via.refl e15 (Sta.ext Od.2 S_JOIN_GROUP) (g := (mkF m 51 #[.val (.int p0), .val (.int p1), .val (.int p2), .val (.int p3), .unset, .unset, .unset, .unset, .unset, .unset, .unset, .unset] [(.int (7 : Int32)), (.ref b1), (.ref b1)])) rfl (hb hby at_51)
  refine own_go (x' := T16.setTop (mkF m 54 #[.val (.int p0), .val (.int p1), .val (.int p2), .val (.int p3), .unset, .unset, .unset, .unset, .unset, .unset, .unset, .unset] [(.ref a_JOIN_GROUP), (.int (7 : Int32)), (.ref b1), (.ref b1)])) st16 ?_
  obtain ⟨cl17, Ar17, q17, Sz17, Nn17, Hh17, Gg17⟩ := V_b1
  have hin17 : ¬ ((7 : Int32) < 0 ∨ cl17.slots.size ≤ ((7 : Int32)).toNatClampNeg) := inb_of Sz17 ⟨by decide, by decide⟩
  obtain ⟨T17, h17, X17, e17, W17, st17⟩ := stR X16 hx hZ e16 Ar17 (j := (7 : Int32)) hin17 rfl (Sto.ofV Ar17 q17 O1 (Ins.self (Exa.ext Od.2 E_a_JOIN_GROUP))) (g := (mkF m 54 #[.val (.int p0), .val (.int p1), .val (.int p2), .val (.int p3), .unset, .unset, .unset, .unset, .unset, .unset, .unset, .unset] [(.ref a_JOIN_GROUP), (.int (7 : Int32)), (.ref b1), (.ref b1)])) rfl rfl (hb hby at_54)
  refine own_go (x' := T17.setTop (mkF m 55 #[.val (.int p0), .val (.int p1), .val (.int p2), .val (.int p3), .unset, .unset, .unset, .unset, .unset, .unset, .unset, .unset] [(.ref b1)])) st17 ?_
  replace Od := Od.wr W17 g_b1
  replace Zs := Nat.le_trans Zs (Keep.of_wr W17).1
  replace Nf := Fr.snoc X17 Nf g_b1
  have V_b1 : Arv Z h17 b1 k1 (.object "com/example/mechelen/mechelen/protocol/ApiKey") (22 : Int32) [(.ref a_PRODUCE), (.ref a_FETCH), (.ref a_LIST_OFFSETS), (.ref a_METADATA), (.ref a_OFFSET_COMMIT), (.ref a_OFFSET_FETCH), (.ref a_FIND_COORDINATOR), (.ref a_JOIN_GROUP), .null, .null, .null, .null, .null, .null, .null, .null, .null, .null, .null, .null, .null, .null] .null := Arv.set Ar17 q17 Sz17 Nn17 Hh17 Gg17 rfl W17 7 rfl (Nat.le_of_ble_eq_true rfl)
  refine own_go (x' := T17.setTop (mkF m 58 #[.val (.int p0), .val (.int p1), .val (.int p2), .val (.int p3), .unset, .unset, .unset, .unset, .unset, .unset, .unset, .unset] [(.int (8 : Int32)), (.ref b1), (.ref b1)])) (fun _ k => XS.dup X17.here hx rfl (hb hby at_55) rfl rfl (XS.bipush X17.here hx rfl (hb hby at_56) k)) ?_
  obtain ⟨T18, X18, e18, st18⟩ := getS2 X17 hx hZ hown (host := "") (Or.inl (own_w hw 20 rfl)) Via.refl e17 (Sta.ext Od.2 S_HEARTBEAT) (g := (mkF m 58 #[.val (.int p0), .val (.int p1), .val (.int p2), .val (.int p3), .unset, .unset, .unset, .unset, .unset, .unset, .unset, .unset] [(.int (8 : Int32)), (.ref b1), (.ref b1)])) rfl (hb hby at_58)
  refine own_go (x' := T18.setTop (mkF m 61 #[.val (.int p0), .val (.int p1), .val (.int p2), .val (.int p3), .unset, .unset, .unset, .unset, .unset, .unset, .unset, .unset] [(.ref a_HEARTBEAT), (.int (8 : Int32)), (.ref b1), (.ref b1)])) st18 ?_
  obtain ⟨cl19, Ar19, q19, Sz19, Nn19, Hh19, Gg19⟩ := V_b1
  have hin19 : ¬ ((8 : Int32) < 0 ∨ cl19.slots.size ≤ ((8 : Int32)).toNatClampNeg) := inb_of Sz19 ⟨by decide, by decide⟩
  obtain ⟨T19, h19, X19, e19, W19, st19⟩ := stR X18 hx hZ e18 Ar19 (j := (8 : Int32)) hin19 rfl (Sto.ofV Ar19 q19 O1 (Ins.self (Exa.ext Od.2 E_a_HEARTBEAT))) (g := (mkF m 61 #[.val (.int p0), .val (.int p1), .val (.int p2), .val (.int p3), .unset, .unset, .unset, .unset, .unset, .unset, .unset, .unset] [(.ref a_HEARTBEAT), (.int (8 : Int32)), (.ref b1), (.ref b1)])) rfl rfl (hb hby at_61)
  refine own_go (x' := T19.setTop (mkF m 62 #[.val (.int p0), .val (.int p1), .val (.int p2), .val (.int p3), .unset, .unset, .unset, .unset, .unset, .unset, .unset, .unset] [(.ref b1)])) st19 ?_
  replace Od := Od.wr W19 g_b1
  replace Zs := Nat.le_trans Zs (Keep.of_wr W19).1
  replace Nf := Fr.snoc X19 Nf g_b1
  have V_b1 : Arv Z h19 b1 k1 (.object "com/example/mechelen/mechelen/protocol/ApiKey") (22 : Int32) [(.ref a_PRODUCE), (.ref a_FETCH), (.ref a_LIST_OFFSETS), (.ref a_METADATA), (.ref a_OFFSET_COMMIT), (.ref a_OFFSET_FETCH), (.ref a_FIND_COORDINATOR), (.ref a_JOIN_GROUP), (.ref a_HEARTBEAT), .null, .null, .null, .null, .null, .null, .null, .null, .null, .null, .null, .null, .null] .null := Arv.set Ar19 q19 Sz19 Nn19 Hh19 Gg19 rfl W19 8 rfl (Nat.le_of_ble_eq_true rfl)
  refine own_go (x' := T19.setTop (mkF m 65 #[.val (.int p0), .val (.int p1), .val (.int p2), .val (.int p3), .unset, .unset, .unset, .unset, .unset, .unset, .unset, .unset] [(.int (9 : Int32)), (.ref b1), (.ref b1)])) (fun _ k => XS.dup X19.here hx rfl (hb hby at_62) rfl rfl (XS.bipush X19.here hx rfl (hb hby at_63) k)) ?_
  obtain ⟨T20, X20, e20, st20⟩ := getS2 X19 hx hZ hown (host := "") (Or.inl (own_w hw 22 rfl)) Via.refl e19 (Sta.ext Od.2 S_LEAVE_GROUP) (g := (mkF m 65 #[.val (.int p0), .val (.int p1), .val (.int p2), .val (.int p3), .unset, .unset, .unset, .unset, .unset, .unset, .unset, .unset] [(.int (9 : Int32)), (.ref b1), (.ref b1)])) rfl (hb hby at_65)
  refine own_go (x' := T20.setTop (mkF m 68 #[.val (.int p0), .val (.int p1), .val (.int p2), .val (.int p3), .unset, .unset, .unset, .unset, .unset, .unset, .unset, .unset] [(.ref a_LEAVE_GROUP), (.int (9 : Int32)), (.ref b1), (.ref b1)])) st20 ?_
  obtain ⟨cl21, Ar21, q21, Sz21, Nn21, Hh21, Gg21⟩ := V_b1
  have hin21 : ¬ ((9 : Int32) < 0 ∨ cl21.slots.size ≤ ((9 : Int32)).toNatClampNeg) := inb_of Sz21 ⟨by decide, by decide⟩
  obtain ⟨T21, h21, X21, e21, W21, st21⟩ := stR X20 hx hZ e20 Ar21 (j := (9 : Int32)) hin21 rfl (Sto.ofV Ar21 q21 O1 (Ins.self (Exa.ext Od.2 E_a_LEAVE_GROUP))) (g := (mkF m 68 #[.val (.int p0), .val (.int p1), .val (.int p2), .val (.int p3), .unset, .unset, .unset, .unset, .unset, .unset, .unset, .unset] [(.ref a_LEAVE_GROUP), (.int (9 : Int32)), (.ref b1), (.ref b1)])) rfl rfl (hb hby at_68)
  refine own_go (x' := T21.setTop (mkF m 69 #[.val (.int p0), .val (.int p1), .val (.int p2), .val (.int p3), .unset, .unset, .unset, .unset, .unset, .unset, .unset, .unset] [(.ref b1)])) st21 ?_
  replace Od := Od.wr W21 g_b1
  replace Zs := Nat.le_trans Zs (Keep.of_wr W21).1
  replace Nf := Fr.snoc X21 Nf g_b1
  have V_b1 : Arv Z h21 b1 k1 (.object "com/example/mechelen/mechelen/protocol/ApiKey") (22 : Int32) [(.ref a_PRODUCE), (.ref a_FETCH), (.ref a_LIST_OFFSETS), (.ref a_METADATA), (.ref a_OFFSET_COMMIT), (.ref a_OFFSET_FETCH), (.ref a_FIND_COORDINATOR), (.ref a_JOIN_GROUP), (.ref a_HEARTBEAT), (.ref a_LEAVE_GROUP), .null, .null, .null, .null, .null, .null, .null, .null, .null, .null, .null, .null] .null := Arv.set Ar21 q21 Sz21 Nn21 Hh21 Gg21 rfl W21 9 rfl (Nat.le_of_ble_eq_true rfl)
  refine own_go (x' := T21.setTop (mkF m 72 #[.val (.int p0), .val (.int p1), .val (.int p2), .val (.int p3), .unset, .unset, .unset, .unset, .unset, .unset, .unset, .unset] [(.int (10 : Int32)), (.ref b1), (.ref b1)])) (fun _ k => XS.dup X21.here hx rfl (hb hby at_69) rfl rfl (XS.bipush X21.here hx rfl (hb hby at_70) k)) ?_
  obtain ⟨T22, X22, e22, st22⟩ := getS2 X21 hx hZ hown (host := "") (Or.inl (own_w hw 24 rfl)) Via.refl e21 (Sta.ext Od.2 S_SYNC_GROUP) (g := (mkF m 72 #[.val (.int p0), .val (.int p1), .val (.int p2), .val (.int p3), .unset, .unset, .unset, .unset, .unset, .unset, .unset, .unset] [(.int (10 : Int32)), (.ref b1), (.ref b1)])) rfl (hb hby at_72)
  refine own_go (x' := T22.setTop (mkF m 75 #[.val (.int p0), .val (.int p1), .val (.int p2), .val (.int p3), .unset, .unset, .unset, .unset, .unset, .unset, .unset, .unset] [(.ref a_SYNC_GROUP), (.int (10 : Int32)), (.ref b1), (.ref b1)])) st22 ?_
  obtain ⟨cl23, Ar23, q23, Sz23, Nn23, Hh23, Gg23⟩ := V_b1
  have hin23 : ¬ ((10 : Int32) < 0 ∨ cl23.slots.size ≤ ((10 : Int32)).toNatClampNeg) := inb_of Sz23 ⟨by decide, by decide⟩
  obtain ⟨T23, h23, X23, e23, W23, st23⟩ := stR X22 hx hZ e22 Ar23 (j := (10 : Int32)) hin23 rfl (Sto.ofV Ar23 q23 O1 (Ins.self (Exa.ext Od.2 E_a_SYNC_GROUP))) (g := (mkF m 75 #[.val (.int p0), .val (.int p1), .val (.int p2), .val (.int p3), .unset, .unset, .unset, .unset, .unset, .unset, .unset, .unset] [(.ref a_SYNC_GROUP), (.int (10 : Int32)), (.ref b1), (.ref b1)])) rfl rfl (hb hby at_75)
  refine own_go (x' := T23.setTop (mkF m 76 #[.val (.int p0), .val (.int p1), .val (.int p2), .val (.int p3), .unset, .unset, .unset, .unset, .unset, .unset, .unset, .unset] [(.ref b1)])) st23 ?_
  replace Od := Od.wr W23 g_b1
  replace Zs := Nat.le_trans Zs (Keep.of_wr W23).1
  replace Nf := Fr.snoc X23 Nf g_b1
  have V_b1 : Arv Z h23 b1 k1 (.object "com/example/mechelen/mechelen/protocol/ApiKey") (22 : Int32) [(.ref a_PRODUCE), (.ref a_FETCH), (.ref a_LIST_OFFSETS), (.ref a_METADATA), (.ref a_OFFSET_COMMIT), (.ref a_OFFSET_FETCH), (.ref a_FIND_COORDINATOR), (.ref a_JOIN_GROUP), (.ref a_HEARTBEAT), (.ref a_LEAVE_GROUP), (.ref a_SYNC_GROUP), .null, .null, .null, .null, .null, .null, .null, .null, .null, .null, .null] .null := Arv.set Ar23 q23 Sz23 Nn23 Hh23 Gg23 rfl W23 10 rfl (Nat.le_of_ble_eq_true rfl)
  refine own_go (x' := T23.setTop (mkF m 79 #[.val (.int p0), .val (.int p1), .val (.int p2), .val (.int p3), .unset, .unset, .unset, .unset, .unset, .unset, .unset, .unset] [(.int (11 : Int32)), (.ref b1), (.ref b1)])) (fun _ k => XS.dup X23.here hx rfl (hb hby at_76) rfl rfl (XS.bipush X23.here hx rfl (hb hby at_77) k)) ?_
  obtain ⟨T24, X24, e24, st24⟩ := getS2 X23 hx hZ hown (host := "") (Or.inl (own_w hw 26 rfl)) Via.refl e23 (Sta.ext Od.2 S_DESCRIBE_GROUPS) (g := (mkF m 79 #[.val (.int p0), .val (.int p1), .val (.int p2), .val (.int p3), .unset, .unset, .unset, .unset, .unset, .unset, .unset, .unset] [(.int (11 : Int32)), (.ref b1), (.ref b1)])) rfl (hb hby at_79)
  refine own_go (x' := T24.setTop (mkF m 82 #[.val (.int p0), .val (.int p1), .val (.int p2), .val (.int p3), .unset, .unset, .unset, .unset, .unset, .unset, .unset, .unset] [(.ref a_DESCRIBE_GROUPS), (.int (11 : Int32)), (.ref b1), (.ref b1)])) st24 ?_
  obtain ⟨cl25, Ar25, q25, Sz25, Nn25, Hh25, Gg25⟩ := V_b1
  have hin25 : ¬ ((11 : Int32) < 0 ∨ cl25.slots.size ≤ ((11 : Int32)).toNatClampNeg) := inb_of Sz25 ⟨by decide, by decide⟩
  obtain ⟨T25, h25, X25, e25, W25, st25⟩ := stR X24 hx hZ e24 Ar25 (j := (11 : Int32)) hin25 rfl (Sto.ofV Ar25 q25 O1 (Ins.self (Exa.ext Od.2 E_a_DESCRIBE_GROUPS))) (g := (mkF m 82 #[.val (.int p0), .val (.int p1), .val (.int p2), .val (.int p3), .unset, .unset, .unset, .unset, .unset, .unset, .unset, .unset] [(.ref a_DESCRIBE_GROUPS), (.int (11 : Int32)), (.ref b1), (.ref b1)])) rfl rfl (hb hby at_82)
  refine own_go (x' := T25.setTop (mkF m 83 #[.val (.int p0), .val (.int p1), .val (.int p2), .val (.int p3), .unset, .unset, .unset, .unset, .unset, .unset, .unset, .unset] [(.ref b1)])) st25 ?_
  replace Od := Od.wr W25 g_b1
  replace Zs := Nat.le_trans Zs (Keep.of_wr W25).1
  replace Nf := Fr.snoc X25 Nf g_b1
  have V_b1 : Arv Z h25 b1 k1 (.object "com/example/mechelen/mechelen/protocol/ApiKey") (22 : Int32) [(.ref a_PRODUCE), (.ref a_FETCH), (.ref a_LIST_OFFSETS), (.ref a_METADATA), (.ref a_OFFSET_COMMIT), (.ref a_OFFSET_FETCH), (.ref a_FIND_COORDINATOR), (.ref a_JOIN_GROUP), (.ref a_HEARTBEAT), (.ref a_LEAVE_GROUP), (.ref a_SYNC_GROUP), (.ref a_DESCRIBE_GROUPS), .null, .null, .null, .null, .null, .null, .null, .null, .null, .null] .null := Arv.set Ar25 q25 Sz25 Nn25 Hh25 Gg25 rfl W25 11 rfl (Nat.le_of_ble_eq_true rfl)
  refine own_go (x' := T25.setTop (mkF m 86 #[.val (.int p0), .val (.int p1), .val (.int p2), .val (.int p3), .unset, .unset, .unset, .unset, .unset, .unset, .unset, .unset] [(.int (12 : Int32)), (.ref b1), (.ref b1)])) (fun _ k => XS.dup X25.here hx rfl (hb hby at_83) rfl rfl (XS.bipush X25.here hx rfl (hb hby at_84) k)) ?_
  obtain ⟨T26, X26, e26, st26⟩ := getS2 X25 hx hZ hown (host := "") (Or.inl (own_w hw 28 rfl)) Via.refl e25 (Sta.ext Od.2 S_LIST_GROUPS) (g := (mkF m 86 #[.val (.int p0), .val (.int p1), .val (.int p2), .val (.int p3), .unset, .unset, .unset, .unset, .unset, .unset, .unset, .unset] [(.int (12 : Int32)), (.ref b1), (.ref b1)])) rfl (hb hby at_86)
  refine own_go (x' := T26.setTop (mkF m 89 #[.val (.int p0), .val (.int p1), .val (.int p2), .val (.int p3), .unset, .unset, .unset, .unset, .unset, .unset, .unset, .unset] [(.ref a_LIST_GROUPS), (.int (12 : Int32)), (.ref b1), (.ref b1)])) st26 ?_
  obtain ⟨cl27, Ar27, q27, Sz27, Nn27, Hh27, Gg27⟩ := V_b1
  have hin27 : ¬ ((12 : Int32) < 0 ∨ cl27.slots.size ≤ ((12 : Int32)).toNatClampNeg) := inb_of Sz27 ⟨by decide, by decide⟩
  obtain ⟨T27, h27, X27, e27, W27, st27⟩ := stR X26 hx hZ e26 Ar27 (j := (12 : Int32)) hin27 rfl (Sto.ofV Ar27 q27 O1 (Ins.self (Exa.ext Od.2 E_a_LIST_GROUPS))) (g := (mkF m 89 #[.val (.int p0), .val (.int p1), .val (.int p2), .val (.int p3), .unset, .unset, .unset, .unset, .unset, .unset, .unset, .unset] [(.ref a_LIST_GROUPS), (.int (12 : Int32)), (.ref b1), (.ref b1)])) rfl rfl (hb hby at_89)
  refine own_go (x' := T27.setTop (mkF m 90 #[.val (.int p0), .val (.int p1), .val (.int p2), .val (.int p3), .unset, .unset, .unset, .unset, .unset, .unset, .unset, .unset] [(.ref b1)])) st27 ?_
  replace Od := Od.wr W27 g_b1
  replace Zs := Nat.le_trans Zs (Keep.of_wr W27).1
  replace Nf := Fr.snoc X27 Nf g_b1
  have V_b1 : Arv Z h27 b1 k1 (.object "com/example/mechelen/mechelen/protocol/ApiKey") (22 : Int32) [(.ref a_PRODUCE), (.ref a_FETCH), (.ref a_LIST_OFFSETS), (.ref a_METADATA), (.ref a_OFFSET_COMMIT), (.ref a_OFFSET_FETCH), (.ref a_FIND_COORDINATOR), (.ref a_JOIN_GROUP), (.ref a_HEARTBEAT), (.ref a_LEAVE_GROUP), (.ref a_SYNC_GROUP), (.ref a_DESCRIBE_GROUPS), (.ref a_LIST_GROUPS), .null, .null, .null, .null, .null, .null, .null, .null, .null] .null := Arv.set Ar27 q27 Sz27 Nn27 Hh27 Gg27 rfl W27 12 rfl (Nat.le_of_ble_eq_true rfl)
  refine own_go (x' := T27.setTop (mkF m 93 #[.val (.int p0), .val (.int p1), .val (.int p2), .val (.int p3), .unset, .unset, .unset, .unset, .unset, .unset, .unset, .unset] [(.int (13 : Int32)), (.ref b1), (.ref b1)])) (fun _ k => XS.dup X27.here hx rfl (hb hby at_90) rfl rfl (XS.bipush X27.here hx rfl (hb hby at_91) k)) ?_
  obtain ⟨T28, X28, e28, st28⟩ := getS2 X27 hx hZ hown (host := "") (Or.inl (own_w hw 30 rfl)) Via.refl e27 (Sta.ext Od.2 S_API_VERSIONS) (g := (mkF m 93 #[.val (.int p0), .val (.int p1), .val (.int p2), .val (.int p3), .unset, .unset, .unset, .unset, .unset, .unset, .unset, .unset] [(.int (13 : Int32)), (.ref b1), (.ref b1)])) rfl (hb hby at_93)
  refine own_go (x' := T28.setTop (mkF m 96 #[.val (.int p0), .val (.int p1), .val (.int p2), .val (.int p3), .unset, .unset, .unset, .unset, .unset, .unset, .unset, .unset] [(.ref a_API_VERSIONS), (.int (13 : Int32)), (.ref b1), (.ref b1)])) st28 ?_
  obtain ⟨cl29, Ar29, q29, Sz29, Nn29, Hh29, Gg29⟩ := V_b1
  have hin29 : ¬ ((13 : Int32) < 0 ∨ cl29.slots.size ≤ ((13 : Int32)).toNatClampNeg) := inb_of Sz29 ⟨by decide, by decide⟩
  obtain ⟨T29, h29, X29, e29, W29, st29⟩ := stR X28 hx hZ e28 Ar29 (j := (13 : Int32)) hin29 rfl (Sto.ofV Ar29 q29 O1 (Ins.self (Exa.ext Od.2 E_a_API_VERSIONS))) (g := (mkF m 96 #[.val (.int p0), .val (.int p1), .val (.int p2), .val (.int p3), .unset, .unset, .unset, .unset, .unset, .unset, .unset, .unset] [(.ref a_API_VERSIONS), (.int (13 : Int32)), (.ref b1), (.ref b1)])) rfl rfl (hb hby at_96)
  refine own_go (x' := T29.setTop (mkF m 97 #[.val (.int p0), .val (.int p1), .val (.int p2), .val (.int p3), .unset, .unset, .unset, .unset, .unset, .unset, .unset, .unset] [(.ref b1)])) st29 ?_
  replace Od := Od.wr W29 g_b1
  replace Zs := Nat.le_trans Zs (Keep.of_wr W29).1
  replace Nf := Fr.snoc X29 Nf g_b1
  have V_b1 : Arv Z h29 b1 k1 (.object "com/example/mechelen/mechelen/protocol/ApiKey") (22 : Int32) [(.ref a_PRODUCE), (.ref a_FETCH), (.ref a_LIST_OFFSETS), (.ref a_METADATA), (.ref a_OFFSET_COMMIT), (.ref a_OFFSET_FETCH), (.ref a_FIND_COORDINATOR), (.ref a_JOIN_GROUP), (.ref a_HEARTBEAT), (.ref a_LEAVE_GROUP), (.ref a_SYNC_GROUP), (.ref a_DESCRIBE_GROUPS), (.ref a_LIST_GROUPS), (.ref a_API_VERSIONS), .null, .null, .null, .null, .null, .null, .null, .null] .null := Arv.set Ar29 q29 Sz29 Nn29 Hh29 Gg29 rfl W29 13 rfl (Nat.le_of_ble_eq_true rfl)
  refine own_go (x' := T29.setTop (mkF m 100 #[.val (.int p0), .val (.int p1), .val (.int p2), .val (.int p3), .unset, .unset, .unset, .unset, .unset, .unset, .unset, .unset] [(.int (14 : Int32)), (.ref b1), (.ref b1)])) (fun _ k => XS.dup X29.here hx rfl (hb hby at_97) rfl rfl (XS.bipush X29.here hx rfl (hb hby at_98) k)) ?_
  obtain ⟨T30, X30, e30, st30⟩ := getS2 X29 hx hZ hown (host := "") (Or.inl (own_w hw 32 rfl)) Via.refl e29 (Sta.ext Od.2 S_CREATE_TOPICS) (g := (mkF m 100 #[.val (.int p0), .val (.int p1), .val (.int p2), .val (.int p3), .unset, .unset, .unset, .unset, .unset, .unset, .unset, .unset] [(.int (14 : Int32)), (.ref b1), (.ref b1)])) rfl (hb hby at_100)
  refine own_go (x' := T30.setTop (mkF m 103 #[.val (.int p0), .val (.int p1), .val (.int p2), .val (.int p3), .unset, .unset, .unset, .unset, .unset, .unset, .unset, .unset] [(.ref a_CREATE_TOPICS), (.int (14 : Int32)), (.ref b1), (.ref b1)])) st30 ?_
  obtain ⟨cl31, Ar31, q31, Sz31, Nn31, Hh31, Gg31⟩ := V_b1
  have hin31 : ¬ ((14 : Int32) < 0 ∨ cl31.slots.size ≤ ((14 : Int32)).toNatClampNeg) := inb_of Sz31 ⟨by decide, by decide⟩
  obtain ⟨T31, h31, X31, e31, W31, st31⟩ := stR X30 hx hZ e30 Ar31 (j := (14 : Int32)) hin31 rfl (Sto.ofV Ar31 q31 O1 (Ins.self (Exa.ext Od.2 E_a_CREATE_TOPICS))) (g := (mkF m 103 #[.val (.int p0), .val (.int p1), .val (.int p2), .val (.int p3), .unset, .unset, .unset, .unset, .unset, .unset, .unset, .unset] [(.ref a_CREATE_TOPICS), (.int (14 : Int32)), (.ref b1), (.ref b1)])) rfl rfl (hb hby at_103)
  refine own_go (x' := T31.setTop (mkF m 104 #[.val (.int p0), .val (.int p1), .val (.int p2), .val (.int p3), .unset, .unset, .unset, .unset, .unset, .unset, .unset, .unset] [(.ref b1)])) st31 ?_
  replace Od := Od.wr W31 g_b1
  replace Zs := Nat.le_trans Zs (Keep.of_wr W31).1
  replace Nf := Fr.snoc X31 Nf g_b1
  have V_b1 : Arv Z h31 b1 k1 (.object "com/example/mechelen/mechelen/protocol/ApiKey") (22 : Int32) [(.ref a_PRODUCE), (.ref a_FETCH), (.ref a_LIST_OFFSETS), (.ref a_METADATA), (.ref a_OFFSET_COMMIT), (.ref a_OFFSET_FETCH), (.ref a_FIND_COORDINATOR), (.ref a_JOIN_GROUP), (.ref a_HEARTBEAT), (.ref a_LEAVE_GROUP), (.ref a_SYNC_GROUP), (.ref a_DESCRIBE_GROUPS), (.ref a_LIST_GROUPS), (.ref a_API_VERSIONS), (.ref a_CREATE_TOPICS), .null, .null, .null, .null, .null, .null, .null] .null := Arv.set Ar31 q31 Sz31 Nn31 Hh31 Gg31 rfl W31 14 rfl (Nat.le_of_ble_eq_true rfl)
  refine own_go (x' := T31.setTop (mkF m 107 #[.val (.int p0), .val (.int p1), .val (.int p2), .val (.int p3), .unset, .unset, .unset, .unset, .unset, .unset, .unset, .unset] [(.int (15 : Int32)), (.ref b1), (.ref b1)])) (fun _ k => XS.dup X31.here hx rfl (hb hby at_104) rfl rfl (XS.bipush X31.here hx rfl (hb hby at_105) k)) ?_
  obtain ⟨T32, X32, e32, st32⟩ := getS2 X31 hx hZ hown (host := "") (Or.inl (own_w hw 34 rfl)) Via.refl e31 (Sta.ext Od.2 S_DELETE_TOPICS) (g := (mkF m 107 #[.val (.int p0), .val (.int p1), .val (.int p2), .val (.int p3), .unset, .unset, .unset, .unset, .unset, .unset, .unset, .unset] [(.int (15 : Int32)), (.ref b1), (.ref b1)])) rfl (hb hby at_107)
  refine own_go (x' := T32.setTop (mkF m 110 #[.val (.int p0), .val (.int p1), .val (.int p2), .val (.int p3), .unset, .unset, .unset, .unset, .unset, .unset, .unset, .unset] [(.ref a_DELETE_TOPICS), (.int (15 : Int32)), (.ref b1), (.ref b1)])) st32 ?_
  obtain ⟨cl33, Ar33, q33, Sz33, Nn33, Hh33, Gg33⟩ := V_b1
  have hin33 : ¬ ((15 : Int32) < 0 ∨ cl33.slots.size ≤ ((15 : Int32)).toNatClampNeg) := inb_of Sz33 ⟨by decide, by decide⟩
  obtain ⟨T33, h33, X33, e33, W33, st33⟩ := stR X32 hx hZ e32 Ar33 (j := (15 : Int32)) hin33 rfl (Sto.ofV Ar33 q33 O1 (Ins.self (Exa.ext Od.2 E_a_DELETE_TOPICS))) (g := (mkF m 110 #[.val (.int p0), .val (.int p1), .val (.int p2), .val (.int p3), .unset, .unset, .unset, .unset, .unset, .unset, .unset, .unset] [(.ref a_DELETE_TOPICS), (.int (15 : Int32)), (.ref b1), (.ref b1)])) rfl rfl (hb hby at_110)
  refine own_go (x' := T33.setTop (mkF m 111 #[.val (.int p0), .val (.int p1), .val (.int p2), .val (.int p3), .unset, .unset, .unset, .unset, .unset, .unset, .unset, .unset] [(.ref b1)])) st33 ?_
  replace Od := Od.wr W33 g_b1
  replace Zs := Nat.le_trans Zs (Keep.of_wr W33).1
  replace Nf := Fr.snoc X33 Nf g_b1
  have V_b1 : Arv Z h33 b1 k1 (.object "com/example/mechelen/mechelen/protocol/ApiKey") (22 : Int32) [(.ref a_PRODUCE), (.ref a_FETCH), (.ref a_LIST_OFFSETS), (.ref a_METADATA), (.ref a_OFFSET_COMMIT), (.ref a_OFFSET_FETCH), (.ref a_FIND_COORDINATOR), (.ref a_JOIN_GROUP), (.ref a_HEARTBEAT), (.ref a_LEAVE_GROUP), (.ref a_SYNC_GROUP), (.ref a_DESCRIBE_GROUPS), (.ref a_LIST_GROUPS), (.ref a_API_VERSIONS), (.ref a_CREATE_TOPICS), (.ref a_DELETE_TOPICS), .null, .null, .null, .null, .null, .null] .null := Arv.set Ar33 q33 Sz33 Nn33 Hh33 Gg33 rfl W33 15 rfl (Nat.le_of_ble_eq_true rfl)
  refine own_go (x' := T33.setTop (mkF m 114 #[.val (.int p0), .val (.int p1), .val (.int p2), .val (.int p3), .unset, .unset, .unset, .unset, .unset, .unset, .unset, .unset] [(.int (16 : Int32)), (.ref b1), (.ref b1)])) (fun _ k => XS.dup X33.here hx rfl (hb hby at_111) rfl rfl (XS.bipush X33.here hx rfl (hb hby at_112) k)) ?_
  obtain ⟨T34, X34, e34, st34⟩ := getS2 X33 hx hZ hown (host := "") (Or.inl (own_w hw 36 rfl)) Via.refl e33 (Sta.ext Od.2 S_DELETE_RECORDS) (g := (mkF m 114 #[.val (.int p0), .val (.int p1), .val (.int p2), .val (.int p3), .unset, .unset, .unset, .unset, .unset, .unset, .unset, .unset] [(.int (16 : Int32)), (.ref b1), (.ref b1)])) rfl (hb hby at_114)
  refine own_go (x' := T34.setTop (mkF m 117 #[.val (.int p0), .val (.int p1), .val (.int p2), .val (.int p3), .unset, .unset, .unset, .unset, .unset, .unset, .unset, .unset] [(.ref a_DELETE_RECORDS), (.int (16 : Int32)), (.ref b1), (.ref b1)])) st34 ?_
  obtain ⟨cl35, Ar35, q35, Sz35, Nn35, Hh35, Gg35⟩ := V_b1
  have hin35 : ¬ ((16 : Int32) < 0 ∨ cl35.slots.size ≤ ((16 : Int32)).toNatClampNeg) := inb_of Sz35 ⟨by decide, by decide⟩
  obtain ⟨T35, h35, X35, e35, W35, st35⟩ := stR X34 hx hZ e34 Ar35 (j := (16 : Int32)) hin35 rfl (Sto.ofV Ar35 q35 O1 (Ins.self (Exa.ext Od.2 E_a_DELETE_RECORDS))) (g := (mkF m 117 #[.val (.int p0), .val (.int p1), .val (.int p2), .val (.int p3), .unset, .unset, .unset, .unset, .unset, .unset, .unset, .unset] [(.ref a_DELETE_RECORDS), (.int (16 : Int32)), (.ref b1), (.ref b1)])) rfl rfl (hb hby at_117)
  refine own_go (x' := T35.setTop (mkF m 118 #[.val (.int p0), .val (.int p1), .val (.int p2), .val (.int p3), .unset, .unset, .unset, .unset, .unset, .unset, .unset, .unset] [(.ref b1)])) st35 ?_
  replace Od := Od.wr W35 g_b1
  replace Zs := Nat.le_trans Zs (Keep.of_wr W35).1
  replace Nf := Fr.snoc X35 Nf g_b1
  have V_b1 : Arv Z h35 b1 k1 (.object "com/example/mechelen/mechelen/protocol/ApiKey") (22 : Int32) [(.ref a_PRODUCE), (.ref a_FETCH), (.ref a_LIST_OFFSETS), (.ref a_METADATA), (.ref a_OFFSET_COMMIT), (.ref a_OFFSET_FETCH), (.ref a_FIND_COORDINATOR), (.ref a_JOIN_GROUP), (.ref a_HEARTBEAT), (.ref a_LEAVE_GROUP), (.ref a_SYNC_GROUP), (.ref a_DESCRIBE_GROUPS), (.ref a_LIST_GROUPS), (.ref a_API_VERSIONS), (.ref a_CREATE_TOPICS), (.ref a_DELETE_TOPICS), (.ref a_DELETE_RECORDS), .null, .null, .null, .null, .null] .null := Arv.set Ar35 q35 Sz35 Nn35 Hh35 Gg35 rfl W35 16 rfl (Nat.le_of_ble_eq_true rfl)
  refine own_go (x' := T35.setTop (mkF m 121 #[.val (.int p0), .val (.int p1), .val (.int p2), .val (.int p3), .unset, .unset, .unset, .unset, .unset, .unset, .unset, .unset] [(.int (17 : Int32)), (.ref b1), (.ref b1)])) (fun _ k => XS.dup X35.here hx rfl (hb hby at_118) rfl rfl (XS.bipush X35.here hx rfl (hb hby at_119) k)) ?_
  obtain ⟨T36, X36, e36, st36⟩ := getS2 X35 hx hZ hown (host := "") (Or.inl (own_w hw 38 rfl)) Via.refl e35 (Sta.ext Od.2 S_INIT_PRODUCER_ID) (g := (mkF m 121 #[.val (.int p0), .val (.int p1), .val (.int p2), .val (.int p3), .unset, .unset, .unset, .unset, .unset, .unset, .unset, .unset] [(.int (17 : Int32)), (.ref b1), (.ref b1)])) rfl (hb hby at_121)
  refine own_go (x' := T36.setTop (mkF m 124 #[.val (.int p0), .val (.int p1), .val (.int p2), .val (.int p3), .unset, .unset, .unset, .unset, .unset, .unset, .unset, .unset] [(.ref a_INIT_PRODUCER_ID), (.int (17 : Int32)), (.ref b1), (.ref b1)])) st36 ?_
  obtain ⟨cl37, Ar37, q37, Sz37, Nn37, Hh37, Gg37⟩ := V_b1
  have hin37 : ¬ ((17 : Int32) < 0 ∨ cl37.slots.size ≤ ((17 : Int32)).toNatClampNeg) := inb_of Sz37 ⟨by decide, by decide⟩
  obtain ⟨T37, h37, X37, e37, W37, st37⟩ := stR X36 hx hZ e36 Ar37 (j := (17 : Int32)) hin37 rfl (Sto.ofV Ar37 q37 O1 (Ins.self (Exa.ext Od.2 E_a_INIT_PRODUCER_ID))) (g := (mkF m 124 #[.val (.int p0), .val (.int p1), .val (.int p2), .val (.int p3), .unset, .unset, .unset, .unset, .unset, .unset, .unset, .unset] [(.ref a_INIT_PRODUCER_ID), (.int (17 : Int32)), (.ref b1), (.ref b1)])) rfl rfl (hb hby at_124)
  refine own_go (x' := T37.setTop (mkF m 125 #[.val (.int p0), .val (.int p1), .val (.int p2), .val (.int p3), .unset, .unset, .unset, .unset, .unset, .unset, .unset, .unset] [(.ref b1)])) st37 ?_
  replace Od := Od.wr W37 g_b1
  replace Zs := Nat.le_trans Zs (Keep.of_wr W37).1
  replace Nf := Fr.snoc X37 Nf g_b1
  have V_b1 : Arv Z h37 b1 k1 (.object "com/example/mechelen/mechelen/protocol/ApiKey") (22 : Int32) [(.ref a_PRODUCE), (.ref a_FETCH), (.ref a_LIST_OFFSETS), (.ref a_METADATA), (.ref a_OFFSET_COMMIT), (.ref a_OFFSET_FETCH), (.ref a_FIND_COORDINATOR), (.ref a_JOIN_GROUP), (.ref a_HEARTBEAT), (.ref a_LEAVE_GROUP), (.ref a_SYNC_GROUP), (.ref a_DESCRIBE_GROUPS), (.ref a_LIST_GROUPS), (.ref a_API_VERSIONS), (.ref a_CREATE_TOPICS), (.ref a_DELETE_TOPICS), (.ref a_DELETE_RECORDS), (.ref a_INIT_PRODUCER_ID), .null, .null, .null, .null] .null := Arv.set Ar37 q37 Sz37 Nn37 Hh37 Gg37 rfl W37 17 rfl (Nat.le_of_ble_eq_true rfl)
  refine own_go (x' := T37.setTop (mkF m 128 #[.val (.int p0), .val (.int p1), .val (.int p2), .val (.int p3), .unset, .unset, .unset, .unset, .unset, .unset, .unset, .unset] [(.int (18 : Int32)), (.ref b1), (.ref b1)])) (fun _ k => XS.dup X37.here hx rfl (hb hby at_125) rfl rfl (XS.bipush X37.here hx rfl (hb hby at_126) k)) ?_
  obtain ⟨T38, X38, e38, st38⟩ := getS2 X37 hx hZ hown (host := "") (Or.inl (own_w hw 40 rfl)) Via.refl e37 (Sta.ext Od.2 S_DESCRIBE_CONFIGS) (g := (mkF m 128 #[.val (.int p0), .val (.int p1), .val (.int p2), .val (.int p3), .unset, .unset, .unset, .unset, .unset, .unset, .unset, .unset] [(.int (18 : Int32)), (.ref b1), (.ref b1)])) rfl (hb hby at_128)
  refine own_go (x' := T38.setTop (mkF m 131 #[.val (.int p0), .val (.int p1), .val (.int p2), .val (.int p3), .unset, .unset, .unset, .unset, .unset, .unset, .unset, .unset] [(.ref a_DESCRIBE_CONFIGS), (.int (18 : Int32)), (.ref b1), (.ref b1)])) st38 ?_
  obtain ⟨cl39, Ar39, q39, Sz39, Nn39, Hh39, Gg39⟩ := V_b1
  have hin39 : ¬ ((18 : Int32) < 0 ∨ cl39.slots.size ≤ ((18 : Int32)).toNatClampNeg) := inb_of Sz39 ⟨by decide, by decide⟩
  obtain ⟨T39, h39, X39, e39, W39, st39⟩ := stR X38 hx hZ e38 Ar39 (j := (18 : Int32)) hin39 rfl (Sto.ofV Ar39 q39 O1 (Ins.self (Exa.ext Od.2 E_a_DESCRIBE_CONFIGS))) (g := (mkF m 131 #[.val (.int p0), .val (.int p1), .val (.int p2), .val (.int p3), .unset, .unset, .unset, .unset, .unset, .unset, .unset, .unset] [(.ref a_DESCRIBE_CONFIGS), (.int (18 : Int32)), (.ref b1), (.ref b1)])) rfl rfl (hb hby at_131)
  refine own_go (x' := T39.setTop (mkF m 132 #[.val (.int p0), .val (.int p1), .val (.int p2), .val (.int p3), .unset, .unset, .unset, .unset, .unset, .unset, .unset, .unset] [(.ref b1)])) st39 ?_
  replace Od := Od.wr W39 g_b1
  replace Zs := Nat.le_trans Zs (Keep.of_wr W39).1
  replace Nf := Fr.snoc X39 Nf g_b1
  have V_b1 : Arv Z h39 b1 k1 (.object "com/example/mechelen/mechelen/protocol/ApiKey") (22 : Int32) [(.ref a_PRODUCE), (.ref a_FETCH), (.ref a_LIST_OFFSETS), (.ref a_METADATA), (.ref a_OFFSET_COMMIT), (.ref a_OFFSET_FETCH), (.ref a_FIND_COORDINATOR), (.ref a_JOIN_GROUP), (.ref a_HEARTBEAT), (.ref a_LEAVE_GROUP), (.ref a_SYNC_GROUP), (.ref a_DESCRIBE_GROUPS), (.ref a_LIST_GROUPS), (.ref a_API_VERSIONS), (.ref a_CREATE_TOPICS), (.ref a_DELETE_TOPICS), (.ref a_DELETE_RECORDS), (.ref a_INIT_PRODUCER_ID), (.ref a_DESCRIBE_CONFIGS), .null, .null, .null] .null := Arv.set Ar39 q39 Sz39 Nn39 Hh39 Gg39 rfl W39 18 rfl (Nat.le_of_ble_eq_true rfl)
  refine own_go (x' := T39.setTop (mkF m 135 #[.val (.int p0), .val (.int p1), .val (.int p2), .val (.int p3), .unset, .unset, .unset, .unset, .unset, .unset, .unset, .unset] [(.int (19 : Int32)), (.ref b1), (.ref b1)])) (fun _ k => XS.dup X39.here hx rfl (hb hby at_132) rfl rfl (XS.bipush X39.here hx rfl (hb hby at_133) k)) ?_
  obtain ⟨T40, X40, e40, st40⟩ := getS2 X39 hx hZ hown (host := "") (Or.inl (own_w hw 42 rfl)) Via.refl e39 (Sta.ext Od.2 S_CREATE_PARTITIONS) (g := (mkF m 135 #[.val (.int p0), .val (.int p1), .val (.int p2), .val (.int p3), .unset, .unset, .unset, .unset, .unset, .unset, .unset, .unset] [(.int (19 : Int32)), (.ref b1), (.ref b1)])) rfl (hb hby at_135)
  refine own_go (x' := T40.setTop (mkF m 138 #[.val (.int p0), .val (.int p1), .val (.int p2), .val (.int p3), .unset, .unset, .unset, .unset, .unset, .unset, .unset, .unset] [(.ref a_CREATE_PARTITIONS), (.int (19 : Int32)), (.ref b1), (.ref b1)])) st40 ?_
  obtain ⟨cl41, Ar41, q41, Sz41, Nn41, Hh41, Gg41⟩ := V_b1
  have hin41 : ¬ ((19 : Int32) < 0 ∨ cl41.slots.size ≤ ((19 : Int32)).toNatClampNeg) := inb_of Sz41 ⟨by decide, by decide⟩
  obtain ⟨T41, h41, X41, e41, W41, st41⟩ := stR X40 hx hZ e40 Ar41 (j := (19 : Int32)) hin41 rfl (Sto.ofV Ar41 q41 O1 (Ins.self (Exa.ext Od.2 E_a_CREATE_PARTITIONS))) (g := (mkF m 138 #[.val (.int p0), .val (.int p1), .val (.int p2), .val (.int p3), .unset, .unset, .unset, .unset, .unset, .unset, .unset, .unset] [(.ref a_CREATE_PARTITIONS), (.int (19 : Int32)), (.ref b1), (.ref b1)])) rfl rfl (hb hby at_138)
  refine own_go (x' := T41.setTop (mkF m 139 #[.val (.int p0), .val (.int p1), .val (.int p2), .val (.int p3), .unset, .unset, .unset, .unset, .unset, .unset, .unset, .unset] [(.ref b1)])) st41 ?_
  replace Od := Od.wr W41 g_b1
  replace Zs := Nat.le_trans Zs (Keep.of_wr W41).1
  replace Nf := Fr.snoc X41 Nf g_b1
  have V_b1 : Arv Z h41 b1 k1 (.object "com/example/mechelen/mechelen/protocol/ApiKey") (22 : Int32) [(.ref a_PRODUCE), (.ref a_FETCH), (.ref a_LIST_OFFSETS), (.ref a_METADATA), (.ref a_OFFSET_COMMIT), (.ref a_OFFSET_FETCH), (.ref a_FIND_COORDINATOR), (.ref a_JOIN_GROUP), (.ref a_HEARTBEAT), (.ref a_LEAVE_GROUP), (.ref a_SYNC_GROUP), (.ref a_DESCRIBE_GROUPS), (.ref a_LIST_GROUPS), (.ref a_API_VERSIONS), (.ref a_CREATE_TOPICS), (.ref a_DELETE_TOPICS), (.ref a_DELETE_RECORDS), (.ref a_INIT_PRODUCER_ID), (.ref a_DESCRIBE_CONFIGS), (.ref a_CREATE_PARTITIONS), .null, .null] .null := Arv.set Ar41 q41 Sz41 Nn41 Hh41 Gg41 rfl W41 19 rfl (Nat.le_of_ble_eq_true rfl)
  refine own_go (x' := T41.setTop (mkF m 142 #[.val (.int p0), .val (.int p1), .val (.int p2), .val (.int p3), .unset, .unset, .unset, .unset, .unset, .unset, .unset, .unset] [(.int (20 : Int32)), (.ref b1), (.ref b1)])) (fun _ k => XS.dup X41.here hx rfl (hb hby at_139) rfl rfl (XS.bipush X41.here hx rfl (hb hby at_140) k)) ?_
  obtain ⟨T42, X42, e42, st42⟩ := getS2 X41 hx hZ hown (host := "") (Or.inl (own_w hw 44 rfl)) Via.refl e41 (Sta.ext Od.2 S_DELETE_GROUPS) (g := (mkF m 142 #[.val (.int p0), .val (.int p1), .val (.int p2), .val (.int p3), .unset, .unset, .unset, .unset, .unset, .unset, .unset, .unset] [(.int (20 : Int32)), (.ref b1), (.ref b1)])) rfl (hb hby at_142)
  refine own_go (x' := T42.setTop (mkF m 145 #[.val (.int p0), .val (.int p1), .val (.int p2), .val (.int p3), .unset, .unset, .unset, .unset, .unset, .unset, .unset, .unset] [(.ref a_DELETE_GROUPS), (.int (20 : Int32)), (.ref b1), (.ref b1)])) st42 ?_
  obtain ⟨cl43, Ar43, q43, Sz43, Nn43, Hh43, Gg43⟩ := V_b1
  have hin43 : ¬ ((20 : Int32) < 0 ∨ cl43.slots.size ≤ ((20 : Int32)).toNatClampNeg) := inb_of Sz43 ⟨by decide, by decide⟩
  obtain ⟨T43, h43, X43, e43, W43, st43⟩ := stR X42 hx hZ e42 Ar43 (j := (20 : Int32)) hin43 rfl (Sto.ofV Ar43 q43 O1 (Ins.self (Exa.ext Od.2 E_a_DELETE_GROUPS))) (g := (mkF m 145 #[.val (.int p0), .val (.int p1), .val (.int p2), .val (.int p3), .unset, .unset, .unset, .unset, .unset, .unset, .unset, .unset] [(.ref a_DELETE_GROUPS), (.int (20 : Int32)), (.ref b1), (.ref b1)])) rfl rfl (hb hby at_145)
  refine own_go (x' := T43.setTop (mkF m 146 #[.val (.int p0), .val (.int p1), .val (.int p2), .val (.int p3), .unset, .unset, .unset, .unset, .unset, .unset, .unset, .unset] [(.ref b1)])) st43 ?_
  replace Od := Od.wr W43 g_b1
  replace Zs := Nat.le_trans Zs (Keep.of_wr W43).1
  replace Nf := Fr.snoc X43 Nf g_b1
  have V_b1 : Arv Z h43 b1 k1 (.object "com/example/mechelen/mechelen/protocol/ApiKey") (22 : Int32) [(.ref a_PRODUCE), (.ref a_FETCH), (.ref a_LIST_OFFSETS), (.ref a_METADATA), (.ref a_OFFSET_COMMIT), (.ref a_OFFSET_FETCH), (.ref a_FIND_COORDINATOR), (.ref a_JOIN_GROUP), (.ref a_HEARTBEAT), (.ref a_LEAVE_GROUP), (.ref a_SYNC_GROUP), (.ref a_DESCRIBE_GROUPS), (.ref a_LIST_GROUPS), (.ref a_API_VERSIONS), (.ref a_CREATE_TOPICS), (.ref a_DELETE_TOPICS), (.ref a_DELETE_RECORDS), (.ref a_INIT_PRODUCER_ID), (.ref a_DESCRIBE_CONFIGS), (.ref a_CREATE_PARTITIONS), (.ref a_DELETE_GROUPS), .null] .null := Arv.set Ar43 q43 Sz43 Nn43 Hh43 Gg43 rfl W43 20 rfl (Nat.le_of_ble_eq_true rfl)
  refine own_go (x' := T43.setTop (mkF m 149 #[.val (.int p0), .val (.int p1), .val (.int p2), .val (.int p3), .unset, .unset, .unset, .unset, .unset, .unset, .unset, .unset] [(.int (21 : Int32)), (.ref b1), (.ref b1)])) (fun _ k => XS.dup X43.here hx rfl (hb hby at_146) rfl rfl (XS.bipush X43.here hx rfl (hb hby at_147) k)) ?_
  obtain ⟨T44, X44, e44, st44⟩ := getS2 X43 hx hZ hown (host := "") (Or.inl (own_w hw 46 rfl)) Via.refl e43 (Sta.ext Od.2 S_OFFSET_DELETE) (g := (mkF m 149 #[.val (.int p0), .val (.int p1), .val (.int p2), .val (.int p3), .unset, .unset, .unset, .unset, .unset, .unset, .unset, .unset] [(.int (21 : Int32)), (.ref b1), (.ref b1)])) rfl (hb hby at_149)
  refine own_go (x' := T44.setTop (mkF m 152 #[.val (.int p0), .val (.int p1), .val (.int p2), .val (.int p3), .unset, .unset, .unset, .unset, .unset, .unset, .unset, .unset] [(.ref a_OFFSET_DELETE), (.int (21 : Int32)), (.ref b1), (.ref b1)])) st44 ?_
  obtain ⟨cl45, Ar45, q45, Sz45, Nn45, Hh45, Gg45⟩ := V_b1
  have hin45 : ¬ ((21 : Int32) < 0 ∨ cl45.slots.size ≤ ((21 : Int32)).toNatClampNeg) := inb_of Sz45 ⟨by decide, by decide⟩
  obtain ⟨T45, h45, X45, e45, W45, st45⟩ := stR X44 hx hZ e44 Ar45 (j := (21 : Int32)) hin45 rfl (Sto.ofV Ar45 q45 O1 (Ins.self (Exa.ext Od.2 E_a_OFFSET_DELETE))) (g := (mkF m 152 #[.val (.int p0), .val (.int p1), .val (.int p2), .val (.int p3), .unset, .unset, .unset, .unset, .unset, .unset, .unset, .unset] [(.ref a_OFFSET_DELETE), (.int (21 : Int32)), (.ref b1), (.ref b1)])) rfl rfl (hb hby at_152)
  refine own_go (x' := T45.setTop (mkF m 153 #[.val (.int p0), .val (.int p1), .val (.int p2), .val (.int p3), .unset, .unset, .unset, .unset, .unset, .unset, .unset, .unset] [(.ref b1)])) st45 ?_
  replace Od := Od.wr W45 g_b1
  replace Zs := Nat.le_trans Zs (Keep.of_wr W45).1
  replace Nf := Fr.snoc X45 Nf g_b1
  have V_b1 : Arv Z h45 b1 k1 (.object "com/example/mechelen/mechelen/protocol/ApiKey") (22 : Int32) [(.ref a_PRODUCE), (.ref a_FETCH), (.ref a_LIST_OFFSETS), (.ref a_METADATA), (.ref a_OFFSET_COMMIT), (.ref a_OFFSET_FETCH), (.ref a_FIND_COORDINATOR), (.ref a_JOIN_GROUP), (.ref a_HEARTBEAT), (.ref a_LEAVE_GROUP), (.ref a_SYNC_GROUP), (.ref a_DESCRIBE_GROUPS), (.ref a_LIST_GROUPS), (.ref a_API_VERSIONS), (.ref a_CREATE_TOPICS), (.ref a_DELETE_TOPICS), (.ref a_DELETE_RECORDS), (.ref a_INIT_PRODUCER_ID), (.ref a_DESCRIBE_CONFIGS), (.ref a_CREATE_PARTITIONS), (.ref a_DELETE_GROUPS), (.ref a_OFFSET_DELETE)] .null := Arv.set Ar45 q45 Sz45 Nn45 Hh45 Gg45 rfl W45 21 rfl (Nat.le_of_ble_eq_true rfl)
  refine own_go (x' := T45.setTop (mkF m 157 #[.val (.int p0), .val (.int p1), .val (.int p2), .val (.int p3), .val (.ref b1), .unset, .unset, .unset, .unset, .unset, .unset, .unset] [(.int (22 : Int32))])) (fun _ k => XS.astore X45.here hx rfl (hb hby at_153) rfl rfl (l' := #[.val (.int p0), .val (.int p1), .val (.int p2), .val (.int p3), .val (.ref b1), .unset, .unset, .unset, .unset, .unset, .unset, .unset]) rfl (XS.bipush X45.here hx rfl (hb hby at_155) k)) ?_
  obtain ⟨T46, h46, k46, X46, e46, E46, A46, st46⟩ := newP X45 hx hZ (own_w hw 48 rfl) e45 (g := (mkF m 157 #[.val (.int p0), .val (.int p1), .val (.int p2), .val (.int p3), .val (.ref b1), .unset, .unset, .unset, .unset, .unset, .unset, .unset] [(.int (22 : Int32))])) rfl (hb hby at_157) rfl (by decide) (cap := 22) (by decide) (by decide) (by decide) (by decide)
  obtain ⟨b46, g46⟩ : ∃ z, z = h45.size := ⟨_, rfl⟩
  rw [← g46] at A46 st46
  have ne_b1_b46 : b1 ≠ b46 := Nat.ne_of_lt (Nat.lt_of_lt_of_le V_b1.lt (Nat.le_of_eq g46.symm))
  have g_b46 : n0 ≤ b46 := Nat.le_trans Zs (Nat.le_of_eq g46.symm)
  replace Od := Od.ext E46
  replace V_b1 := V_b1.ext E46
  replace Zs := Nat.le_trans Zs E46.1
  have V_b46 : Arv Z h46 b46 k46 .int (22 : Int32) [(.int (0 : Int32)), (.int (0 : Int32)), (.int (0 : Int32)), (.int (0 : Int32)), (.int (0 : Int32)), (.int (0 : Int32)), (.int (0 : Int32)), (.int (0 : Int32)), (.int (0 : Int32)), (.int (0 : Int32)), (.int (0 : Int32)), (.int (0 : Int32)), (.int (0 : Int32)), (.int (0 : Int32)), (.int (0 : Int32)), (.int (0 : Int32)), (.int (0 : Int32)), (.int (0 : Int32)), (.int (0 : Int32)), (.int (0 : Int32)), (.int (0 : Int32)), (.int (0 : Int32))] (.int (0 : Int32)) := (Arv.new A46 (by decide)).pad (pad_rep [] (.int (0 : Int32)) 22)
  refine own_go (x' := T46.setTop (mkF m 159 #[.val (.int p0), .val (.int p1), .val (.int p2), .val (.int p3), .val (.ref b1), .unset, .unset, .unset, .unset, .unset, .unset, .unset] [(.ref b46)])) st46 ?_
  refine own_go (x' := T46.setTop (mkF m 162 #[.val (.int p0), .val (.int p1), .val (.int p2), .val (.int p3), .val (.ref b1), .unset, .unset, .unset, .unset, .unset, .unset, .unset] [(.int (0 : Int32)), (.int (0 : Int32)), (.ref b46), (.ref b46)])) (fun _ k => XS.dup X46.here hx rfl (hb hby at_159) rfl rfl (XS.iconst X46.here hx rfl (hb hby at_160) (XS.iconst X46.here hx rfl (hb hby at_161) k))) ?_
  obtain ⟨cl47, Ar47, q47, Sz47, Nn47, Hh47, Gg47⟩ := V_b46
  have hin47 : ¬ ((0 : Int32) < 0 ∨ cl47.slots.size ≤ ((0 : Int32)).toNatClampNeg) := inb_of Sz47 ⟨by decide, by decide⟩
  obtain ⟨T47, h47, X47, e47, W47, st47⟩ := stI X46 hx hZ e46 Ar47 (j := (0 : Int32)) hin47 (g := (mkF m 162 #[.val (.int p0), .val (.int p1), .val (.int p2), .val (.int p3), .val (.ref b1), .unset, .unset, .unset, .unset, .unset, .unset, .unset] [(.int (0 : Int32)), (.int (0 : Int32)), (.ref b46), (.ref b46)])) rfl rfl (hb hby at_162)
  refine own_go (x' := T47.setTop (mkF m 163 #[.val (.int p0), .val (.int p1), .val (.int p2), .val (.int p3), .val (.ref b1), .unset, .unset, .unset, .unset, .unset, .unset, .unset] [(.ref b46)])) st47 ?_
  replace Od := Od.wr W47 g_b46
  replace V_b1 := V_b1.other W47 ne_b1_b46
  replace Zs := Nat.le_trans Zs (Keep.of_wr W47).1
  replace Nf := Fr.snoc X47 Nf g_b46
  have V_b46 : Arv Z h47 b46 k46 .int (22 : Int32) [(.int (0 : Int32)), (.int (0 : Int32)), (.int (0 : Int32)), (.int (0 : Int32)), (.int (0 : Int32)), (.int (0 : Int32)), (.int (0 : Int32)), (.int (0 : Int32)), (.int (0 : Int32)), (.int (0 : Int32)), (.int (0 : Int32)), (.int (0 : Int32)), (.int (0 : Int32)), (.int (0 : Int32)), (.int (0 : Int32)), (.int (0 : Int32)), (.int (0 : Int32)), (.int (0 : Int32)), (.int (0 : Int32)), (.int (0 : Int32)), (.int (0 : Int32)), (.int (0 : Int32))] (.int (0 : Int32)) := Arv.set Ar47 q47 Sz47 Nn47 Hh47 Gg47 rfl W47 0 rfl (Nat.le_of_ble_eq_true rfl)
  refine own_go (x' := T47.setTop (mkF m 166 #[.val (.int p0), .val (.int p1), .val (.int p2), .val (.int p3), .val (.ref b1), .unset, .unset, .unset, .unset, .unset, .unset, .unset] [(.int (4 : Int32)), (.int (1 : Int32)), (.ref b46), (.ref b46)])) (fun _ k => XS.dup X47.here hx rfl (hb hby at_163) rfl rfl (XS.iconst X47.here hx rfl (hb hby at_164) (XS.iconst X47.here hx rfl (hb hby at_165) k))) ?_
  obtain ⟨cl48, Ar48, q48, Sz48, Nn48, Hh48, Gg48⟩ := V_b46
  have hin48 : ¬ ((1 : Int32) < 0 ∨ cl48.slots.size ≤ ((1 : Int32)).toNatClampNeg) := inb_of Sz48 ⟨by decide, by decide⟩
  obtain ⟨T48, h48, X48, e48, W48, st48⟩ := stI X47 hx hZ e47 Ar48 (j := (1 : Int32)) hin48 (g := (mkF m 166 #[.val (.int p0), .val (.int p1), .val (.int p2), .val (.int p3), .val (.ref b1), .unset, .unset, .unset, .unset, .unset, .unset, .unset] [(.int (4 : Int32)), (.int (1 : Int32)), (.ref b46), (.ref b46)])) rfl rfl (hb hby at_166)
  refine own_go (x' := T48.setTop (mkF m 167 #[.val (.int p0), .val (.int p1), .val (.int p2), .val (.int p3), .val (.ref b1), .unset, .unset, .unset, .unset, .unset, .unset, .unset] [(.ref b46)])) st48 ?_
  replace Od := Od.wr W48 g_b46
  replace V_b1 := V_b1.other W48 ne_b1_b46
  replace Zs := Nat.le_trans Zs (Keep.of_wr W48).1
  replace Nf := Fr.snoc X48 Nf g_b46
  have V_b46 : Arv Z h48 b46 k46 .int (22 : Int32) [(.int (0 : Int32)), (.int (4 : Int32)), (.int (0 : Int32)), (.int (0 : Int32)), (.int (0 : Int32)), (.int (0 : Int32)), (.int (0 : Int32)), (.int (0 : Int32)), (.int (0 : Int32)), (.int (0 : Int32)), (.int (0 : Int32)), (.int (0 : Int32)), (.int (0 : Int32)), (.int (0 : Int32)), (.int (0 : Int32)), (.int (0 : Int32)), (.int (0 : Int32)), (.int (0 : Int32)), (.int (0 : Int32)), (.int (0 : Int32)), (.int (0 : Int32)), (.int (0 : Int32))] (.int (0 : Int32)) := Arv.set Ar48 q48 Sz48 Nn48 Hh48 Gg48 rfl W48 1 rfl (Nat.le_of_ble_eq_true rfl)
  refine own_go (x' := T48.setTop (mkF m 170 #[.val (.int p0), .val (.int p1), .val (.int p2), .val (.int p3), .val (.ref b1), .unset, .unset, .unset, .unset, .unset, .unset, .unset] [(.int (1 : Int32)), (.int (2 : Int32)), (.ref b46), (.ref b46)])) (fun _ k => XS.dup X48.here hx rfl (hb hby at_167) rfl rfl (XS.iconst X48.here hx rfl (hb hby at_168) (XS.iconst X48.here hx rfl (hb hby at_169) k))) ?_
  obtain ⟨cl49, Ar49, q49, Sz49, Nn49, Hh49, Gg49⟩ := V_b46
  have hin49 : ¬ ((2 : Int32) < 0 ∨ cl49.slots.size ≤ ((2 : Int32)).toNatClampNeg) := inb_of Sz49 ⟨by decide, by decide⟩
  obtain ⟨T49, h49, X49, e49, W49, st49⟩ := stI X48 hx hZ e48 Ar49 (j := (2 : Int32)) hin49 (g := (mkF m 170 #[.val (.int p0), .val (.int p1), .val (.int p2), .val (.int p3), .val (.ref b1), .unset, .unset, .unset, .unset, .unset, .unset, .unset] [(.int (1 : Int32)), (.int (2 : Int32)), (.ref b46), (.ref b46)])) rfl rfl (hb hby at_170)
  refine own_go (x' := T49.setTop (mkF m 171 #[.val (.int p0), .val (.int p1), .val (.int p2), .val (.int p3), .val (.ref b1), .unset, .unset, .unset, .unset, .unset, .unset, .unset] [(.ref b46)])) st49 ?_
  replace Od := Od.wr W49 g_b46
  replace V_b1 := V_b1.other W49 ne_b1_b46
  replace Zs := Nat.le_trans Zs (Keep.of_wr W49).1
  replace Nf := Fr.snoc X49 Nf g_b46
  have V_b46 : Arv Z h49 b46 k46 .int (22 : Int32) [(.int (0 : Int32)), (.int (4 : Int32)), (.int (1 : Int32)), (.int (0 : Int32)), (.int (0 : Int32)), (.int (0 : Int32)), (.int (0 : Int32)), (.int (0 : Int32)), (.int (0 : Int32)), (.int (0 : Int32)), (.int (0 : Int32)), (.int (0 : Int32)), (.int (0 : Int32)), (.int (0 : Int32)), (.int (0 : Int32)), (.int (0 : Int32)), (.int (0 : Int32)), (.int (0 : Int32)), (.int (0 : Int32)), (.int (0 : Int32)), (.int (0 : Int32)), (.int (0 : Int32))] (.int (0 : Int32)) := Arv.set Ar49 q49 Sz49 Nn49 Hh49 Gg49 rfl W49 2 rfl (Nat.le_of_ble_eq_true rfl)
  refine own_go (x' := T49.setTop (mkF m 174 #[.val (.int p0), .val (.int p1), .val (.int p2), .val (.int p3), .val (.ref b1), .unset, .unset, .unset, .unset, .unset, .unset, .unset] [(.int (0 : Int32)), (.int (3 : Int32)), (.ref b46), (.ref b46)])) (fun _ k => XS.dup X49.here hx rfl (hb hby at_171) rfl rfl (XS.iconst X49.here hx rfl (hb hby at_172) (XS.iconst X49.here hx rfl (hb hby at_173) k))) ?_
  obtain ⟨cl50, Ar50, q50, Sz50, Nn50, Hh50, Gg50⟩ := V_b46
  have hin50 : ¬ ((3 : Int32) < 0 ∨ cl50.slots.size ≤ ((3 : Int32)).toNatClampNeg) := inb_of Sz50 ⟨by decide, by decide⟩
  obtain ⟨T50, h50, X50, e50, W50, st50⟩ := stI X49 hx hZ e49 Ar50 (j := (3 : Int32)) hin50 (g := (mkF m 174 #[.val (.int p0), .val (.int p1), .val (.int p2), .val (.int p3), .val (.ref b1), .unset, .unset, .unset, .unset, .unset, .unset, .unset] [(.int (0 : Int32)), (.int (3 : Int32)), (.ref b46), (.ref b46)])) rfl rfl (hb hby at_174)
  refine own_go (x' := T50.setTop (mkF m 175 #[.val (.int p0), .val (.int p1), .val (.int p2), .val (.int p3), .val (.ref b1), .unset, .unset, .unset, .unset, .unset, .unset, .unset] [(.ref b46)])) st50 ?_
  replace Od := Od.wr W50 g_b46
  replace V_b1 := V_b1.other W50 ne_b1_b46
  replace Zs := Nat.le_trans Zs (Keep.of_wr W50).1
  replace Nf := Fr.snoc X50 Nf g_b46
  have V_b46 : Arv Z h50 b46 k46 .int (22 : Int32) [(.int (0 : Int32)), (.int (4 : Int32)), (.int (1 : Int32)), (.int (0 : Int32)), (.int (0 : Int32)), (.int (0 : Int32)), (.int (0 : Int32)), (.int (0 : Int32)), (.int (0 : Int32)), (.int (0 : Int32)), (.int (0 : Int32)), (.int (0 : Int32)), (.int (0 : Int32)), (.int (0 : Int32)), (.int (0 : Int32)), (.int (0 : Int32)), (.int (0 : Int32)), (.int (0 : Int32)), (.int (0 : Int32)), (.int (0 : Int32)), (.int (0 : Int32)), (.int (0 : Int32))] (.int (0 : Int32)) := Arv.set Ar50 q50 Sz50 Nn50 Hh50 Gg50 rfl W50 3 rfl (Nat.le_of_ble_eq_true rfl)
  refine own_go (x' := T50.setTop (mkF m 178 #[.val (.int p0), .val (.int p1), .val (.int p2), .val (.int p3), .val (.ref b1), .unset, .unset, .unset, .unset, .unset, .unset, .unset] [(.int (0 : Int32)), (.int (4 : Int32)), (.ref b46), (.ref b46)])) (fun _ k => XS.dup X50.here hx rfl (hb hby at_175) rfl rfl (XS.iconst X50.here hx rfl (hb hby at_176) (XS.iconst X50.here hx rfl (hb hby at_177) k))) ?_
  obtain ⟨cl51, Ar51, q51, Sz51, Nn51, Hh51, Gg51⟩ := V_b46
  have hin51 : ¬ ((4 : Int32) < 0 ∨ cl51.slots.size ≤ ((4 : Int32)).toNatClampNeg) := inb_of Sz51 ⟨by decide, by decide⟩
  obtain ⟨T51, h51, X51, e51, W51, st51⟩ := stI X50 hx hZ e50 Ar51 (j := (4 : Int32)) hin51 (g := (mkF m 178 #[.val (.int p0), .val (.int p1), .val (.int p2), .val (.int p3), .val (.ref b1), .unset, .unset, .unset, .unset, .unset, .unset, .unset] [(.int (0 : Int32)), (.int (4 : Int32)), (.ref b46), (.ref b46)])) rfl rfl (hb hby at_178)
  refine own_go (x' := T51.setTop (mkF m 179 #[.val (.int p0), .val (.int p1), .val (.int p2), .val (.int p3), .val (.ref b1), .unset, .unset, .unset, .unset, .unset, .unset, .unset] [(.ref b46)])) st51 ?_
  replace Od := Od.wr W51 g_b46
  replace V_b1 := V_b1.other W51 ne_b1_b46
  replace Zs := Nat.le_trans Zs (Keep.of_wr W51).1
  replace Nf := Fr.snoc X51 Nf g_b46
  have V_b46 : Arv Z h51 b46 k46 .int (22 : Int32) [(.int (0 : Int32)), (.int (4 : Int32)), (.int (1 : Int32)), (.int (0 : Int32)), (.int (0 : Int32)), (.int (0 : Int32)), (.int (0 : Int32)), (.int (0 : Int32)), (.int (0 : Int32)), (.int (0 : Int32)), (.int (0 : Int32)), (.int (0 : Int32)), (.int (0 : Int32)), (.int (0 : Int32)), (.int (0 : Int32)), (.int (0 : Int32)), (.int (0 : Int32)), (.int (0 : Int32)), (.int (0 : Int32)), (.int (0 : Int32)), (.int (0 : Int32)), (.int (0 : Int32))] (.int (0 : Int32)) := Arv.set Ar51 q51 Sz51 Nn51 Hh51 Gg51 rfl W51 4 rfl (Nat.le_of_ble_eq_true rfl)
  refine own_go (x' := T51.setTop (mkF m 182 #[.val (.int p0), .val (.int p1), .val (.int p2), .val (.int p3), .val (.ref b1), .unset, .unset, .unset, .unset, .unset, .unset, .unset] [(.int (0 : Int32)), (.int (5 : Int32)), (.ref b46), (.ref b46)])) (fun _ k => XS.dup X51.here hx rfl (hb hby at_179) rfl rfl (XS.iconst X51.here hx rfl (hb hby at_180) (XS.iconst X51.here hx rfl (hb hby at_181) k))) ?_
  obtain ⟨cl52, Ar52, q52, Sz52, Nn52, Hh52, Gg52⟩ := V_b46
  have hin52 : ¬ ((5 : Int32) < 0 ∨ cl52.slots.size ≤ ((5 : Int32)).toNatClampNeg) := inb_of Sz52 ⟨by decide, by decide⟩
  obtain ⟨T52, h52, X52, e52, W52, st52⟩ := stI X51 hx hZ e51 Ar52 (j := (5 : Int32)) hin52 (g := (mkF m 182 #[.val (.int p0), .val (.int p1), .val (.int p2), .val (.int p3), .val (.ref b1), .unset, .unset, .unset, .unset, .unset, .unset, .unset] [(.int (0 : Int32)), (.int (5 : Int32)), (.ref b46), (.ref b46)])) rfl rfl (hb hby at_182)
  refine own_go (x' := T52.setTop (mkF m 183 #[.val (.int p0), .val (.int p1), .val (.int p2), .val (.int p3), .val (.ref b1), .unset, .unset, .unset, .unset, .unset, .unset, .unset] [(.ref b46)])) st52 ?_
  replace Od := Od.wr W52 g_b46
  replace V_b1 := V_b1.other W52 ne_b1_b46
  replace Zs := Nat.le_trans Zs (Keep.of_wr W52).1
  replace Nf := Fr.snoc X52 Nf g_b46
  have V_b46 : Arv Z h52 b46 k46 .int (22 : Int32) [(.int (0 : Int32)), (.int (4 : Int32)), (.int (1 : Int32)), (.int (0 : Int32)), (.int (0 : Int32)), (.int (0 : Int32)), (.int (0 : Int32)), (.int (0 : Int32)), (.int (0 : Int32)), (.int (0 : Int32)), (.int (0 : Int32)), (.int (0 : Int32)), (.int (0 : Int32)), (.int (0 : Int32)), (.int (0 : Int32)), (.int (0 : Int32)), (.int (0 : Int32)), (.int (0 : Int32)), (.int (0 : Int32)), (.int (0 : Int32)), (.int (0 : Int32)), (.int (0 : Int32))] (.int (0 : Int32)) := Arv.set Ar52 q52 Sz52 Nn52 Hh52 Gg52 rfl W52 5 rfl (Nat.le_of_ble_eq_true rfl)
  refine own_go (x' := T52.setTop (mkF m 187 #[.val (.int p0), .val (.int p1), .val (.int p2), .val (.int p3), .val (.ref b1), .unset, .unset, .unset, .unset, .unset, .unset, .unset] [(.int (0 : Int32)), (.int (6 : Int32)), (.ref b46), (.ref b46)])) (fun _ k => XS.dup X52.here hx rfl (hb hby at_183) rfl rfl (XS.bipush X52.here hx rfl (hb hby at_184) (XS.iconst X52.here hx rfl (hb hby at_186) k))) ?_
  obtain ⟨cl53, Ar53, q53, Sz53, Nn53, Hh53, Gg53⟩ := V_b46
  have hin53 : ¬ ((6 : Int32) < 0 ∨ cl53.slots.size ≤ ((6 : Int32)).toNatClampNeg) := inb_of Sz53 ⟨by decide, by decide⟩
  obtain ⟨T53, h53, X53, e53, W53, st53⟩ := stI X52 hx hZ e52 Ar53 (j := (6 : Int32)) hin53 (g := (mkF m 187 #[.val (.int p0), .val (.int p1), .val (.int p2), .val (.int p3), .val (.ref b1), .unset, .unset, .unset, .unset, .unset, .unset, .unset] [(.int (0 : Int32)), (.int (6 : Int32)), (.ref b46), (.ref b46)])) rfl rfl (hb hby at_187)
  refine own_go (x' := T53.setTop (mkF m 188 #[.val (.int p0), .val (.int p1), .val (.int p2), .val (.int p3), .val (.ref b1), .unset, .unset, .unset, .unset, .unset, .unset, .unset] [(.ref b46)])) st53 ?_
  replace Od := Od.wr W53 g_b46
  replace V_b1 := V_b1.other W53 ne_b1_b46
  replace Zs := Nat.le_trans Zs (Keep.of_wr W53).1
  replace Nf := Fr.snoc X53 Nf g_b46
  have V_b46 : Arv Z h53 b46 k46 .int (22 : Int32) [(.int (0 : Int32)), (.int (4 : Int32)), (.int (1 : Int32)), (.int (0 : Int32)), (.int (0 : Int32)), (.int (0 : Int32)), (.int (0 : Int32)), (.int (0 : Int32)), (.int (0 : Int32)), (.int (0 : Int32)), (.int (0 : Int32)), (.int (0 : Int32)), (.int (0 : Int32)), (.int (0 : Int32)), (.int (0 : Int32)), (.int (0 : Int32)), (.int (0 : Int32)), (.int (0 : Int32)), (.int (0 : Int32)), (.int (0 : Int32)), (.int (0 : Int32)), (.int (0 : Int32))] (.int (0 : Int32)) := Arv.set Ar53 q53 Sz53 Nn53 Hh53 Gg53 rfl W53 6 rfl (Nat.le_of_ble_eq_true rfl)
  refine own_go (x' := T53.setTop (mkF m 192 #[.val (.int p0), .val (.int p1), .val (.int p2), .val (.int p3), .val (.ref b1), .unset, .unset, .unset, .unset, .unset, .unset, .unset] [(.int (0 : Int32)), (.int (7 : Int32)), (.ref b46), (.ref b46)])) (fun _ k => XS.dup X53.here hx rfl (hb hby at_188) rfl rfl (XS.bipush X53.here hx rfl (hb hby at_189) (XS.iconst X53.here hx rfl (hb hby at_191) k))) ?_
  obtain ⟨cl54, Ar54, q54, Sz54, Nn54, Hh54, Gg54⟩ := V_b46
  have hin54 : ¬ ((7 : Int32) < 0 ∨ cl54.slots.size ≤ ((7 : Int32)).toNatClampNeg) := inb_of Sz54 ⟨by decide, by decide⟩
  obtain ⟨T54, h54, X54, e54, W54, st54⟩ := stI X53 hx hZ e53 Ar54 (j := (7 : Int32)) hin54 (g := (mkF m 192 #[.val (.int p0), .val (.int p1), .val (.int p2), .val (.int p3), .val (.ref b1), .unset, .unset, .unset, .unset, .unset, .unset, .unset] [(.int (0 : Int32)), (.int (7 : Int32)), (.ref b46), (.ref b46)])) rfl rfl (hb hby at_192)
  refine own_go (x' := T54.setTop (mkF m 193 #[.val (.int p0), .val (.int p1), .val (.int p2), .val (.int p3), .val (.ref b1), .unset, .unset, .unset, .unset, .unset, .unset, .unset] [(.ref b46)])) st54 ?_
  replace Od := Od.wr W54 g_b46
  replace V_b1 := V_b1.other W54 ne_b1_b46
  replace Zs := Nat.le_trans Zs (Keep.of_wr W54).1
  replace Nf := Fr.snoc X54 Nf g_b46
  have V_b46 : Arv Z h54 b46 k46 .int (22 : Int32) [(.int (0 : Int32)), (.int (4 : Int32)), (.int (1 : Int32)), (.int (0 : Int32)), (.int (0 : Int32)), (.int (0 : Int32)), (.int (0 : Int32)), (.int (0 : Int32)), (.int (0 : Int32)), (.int (0 : Int32)), (.int (0 : Int32)), (.int (0 : Int32)), (.int (0 : Int32)), (.int (0 : Int32)), (.int (0 : Int32)), (.int (0 : Int32)), (.int (0 : Int32)), (.int (0 : Int32)), (.int (0 : Int32)), (.int (0 : Int32)), (.int (0 : Int32)), (.int (0 : Int32))] (.int (0 : Int32)) := Arv.set Ar54 q54 Sz54 Nn54 Hh54 Gg54 rfl W54 7 rfl (Nat.le_of_ble_eq_true rfl)
  refine own_go (x' := T54.setTop (mkF m 197 #[.val (.int p0), .val (.int p1), .val (.int p2), .val (.int p3), .val (.ref b1), .unset, .unset, .unset, .unset, .unset, .unset, .unset] [(.int (0 : Int32)), (.int (8 : Int32)), (.ref b46), (.ref b46)])) (fun _ k => XS.dup X54.here hx rfl (hb hby at_193) rfl rfl (XS.bipush X54.here hx rfl (hb hby at_194) (XS.iconst X54.here hx rfl (hb hby at_196) k))) ?_
  obtain ⟨cl55, Ar55, q55, Sz55, Nn55, Hh55, Gg55⟩ := V_b46
  have hin55 : ¬ ((8 : Int32) < 0 ∨ cl55.slots.size ≤ ((8 : Int32)).toNatClampNeg) := inb_of Sz55 ⟨by decide, by decide⟩
  obtain ⟨T55, h55, X55, e55, W55, st55⟩ := stI X54 hx hZ e54 Ar55 (j := (8 : Int32)) hin55 (g := (mkF m 197 #[.val (.int p0), .val (.int p1), .val (.int p2), .val (.int p3), .val (.ref b1), .unset, .unset, .unset, .unset, .unset, .unset, .unset] [(.int (0 : Int32)), (.int (8 : Int32)), (.ref b46), (.ref b46)])) rfl rfl (hb hby at_197)
  refine own_go (x' := T55.setTop (mkF m 198 #[.val (.int p0), .val (.int p1), .val (.int p2), .val (.int p3), .val (.ref b1), .unset, .unset, .unset, .unset, .unset, .unset, .unset] [(.ref b46)])) st55 ?_
  replace Od := Od.wr W55 g_b46
  replace V_b1 := V_b1.other W55 ne_b1_b46
  replace Zs := Nat.le_trans Zs (Keep.of_wr W55).1
  replace Nf := Fr.snoc X55 Nf g_b46
  have V_b46 : Arv Z h55 b46 k46 .int (22 : Int32) [(.int (0 : Int32)), (.int (4 : Int32)), (.int (1 : Int32)), (.int (0 : Int32)), (.int (0 : Int32)), (.int (0 : Int32)), (.int (0 : Int32)), (.int (0 : Int32)), (.int (0 : Int32)), (.int (0 : Int32)), (.int (0 : Int32)), (.int (0 : Int32)), (.int (0 : Int32)), (.int (0 : Int32)), (.int (0 : Int32)), (.int (0 : Int32)), (.int (0 : Int32)), (.int (0 : Int32)), (.int (0 : Int32)), (.int (0 : Int32)), (.int (0 : Int32)), (.int (0 : Int32))] (.int (0 : Int32)) := Arv.set Ar55 q55 Sz55 Nn55 Hh55 Gg55 rfl W55 8 rfl (Nat.le_of_ble_eq_true rfl)
  refine own_go (x' := T55.setTop (mkF m 202 #[.val (.int p0), .val (.int p1), .val (.int p2), .val (.int p3), .val (.ref b1), .unset, .unset, .unset, .unset, .unset, .unset, .unset] [(.int (0 : Int32)), (.int (9 : Int32)), (.ref b46), (.ref b46)])) (fun _ k => XS.dup X55.here hx rfl (hb hby at_198) rfl rfl (XS.bipush X55.here hx rfl (hb hby at_199) (XS.iconst X55.here hx rfl (hb hby at_201) k))) ?_
  obtain ⟨cl56, Ar56, q56, Sz56, Nn56, Hh56, Gg56⟩ := V_b46
  have hin56 : ¬ ((9 : Int32) < 0 ∨ cl56.slots.size ≤ ((9 : Int32)).toNatClampNeg) := inb_of Sz56 ⟨by decide, by decide⟩
  obtain ⟨T56, h56, X56, e56, W56, st56⟩ := stI X55 hx hZ e55 Ar56 (j := (9 : Int32)) hin56 (g := (mkF m 202 #[.val (.int p0), .val (.int p1), .val (.int p2), .val (.int p3), .val (.ref b1), .unset, .unset, .unset, .unset, .unset, .unset, .unset] [(.int (0 : Int32)), (.int (9 : Int32)), (.ref b46), (.ref b46)])) rfl rfl (hb hby at_202)
  refine own_go (x' := T56.setTop (mkF m 203 #[.val (.int p0), .val (.int p1), .val (.int p2), .val (.int p3), .val (.ref b1), .unset, .unset, .unset, .unset, .unset, .unset, .unset] [(.ref b46)])) st56 ?_
  replace Od := Od.wr W56 g_b46
  replace V_b1 := V_b1.other W56 ne_b1_b46
  replace Zs := Nat.le_trans Zs (Keep.of_wr W56).1
  replace Nf := Fr.snoc X56 Nf g_b46
  have V_b46 : Arv Z h56 b46 k46 .int (22 : Int32) [(.int (0 : Int32)), (.int (4 : Int32)), (.int (1 : Int32)), (.int (0 : Int32)), (.int (0 : Int32)), (.int (0 : Int32)), (.int (0 : Int32)), (.int (0 : Int32)), (.int (0 : Int32)), (.int (0 : Int32)), (.int (0 : Int32)), (.int (0 : Int32)), (.int (0 : Int32)), (.int (0 : Int32)), (.int (0 : Int32)), (.int (0 : Int32)), (.int (0 : Int32)), (.int (0 : Int32)), (.int (0 : Int32)), (.int (0 : Int32)), (.int (0 : Int32)), (.int (0 : Int32))] (.int (0 : Int32)) := Arv.set Ar56 q56 Sz56 Nn56 Hh56 Gg56 rfl W56 9 rfl (Nat.le_of_ble_eq_true rfl)
  refine own_go (x' := T56.setTop (mkF m 207 #[.val (.int p0), .val (.int p1), .val (.int p2), .val (.int p3), .val (.ref b1), .unset, .unset, .unset, .unset, .unset, .unset, .unset] [(.int (0 : Int32)), (.int (10 : Int32)), (.ref b46), (.ref b46)])) (fun _ k => XS.dup X56.here hx rfl (hb hby at_203) rfl rfl (XS.bipush X56.here hx rfl (hb hby at_204) (XS.iconst X56.here hx rfl (hb hby at_206) k))) ?_
  obtain ⟨cl57, Ar57, q57, Sz57, Nn57, Hh57, Gg57⟩ := V_b46
  have hin57 : ¬ ((10 : Int32) < 0 ∨ cl57.slots.size ≤ ((10 : Int32)).toNatClampNeg) := inb_of Sz57 ⟨by decide, by decide⟩
  obtain ⟨T57, h57, X57, e57, W57, st57⟩ := stI X56 hx hZ e56 Ar57 (j := (10 : Int32)) hin57 (g := (mkF m 207 #[.val (.int p0), .val (.int p1), .val (.int p2), .val (.int p3), .val (.ref b1), .unset, .unset, .unset, .unset, .unset, .unset, .unset] [(.int (0 : Int32)), (.int (10 : Int32)), (.ref b46), (.ref b46)])) rfl rfl (hb hby at_207)
  refine own_go (x' := T57.setTop (mkF m 208 #[.val (.int p0), .val (.int p1), .val (.int p2), .val (.int p3), .val (.ref b1), .unset, .unset, .unset, .unset, .unset, .unset, .unset] [(.ref b46)])) st57 ?_
  replace Od := Od.wr W57 g_b46
  replace V_b1 := V_b1.other W57 ne_b1_b46
  replace Zs := Nat.le_trans Zs (Keep.of_wr W57).1
  replace Nf := Fr.snoc X57 Nf g_b46
  have V_b46 : Arv Z h57 b46 k46 .int (22 : Int32) [(.int (0 : Int32)), (.int (4 : Int32)), (.int (1 : Int32)), (.int (0 : Int32)), (.int (0 : Int32)), (.int (0 : Int32)), (.int (0 : Int32)), (.int (0 : Int32)), (.int (0 : Int32)), (.int (0 : Int32)), (.int (0 : Int32)), (.int (0 : Int32)), (.int (0 : Int32)), (.int (0 : Int32)), (.int (0 : Int32)), (.int (0 : Int32)), (.int (0 : Int32)), (.int (0 : Int32)), (.int (0 : Int32)), (.int (0 : Int32)), (.int (0 : Int32)), (.int (0 : Int32))] (.int (0 : Int32)) := Arv.set Ar57 q57 Sz57 Nn57 Hh57 Gg57 rfl W57 10 rfl (Nat.le_of_ble_eq_true rfl)
  refine own_go (x' := T57.setTop (mkF m 212 #[.val (.int p0), .val (.int p1), .val (.int p2), .val (.int p3), .val (.ref b1), .unset, .unset, .unset, .unset, .unset, .unset, .unset] [(.int (0 : Int32)), (.int (11 : Int32)), (.ref b46), (.ref b46)])) (fun _ k => XS.dup X57.here hx rfl (hb hby at_208) rfl rfl (XS.bipush X57.here hx rfl (hb hby at_209) (XS.iconst X57.here hx rfl (hb hby at_211) k))) ?_
  obtain ⟨cl58, Ar58, q58, Sz58, Nn58, Hh58, Gg58⟩ := V_b46
  have hin58 : ¬ ((11 : Int32) < 0 ∨ cl58.slots.size ≤ ((11 : Int32)).toNatClampNeg) := inb_of Sz58 ⟨by decide, by decide⟩
  obtain ⟨T58, h58, X58, e58, W58, st58⟩ := stI X57 hx hZ e57 Ar58 (j := (11 : Int32)) hin58 (g := (mkF m 212 #[.val (.int p0), .val (.int p1), .val (.int p2), .val (.int p3), .val (.ref b1), .unset, .unset, .unset, .unset, .unset, .unset, .unset] [(.int (0 : Int32)), (.int (11 : Int32)), (.ref b46), (.ref b46)])) rfl rfl (hb hby at_212)
  refine own_go (x' := T58.setTop (mkF m 213 #[.val (.int p0), .val (.int p1), .val (.int p2), .val (.int p3), .val (.ref b1), .unset, .unset, .unset, .unset, .unset, .unset, .unset] [(.ref b46)])) st58 ?_
  replace Od := Od.wr W58 g_b46
  replace V_b1 := V_b1.other W58 ne_b1_b46
  replace Zs := Nat.le_trans Zs (Keep.of_wr W58).1
  replace Nf := Fr.snoc X58 Nf g_b46
  have V_b46 : Arv Z h58 b46 k46 .int (22 : Int32) [(.int (0 : Int32)), (.int (4 : Int32)), (.int (1 : Int32)), (.int (0 : Int32)), (.int (0 : Int32)), (.int (0 : Int32)), (.int (0 : Int32)), (.int (0 : Int32)), (.int (0 : Int32)), (.int (0 : Int32)), (.int (0 : Int32)), (.int (0 : Int32)), (.int (0 : Int32)), (.int (0 : Int32)), (.int (0 : Int32)), (.int (0 : Int32)), (.int (0 : Int32)), (.int (0 : Int32)), (.int (0 : Int32)), (.int (0 : Int32)), (.int (0 : Int32)), (.int (0 : Int32))] (.int (0 : Int32)) := Arv.set Ar58 q58 Sz58 Nn58 Hh58 Gg58 rfl W58 11 rfl (Nat.le_of_ble_eq_true rfl)
  refine own_go (x' := T58.setTop (mkF m 217 #[.val (.int p0), .val (.int p1), .val (.int p2), .val (.int p3), .val (.ref b1), .unset, .unset, .unset, .unset, .unset, .unset, .unset] [(.int (0 : Int32)), (.int (12 : Int32)), (.ref b46), (.ref b46)])) (fun _ k => XS.dup X58.here hx rfl (hb hby at_213) rfl rfl (XS.bipush X58.here hx rfl (hb hby at_214) (XS.iconst X58.here hx rfl (hb hby at_216) k))) ?_
  obtain ⟨cl59, Ar59, q59, Sz59, Nn59, Hh59, Gg59⟩ := V_b46
  have hin59 : ¬ ((12 : Int32) < 0 ∨ cl59.slots.size ≤ ((12 : Int32)).toNatClampNeg) := inb_of Sz59 ⟨by decide, by decide⟩
  obtain ⟨T59, h59, X59, e59, W59, st59⟩ := stI X58 hx hZ e58 Ar59 (j := (12 : Int32)) hin59 (g := (mkF m 217 #[.val (.int p0), .val (.int p1), .val (.int p2), .val (.int p3), .val (.ref b1), .unset, .unset, .unset, .unset, .unset, .unset, .unset] [(.int (0 : Int32)), (.int (12 : Int32)), (.ref b46), (.ref b46)])) rfl rfl (hb hby at_217)
  refine own_go (x' := T59.setTop (mkF m 218 #[.val (.int p0), .val (.int p1), .val (.int p2), .val (.int p3), .val (.ref b1), .unset, .unset, .unset, .unset, .unset, .unset, .unset] [(.ref b46)])) st59 ?_
  replace Od := Od.wr W59 g_b46
  replace V_b1 := V_b1.other W59 ne_b1_b46
  replace Zs := Nat.le_trans Zs (Keep.of_wr W59).1
  replace Nf := Fr.snoc X59 Nf g_b46
  have V_b46 : Arv Z h59 b46 k46 .int (22 : Int32) [(.int (0 : Int32)), (.int (4 : Int32)), (.int (1 : Int32)), (.int (0 : Int32)), (.int (0 : Int32)), (.int (0 : Int32)), (.int (0 : Int32)), (.int (0 : Int32)), (.int (0 : Int32)), (.int (0 : Int32)), (.int (0 : Int32)), (.int (0 : Int32)), (.int (0 : Int32)), (.int (0 : Int32)), (.int (0 : Int32)), (.int (0 : Int32)), (.int (0 : Int32)), (.int (0 : Int32)), (.int (0 : Int32)), (.int (0 : Int32)), (.int (0 : Int32)), (.int (0 : Int32))] (.int (0 : Int32)) := Arv.set Ar59 q59 Sz59 Nn59 Hh59 Gg59 rfl W59 12 rfl (Nat.le_of_ble_eq_true rfl)
  refine own_go (x' := T59.setTop (mkF m 222 #[.val (.int p0), .val (.int p1), .val (.int p2), .val (.int p3), .val (.ref b1), .unset, .unset, .unset, .unset, .unset, .unset, .unset] [(.int (0 : Int32)), (.int (13 : Int32)), (.ref b46), (.ref b46)])) (fun _ k => XS.dup X59.here hx rfl (hb hby at_218) rfl rfl (XS.bipush X59.here hx rfl (hb hby at_219) (XS.iconst X59.here hx rfl (hb hby at_221) k))) ?_
  obtain ⟨cl60, Ar60, q60, Sz60, Nn60, Hh60, Gg60⟩ := V_b46
  have hin60 : ¬ ((13 : Int32) < 0 ∨ cl60.slots.size ≤ ((13 : Int32)).toNatClampNeg) := inb_of Sz60 ⟨by decide, by decide⟩
  obtain ⟨T60, h60, X60, e60, W60, st60⟩ := stI X59 hx hZ e59 Ar60 (j := (13 : Int32)) hin60 (g := (mkF m 222 #[.val (.int p0), .val (.int p1), .val (.int p2), .val (.int p3), .val (.ref b1), .unset, .unset, .unset, .unset, .unset, .unset, .unset] [(.int (0 : Int32)), (.int (13 : Int32)), (.ref b46), (.ref b46)])) rfl rfl (hb hby at_222)
  refine own_go (x' := T60.setTop (mkF m 223 #[.val (.int p0), .val (.int p1), .val (.int p2), .val (.int p3), .val (.ref b1), .unset, .unset, .unset, .unset, .unset, .unset, .unset] [(.ref b46)])) st60 ?_
  replace Od := Od.wr W60 g_b46
  replace V_b1 := V_b1.other W60 ne_b1_b46
  replace Zs := Nat.le_trans Zs (Keep.of_wr W60).1
  replace Nf := Fr.snoc X60 Nf g_b46
  have V_b46 : Arv Z h60 b46 k46 .int (22 : Int32) [(.int (0 : Int32)), (.int (4 : Int32)), (.int (1 : Int32)), (.int (0 : Int32)), (.int (0 : Int32)), (.int (0 : Int32)), (.int (0 : Int32)), (.int (0 : Int32)), (.int (0 : Int32)), (.int (0 : Int32)), (.int (0 : Int32)), (.int (0 : Int32)), (.int (0 : Int32)), (.int (0 : Int32)), (.int (0 : Int32)), (.int (0 : Int32)), (.int (0 : Int32)), (.int (0 : Int32)), (.int (0 : Int32)), (.int (0 : Int32)), (.int (0 : Int32)), (.int (0 : Int32))] (.int (0 : Int32)) := Arv.set Ar60 q60 Sz60 Nn60 Hh60 Gg60 rfl W60 13 rfl (Nat.le_of_ble_eq_true rfl)
  refine own_go (x' := T60.setTop (mkF m 227 #[.val (.int p0), .val (.int p1), .val (.int p2), .val (.int p3), .val (.ref b1), .unset, .unset, .unset, .unset, .unset, .unset, .unset] [(.int (0 : Int32)), (.int (14 : Int32)), (.ref b46), (.ref b46)])) (fun _ k => XS.dup X60.here hx rfl (hb hby at_223) rfl rfl (XS.bipush X60.here hx rfl (hb hby at_224) (XS.iconst X60.here hx rfl (hb hby at_226) k))) ?_
  obtain ⟨cl61, Ar61, q61, Sz61, Nn61, Hh61, Gg61⟩ := V_b46
  have hin61 : ¬ ((14 : Int32) < 0 ∨ cl61.slots.size ≤ ((14 : Int32)).toNatClampNeg) := inb_of Sz61 ⟨by decide, by decide⟩
  obtain ⟨T61, h61, X61, e61, W61, st61⟩ := stI X60 hx hZ e60 Ar61 (j := (14 : Int32)) hin61 (g := (mkF m 227 #[.val (.int p0), .val (.int p1), .val (.int p2), .val (.int p3), .val (.ref b1), .unset, .unset, .unset, .unset, .unset, .unset, .unset] [(.int (0 : Int32)), (.int (14 : Int32)), (.ref b46), (.ref b46)])) rfl rfl (hb hby at_227)
  refine own_go (x' := T61.setTop (mkF m 228 #[.val (.int p0), .val (.int p1), .val (.int p2), .val (.int p3), .val (.ref b1), .unset, .unset, .unset, .unset, .unset, .unset, .unset] [(.ref b46)])) st61 ?_
  replace Od := Od.wr W61 g_b46
  replace V_b1 := V_b1.other W61 ne_b1_b46
  replace Zs := Nat.le_trans Zs (Keep.of_wr W61).1
  replace Nf := Fr.snoc X61 Nf g_b46
  have V_b46 : Arv Z h61 b46 k46 .int (22 : Int32) [(.int (0 : Int32)), (.int (4 : Int32)), (.int (1 : Int32)), (.int (0 : Int32)), (.int (0 : Int32)), (.int (0 : Int32)), (.int (0 : Int32)), (.int (0 : Int32)), (.int (0 : Int32)), (.int (0 : Int32)), (.int (0 : Int32)), (.int (0 : Int32)), (.int (0 : Int32)), (.int (0 : Int32)), (.int (0 : Int32)), (.int (0 : Int32)), (.int (0 : Int32)), (.int (0 : Int32)), (.int (0 : Int32)), (.int (0 : Int32)), (.int (0 : Int32)), (.int (0 : Int32))] (.int (0 : Int32)) := Arv.set Ar61 q61 Sz61 Nn61 Hh61 Gg61 rfl W61 14 rfl (Nat.le_of_ble_eq_true rfl)
  refine own_go (x' := T61.setTop (mkF m 232 #[.val (.int p0), .val (.int p1), .val (.int p2), .val (.int p3), .val (.ref b1), .unset, .unset, .unset, .unset, .unset, .unset, .unset] [(.int (0 : Int32)), (.int (15 : Int32)), (.ref b46), (.ref b46)])) (fun _ k => XS.dup X61.here hx rfl (hb hby at_228) rfl rfl (XS.bipush X61.here hx rfl (hb hby at_229) (XS.iconst X61.here hx rfl (hb hby at_231) k))) ?_
  obtain ⟨cl62, Ar62, q62, Sz62, Nn62, Hh62, Gg62⟩ := V_b46
  have hin62 : ¬ ((15 : Int32) < 0 ∨ cl62.slots.size ≤ ((15 : Int32)).toNatClampNeg) := inb_of Sz62 ⟨by decide, by decide⟩
  obtain ⟨T62, h62, X62, e62, W62, st62⟩ := stI X61 hx hZ e61 Ar62 (j := (15 : Int32)) hin62 (g := (mkF m 232 #[.val (.int p0), .val (.int p1), .val (.int p2), .val (.int p3), .val (.ref b1), .unset, .unset, .unset, .unset, .unset, .unset, .unset] [(.int (0 : Int32)), (.int (15 : Int32)), (.ref b46), (.ref b46)])) rfl rfl (hb hby at_232)
  refine own_go (x' := T62.setTop (mkF m 233 #[.val (.int p0), .val (.int p1), .val (.int p2), .val (.int p3), .val (.ref b1), .unset, .unset, .unset, .unset, .unset, .unset, .unset] [(.ref b46)])) st62 ?_
  replace Od := Od.wr W62 g_b46
  replace V_b1 := V_b1.other W62 ne_b1_b46
  replace Zs := Nat.le_trans Zs (Keep.of_wr W62).1
  replace Nf := Fr.snoc X62 Nf g_b46
  have V_b46 : Arv Z h62 b46 k46 .int (22 : Int32) [(.int (0 : Int32)), (.int (4 : Int32)), (.int (1 : Int32)), (.int (0 : Int32)), (.int (0 : Int32)), (.int (0 : Int32)), (.int (0 : Int32)), (.int (0 : Int32)), (.int (0 : Int32)), (.int (0 : Int32)), (.int (0 : Int32)), (.int (0 : Int32)), (.int (0 : Int32)), (.int (0 : Int32)), (.int (0 : Int32)), (.int (0 : Int32)), (.int (0 : Int32)), (.int (0 : Int32)), (.int (0 : Int32)), (.int (0 : Int32)), (.int (0 : Int32)), (.int (0 : Int32))] (.int (0 : Int32)) := Arv.set Ar62 q62 Sz62 Nn62 Hh62 Gg62 rfl W62 15 rfl (Nat.le_of_ble_eq_true rfl)
  refine own_go (x' := T62.setTop (mkF m 237 #[.val (.int p0), .val (.int p1), .val (.int p2), .val (.int p3), .val (.ref b1), .unset, .unset, .unset, .unset, .unset, .unset, .unset] [(.int (0 : Int32)), (.int (16 : Int32)), (.ref b46), (.ref b46)])) (fun _ k => XS.dup X62.here hx rfl (hb hby at_233) rfl rfl (XS.bipush X62.here hx rfl (hb hby at_234) (XS.iconst X62.here hx rfl (hb hby at_236) k))) ?_
  obtain ⟨cl63, Ar63, q63, Sz63, Nn63, Hh63, Gg63⟩ := V_b46
  have hin63 : ¬ ((16 : Int32) < 0 ∨ cl63.slots.size ≤ ((16 : Int32)).toNatClampNeg) := inb_of Sz63 ⟨by decide, by decide⟩
  obtain ⟨T63, h63, X63, e63, W63, st63⟩ := stI X62 hx hZ e62 Ar63 (j := (16 : Int32)) hin63 (g := (mkF m 237 #[.val (.int p0), .val (.int p1), .val (.int p2), .val (.int p3), .val (.ref b1), .unset, .unset, .unset, .unset, .unset, .unset, .unset] [(.int (0 : Int32)), (.int (16 : Int32)), (.ref b46), (.ref b46)])) rfl rfl (hb hby at_237)
  refine own_go (x' := T63.setTop (mkF m 238 #[.val (.int p0), .val (.int p1), .val (.int p2), .val (.int p3), .val (.ref b1), .unset, .unset, .unset, .unset, .unset, .unset, .unset] [(.ref b46)])) st63 ?_
  replace Od := Od.wr W63 g_b46
  replace V_b1 := V_b1.other W63 ne_b1_b46
  replace Zs := Nat.le_trans Zs (Keep.of_wr W63).1
  replace Nf := Fr.snoc X63 Nf g_b46
  have V_b46 : Arv Z h63 b46 k46 .int (22 : Int32) [(.int (0 : Int32)), (.int (4 : Int32)), (.int (1 : Int32)), (.int (0 : Int32)), (.int (0 : Int32)), (.int (0 : Int32)), (.int (0 : Int32)), (.int (0 : Int32)), (.int (0 : Int32)), (.int (0 : Int32)), (.int (0 : Int32)), (.int (0 : Int32)), (.int (0 : Int32)), (.int (0 : Int32)), (.int (0 : Int32)), (.int (0 : Int32)), (.int (0 : Int32)), (.int (0 : Int32)), (.int (0 : Int32)), (.int (0 : Int32)), (.int (0 : Int32)), (.int (0 : Int32))] (.int (0 : Int32)) := Arv.set Ar63 q63 Sz63 Nn63 Hh63 Gg63 rfl W63 16 rfl (Nat.le_of_ble_eq_true rfl)
  refine own_go (x' := T63.setTop (mkF m 242 #[.val (.int p0), .val (.int p1), .val (.int p2), .val (.int p3), .val (.ref b1), .unset, .unset, .unset, .unset, .unset, .unset, .unset] [(.int (0 : Int32)), (.int (17 : Int32)), (.ref b46), (.ref b46)])) (fun _ k => XS.dup X63.here hx rfl (hb hby at_238) rfl rfl (XS.bipush X63.here hx rfl (hb hby at_239) (XS.iconst X63.here hx rfl (hb hby at_241) k))) ?_
  obtain ⟨cl64, Ar64, q64, Sz64, Nn64, Hh64, Gg64⟩ := V_b46
  have hin64 : ¬ ((17 : Int32) < 0 ∨ cl64.slots.size ≤ ((17 : Int32)).toNatClampNeg) := inb_of Sz64 ⟨by decide, by decide⟩
  obtain ⟨T64, h64, X64, e64, W64, st64⟩ := stI X63 hx hZ e63 Ar64 (j := (17 : Int32)) hin64 (g := (mkF m 242 #[.val (.int p0), .val (.int p1), .val (.int p2), .val (.int p3), .val (.ref b1), .unset, .unset, .unset, .unset, .unset, .unset, .unset] [(.int (0 : Int32)), (.int (17 : Int32)), (.ref b46), (.ref b46)])) rfl rfl (hb hby at_242)
  refine own_go (x' := T64.setTop (mkF m 243 #[.val (.int p0), .val (.int p1), .val (.int p2), .val (.int p3), .val (.ref b1), .unset, .unset, .unset, .unset, .unset, .unset, .unset] [(.ref b46)])) st64 ?_
  replace Od := Od.wr W64 g_b46
  replace V_b1 := V_b1.other W64 ne_b1_b46
  replace Zs := Nat.le_trans Zs (Keep.of_wr W64).1
  replace Nf := Fr.snoc X64 Nf g_b46
  have V_b46 : Arv Z h64 b46 k46 .int (22 : Int32) [(.int (0 : Int32)), (.int (4 : Int32)), (.int (1 : Int32)), (.int (0 : Int32)), (.int (0 : Int32)), (.int (0 : Int32)), (.int (0 : Int32)), (.int (0 : Int32)), (.int (0 : Int32)), (.int (0 : Int32)), (.int (0 : Int32)), (.int (0 : Int32)), (.int (0 : Int32)), (.int (0 : Int32)), (.int (0 : Int32)), (.int (0 : Int32)), (.int (0 : Int32)), (.int (0 : Int32)), (.int (0 : Int32)), (.int (0 : Int32)), (.int (0 : Int32)), (.int (0 : Int32))] (.int (0 : Int32)) := Arv.set Ar64 q64 Sz64 Nn64 Hh64 Gg64 rfl W64 17 rfl (Nat.le_of_ble_eq_true rfl)
  refine own_go (x' := T64.setTop (mkF m 247 #[.val (.int p0), .val (.int p1), .val (.int p2), .val (.int p3), .val (.ref b1), .unset, .unset, .unset, .unset, .unset, .unset, .unset] [(.int (0 : Int32)), (.int (18 : Int32)), (.ref b46), (.ref b46)])) (fun _ k => XS.dup X64.here hx rfl (hb hby at_243) rfl rfl (XS.bipush X64.here hx rfl (hb hby at_244) (XS.iconst X64.here hx rfl (hb hby at_246) k))) ?_
  obtain ⟨cl65, Ar65, q65, Sz65, Nn65, Hh65, Gg65⟩ := V_b46
  have hin65 : ¬ ((18 : Int32) < 0 ∨ cl65.slots.size ≤ ((18 : Int32)).toNatClampNeg) := inb_of Sz65 ⟨by decide, by decide⟩
  obtain ⟨T65, h65, X65, e65, W65, st65⟩ := stI X64 hx hZ e64 Ar65 (j := (18 : Int32)) hin65 (g := (mkF m 247 #[.val (.int p0), .val (.int p1), .val (.int p2), .val (.int p3), .val (.ref b1), .unset, .unset, .unset, .unset, .unset, .unset, .unset] [(.int (0 : Int32)), (.int (18 : Int32)), (.ref b46), (.ref b46)])) rfl rfl (hb hby at_247)
  refine own_go (x' := T65.setTop (mkF m 248 #[.val (.int p0), .val (.int p1), .val (.int p2), .val (.int p3), .val (.ref b1), .unset, .unset, .unset, .unset, .unset, .unset, .unset] [(.ref b46)])) st65 ?_
  replace Od := Od.wr W65 g_b46
  replace V_b1 := V_b1.other W65 ne_b1_b46
  replace Zs := Nat.le_trans Zs (Keep.of_wr W65).1
  replace Nf := Fr.snoc X65 Nf g_b46
  have V_b46 : Arv Z h65 b46 k46 .int (22 : Int32) [(.int (0 : Int32)), (.int (4 : Int32)), (.int (1 : Int32)), (.int (0 : Int32)), (.int (0 : Int32)), (.int (0 : Int32)), (.int (0 : Int32)), (.int (0 : Int32)), (.int (0 : Int32)), (.int (0 : Int32)), (.int (0 : Int32)), (.int (0 : Int32)), (.int (0 : Int32)), (.int (0 : Int32)), (.int (0 : Int32)), (.int (0 : Int32)), (.int (0 : Int32)), (.int (0 : Int32)), (.int (0 : Int32)), (.int (0 : Int32)), (.int (0 : Int32)), (.int (0 : Int32))] (.int (0 : Int32)) := Arv.set Ar65 q65 Sz65 Nn65 Hh65 Gg65 rfl W65 18 rfl (Nat.le_of_ble_eq_true rfl)
  refine own_go (x' := T65.setTop (mkF m 252 #[.val (.int p0), .val (.int p1), .val (.int p2), .val (.int p3), .val (.ref b1), .unset, .unset, .unset, .unset, .unset, .unset, .unset] [(.int (0 : Int32)), (.int (19 : Int32)), (.ref b46), (.ref b46)])) (fun _ k => XS.dup X65.here hx rfl (hb hby at_248) rfl rfl (XS.bipush X65.here hx rfl (hb hby at_249) (XS.iconst X65.here hx rfl (hb hby at_251) k))) ?_
  obtain ⟨cl66, Ar66, q66, Sz66, Nn66, Hh66, Gg66⟩ := V_b46
  have hin66 : ¬ ((19 : Int32) < 0 ∨ cl66.slots.size ≤ ((19 : Int32)).toNatClampNeg) := inb_of Sz66 ⟨by decide, by decide⟩
  obtain ⟨T66, h66, X66, e66, W66, st66⟩ := stI X65 hx hZ e65 Ar66 (j := (19 : Int32)) hin66 (g := (mkF m 252 #[.val (.int p0), .val (.int p1), .val (.int p2), .val (.int p3), .val (.ref b1), .unset, .unset, .unset, .unset, .unset, .unset, .unset] [(.int (0 : Int32)), (.int (19 : Int32)), (.ref b46), (.ref b46)])) rfl rfl (hb hby at_252)
  refine own_go (x' := T66.setTop (mkF m 253 #[.val (.int p0), .val (.int p1), .val (.int p2), .val (.int p3), .val (.ref b1), .unset, .unset, .unset, .unset, .unset, .unset, .unset] [(.ref b46)])) st66 ?_
  replace Od := Od.wr W66 g_b46
  replace V_b1 := V_b1.other W66 ne_b1_b46
  replace Zs := Nat.le_trans Zs (Keep.of_wr W66).1
  replace Nf := Fr.snoc X66 Nf g_b46
  have V_b46 : Arv Z h66 b46 k46 .int (22 : Int32) [(.int (0 : Int32)), (.int (4 : Int32)), (.int (1 : Int32)), (.int (0 : Int32)), (.int (0 : Int32)), (.int (0 : Int32)), (.int (0 : Int32)), (.int (0 : Int32)), (.int (0 : Int32)), (.int (0 : Int32)), (.int (0 : Int32)), (.int (0 : Int32)), (.int (0 : Int32)), (.int (0 : Int32)), (.int (0 : Int32)), (.int (0 : Int32)), (.int (0 : Int32)), (.int (0 : Int32)), (.int (0 : Int32)), (.int (0 : Int32)), (.int (0 : Int32)), (.int (0 : Int32))] (.int (0 : Int32)) := Arv.set Ar66 q66 Sz66 Nn66 Hh66 Gg66 rfl W66 19 rfl (Nat.le_of_ble_eq_true rfl)
  refine own_go (x' := T66.setTop (mkF m 257 #[.val (.int p0), .val (.int p1), .val (.int p2), .val (.int p3), .val (.ref b1), .unset, .unset, .unset, .unset, .unset, .unset, .unset] [(.int (0 : Int32)), (.int (20 : Int32)), (.ref b46), (.ref b46)])) (fun _ k => XS.dup X66.here hx rfl (hb hby at_253) rfl rfl (XS.bipush X66.here hx rfl (hb hby at_254) (XS.iconst X66.here hx rfl (hb hby at_256) k))) ?_
  obtain ⟨cl67, Ar67, q67, Sz67, Nn67, Hh67, Gg67⟩ := V_b46
  have hin67 : ¬ ((20 : Int32) < 0 ∨ cl67.slots.size ≤ ((20 : Int32)).toNatClampNeg) := inb_of Sz67 ⟨by decide, by decide⟩
  obtain ⟨T67, h67, X67, e67, W67, st67⟩ := stI X66 hx hZ e66 Ar67 (j := (20 : Int32)) hin67 (g := (mkF m 257 #[.val (.int p0), .val (.int p1), .val (.int p2), .val (.int p3), .val (.ref b1), .unset, .unset, .unset, .unset, .unset, .unset, .unset] [(.int (0 : Int32)), (.int (20 : Int32)), (.ref b46), (.ref b46)])) rfl rfl (hb hby at_257)
  refine own_go (x' := T67.setTop (mkF m 258 #[.val (.int p0), .val (.int p1), .val (.int p2), .val (.int p3), .val (.ref b1), .unset, .unset, .unset, .unset, .unset, .unset, .unset] [(.ref b46)])) st67 ?_
  replace Od := Od.wr W67 g_b46
  replace V_b1 := V_b1.other W67 ne_b1_b46
  replace Zs := Nat.le_trans Zs (Keep.of_wr W67).1
  replace Nf := Fr.snoc X67 Nf g_b46
  have V_b46 : Arv Z h67 b46 k46 .int (22 : Int32) [(.int (0 : Int32)), (.int (4 : Int32)), (.int (1 : Int32)), (.int (0 : Int32)), (.int (0 : Int32)), (.int (0 : Int32)), (.int (0 : Int32)), (.int (0 : Int32)), (.int (0 : Int32)), (.int (0 : Int32)), (.int (0 : Int32)), (.int (0 : Int32)), (.int (0 : Int32)), (.int (0 : Int32)), (.int (0 : Int32)), (.int (0 : Int32)), (.int (0 : Int32)), (.int (0 : Int32)), (.int (0 : Int32)), (.int (0 : Int32)), (.int (0 : Int32)), (.int (0 : Int32))] (.int (0 : Int32)) := Arv.set Ar67 q67 Sz67 Nn67 Hh67 Gg67 rfl W67 20 rfl (Nat.le_of_ble_eq_true rfl)
  refine own_go (x' := T67.setTop (mkF m 262 #[.val (.int p0), .val (.int p1), .val (.int p2), .val (.int p3), .val (.ref b1), .unset, .unset, .unset, .unset, .unset, .unset, .unset] [(.int (0 : Int32)), (.int (21 : Int32)), (.ref b46), (.ref b46)])) (fun _ k => XS.dup X67.here hx rfl (hb hby at_258) rfl rfl (XS.bipush X67.here hx rfl (hb hby at_259) (XS.iconst X67.here hx rfl (hb hby at_261) k))) ?_
  obtain ⟨cl68, Ar68, q68, Sz68, Nn68, Hh68, Gg68⟩ := V_b46
  have hin68 : ¬ ((21 : Int32) < 0 ∨ cl68.slots.size ≤ ((21 : Int32)).toNatClampNeg) := inb_of Sz68 ⟨by decide, by decide⟩
  obtain ⟨T68, h68, X68, e68, W68, st68⟩ := stI X67 hx hZ e67 Ar68 (j := (21 : Int32)) hin68 (g := (mkF m 262 #[.val (.int p0), .val (.int p1), .val (.int p2), .val (.int p3), .val (.ref b1), .unset, .unset, .unset, .unset, .unset, .unset, .unset] [(.int (0 : Int32)), (.int (21 : Int32)), (.ref b46), (.ref b46)])) rfl rfl (hb hby at_262)
  refine own_go (x' := T68.setTop (mkF m 263 #[.val (.int p0), .val (.int p1), .val (.int p2), .val (.int p3), .val (.ref b1), .unset, .unset, .unset, .unset, .unset, .unset, .unset] [(.ref b46)])) st68 ?_
  replace Od := Od.wr W68 g_b46
  replace V_b1 := V_b1.other W68 ne_b1_b46
  replace Zs := Nat.le_trans Zs (Keep.of_wr W68).1
  replace Nf := Fr.snoc X68 Nf g_b46
  have V_b46 : Arv Z h68 b46 k46 .int (22 : Int32) [(.int (0 : Int32)), (.int (4 : Int32)), (.int (1 : Int32)), (.int (0 : Int32)), (.int (0 : Int32)), (.int (0 : Int32)), (.int (0 : Int32)), (.int (0 : Int32)), (.int (0 : Int32)), (.int (0 : Int32)), (.int (0 : Int32)), (.int (0 : Int32)), (.int (0 : Int32)), (.int (0 : Int32)), (.int (0 : Int32)), (.int (0 : Int32)), (.int (0 : Int32)), (.int (0 : Int32)), (.int (0 : Int32)), (.int (0 : Int32)), (.int (0 : Int32)), (.int (0 : Int32))] (.int (0 : Int32)) := Arv.set Ar68 q68 Sz68 Nn68 Hh68 Gg68 rfl W68 21 rfl (Nat.le_of_ble_eq_true rfl)
  refine own_go (x' := T68.setTop (mkF m 267 #[.val (.int p0), .val (.int p1), .val (.int p2), .val (.int p3), .val (.ref b1), .val (.ref b46), .unset, .unset, .unset, .unset, .unset, .unset] [(.int (22 : Int32))])) (fun _ k => XS.astore X68.here hx rfl (hb hby at_263) rfl rfl (l' := #[.val (.int p0), .val (.int p1), .val (.int p2), .val (.int p3), .val (.ref b1), .val (.ref b46), .unset, .unset, .unset, .unset, .unset, .unset]) rfl (XS.bipush X68.here hx rfl (hb hby at_265) k)) ?_
  obtain ⟨T69, h69, k69, X69, e69, E69, A69, st69⟩ := newP X68 hx hZ (own_w hw 48 rfl) e68 (g := (mkF m 267 #[.val (.int p0), .val (.int p1), .val (.int p2), .val (.int p3), .val (.ref b1), .val (.ref b46), .unset, .unset, .unset, .unset, .unset, .unset] [(.int (22 : Int32))])) rfl (hb hby at_267) rfl (by decide) (cap := 22) (by decide) (by decide) (by decide) (by decide)
  obtain ⟨b69, g69⟩ : ∃ z, z = h68.size := ⟨_, rfl⟩
  rw [← g69] at A69 st69
  have ne_b1_b69 : b1 ≠ b69 := Nat.ne_of_lt (Nat.lt_of_lt_of_le V_b1.lt (Nat.le_of_eq g69.symm))
  have ne_b46_b69 : b46 ≠ b69 := Nat.ne_of_lt (Nat.lt_of_lt_of_le V_b46.lt (Nat.le_of_eq g69.symm))
  have g_b69 : n0 ≤ b69 := Nat.le_trans Zs (Nat.le_of_eq g69.symm)
  replace Od := Od.ext E69
  replace V_b1 := V_b1.ext E69
  replace V_b46 := V_b46.ext E69
  replace Zs := Nat.le_trans Zs E69.1
  have V_b69 : Arv Z h69 b69 k69 .int (22 : Int32) [(.int (0 : Int32)), (.int (0 : Int32)), (.int (0 : Int32)), (.int (0 : Int32)), (.int (0 : Int32)), (.int (0 : Int32)), (.int (0 : Int32)), (.int (0 : Int32)), (.int (0 : Int32)), (.int (0 : Int32)), (.int (0 : Int32)), (.int (0 : Int32)), (.int (0 : Int32)), (.int (0 : Int32)), (.int (0 : Int32)), (.int (0 : Int32)), (.int (0 : Int32)), (.int (0 : Int32)), (.int (0 : Int32)), (.int (0 : Int32)), (.int (0 : Int32)), (.int (0 : Int32))] (.int (0 : Int32)) := (Arv.new A69 (by decide)).pad (pad_rep [] (.int (0 : Int32)) 22)
  refine own_go (x' := T69.setTop (mkF m 269 #[.val (.int p0), .val (.int p1), .val (.int p2), .val (.int p3), .val (.ref b1), .val (.ref b46), .unset, .unset, .unset, .unset, .unset, .unset] [(.ref b69)])) st69 ?_
  refine own_go (x' := T69.setTop (mkF m 273 #[.val (.int p0), .val (.int p1), .val (.int p2), .val (.int p3), .val (.ref b1), .val (.ref b46), .unset, .unset, .unset, .unset, .unset, .unset] [(.int (7 : Int32)), (.int (0 : Int32)), (.ref b69), (.ref b69)])) (fun _ k => XS.dup X69.here hx rfl (hb hby at_269) rfl rfl (XS.iconst X69.here hx rfl (hb hby at_270) (XS.bipush X69.here hx rfl (hb hby at_271) k))) ?_
  obtain ⟨cl70, Ar70, q70, Sz70, Nn70, Hh70, Gg70⟩ := V_b69
  have hin70 : ¬ ((0 : Int32) < 0 ∨ cl70.slots.size ≤ ((0 : Int32)).toNatClampNeg) := inb_of Sz70 ⟨by decide, by decide⟩
  obtain ⟨T70, h70, X70, e70, W70, st70⟩ := stI X69 hx hZ e69 Ar70 (j := (0 : Int32)) hin70 (g := (mkF m 273 #[.val (.int p0), .val (.int p1), .val (.int p2), .val (.int p3), .val (.ref b1), .val (.ref b46), .unset, .unset, .unset, .unset, .unset, .unset] [(.int (7 : Int32)), (.int (0 : Int32)), (.ref b69), (.ref b69)])) rfl rfl (hb hby at_273)
  refine own_go (x' := T70.setTop (mkF m 274 #[.val (.int p0), .val (.int p1), .val (.int p2), .val (.int p3), .val (.ref b1), .val (.ref b46), .unset, .unset, .unset, .unset, .unset, .unset] [(.ref b69)])) st70 ?_
  replace Od := Od.wr W70 g_b69
  replace V_b1 := V_b1.other W70 ne_b1_b69
  replace V_b46 := V_b46.other W70 ne_b46_b69
  replace Zs := Nat.le_trans Zs (Keep.of_wr W70).1
  replace Nf := Fr.snoc X70 Nf g_b69
  have V_b69 : Arv Z h70 b69 k69 .int (22 : Int32) [(.int (7 : Int32)), (.int (0 : Int32)), (.int (0 : Int32)), (.int (0 : Int32)), (.int (0 : Int32)), (.int (0 : Int32)), (.int (0 : Int32)), (.int (0 : Int32)), (.int (0 : Int32)), (.int (0 : Int32)), (.int (0 : Int32)), (.int (0 : Int32)), (.int (0 : Int32)), (.int (0 : Int32)), (.int (0 : Int32)), (.int (0 : Int32)), (.int (0 : Int32)), (.int (0 : Int32)), (.int (0 : Int32)), (.int (0 : Int32)), (.int (0 : Int32)), (.int (0 : Int32))] (.int (0 : Int32)) := Arv.set Ar70 q70 Sz70 Nn70 Hh70 Gg70 rfl W70 0 rfl (Nat.le_of_ble_eq_true rfl)
  refine own_go (x' := T70.setTop (mkF m 278 #[.val (.int p0), .val (.int p1), .val (.int p2), .val (.int p3), .val (.ref b1), .val (.ref b46), .unset, .unset, .unset, .unset, .unset, .unset] [(.int (11 : Int32)), (.int (1 : Int32)), (.ref b69), (.ref b69)])) (fun _ k => XS.dup X70.here hx rfl (hb hby at_274) rfl rfl (XS.iconst X70.here hx rfl (hb hby at_275) (XS.bipush X70.here hx rfl (hb hby at_276) k))) ?_
  obtain ⟨cl71, Ar71, q71, Sz71, Nn71, Hh71, Gg71⟩ := V_b69
  have hin71 : ¬ ((1 : Int32) < 0 ∨ cl71.slots.size ≤ ((1 : Int32)).toNatClampNeg) := inb_of Sz71 ⟨by decide, by decide⟩
  obtain ⟨T71, h71, X71, e71, W71, st71⟩ := stI X70 hx hZ e70 Ar71 (j := (1 : Int32)) hin71 (g := (mkF m 278 #[.val (.int p0), .val (.int p1), .val (.int p2), .val (.int p3), .val (.ref b1), .val (.ref b46), .unset, .unset, .unset, .unset, .unset, .unset] [(.int (11 : Int32)), (.int (1 : Int32)), (.ref b69), (.ref b69)])) rfl rfl (hb hby at_278)
  refine own_go (x' := T71.setTop (mkF m 279 #[.val (.int p0), .val (.int p1), .val (.int p2), .val (.int p3), .val (.ref b1), .val (.ref b46), .unset, .unset, .unset, .unset, .unset, .unset] [(.ref b69)])) st71 ?_
  replace Od := Od.wr W71 g_b69
  replace V_b1 := V_b1.other W71 ne_b1_b69
  replace V_b46 := V_b46.other W71 ne_b46_b69
  replace Zs := Nat.le_trans Zs (Keep.of_wr W71).1
  replace Nf := Fr.snoc X71 Nf g_b69
  have V_b69 : Arv Z h71 b69 k69 .int (22 : Int32) [(.int (7 : Int32)), (.int (11 : Int32)), (.int (0 : Int32)), (.int (0 : Int32)), (.int (0 : Int32)), (.int (0 : Int32)), (.int (0 : Int32)), (.int (0 : Int32)), (.int (0 : Int32)), (.int (0 : Int32)), (.int (0 : Int32)), (.int (0 : Int32)), (.int (0 : Int32)), (.int (0 : Int32)), (.int (0 : Int32)), (.int (0 : Int32)), (.int (0 : Int32)), (.int (0 : Int32)), (.int (0 : Int32)), (.int (0 : Int32)), (.int (0 : Int32)), (.int (0 : Int32))] (.int (0 : Int32)) := Arv.set Ar71 q71 Sz71 Nn71 Hh71 Gg71 rfl W71 1 rfl (Nat.le_of_ble_eq_true rfl)
  refine own_go (x' := T71.setTop (mkF m 282 #[.val (.int p0), .val (.int p1), .val (.int p2), .val (.int p3), .val (.ref b1), .val (.ref b46), .unset, .unset, .unset, .unset, .unset, .unset] [(.int (2 : Int32)), (.int (2 : Int32)), (.ref b69), (.ref b69)])) (fun _ k => XS.dup X71.here hx rfl (hb hby at_279) rfl rfl (XS.iconst X71.here hx rfl (hb hby at_280) (XS.iconst X71.here hx rfl (hb hby at_281) k))) ?_
  obtain ⟨cl72, Ar72, q72, Sz72, Nn72, Hh72, Gg72⟩ := V_b69
  have hin72 : ¬ ((2 : Int32) < 0 ∨ cl72.slots.size ≤ ((2 : Int32)).toNatClampNeg) := inb_of Sz72 ⟨by decide, by decide⟩
  obtain ⟨T72, h72, X72, e72, W72, st72⟩ := stI X71 hx hZ e71 Ar72 (j := (2 : Int32)) hin72 (g := (mkF m 282 #[.val (.int p0), .val (.int p1), .val (.int p2), .val (.int p3), .val (.ref b1), .val (.ref b46), .unset, .unset, .unset, .unset, .unset, .unset] [(.int (2 : Int32)), (.int (2 : Int32)), (.ref b69), (.ref b69)])) rfl rfl (hb hby at_282)
  refine own_go (x' := T72.setTop (mkF m 283 #[.val (.int p0), .val (.int p1), .val (.int p2), .val (.int p3), .val (.ref b1), .val (.ref b46), .unset, .unset, .unset, .unset, .unset, .unset] [(.ref b69)])) st72 ?_
  replace Od := Od.wr W72 g_b69
  replace V_b1 := V_b1.other W72 ne_b1_b69
  replace V_b46 := V_b46.other W72 ne_b46_b69
  replace Zs := Nat.le_trans Zs (Keep.of_wr W72).1
  replace Nf := Fr.snoc X72 Nf g_b69
  have V_b69 : Arv Z h72 b69 k69 .int (22 : Int32) [(.int (7 : Int32)), (.int (11 : Int32)), (.int (2 : Int32)), (.int (0 : Int32)), (.int (0 : Int32)), (.int (0 : Int32)), (.int (0 : Int32)), (.int (0 : Int32)), (.int (0 : Int32)), (.int (0 : Int32)), (.int (0 : Int32)), (.int (0 : Int32)), (.int (0 : Int32)), (.int (0 : Int32)), (.int (0 : Int32)), (.int (0 : Int32)), (.int (0 : Int32)), (.int (0 : Int32)), (.int (0 : Int32)), (.int (0 : Int32)), (.int (0 : Int32)), (.int (0 : Int32))] (.int (0 : Int32)) := Arv.set Ar72 q72 Sz72 Nn72 Hh72 Gg72 rfl W72 2 rfl (Nat.le_of_ble_eq_true rfl)
  refine own_go (x' := T72.setTop (mkF m 286 #[.val (.int p0), .val (.int p1), .val (.int p2), .val (.int p3), .val (.ref b1), .val (.ref b46), .unset, .unset, .unset, .unset, .unset, .unset] [(.int (4 : Int32)), (.int (3 : Int32)), (.ref b69), (.ref b69)])) (fun _ k => XS.dup X72.here hx rfl (hb hby at_283) rfl rfl (XS.iconst X72.here hx rfl (hb hby at_284) (XS.iconst X72.here hx rfl (hb hby at_285) k))) ?_
  obtain ⟨cl73, Ar73, q73, Sz73, Nn73, Hh73, Gg73⟩ := V_b69
  have hin73 : ¬ ((3 : Int32) < 0 ∨ cl73.slots.size ≤ ((3 : Int32)).toNatClampNeg) := inb_of Sz73 ⟨by decide, by decide⟩
  obtain ⟨T73, h73, X73, e73, W73, st73⟩ := stI X72 hx hZ e72 Ar73 (j := (3 : Int32)) hin73 (g := (mkF m 286 #[.val (.int p0), .val (.int p1), .val (.int p2), .val (.int p3), .val (.ref b1), .val (.ref b46), .unset, .unset, .unset, .unset, .unset, .unset] [(.int (4 : Int32)), (.int (3 : Int32)), (.ref b69), (.ref b69)])) rfl rfl (hb hby at_286)
  refine own_go (x' := T73.setTop (mkF m 287 #[.val (.int p0), .val (.int p1), .val (.int p2), .val (.int p3), .val (.ref b1), .val (.ref b46), .unset, .unset, .unset, .unset, .unset, .unset] [(.ref b69)])) st73 ?_
  replace Od := Od.wr W73 g_b69
  replace V_b1 := V_b1.other W73 ne_b1_b69
  replace V_b46 := V_b46.other W73 ne_b46_b69
  replace Zs := Nat.le_trans Zs (Keep.of_wr W73).1
  replace Nf := Fr.snoc X73 Nf g_b69
  have V_b69 : Arv Z h73 b69 k69 .int (22 : Int32) [(.int (7 : Int32)), (.int (11 : Int32)), (.int (2 : Int32)), (.int (4 : Int32)), (.int (0 : Int32)), (.int (0 : Int32)), (.int (0 : Int32)), (.int (0 : Int32)), (.int (0 : Int32)), (.int (0 : Int32)), (.int (0 : Int32)), (.int (0 : Int32)), (.int (0 : Int32)), (.int (0 : Int32)), (.int (0 : Int32)), (.int (0 : Int32)), (.int (0 : Int32)), (.int (0 : Int32)), (.int (0 : Int32)), (.int (0 : Int32)), (.int (0 : Int32)), (.int (0 : Int32))] (.int (0 : Int32)) := Arv.set Ar73 q73 Sz73 Nn73 Hh73 Gg73 rfl W73 3 rfl (Nat.le_of_ble_eq_true rfl)
  refine own_go (x' := T73.setTop (mkF m 291 #[.val (.int p0), .val (.int p1), .val (.int p2), .val (.int p3), .val (.ref b1), .val (.ref b46), .unset, .unset, .unset, .unset, .unset, .unset] [(.int (7 : Int32)), (.int (4 : Int32)), (.ref b69), (.ref b69)])) (fun _ k => XS.dup X73.here hx rfl (hb hby at_287) rfl rfl (XS.iconst X73.here hx rfl (hb hby at_288) (XS.bipush X73.here hx rfl (hb hby at_289) k))) ?_
  obtain ⟨cl74, Ar74, q74, Sz74, Nn74, Hh74, Gg74⟩ := V_b69
  have hin74 : ¬ ((4 : Int32) < 0 ∨ cl74.slots.size ≤ ((4 : Int32)).toNatClampNeg) := inb_of Sz74 ⟨by decide, by decide⟩
  obtain ⟨T74, h74, X74, e74, W74, st74⟩ := stI X73 hx hZ e73 Ar74 (j := (4 : Int32)) hin74 (g := (mkF m 291 #[.val (.int p0), .val (.int p1), .val (.int p2), .val (.int p3), .val (.ref b1), .val (.ref b46), .unset, .unset, .unset, .unset, .unset, .unset] [(.int (7 : Int32)), (.int (4 : Int32)), (.ref b69), (.ref b69)])) rfl rfl (hb hby at_291)
  refine own_go (x' := T74.setTop (mkF m 292 #[.val (.int p0), .val (.int p1), .val (.int p2), .val (.int p3), .val (.ref b1), .val (.ref b46), .unset, .unset, .unset, .unset, .unset, .unset] [(.ref b69)])) st74 ?_
  replace Od := Od.wr W74 g_b69
  replace V_b1 := V_b1.other W74 ne_b1_b69
  replace V_b46 := V_b46.other W74 ne_b46_b69
  replace Zs := Nat.le_trans Zs (Keep.of_wr W74).1
  replace Nf := Fr.snoc X74 Nf g_b69
  have V_b69 : Arv Z h74 b69 k69 .int (22 : Int32) [(.int (7 : Int32)), (.int (11 : Int32)), (.int (2 : Int32)), (.int (4 : Int32)), (.int (7 : Int32)), (.int (0 : Int32)), (.int (0 : Int32)), (.int (0 : Int32)), (.int (0 : Int32)), (.int (0 : Int32)), (.int (0 : Int32)), (.int (0 : Int32)), (.int (0 : Int32)), (.int (0 : Int32)), (.int (0 : Int32)), (.int (0 : Int32)), (.int (0 : Int32)), (.int (0 : Int32)), (.int (0 : Int32)), (.int (0 : Int32)), (.int (0 : Int32)), (.int (0 : Int32))] (.int (0 : Int32)) := Arv.set Ar74 q74 Sz74 Nn74 Hh74 Gg74 rfl W74 4 rfl (Nat.le_of_ble_eq_true rfl)
  refine own_go (x' := T74.setTop (mkF m 296 #[.val (.int p0), .val (.int p1), .val (.int p2), .val (.int p3), .val (.ref b1), .val (.ref b46), .unset, .unset, .unset, .unset, .unset, .unset] [(.int (7 : Int32)), (.int (5 : Int32)), (.ref b69), (.ref b69)])) (fun _ k => XS.dup X74.here hx rfl (hb hby at_292) rfl rfl (XS.iconst X74.here hx rfl (hb hby at_293) (XS.bipush X74.here hx rfl (hb hby at_294) k))) ?_
  obtain ⟨cl75, Ar75, q75, Sz75, Nn75, Hh75, Gg75⟩ := V_b69
  have hin75 : ¬ ((5 : Int32) < 0 ∨ cl75.slots.size ≤ ((5 : Int32)).toNatClampNeg) := inb_of Sz75 ⟨by decide, by decide⟩
  obtain ⟨T75, h75, X75, e75, W75, st75⟩ := stI X74 hx hZ e74 Ar75 (j := (5 : Int32)) hin75 (g := (mkF m 296 #[.val (.int p0), .val (.int p1), .val (.int p2), .val (.int p3), .val (.ref b1), .val (.ref b46), .unset, .unset, .unset, .unset, .unset, .unset] [(.int (7 : Int32)), (.int (5 : Int32)), (.ref b69), (.ref b69)])) rfl rfl (hb hby at_296)
  refine own_go (x' := T75.setTop (mkF m 297 #[.val (.int p0), .val (.int p1), .val (.int p2), .val (.int p3), .val (.ref b1), .val (.ref b46), .unset, .unset, .unset, .unset, .unset, .unset] [(.ref b69)])) st75 ?_
  replace Od := Od.wr W75 g_b69
  replace V_b1 := V_b1.other W75 ne_b1_b69
  replace V_b46 := V_b46.other W75 ne_b46_b69
  replace Zs := Nat.le_trans Zs (Keep.of_wr W75).1
  replace Nf := Fr.snoc X75 Nf g_b69
  have V_b69 : Arv Z h75 b69 k69 .int (22 : Int32) [(.int (7 : Int32)), (.int (11 : Int32)), (.int (2 : Int32)), (.int (4 : Int32)), (.int (7 : Int32)), (.int (7 : Int32)), (.int (0 : Int32)), (.int (0 : Int32)), (.int (0 : Int32)), (.int (0 : Int32)), (.int (0 : Int32)), (.int (0 : Int32)), (.int (0 : Int32)), (.int (0 : Int32)), (.int (0 : Int32)), (.int (0 : Int32)), (.int (0 : Int32)), (.int (0 : Int32)), (.int (0 : Int32)), (.int (0 : Int32)), (.int (0 : Int32)), (.int (0 : Int32))] (.int (0 : Int32)) := Arv.set Ar75 q75 Sz75 Nn75 Hh75 Gg75 rfl W75 5 rfl (Nat.le_of_ble_eq_true rfl)
  refine own_go (x' := T75.setTop (mkF m 301 #[.val (.int p0), .val (.int p1), .val (.int p2), .val (.int p3), .val (.ref b1), .val (.ref b46), .unset, .unset, .unset, .unset, .unset, .unset] [(.int (2 : Int32)), (.int (6 : Int32)), (.ref b69), (.ref b69)])) (fun _ k => XS.dup X75.here hx rfl (hb hby at_297) rfl rfl (XS.bipush X75.here hx rfl (hb hby at_298) (XS.iconst X75.here hx rfl (hb hby at_300) k))) ?_
  obtain ⟨cl76, Ar76, q76, Sz76, Nn76, Hh76, Gg76⟩ := V_b69
  have hin76 : ¬ ((6 : Int32) < 0 ∨ cl76.slots.size ≤ ((6 : Int32)).toNatClampNeg) := inb_of Sz76 ⟨by decide, by decide⟩
  obtain ⟨T76, h76, X76, e76, W76, st76⟩ := stI X75 hx hZ e75 Ar76 (j := (6 : Int32)) hin76 (g := (mkF m 301 #[.val (.int p0), .val (.int p1), .val (.int p2), .val (.int p3), .val (.ref b1), .val (.ref b46), .unset, .unset, .unset, .unset, .unset, .unset] [(.int (2 : Int32)), (.int (6 : Int32)), (.ref b69), (.ref b69)])) rfl rfl (hb hby at_301)
  refine own_go (x' := T76.setTop (mkF m 302 #[.val (.int p0), .val (.int p1), .val (.int p2), .val (.int p3), .val (.ref b1), .val (.ref b46), .unset, .unset, .unset, .unset, .unset, .unset] [(.ref b69)])) st76 ?_
  replace Od := Od.wr W76 g_b69
  replace V_b1 := V_b1.other W76 ne_b1_b69
  replace V_b46 := V_b46.other W76 ne_b46_b69
  replace Zs := Nat.le_trans Zs (Keep.of_wr W76).1
  replace Nf := Fr.snoc X76 Nf g_b69
  have V_b69 : Arv Z h76 b69 k69 .int (22 : Int32) [(.int (7 : Int32)), (.int (11 : Int32)), (.int (2 : Int32)), (.int (4 : Int32)), (.int (7 : Int32)), (.int (7 : Int32)), (.int (2 : Int32)), (.int (0 : Int32)), (.int (0 : Int32)), (.int (0 : Int32)), (.int (0 : Int32)), (.int (0 : Int32)), (.int (0 : Int32)), (.int (0 : Int32)), (.int (0 : Int32)), (.int (0 : Int32)), (.int (0 : Int32)), (.int (0 : Int32)), (.int (0 : Int32)), (.int (0 : Int32)), (.int (0 : Int32)), (.int (0 : Int32))] (.int (0 : Int32)) := Arv.set Ar76 q76 Sz76 Nn76 Hh76 Gg76 rfl W76 6 rfl (Nat.le_of_ble_eq_true rfl)
  refine own_go (x' := T76.setTop (mkF m 306 #[.val (.int p0), .val (.int p1), .val (.int p2), .val (.int p3), .val (.ref b1), .val (.ref b46), .unset, .unset, .unset, .unset, .unset, .unset] [(.int (5 : Int32)), (.int (7 : Int32)), (.ref b69), (.ref b69)])) (fun _ k => XS.dup X76.here hx rfl (hb hby at_302) rfl rfl (XS.bipush X76.here hx rfl (hb hby at_303) (XS.iconst X76.here hx rfl (hb hby at_305) k))) ?_
  obtain ⟨cl77, Ar77, q77, Sz77, Nn77, Hh77, Gg77⟩ := V_b69
  have hin77 : ¬ ((7 : Int32) < 0 ∨ cl77.slots.size ≤ ((7 : Int32)).toNatClampNeg) := inb_of Sz77 ⟨by decide, by decide⟩
  obtain ⟨T77, h77, X77, e77, W77, st77⟩ := stI X76 hx hZ e76 Ar77 (j := (7 : Int32)) hin77 (g := (mkF m 306 #[.val (.int p0), .val (.int p1), .val (.int p2), .val (.int p3), .val (.ref b1), .val (.ref b46), .unset, .unset, .unset, .unset, .unset, .unset] [(.int (5 : Int32)), (.int (7 : Int32)), (.ref b69), (.ref b69)])) rfl rfl (hb hby at_306)
  refine own_go (x' := T77.setTop (mkF m 307 #[.val (.int p0), .val (.int p1), .val (.int p2), .val (.int p3), .val (.ref b1), .val (.ref b46), .unset, .unset, .unset, .unset, .unset, .unset] [(.ref b69)])) st77 ?_
  replace Od := Od.wr W77 g_b69
  replace V_b1 := V_b1.other W77 ne_b1_b69
  replace V_b46 := V_b46.other W77 ne_b46_b69
  replace Zs := Nat.le_trans Zs (Keep.of_wr W77).1
  replace Nf := Fr.snoc X77 Nf g_b69
  have V_b69 : Arv Z h77 b69 k69 .int (22 : Int32) [(.int (7 : Int32)), (.int (11 : Int32)), (.int (2 : Int32)), (.int (4 : Int32)), (.int (7 : Int32)), (.int (7 : Int32)), (.int (2 : Int32)), (.int (5 : Int32)), (.int (0 : Int32)), (.int (0 : Int32)), (.int (0 : Int32)), (.int (0 : Int32)), (.int (0 : Int32)), (.int (0 : Int32)), (.int (0 : Int32)), (.int (0 : Int32)), (.int (0 : Int32)), (.int (0 : Int32)), (.int (0 : Int32)), (.int (0 : Int32)), (.int (0 : Int32)), (.int (0 : Int32))] (.int (0 : Int32)) := Arv.set Ar77 q77 Sz77 Nn77 Hh77 Gg77 rfl W77 7 rfl (Nat.le_of_ble_eq_true rfl)
  refine own_go (x' := T77.setTop (mkF m 311 #[.val (.int p0), .val (.int p1), .val (.int p2), .val (.int p3), .val (.ref b1), .val (.ref b46), .unset, .unset, .unset, .unset, .unset, .unset] [(.int (3 : Int32)), (.int (8 : Int32)), (.ref b69), (.ref b69)])) (fun _ k => XS.dup X77.here hx rfl (hb hby at_307) rfl rfl (XS.bipush X77.here hx rfl (hb hby at_308) (XS.iconst X77.here hx rfl (hb hby at_310) k))) ?_
  obtain ⟨cl78, Ar78, q78, Sz78, Nn78, Hh78, Gg78⟩ := V_b69
  have hin78 : ¬ ((8 : Int32) < 0 ∨ cl78.slots.size ≤ ((8 : Int32)).toNatClampNeg) := inb_of Sz78 ⟨by decide, by decide⟩
  obtain ⟨T78, h78, X78, e78, W78, st78⟩ := stI X77 hx hZ e77 Ar78 (j := (8 : Int32)) hin78 (g := (mkF m 311 #[.val (.int p0), .val (.int p1), .val (.int p2), .val (.int p3), .val (.ref b1), .val (.ref b46), .unset, .unset, .unset, .unset, .unset, .unset] [(.int (3 : Int32)), (.int (8 : Int32)), (.ref b69), (.ref b69)])) rfl rfl (hb hby at_311)
  refine own_go (x' := T78.setTop (mkF m 312 #[.val (.int p0), .val (.int p1), .val (.int p2), .val (.int p3), .val (.ref b1), .val (.ref b46), .unset, .unset, .unset, .unset, .unset, .unset] [(.ref b69)])) st78 ?_
  replace Od := Od.wr W78 g_b69
  replace V_b1 := V_b1.other W78 ne_b1_b69
  replace V_b46 := V_b46.other W78 ne_b46_b69
  replace Zs := Nat.le_trans Zs (Keep.of_wr W78).1
  replace Nf := Fr.snoc X78 Nf g_b69
  have V_b69 : Arv Z h78 b69 k69 .int (22 : Int32) [(.int (7 : Int32)), (.int (11 : Int32)), (.int (2 : Int32)), (.int (4 : Int32)), (.int (7 : Int32)), (.int (7 : Int32)), (.int (2 : Int32)), (.int (5 : Int32)), (.int (3 : Int32)), (.int (0 : Int32)), (.int (0 : Int32)), (.int (0 : Int32)), (.int (0 : Int32)), (.int (0 : Int32)), (.int (0 : Int32)), (.int (0 : Int32)), (.int (0 : Int32)), (.int (0 : Int32)), (.int (0 : Int32)), (.int (0 : Int32)), (.int (0 : Int32)), (.int (0 : Int32))] (.int (0 : Int32)) := Arv.set Ar78 q78 Sz78 Nn78 Hh78 Gg78 rfl W78 8 rfl (Nat.le_of_ble_eq_true rfl)
  refine own_go (x' := T78.setTop (mkF m 316 #[.val (.int p0), .val (.int p1), .val (.int p2), .val (.int p3), .val (.ref b1), .val (.ref b46), .unset, .unset, .unset, .unset, .unset, .unset] [(.int (1 : Int32)), (.int (9 : Int32)), (.ref b69), (.ref b69)])) (fun _ k => XS.dup X78.here hx rfl (hb hby at_312) rfl rfl (XS.bipush X78.here hx rfl (hb hby at_313) (XS.iconst X78.here hx rfl (hb hby at_315) k))) ?_
  obtain ⟨cl79, Ar79, q79, Sz79, Nn79, Hh79, Gg79⟩ := V_b69
  have hin79 : ¬ ((9 : Int32) < 0 ∨ cl79.slots.size ≤ ((9 : Int32)).toNatClampNeg) := inb_of Sz79 ⟨by decide, by decide⟩
  obtain ⟨T79, h79, X79, e79, W79, st79⟩ := stI X78 hx hZ e78 Ar79 (j := (9 : Int32)) hin79 (g := (mkF m 316 #[.val (.int p0), .val (.int p1), .val (.int p2), .val (.int p3), .val (.ref b1), .val (.ref b46), .unset, .unset, .unset, .unset, .unset, .unset] [(.int (1 : Int32)), (.int (9 : Int32)), (.ref b69), (.ref b69)])) rfl rfl (hb hby at_316)
  refine own_go (x' := T79.setTop (mkF m 317 #[.val (.int p0), .val (.int p1), .val (.int p2), .val (.int p3), .val (.ref b1), .val (.ref b46), .unset, .unset, .unset, .unset, .unset, .unset] [(.ref b69)])) st79 ?_
  replace Od := Od.wr W79 g_b69
  replace V_b1 := V_b1.other W79 ne_b1_b69
  replace V_b46 := V_b46.other W79 ne_b46_b69
  replace Zs := Nat.le_trans Zs (Keep.of_wr W79).1
  replace Nf := Fr.snoc X79 Nf g_b69
  have V_b69 : Arv Z h79 b69 k69 .int (22 : Int32) [(.int (7 : Int32)), (.int (11 : Int32)), (.int (2 : Int32)), (.int (4 : Int32)), (.int (7 : Int32)), (.int (7 : Int32)), (.int (2 : Int32)), (.int (5 : Int32)), (.int (3 : Int32)), (.int (1 : Int32)), (.int (0 : Int32)), (.int (0 : Int32)), (.int (0 : Int32)), (.int (0 : Int32)), (.int (0 : Int32)), (.int (0 : Int32)), (.int (0 : Int32)), (.int (0 : Int32)), (.int (0 : Int32)), (.int (0 : Int32)), (.int (0 : Int32)), (.int (0 : Int32))] (.int (0 : Int32)) := Arv.set Ar79 q79 Sz79 Nn79 Hh79 Gg79 rfl W79 9 rfl (Nat.le_of_ble_eq_true rfl)
  refine own_go (x' := T79.setTop (mkF m 321 #[.val (.int p0), .val (.int p1), .val (.int p2), .val (.int p3), .val (.ref b1), .val (.ref b46), .unset, .unset, .unset, .unset, .unset, .unset] [(.int (3 : Int32)), (.int (10 : Int32)), (.ref b69), (.ref b69)])) (fun _ k => XS.dup X79.here hx rfl (hb hby at_317) rfl rfl (XS.bipush X79.here hx rfl (hb hby at_318) (XS.iconst X79.here hx rfl (hb hby at_320) k))) ?_
  obtain ⟨cl80, Ar80, q80, Sz80, Nn80, Hh80, Gg80⟩ := V_b69
  have hin80 : ¬ ((10 : Int32) < 0 ∨ cl80.slots.size ≤ ((10 : Int32)).toNatClampNeg) := inb_of Sz80 ⟨by decide, by decide⟩
  obtain ⟨T80, h80, X80, e80, W80, st80⟩ := stI X79 hx hZ e79 Ar80 (j := (10 : Int32)) hin80 (g := (mkF m 321 #[.val (.int p0), .val (.int p1), .val (.int p2), .val (.int p3), .val (.ref b1), .val (.ref b46), .unset, .unset, .unset, .unset, .unset, .unset] [(.int (3 : Int32)), (.int (10 : Int32)), (.ref b69), (.ref b69)])) rfl rfl (hb hby at_321)
  refine own_go (x' := T80.setTop (mkF m 322 #[.val (.int p0), .val (.int p1), .val (.int p2), .val (.int p3), .val (.ref b1), .val (.ref b46), .unset, .unset, .unset, .unset, .unset, .unset] [(.ref b69)])) st80 ?_
  replace Od := Od.wr W80 g_b69
  replace V_b1 := V_b1.other W80 ne_b1_b69
  replace V_b46 := V_b46.other W80 ne_b46_b69
  replace Zs := Nat.le_trans Zs (Keep.of_wr W80).1
  replace Nf := Fr.snoc X80 Nf g_b69
  have V_b69 : Arv Z h80 b69 k69 .int (22 : Int32) [(.int (7 : Int32)), (.int (11 : Int32)), (.int (2 : Int32)), (.int (4 : Int32)), (.int (7 : Int32)), (.int (7 : Int32)), (.int (2 : Int32)), (.int (5 : Int32)), (.int (3 : Int32)), (.int (1 : Int32)), (.int (3 : Int32)), (.int (0 : Int32)), (.int (0 : Int32)), (.int (0 : Int32)), (.int (0 : Int32)), (.int (0 : Int32)), (.int (0 : Int32)), (.int (0 : Int32)), (.int (0 : Int32)), (.int (0 : Int32)), (.int (0 : Int32)), (.int (0 : Int32))] (.int (0 : Int32)) := Arv.set Ar80 q80 Sz80 Nn80 Hh80 Gg80 rfl W80 10 rfl (Nat.le_of_ble_eq_true rfl)
  refine own_go (x' := T80.setTop (mkF m 326 #[.val (.int p0), .val (.int p1), .val (.int p2), .val (.int p3), .val (.ref b1), .val (.ref b46), .unset, .unset, .unset, .unset, .unset, .unset] [(.int (2 : Int32)), (.int (11 : Int32)), (.ref b69), (.ref b69)])) (fun _ k => XS.dup X80.here hx rfl (hb hby at_322) rfl rfl (XS.bipush X80.here hx rfl (hb hby at_323) (XS.iconst X80.here hx rfl (hb hby at_325) k))) ?_
  obtain ⟨cl81, Ar81, q81, Sz81, Nn81, Hh81, Gg81⟩ := V_b69
  have hin81 : ¬ ((11 : Int32) < 0 ∨ cl81.slots.size ≤ ((11 : Int32)).toNatClampNeg) := inb_of Sz81 ⟨by decide, by decide⟩
  obtain ⟨T81, h81, X81, e81, W81, st81⟩ := stI X80 hx hZ e80 Ar81 (j := (11 : Int32)) hin81 (g := (mkF m 326 #[.val (.int p0), .val (.int p1), .val (.int p2), .val (.int p3), .val (.ref b1), .val (.ref b46), .unset, .unset, .unset, .unset, .unset, .unset] [(.int (2 : Int32)), (.int (11 : Int32)), (.ref b69), (.ref b69)])) rfl rfl (hb hby at_326)
  refine own_go (x' := T81.setTop (mkF m 327 #[.val (.int p0), .val (.int p1), .val (.int p2), .val (.int p3), .val (.ref b1), .val (.ref b46), .unset, .unset, .unset, .unset, .unset, .unset] [(.ref b69)])) st81 ?_
  replace Od := Od.wr W81 g_b69
  replace V_b1 := V_b1.other W81 ne_b1_b69
  replace V_b46 := V_b46.other W81 ne_b46_b69
  replace Zs := Nat.le_trans Zs (Keep.of_wr W81).1
  replace Nf := Fr.snoc X81 Nf g_b69
  have V_b69 : Arv Z h81 b69 k69 .int (22 : Int32) [(.int (7 : Int32)), (.int (11 : Int32)), (.int (2 : Int32)), (.int (4 : Int32)), (.int (7 : Int32)), (.int (7 : Int32)), (.int (2 : Int32)), (.int (5 : Int32)), (.int (3 : Int32)), (.int (1 : Int32)), (.int (3 : Int32)), (.int (2 : Int32)), (.int (0 : Int32)), (.int (0 : Int32)), (.int (0 : Int32)), (.int (0 : Int32)), (.int (0 : Int32)), (.int (0 : Int32)), (.int (0 : Int32)), (.int (0 : Int32)), (.int (0 : Int32)), (.int (0 : Int32))] (.int (0 : Int32)) := Arv.set Ar81 q81 Sz81 Nn81 Hh81 Gg81 rfl W81 11 rfl (Nat.le_of_ble_eq_true rfl)
  refine own_go (x' := T81.setTop (mkF m 331 #[.val (.int p0), .val (.int p1), .val (.int p2), .val (.int p3), .val (.ref b1), .val (.ref b46), .unset, .unset, .unset, .unset, .unset, .unset] [(.int (2 : Int32)), (.int (12 : Int32)), (.ref b69), (.ref b69)])) (fun _ k => XS.dup X81.here hx rfl (hb hby at_327) rfl rfl (XS.bipush X81.here hx rfl (hb hby at_328) (XS.iconst X81.here hx rfl (hb hby at_330) k))) ?_
  obtain ⟨cl82, Ar82, q82, Sz82, Nn82, Hh82, Gg82⟩ := V_b69
  have hin82 : ¬ ((12 : Int32) < 0 ∨ cl82.slots.size ≤ ((12 : Int32)).toNatClampNeg) := inb_of Sz82 ⟨by decide, by decide⟩
  obtain ⟨T82, h82, X82, e82, W82, st82⟩ := stI X81 hx hZ e81 Ar82 (j := (12 : Int32)) hin82 (g := (mkF m 331 #[.val (.int p0), .val (.int p1), .val (.int p2), .val (.int p3), .val (.ref b1), .val (.ref b46), .unset, .unset, .unset, .unset, .unset, .unset] [(.int (2 : Int32)), (.int (12 : Int32)), (.ref b69), (.ref b69)])) rfl rfl (hb hby at_331)
  refine own_go (x' := T82.setTop (mkF m 332 #[.val (.int p0), .val (.int p1), .val (.int p2), .val (.int p3), .val (.ref b1), .val (.ref b46), .unset, .unset, .unset, .unset, .unset, .unset] [(.ref b69)])) st82 ?_
  replace Od := Od.wr W82 g_b69
  replace V_b1 := V_b1.other W82 ne_b1_b69
  replace V_b46 := V_b46.other W82 ne_b46_b69
  replace Zs := Nat.le_trans Zs (Keep.of_wr W82).1
  replace Nf := Fr.snoc X82 Nf g_b69
  have V_b69 : Arv Z h82 b69 k69 .int (22 : Int32) [(.int (7 : Int32)), (.int (11 : Int32)), (.int (2 : Int32)), (.int (4 : Int32)), (.int (7 : Int32)), (.int (7 : Int32)), (.int (2 : Int32)), (.int (5 : Int32)), (.int (3 : Int32)), (.int (1 : Int32)), (.int (3 : Int32)), (.int (2 : Int32)), (.int (2 : Int32)), (.int (0 : Int32)), (.int (0 : Int32)), (.int (0 : Int32)), (.int (0 : Int32)), (.int (0 : Int32)), (.int (0 : Int32)), (.int (0 : Int32)), (.int (0 : Int32)), (.int (0 : Int32))] (.int (0 : Int32)) := Arv.set Ar82 q82 Sz82 Nn82 Hh82 Gg82 rfl W82 12 rfl (Nat.le_of_ble_eq_true rfl)
  refine own_go (x' := T82.setTop (mkF m 336 #[.val (.int p0), .val (.int p1), .val (.int p2), .val (.int p3), .val (.ref b1), .val (.ref b46), .unset, .unset, .unset, .unset, .unset, .unset] [(.int (3 : Int32)), (.int (13 : Int32)), (.ref b69), (.ref b69)])) (fun _ k => XS.dup X82.here hx rfl (hb hby at_332) rfl rfl (XS.bipush X82.here hx rfl (hb hby at_333) (XS.iconst X82.here hx rfl (hb hby at_335) k))) ?_
  obtain ⟨cl83, Ar83, q83, Sz83, Nn83, Hh83, Gg83⟩ := V_b69
  have hin83 : ¬ ((13 : Int32) < 0 ∨ cl83.slots.size ≤ ((13 : Int32)).toNatClampNeg) := inb_of Sz83 ⟨by decide, by decide⟩
  obtain ⟨T83, h83, X83, e83, W83, st83⟩ := stI X82 hx hZ e82 Ar83 (j := (13 : Int32)) hin83 (g := (mkF m 336 #[.val (.int p0), .val (.int p1), .val (.int p2), .val (.int p3), .val (.ref b1), .val (.ref b46), .unset, .unset, .unset, .unset, .unset, .unset] [(.int (3 : Int32)), (.int (13 : Int32)), (.ref b69), (.ref b69)])) rfl rfl (hb hby at_336)
  refine own_go (x' := T83.setTop (mkF m 337 #[.val (.int p0), .val (.int p1), .val (.int p2), .val (.int p3), .val (.ref b1), .val (.ref b46), .unset, .unset, .unset, .unset, .unset, .unset] [(.ref b69)])) st83 ?_
  replace Od := Od.wr W83 g_b69
  replace V_b1 := V_b1.other W83 ne_b1_b69
  replace V_b46 := V_b46.other W83 ne_b46_b69
  replace Zs := Nat.le_trans Zs (Keep.of_wr W83).1
  replace Nf := Fr.snoc X83 Nf g_b69
  have V_b69 : Arv Z h83 b69 k69 .int (22 : Int32) [(.int (7 : Int32)), (.int (11 : Int32)), (.int (2 : Int32)), (.int (4 : Int32)), (.int (7 : Int32)), (.int (7 : Int32)), (.int (2 : Int32)), (.int (5 : Int32)), (.int (3 : Int32)), (.int (1 : Int32)), (.int (3 : Int32)), (.int (2 : Int32)), (.int (2 : Int32)), (.int (3 : Int32)), (.int (0 : Int32)), (.int (0 : Int32)), (.int (0 : Int32)), (.int (0 : Int32)), (.int (0 : Int32)), (.int (0 : Int32)), (.int (0 : Int32)), (.int (0 : Int32))] (.int (0 : Int32)) := Arv.set Ar83 q83 Sz83 Nn83 Hh83 Gg83 rfl W83 13 rfl (Nat.le_of_ble_eq_true rfl)
  refine own_go (x' := T83.setTop (mkF m 341 #[.val (.int p0), .val (.int p1), .val (.int p2), .val (.int p3), .val (.ref b1), .val (.ref b46), .unset, .unset, .unset, .unset, .unset, .unset] [(.int (4 : Int32)), (.int (14 : Int32)), (.ref b69), (.ref b69)])) (fun _ k => XS.dup X83.here hx rfl (hb hby at_337) rfl rfl (XS.bipush X83.here hx rfl (hb hby at_338) (XS.iconst X83.here hx rfl (hb hby at_340) k))) ?_
  obtain ⟨cl84, Ar84, q84, Sz84, Nn84, Hh84, Gg84⟩ := V_b69
  have hin84 : ¬ ((14 : Int32) < 0 ∨ cl84.slots.size ≤ ((14 : Int32)).toNatClampNeg) := inb_of Sz84 ⟨by decide, by decide⟩
  obtain ⟨T84, h84, X84, e84, W84, st84⟩ := stI X83 hx hZ e83 Ar84 (j := (14 : Int32)) hin84 (g := (mkF m 341 #[.val (.int p0), .val (.int p1), .val (.int p2), .val (.int p3), .val (.ref b1), .val (.ref b46), .unset, .unset, .unset, .unset, .unset, .unset] [(.int (4 : Int32)), (.int (14 : Int32)), (.ref b69), (.ref b69)])) rfl rfl (hb hby at_341)
  refine own_go (x' := T84.setTop (mkF m 342 #[.val (.int p0), .val (.int p1), .val (.int p2), .val (.int p3), .val (.ref b1), .val (.ref b46), .unset, .unset, .unset, .unset, .unset, .unset] [(.ref b69)])) st84 ?_
  replace Od := Od.wr W84 g_b69
  replace V_b1 := V_b1.other W84 ne_b1_b69
  replace V_b46 := V_b46.other W84 ne_b46_b69
  replace Zs := Nat.le_trans Zs (Keep.of_wr W84).1
  replace Nf := Fr.snoc X84 Nf g_b69
  have V_b69 : Arv Z h84 b69 k69 .int (22 : Int32) [(.int (7 : Int32)), (.int (11 : Int32)), (.int (2 : Int32)), (.int (4 : Int32)), (.int (7 : Int32)), (.int (7 : Int32)), (.int (2 : Int32)), (.int (5 : Int32)), (.int (3 : Int32)), (.int (1 : Int32)), (.int (3 : Int32)), (.int (2 : Int32)), (.int (2 : Int32)), (.int (3 : Int32)), (.int (4 : Int32)), (.int (0 : Int32)), (.int (0 : Int32)), (.int (0 : Int32)), (.int (0 : Int32)), (.int (0 : Int32)), (.int (0 : Int32)), (.int (0 : Int32))] (.int (0 : Int32)) := Arv.set Ar84 q84 Sz84 Nn84 Hh84 Gg84 rfl W84 14 rfl (Nat.le_of_ble_eq_true rfl)
  refine own_go (x' := T84.setTop (mkF m 346 #[.val (.int p0), .val (.int p1), .val (.int p2), .val (.int p3), .val (.ref b1), .val (.ref b46), .unset, .unset, .unset, .unset, .unset, .unset] [(.int (1 : Int32)), (.int (15 : Int32)), (.ref b69), (.ref b69)])) (fun _ k => XS.dup X84.here hx rfl (hb hby at_342) rfl rfl (XS.bipush X84.here hx rfl (hb hby at_343) (XS.iconst X84.here hx rfl (hb hby at_345) k))) ?_
  obtain ⟨cl85, Ar85, q85, Sz85, Nn85, Hh85, Gg85⟩ := V_b69
  have hin85 : ¬ ((15 : Int32) < 0 ∨ cl85.slots.size ≤ ((15 : Int32)).toNatClampNeg) := inb_of Sz85 ⟨by decide, by decide⟩
  obtain ⟨T85, h85, X85, e85, W85, st85⟩ := stI X84 hx hZ e84 Ar85 (j := (15 : Int32)) hin85 (g := (mkF m 346 #[.val (.int p0), .val (.int p1), .val (.int p2), .val (.int p3), .val (.ref b1), .val (.ref b46), .unset, .unset, .unset, .unset, .unset, .unset] [(.int (1 : Int32)), (.int (15 : Int32)), (.ref b69), (.ref b69)])) rfl rfl (hb hby at_346)
  refine own_go (x' := T85.setTop (mkF m 347 #[.val (.int p0), .val (.int p1), .val (.int p2), .val (.int p3), .val (.ref b1), .val (.ref b46), .unset, .unset, .unset, .unset, .unset, .unset] [(.ref b69)])) st85 ?_
  replace Od := Od.wr W85 g_b69
  replace V_b1 := V_b1.other W85 ne_b1_b69
  replace V_b46 := V_b46.other W85 ne_b46_b69
  replace Zs := Nat.le_trans Zs (Keep.of_wr W85).1
  replace Nf := Fr.snoc X85 Nf g_b69
  have V_b69 : Arv Z h85 b69 k69 .int (22 : Int32) [(.int (7 : Int32)), (.int (11 : Int32)), (.int (2 : Int32)), (.int (4 : Int32)), (.int (7 : Int32)), (.int (7 : Int32)), (.int (2 : Int32)), (.int (5 : Int32)), (.int (3 : Int32)), (.int (1 : Int32)), (.int (3 : Int32)), (.int (2 : Int32)), (.int (2 : Int32)), (.int (3 : Int32)), (.int (4 : Int32)), (.int (1 : Int32)), (.int (0 : Int32)), (.int (0 : Int32)), (.int (0 : Int32)), (.int (0 : Int32)), (.int (0 : Int32)), (.int (0 : Int32))] (.int (0 : Int32)) := Arv.set Ar85 q85 Sz85 Nn85 Hh85 Gg85 rfl W85 15 rfl (Nat.le_of_ble_eq_true rfl)
  refine own_go (x' := T85.setTop (mkF m 351 #[.val (.int p0), .val (.int p1), .val (.int p2), .val (.int p3), .val (.ref b1), .val (.ref b46), .unset, .unset, .unset, .unset, .unset, .unset] [(.int (1 : Int32)), (.int (16 : Int32)), (.ref b69), (.ref b69)])) (fun _ k => XS.dup X85.here hx rfl (hb hby at_347) rfl rfl (XS.bipush X85.here hx rfl (hb hby at_348) (XS.iconst X85.here hx rfl (hb hby at_350) k))) ?_
  obtain ⟨cl86, Ar86, q86, Sz86, Nn86, Hh86, Gg86⟩ := V_b69
  have hin86 : ¬ ((16 : Int32) < 0 ∨ cl86.slots.size ≤ ((16 : Int32)).toNatClampNeg) := inb_of Sz86 ⟨by decide, by decide⟩
  obtain ⟨T86, h86, X86, e86, W86, st86⟩ := stI X85 hx hZ e85 Ar86 (j := (16 : Int32)) hin86 (g := (mkF m 351 #[.val (.int p0), .val (.int p1), .val (.int p2), .val (.int p3), .val (.ref b1), .val (.ref b46), .unset, .unset, .unset, .unset, .unset, .unset] [(.int (1 : Int32)), (.int (16 : Int32)), (.ref b69), (.ref b69)])) rfl rfl (hb hby at_351)
  refine own_go (x' := T86.setTop (mkF m 352 #[.val (.int p0), .val (.int p1), .val (.int p2), .val (.int p3), .val (.ref b1), .val (.ref b46), .unset, .unset, .unset, .unset, .unset, .unset] [(.ref b69)])) st86 ?_
  replace Od := Od.wr W86 g_b69
  replace V_b1 := V_b1.other W86 ne_b1_b69
  replace V_b46 := V_b46.other W86 ne_b46_b69
  replace Zs := Nat.le_trans Zs (Keep.of_wr W86).1
  replace Nf := Fr.snoc X86 Nf g_b69
  have V_b69 : Arv Z h86 b69 k69 .int (22 : Int32) [(.int (7 : Int32)), (.int (11 : Int32)), (.int (2 : Int32)), (.int (4 : Int32)), (.int (7 : Int32)), (.int (7 : Int32)), (.int (2 : Int32)), (.int (5 : Int32)), (.int (3 : Int32)), (.int (1 : Int32)), (.int (3 : Int32)), (.int (2 : Int32)), (.int (2 : Int32)), (.int (3 : Int32)), (.int (4 : Int32)), (.int (1 : Int32)), (.int (1 : Int32)), (.int (0 : Int32)), (.int (0 : Int32)), (.int (0 : Int32)), (.int (0 : Int32)), (.int (0 : Int32))] (.int (0 : Int32)) := Arv.set Ar86 q86 Sz86 Nn86 Hh86 Gg86 rfl W86 16 rfl (Nat.le_of_ble_eq_true rfl)
  refine own_go (x' := T86.setTop (mkF m 356 #[.val (.int p0), .val (.int p1), .val (.int p2), .val (.int p3), .val (.ref b1), .val (.ref b46), .unset, .unset, .unset, .unset, .unset, .unset] [(.int (1 : Int32)), (.int (17 : Int32)), (.ref b69), (.ref b69)])) (fun _ k => XS.dup X86.here hx rfl (hb hby at_352) rfl rfl (XS.bipush X86.here hx rfl (hb hby at_353) (XS.iconst X86.here hx rfl (hb hby at_355) k))) ?_
  obtain ⟨cl87, Ar87, q87, Sz87, Nn87, Hh87, Gg87⟩ := V_b69
  have hin87 : ¬ ((17 : Int32) < 0 ∨ cl87.slots.size ≤ ((17 : Int32)).toNatClampNeg) := inb_of Sz87 ⟨by decide, by decide⟩
  obtain ⟨T87, h87, X87, e87, W87, st87⟩ := stI X86 hx hZ e86 Ar87 (j := (17 : Int32)) hin87 (g := (mkF m 356 #[.val (.int p0), .val (.int p1), .val (.int p2), .val (.int p3), .val (.ref b1), .val (.ref b46), .unset, .unset, .unset, .unset, .unset, .unset] [(.int (1 : Int32)), (.int (17 : Int32)), (.ref b69), (.ref b69)])) rfl rfl (hb hby at_356)
  refine own_go (x' := T87.setTop (mkF m 357 #[.val (.int p0), .val (.int p1), .val (.int p2), .val (.int p3), .val (.ref b1), .val (.ref b46), .unset, .unset, .unset, .unset, .unset, .unset] [(.ref b69)])) st87 ?_
  replace Od := Od.wr W87 g_b69
  replace V_b1 := V_b1.other W87 ne_b1_b69
  replace V_b46 := V_b46.other W87 ne_b46_b69
  replace Zs := Nat.le_trans Zs (Keep.of_wr W87).1
  replace Nf := Fr.snoc X87 Nf g_b69
  have V_b69 : Arv Z h87 b69 k69 .int (22 : Int32) [(.int (7 : Int32)), (.int (11 : Int32)), (.int (2 : Int32)), (.int (4 : Int32)), (.int (7 : Int32)), (.int (7 : Int32)), (.int (2 : Int32)), (.int (5 : Int32)), (.int (3 : Int32)), (.int (1 : Int32)), (.int (3 : Int32)), (.int (2 : Int32)), (.int (2 : Int32)), (.int (3 : Int32)), (.int (4 : Int32)), (.int (1 : Int32)), (.int (1 : Int32)), (.int (1 : Int32)), (.int (0 : Int32)), (.int (0 : Int32)), (.int (0 : Int32)), (.int (0 : Int32))] (.int (0 : Int32)) := Arv.set Ar87 q87 Sz87 Nn87 Hh87 Gg87 rfl W87 17 rfl (Nat.le_of_ble_eq_true rfl)
  refine own_go (x' := T87.setTop (mkF m 361 #[.val (.int p0), .val (.int p1), .val (.int p2), .val (.int p3), .val (.ref b1), .val (.ref b46), .unset, .unset, .unset, .unset, .unset, .unset] [(.int (2 : Int32)), (.int (18 : Int32)), (.ref b69), (.ref b69)])) (fun _ k => XS.dup X87.here hx rfl (hb hby at_357) rfl rfl (XS.bipush X87.here hx rfl (hb hby at_358) (XS.iconst X87.here hx rfl (hb hby at_360) k))) ?_
  obtain ⟨cl88, Ar88, q88, Sz88, Nn88, Hh88, Gg88⟩ := V_b69
  have hin88 : ¬ ((18 : Int32) < 0 ∨ cl88.slots.size ≤ ((18 : Int32)).toNatClampNeg) := inb_of Sz88 ⟨by decide, by decide⟩
  obtain ⟨T88, h88, X88, e88, W88, st88⟩ := stI X87 hx hZ e87 Ar88 (j := (18 : Int32)) hin88 (g := (mkF m 361 #[.val (.int p0), .val (.int p1), .val (.int p2), .val (.int p3), .val (.ref b1), .val (.ref b46), .unset, .unset, .unset, .unset, .unset, .unset] [(.int (2 : Int32)), (.int (18 : Int32)), (.ref b69), (.ref b69)])) rfl rfl (hb hby at_361)
  refine own_go (x' := T88.setTop (mkF m 362 #[.val (.int p0), .val (.int p1), .val (.int p2), .val (.int p3), .val (.ref b1), .val (.ref b46), .unset, .unset, .unset, .unset, .unset, .unset] [(.ref b69)])) st88 ?_
  replace Od := Od.wr W88 g_b69
  replace V_b1 := V_b1.other W88 ne_b1_b69
  replace V_b46 := V_b46.other W88 ne_b46_b69
  replace Zs := Nat.le_trans Zs (Keep.of_wr W88).1
  replace Nf := Fr.snoc X88 Nf g_b69
  have V_b69 : Arv Z h88 b69 k69 .int (22 : Int32) [(.int (7 : Int32)), (.int (11 : Int32)), (.int (2 : Int32)), (.int (4 : Int32)), (.int (7 : Int32)), (.int (7 : Int32)), (.int (2 : Int32)), (.int (5 : Int32)), (.int (3 : Int32)), (.int (1 : Int32)), (.int (3 : Int32)), (.int (2 : Int32)), (.int (2 : Int32)), (.int (3 : Int32)), (.int (4 : Int32)), (.int (1 : Int32)), (.int (1 : Int32)), (.int (1 : Int32)), (.int (2 : Int32)), (.int (0 : Int32)), (.int (0 : Int32)), (.int (0 : Int32))] (.int (0 : Int32)) := Arv.set Ar88 q88 Sz88 Nn88 Hh88 Gg88 rfl W88 18 rfl (Nat.le_of_ble_eq_true rfl)
  refine own_go (x' := T88.setTop (mkF m 366 #[.val (.int p0), .val (.int p1), .val (.int p2), .val (.int p3), .val (.ref b1), .val (.ref b46), .unset, .unset, .unset, .unset, .unset, .unset] [(.int (0 : Int32)), (.int (19 : Int32)), (.ref b69), (.ref b69)])) (fun _ k => XS.dup X88.here hx rfl (hb hby at_362) rfl rfl (XS.bipush X88.here hx rfl (hb hby at_363) (XS.iconst X88.here hx rfl (hb hby at_365) k))) ?_
  obtain ⟨cl89, Ar89, q89, Sz89, Nn89, Hh89, Gg89⟩ := V_b69
  have hin89 : ¬ ((19 : Int32) < 0 ∨ cl89.slots.size ≤ ((19 : Int32)).toNatClampNeg) := inb_of Sz89 ⟨by decide, by decide⟩
  obtain ⟨T89, h89, X89, e89, W89, st89⟩ := stI X88 hx hZ e88 Ar89 (j := (19 : Int32)) hin89 (g := (mkF m 366 #[.val (.int p0), .val (.int p1), .val (.int p2), .val (.int p3), .val (.ref b1), .val (.ref b46), .unset, .unset, .unset, .unset, .unset, .unset] [(.int (0 : Int32)), (.int (19 : Int32)), (.ref b69), (.ref b69)])) rfl rfl (hb hby at_366)
  refine own_go (x' := T89.setTop (mkF m 367 #[.val (.int p0), .val (.int p1), .val (.int p2), .val (.int p3), .val (.ref b1), .val (.ref b46), .unset, .unset, .unset, .unset, .unset, .unset] [(.ref b69)])) st89 ?_
  replace Od := Od.wr W89 g_b69
  replace V_b1 := V_b1.other W89 ne_b1_b69
  replace V_b46 := V_b46.other W89 ne_b46_b69
  replace Zs := Nat.le_trans Zs (Keep.of_wr W89).1
  replace Nf := Fr.snoc X89 Nf g_b69
  have V_b69 : Arv Z h89 b69 k69 .int (22 : Int32) [(.int (7 : Int32)), (.int (11 : Int32)), (.int (2 : Int32)), (.int (4 : Int32)), (.int (7 : Int32)), (.int (7 : Int32)), (.int (2 : Int32)), (.int (5 : Int32)), (.int (3 : Int32)), (.int (1 : Int32)), (.int (3 : Int32)), (.int (2 : Int32)), (.int (2 : Int32)), (.int (3 : Int32)), (.int (4 : Int32)), (.int (1 : Int32)), (.int (1 : Int32)), (.int (1 : Int32)), (.int (2 : Int32)), (.int (0 : Int32)), (.int (0 : Int32)), (.int (0 : Int32))] (.int (0 : Int32)) := Arv.set Ar89 q89 Sz89 Nn89 Hh89 Gg89 rfl W89 19 rfl (Nat.le_of_ble_eq_true rfl)
  refine own_go (x' := T89.setTop (mkF m 371 #[.val (.int p0), .val (.int p1), .val (.int p2), .val (.int p3), .val (.ref b1), .val (.ref b46), .unset, .unset, .unset, .unset, .unset, .unset] [(.int (1 : Int32)), (.int (20 : Int32)), (.ref b69), (.ref b69)])) (fun _ k => XS.dup X89.here hx rfl (hb hby at_367) rfl rfl (XS.bipush X89.here hx rfl (hb hby at_368) (XS.iconst X89.here hx rfl (hb hby at_370) k))) ?_
  obtain ⟨cl90, Ar90, q90, Sz90, Nn90, Hh90, Gg90⟩ := V_b69
  have hin90 : ¬ ((20 : Int32) < 0 ∨ cl90.slots.size ≤ ((20 : Int32)).toNatClampNeg) := inb_of Sz90 ⟨by decide, by decide⟩
  obtain ⟨T90, h90, X90, e90, W90, st90⟩ := stI X89 hx hZ e89 Ar90 (j := (20 : Int32)) hin90 (g := (mkF m 371 #[.val (.int p0), .val (.int p1), .val (.int p2), .val (.int p3), .val (.ref b1), .val (.ref b46), .unset, .unset, .unset, .unset, .unset, .unset] [(.int (1 : Int32)), (.int (20 : Int32)), (.ref b69), (.ref b69)])) rfl rfl (hb hby at_371)
  refine own_go (x' := T90.setTop (mkF m 372 #[.val (.int p0), .val (.int p1), .val (.int p2), .val (.int p3), .val (.ref b1), .val (.ref b46), .unset, .unset, .unset, .unset, .unset, .unset] [(.ref b69)])) st90 ?_
  replace Od := Od.wr W90 g_b69
  replace V_b1 := V_b1.other W90 ne_b1_b69
  replace V_b46 := V_b46.other W90 ne_b46_b69
  replace Zs := Nat.le_trans Zs (Keep.of_wr W90).1
  replace Nf := Fr.snoc X90 Nf g_b69
  have V_b69 : Arv Z h90 b69 k69 .int (22 : Int32) [(.int (7 : Int32)), (.int (11 : Int32)), (.int (2 : Int32)), (.int (4 : Int32)), (.int (7 : Int32)), (.int (7 : Int32)), (.int (2 : Int32)), (.int (5 : Int32)), (.int (3 : Int32)), (.int (1 : Int32)), (.int (3 : Int32)), (.int (2 : Int32)), (.int (2 : Int32)), (.int (3 : Int32)), (.int (4 : Int32)), (.int (1 : Int32)), (.int (1 : Int32)), (.int (1 : Int32)), (.int (2 : Int32)), (.int (0 : Int32)), (.int (1 : Int32)), (.int (0 : Int32))] (.int (0 : Int32)) := Arv.set Ar90 q90 Sz90 Nn90 Hh90 Gg90 rfl W90 20 rfl (Nat.le_of_ble_eq_true rfl)
  refine own_go (x' := T90.setTop (mkF m 376 #[.val (.int p0), .val (.int p1), .val (.int p2), .val (.int p3), .val (.ref b1), .val (.ref b46), .unset, .unset, .unset, .unset, .unset, .unset] [(.int (0 : Int32)), (.int (21 : Int32)), (.ref b69), (.ref b69)])) (fun _ k => XS.dup X90.here hx rfl (hb hby at_372) rfl rfl (XS.bipush X90.here hx rfl (hb hby at_373) (XS.iconst X90.here hx rfl (hb hby at_375) k))) ?_
  obtain ⟨cl91, Ar91, q91, Sz91, Nn91, Hh91, Gg91⟩ := V_b69
  have hin91 : ¬ ((21 : Int32) < 0 ∨ cl91.slots.size ≤ ((21 : Int32)).toNatClampNeg) := inb_of Sz91 ⟨by decide, by decide⟩
  obtain ⟨T91, h91, X91, e91, W91, st91⟩ := stI X90 hx hZ e90 Ar91 (j := (21 : Int32)) hin91 (g := (mkF m 376 #[.val (.int p0), .val (.int p1), .val (.int p2), .val (.int p3), .val (.ref b1), .val (.ref b46), .unset, .unset, .unset, .unset, .unset, .unset] [(.int (0 : Int32)), (.int (21 : Int32)), (.ref b69), (.ref b69)])) rfl rfl (hb hby at_376)
  refine own_go (x' := T91.setTop (mkF m 377 #[.val (.int p0), .val (.int p1), .val (.int p2), .val (.int p3), .val (.ref b1), .val (.ref b46), .unset, .unset, .unset, .unset, .unset, .unset] [(.ref b69)])) st91 ?_
  replace Od := Od.wr W91 g_b69
  replace V_b1 := V_b1.other W91 ne_b1_b69
  replace V_b46 := V_b46.other W91 ne_b46_b69
  replace Zs := Nat.le_trans Zs (Keep.of_wr W91).1
  replace Nf := Fr.snoc X91 Nf g_b69
  have V_b69 : Arv Z h91 b69 k69 .int (22 : Int32) [(.int (7 : Int32)), (.int (11 : Int32)), (.int (2 : Int32)), (.int (4 : Int32)), (.int (7 : Int32)), (.int (7 : Int32)), (.int (2 : Int32)), (.int (5 : Int32)), (.int (3 : Int32)), (.int (1 : Int32)), (.int (3 : Int32)), (.int (2 : Int32)), (.int (2 : Int32)), (.int (3 : Int32)), (.int (4 : Int32)), (.int (1 : Int32)), (.int (1 : Int32)), (.int (1 : Int32)), (.int (2 : Int32)), (.int (0 : Int32)), (.int (1 : Int32)), (.int (0 : Int32))] (.int (0 : Int32)) := Arv.set Ar91 q91 Sz91 Nn91 Hh91 Gg91 rfl W91 21 rfl (Nat.le_of_ble_eq_true rfl)
  refine own_go (x' := T91.setTop (mkF m 380 #[.val (.int p0), .val (.int p1), .val (.int p2), .val (.int p3), .val (.ref b1), .val (.ref b46), .val (.ref b69), .unset, .unset, .unset, .unset, .unset] [(.int p0)])) (fun _ k => XS.astore X91.here hx rfl (hb hby at_377) rfl rfl (l' := #[.val (.int p0), .val (.int p1), .val (.int p2), .val (.int p3), .val (.ref b1), .val (.ref b46), .val (.ref b69), .unset, .unset, .unset, .unset, .unset]) rfl (XS.iloadN X91.here hx rfl (hb hby at_379) rfl k)) ?_
  refine own_go (x' := T91.setTop (mkF m 382 #[.val (.int p0), .val (.int p1), .val (.int p2), .val (.int p3), .val (.ref b1), .val (.ref b46), .val (.ref b69), .unset, .unset, .unset, .unset, .unset] [(.int (2147483647 : Int32)), (.int p0)])) (fun t k => X91.ldcInt hx hown (mvT hZ (own_w hw 49 rfl)) (g := (mkF m 380 #[.val (.int p0), .val (.int p1), .val (.int p2), .val (.int p3), .val (.ref b1), .val (.ref b46), .val (.ref b69), .unset, .unset, .unset, .unset, .unset] [(.int p0)])) rfl (hb hby at_380) t k) ?_
  refine own_go (x' := T91.setTop (mkF m 388 #[.val (.int p0), .val (.int p1), .val (.int p2), .val (.int p3), .val (.ref b1), .val (.ref b46), .val (.ref b69), .val (.int ((p0 &&& (2147483647 : Int32)) % (22 : Int32))), .unset, .unset, .unset, .unset] [])) (fun _ k => XS.iand X91.here hx rfl (hb hby at_382) rfl (XS.bipush X91.here hx rfl (hb hby at_383) (iremM X91 hx rfl (hb hby at_385) rfl (by decide) (XS.istore X91.here hx rfl (hb hby at_386) rfl (l' := #[.val (.int p0), .val (.int p1), .val (.int p2), .val (.int p3), .val (.ref b1), .val (.ref b46), .val (.ref b69), .val (.int ((p0 &&& (2147483647 : Int32)) % (22 : Int32))), .unset, .unset, .unset, .unset]) rfl k)))) ?_
  obtain ⟨LL92, X92, Nf⟩ : ∃ LL : List Loc, Stand p l e room_1 s m _ below meth c T91 LL 3 66 ∧ Fr n0 LL := ⟨_, X91, Nf⟩
  change own_End p e below s _ _ _ (T91.setTop (mkF m 388 #[.val (.int p0), .val (.int p1), .val (.int p2), .val (.int p3), .val (.ref b1), .val (.ref b46), .val (.ref b69), .val (.int (own_ix p0)), .unset, .unset, .unset, .unset] []))
  refine own_go (x' := T91.setTop (mkF m 396 #[.val (.int p0), .val (.int p1), .val (.int p2), .val (.int p3), .val (.ref b1), .val (.ref b46), .val (.ref b69), .val (.int (own_ix p0)), .val (.int ((p3 &&& (7 : Int32)) - (4 : Int32))), .unset, .unset, .unset] [])) (fun _ k => XS.iloadN X92.here hx rfl (hb hby at_388) rfl (XS.bipush X92.here hx rfl (hb hby at_389) (XS.iand X92.here hx rfl (hb hby at_391) rfl (XS.iconst X92.here hx rfl (hb hby at_392) (XS.isub X92.here hx rfl (hb hby at_393) rfl (XS.istore X92.here hx rfl (hb hby at_394) rfl (l' := #[.val (.int p0), .val (.int p1), .val (.int p2), .val (.int p3), .val (.ref b1), .val (.ref b46), .val (.ref b69), .val (.int (own_ix p0)), .val (.int ((p3 &&& (7 : Int32)) - (4 : Int32))), .unset, .unset, .unset]) rfl k)))))) ?_
  refine own_go (x' := T91.setTop (mkF m 404 #[.val (.int p0), .val (.int p1), .val (.int p2), .val (.int p3), .val (.ref b1), .val (.ref b46), .val (.ref b69), .val (.int (own_ix p0)), .val (.int ((p3 &&& (7 : Int32)) - (4 : Int32))), .val (.int (p1 &&& (3 : Int32))), .unset, .unset] [(.int (1 : Int32)), (.int (p1 &&& (3 : Int32)))])) (fun _ k => XS.iloadN X92.here hx rfl (hb hby at_396) rfl (XS.iconst X92.here hx rfl (hb hby at_397) (XS.iand X92.here hx rfl (hb hby at_398) rfl (XS.istore X92.here hx rfl (hb hby at_399) rfl (l' := #[.val (.int p0), .val (.int p1), .val (.int p2), .val (.int p3), .val (.ref b1), .val (.ref b46), .val (.ref b69), .val (.int (own_ix p0)), .val (.int ((p3 &&& (7 : Int32)) - (4 : Int32))), .val (.int (p1 &&& (3 : Int32))), .unset, .unset]) rfl (XS.iload X92.here hx rfl (hb hby at_401) rfl (XS.iconst X92.here hx rfl (hb hby at_403) k)))))) ?_
  by_cases hc404 : (p1 &&& (3 : Int32)) = (1 : Int32)
  · refine own_go (x' := T91.setTop (mkF m 411 #[.val (.int p0), .val (.int p1), .val (.int p2), .val (.int p3), .val (.ref b1), .val (.ref b46), .val (.ref b69), .val (.int (own_ix p0)), .val (.int ((p3 &&& (7 : Int32)) - (4 : Int32))), .val (.int (p1 &&& (3 : Int32))), .unset, .unset] [(.int (own_ix p0)), (.ref b46)])) (fun _ k => XS.icmpNo X92.here hx rfl (hb hby at_404) rfl (teq hc404).2 (XS.aload X92.here hx rfl (hb hby at_407) rfl rfl (XS.iload X92.here hx rfl (hb hby at_409) rfl k))) ?_
    obtain ⟨cl93, Ar93, q93, Sz93, Nn93, Hh93, Gg93⟩ := id V_b46
    have Hq93 : Has cl93 (own_los.map Value.int) (.int 0) := Hh93
    have hin93 : ¬ ((own_ix p0) < 0 ∨ cl93.slots.size ≤ ((own_ix p0)).toNatClampNeg) := inb_of Sz93 (own_i p0)
    refine own_go (x' := T91.setTop (mkF m 412 #[.val (.int p0), .val (.int p1), .val (.int p2), .val (.int p3), .val (.ref b1), .val (.ref b46), .val (.ref b69), .val (.int (own_ix p0)), .val (.int ((p3 &&& (7 : Int32)) - (4 : Int32))), .val (.int (p1 &&& (3 : Int32))), .unset, .unset] [(.int (own_at own_los (own_ix p0)))])) (X92.iaload hx (j := (own_ix p0)) (v := (.int (own_at own_los (own_ix p0)))) (by rw [e91]; exact Ar93.1) (State.isArrayOf_alike hZ.alike Ar93.2.1) Ar93.2.2 hin93 (Hq93.at hin93 (own_mapI own_los _)) (g := (mkF m 411 #[.val (.int p0), .val (.int p1), .val (.int p2), .val (.int p3), .val (.ref b1), .val (.ref b46), .val (.ref b69), .val (.int (own_ix p0)), .val (.int ((p3 &&& (7 : Int32)) - (4 : Int32))), .val (.int (p1 &&& (3 : Int32))), .unset, .unset] [(.int (own_ix p0)), (.ref b46)])) rfl rfl (hb hby at_411)) ?_
    refine own_go (x' := T91.setTop (mkF m 445 #[.val (.int p0), .val (.int p1), .val (.int p2), .val (.int p3), .val (.ref b1), .val (.ref b46), .val (.ref b69), .val (.int (own_ix p0)), .val (.int ((p3 &&& (7 : Int32)) - (4 : Int32))), .val (.int (p1 &&& (3 : Int32))), .val (.int (((own_at own_los (own_ix p0)) + ((p3 &&& (7 : Int32)) - (4 : Int32))).toInt16.toInt32)), .unset] [])) (fun _ k => XS.iload X92.here hx rfl (hb hby at_412) rfl (XS.iadd X92.here hx rfl (hb hby at_414) rfl (XS.i2s X92.here hx rfl (hb hby at_415) rfl (XS.istore X92.here hx rfl (hb hby at_416) rfl (l' := #[.val (.int p0), .val (.int p1), .val (.int p2), .val (.int p3), .val (.ref b1), .val (.ref b46), .val (.ref b69), .val (.int (own_ix p0)), .val (.int ((p3 &&& (7 : Int32)) - (4 : Int32))), .val (.int (p1 &&& (3 : Int32))), .val (.int (((own_at own_los (own_ix p0)) + ((p3 &&& (7 : Int32)) - (4 : Int32))).toInt16.toInt32)), .unset]) rfl (XS.goto X92.here hx rfl (pc0 := 418) (pc' := 445) rfl (hb hby at_418) (by decide) (by decide) k))))) ?_
    generalize (((own_at own_los (own_ix p0)) + ((p3 &&& (7 : Int32)) - (4 : Int32))).toInt16.toInt32) = ver
    refine own_go (x' := T91.setTop (mkF m 451 #[.val (.int p0), .val (.int p1), .val (.int p2), .val (.int p3), .val (.ref b1), .val (.ref b46), .val (.ref b69), .val (.int (own_ix p0)), .val (.int ((p3 &&& (7 : Int32)) - (4 : Int32))), .val (.int (p1 &&& (3 : Int32))), .val (.int ver), .unset] [(.int (own_ix p0)), (.ref b46), (.int ver)])) (fun _ k => XS.iload X92.here hx rfl (hb hby at_445) rfl (XS.aload X92.here hx rfl (hb hby at_447) rfl rfl (XS.iload X92.here hx rfl (hb hby at_449) rfl k))) ?_
    obtain ⟨cl94, Ar94, q94, Sz94, Nn94, Hh94, Gg94⟩ := id V_b46
    have Hq94 : Has cl94 (own_los.map Value.int) (.int 0) := Hh94
    have hin94 : ¬ ((own_ix p0) < 0 ∨ cl94.slots.size ≤ ((own_ix p0)).toNatClampNeg) := inb_of Sz94 (own_i p0)
    refine own_go (x' := T91.setTop (mkF m 452 #[.val (.int p0), .val (.int p1), .val (.int p2), .val (.int p3), .val (.ref b1), .val (.ref b46), .val (.ref b69), .val (.int (own_ix p0)), .val (.int ((p3 &&& (7 : Int32)) - (4 : Int32))), .val (.int (p1 &&& (3 : Int32))), .val (.int ver), .unset] [(.int (own_at own_los (own_ix p0))), (.int ver)])) (X92.iaload hx (j := (own_ix p0)) (v := (.int (own_at own_los (own_ix p0)))) (by rw [e91]; exact Ar94.1) (State.isArrayOf_alike hZ.alike Ar94.2.1) Ar94.2.2 hin94 (Hq94.at hin94 (own_mapI own_los _)) (g := (mkF m 451 #[.val (.int p0), .val (.int p1), .val (.int p2), .val (.int p3), .val (.ref b1), .val (.ref b46), .val (.ref b69), .val (.int (own_ix p0)), .val (.int ((p3 &&& (7 : Int32)) - (4 : Int32))), .val (.int (p1 &&& (3 : Int32))), .val (.int ver), .unset] [(.int (own_ix p0)), (.ref b46), (.int ver)])) rfl rfl (hb hby at_451)) ?_
    by_cases hc452 : ver < (own_at own_los (own_ix p0))
    · refine own_go (x' := T91.setTop (mkF m 476 #[.val (.int p0), .val (.int p1), .val (.int p2), .val (.int p3), .val (.ref b1), .val (.ref b46), .val (.ref b69), .val (.int (own_ix p0)), .val (.int ((p3 &&& (7 : Int32)) - (4 : Int32))), .val (.int (p1 &&& (3 : Int32))), .val (.int ver), .val (.int (0 : Int32))] [(.int (own_ix p0)), (.ref b1)])) (fun _ k => XS.icmpYes X92.here hx rfl (pc0 := 452) (pc' := 469) rfl (hb hby at_452) rfl (tlt hc452).1 (by decide) (by decide) (XS.iconst X92.here hx rfl (hb hby at_469) (XS.istore X92.here hx rfl (hb hby at_470) rfl (l' := #[.val (.int p0), .val (.int p1), .val (.int p2), .val (.int p3), .val (.ref b1), .val (.ref b46), .val (.ref b69), .val (.int (own_ix p0)), .val (.int ((p3 &&& (7 : Int32)) - (4 : Int32))), .val (.int (p1 &&& (3 : Int32))), .val (.int ver), .val (.int (0 : Int32))]) rfl (XS.aload X92.here hx rfl (hb hby at_472) rfl rfl (XS.iload X92.here hx rfl (hb hby at_474) rfl k))))) ?_
      obtain ⟨cl95, Ar95, q95, Sz95, Nn95, Hh95, Gg95⟩ := id V_b1
      have Hq95 : Has cl95 (([a_PRODUCE, a_FETCH, a_LIST_OFFSETS, a_METADATA, a_OFFSET_COMMIT, a_OFFSET_FETCH, a_FIND_COORDINATOR, a_JOIN_GROUP, a_HEARTBEAT, a_LEAVE_GROUP, a_SYNC_GROUP, a_DESCRIBE_GROUPS, a_LIST_GROUPS, a_API_VERSIONS, a_CREATE_TOPICS, a_DELETE_TOPICS, a_DELETE_RECORDS, a_INIT_PRODUCER_ID, a_DESCRIBE_CONFIGS, a_CREATE_PARTITIONS, a_DELETE_GROUPS, a_OFFSET_DELETE] : List Addr).map Value.ref) .null := Hh95
      obtain ⟨ob95, hob95⟩ : ∃ z, z = ([a_PRODUCE, a_FETCH, a_LIST_OFFSETS, a_METADATA, a_OFFSET_COMMIT, a_OFFSET_FETCH, a_FIND_COORDINATOR, a_JOIN_GROUP, a_HEARTBEAT, a_LEAVE_GROUP, a_SYNC_GROUP, a_DESCRIBE_GROUPS, a_LIST_GROUPS, a_API_VERSIONS, a_CREATE_TOPICS, a_DELETE_TOPICS, a_DELETE_RECORDS, a_INIT_PRODUCER_ID, a_DESCRIBE_CONFIGS, a_CREATE_PARTITIONS, a_DELETE_GROUPS, a_OFFSET_DELETE] : List Addr).getD (own_ix p0).toNatClampNeg 0 := ⟨_, rfl⟩
      obtain ⟨E_ob95, F_ob95_minVersion, F_ob95_maxVersion⟩ := own_key (own_ix p0).toNatClampNeg (own_n p0)
      rw [← hob95] at E_ob95 F_ob95_minVersion F_ob95_maxVersion
      replace E_ob95 := Exa.ext Od.2 E_ob95
      replace F_ob95_minVersion := Fld.ext Od.2 F_ob95_minVersion
      replace F_ob95_maxVersion := Fld.ext Od.2 F_ob95_maxVersion
      have hin95 : ¬ ((own_ix p0) < 0 ∨ cl95.slots.size ≤ ((own_ix p0)).toNatClampNeg) := inb_of Sz95 (own_i p0)
      refine own_go (x' := T91.setTop (mkF m 477 #[.val (.int p0), .val (.int p1), .val (.int p2), .val (.int p3), .val (.ref b1), .val (.ref b46), .val (.ref b69), .val (.int (own_ix p0)), .val (.int ((p3 &&& (7 : Int32)) - (4 : Int32))), .val (.int (p1 &&& (3 : Int32))), .val (.int ver), .val (.int (0 : Int32))] [(.ref ob95)])) (X92.aaload hx (j := (own_ix p0)) (v := (.ref ob95)) (by rw [e91]; exact Ar95.1) (State.isArrayOf_alike hZ.alike Ar95.2.1) rfl Ar95.2.2 hin95 (Hq95.at hin95 (by rw [hob95]; exact own_mapR ([a_PRODUCE, a_FETCH, a_LIST_OFFSETS, a_METADATA, a_OFFSET_COMMIT, a_OFFSET_FETCH, a_FIND_COORDINATOR, a_JOIN_GROUP, a_HEARTBEAT, a_LEAVE_GROUP, a_SYNC_GROUP, a_DESCRIBE_GROUPS, a_LIST_GROUPS, a_API_VERSIONS, a_CREATE_TOPICS, a_DELETE_TOPICS, a_DELETE_RECORDS, a_INIT_PRODUCER_ID, a_DESCRIBE_CONFIGS, a_CREATE_PARTITIONS, a_DELETE_GROUPS, a_OFFSET_DELETE] : List Addr) _ (own_n p0))) (g := (mkF m 476 #[.val (.int p0), .val (.int p1), .val (.int p2), .val (.int p3), .val (.ref b1), .val (.ref b46), .val (.ref b69), .val (.int (own_ix p0)), .val (.int ((p3 &&& (7 : Int32)) - (4 : Int32))), .val (.int (p1 &&& (3 : Int32))), .val (.int ver), .val (.int (0 : Int32))] [(.int (own_ix p0)), (.ref b1)])) rfl rfl (hb hby at_476)) ?_
      refine own_go (x' := T91.setTop (mkF m 479 #[.val (.int p0), .val (.int p1), .val (.int p2), .val (.int p3), .val (.ref b1), .val (.ref b46), .val (.ref b69), .val (.int (own_ix p0)), .val (.int ((p3 &&& (7 : Int32)) - (4 : Int32))), .val (.int (p1 &&& (3 : Int32))), .val (.int ver), .val (.int (0 : Int32))] [(.int ver), (.ref ob95)])) (fun _ k => XS.iload X92.here hx rfl (hb hby at_477) rfl k) ?_
      obtain ⟨cq96, kq96, q96a, q96b, q96c⟩ := isOf hZ e91 E_ob95
      obtain ⟨_, _, ⟨T96, L96, k96, n96⟩, -, X96, ⟨Lc96, hQ96, l96, y96, z96⟩, st96⟩ := X92.virtualBack hx (y := (⟨"com/example/mechelen/mechelen/protocol/ApiKey", "serves", "(S)Z"⟩ : MethodName)) (z := (⟨"com/example/mechelen/mechelen/protocol/ApiKey", "serves", "(S)Z"⟩ : MethodName)) hown (mvT hZ (own_w hw 50 rfl)) (mvT hZ (own_w hw 51 rfl)) (notFace_of_selects (args := #[]) (mvT hZ (own_w hw 53 rfl))) (mvT hZ (own_w hw 53 rfl)) (mvT hZ (own_w hw 52 rfl)) (by decide) (backOf (W := 0) (rm1 l Z a0 hw [] ob95 ver (own_at own_los (own_ix p0)) (own_at own_his (own_ix p0)) h91 n0 Zs F_ob95_minVersion F_ob95_maxVersion) hZ (own_w hw 54 rfl) (own_w hw 3 rfl) (by decide) (by decide)) q96a q96c (g := (mkF m 479 #[.val (.int p0), .val (.int p1), .val (.int p2), .val (.int p3), .val (.ref b1), .val (.ref b46), .val (.ref b69), .val (.int (own_ix p0)), .val (.int ((p3 &&& (7 : Int32)) - (4 : Int32))), .val (.int (p1 &&& (3 : Int32))), .val (.int ver), .val (.int (0 : Int32))] [(.int ver), (.ref ob95)])) rfl (by rw [hml]; rfl) (Steps.refl _) (argsL := [(.int ver)]) (rest := []) (lenOf pd_0 rfl) rfl (by show 2 * 0 + _ ≤ _; exact Nat.le_of_eq rfl) (hb hby at_479) (fun _ _ => ⟨rfl, e91, (by decide : 3 + 0 ≤ _), (by decide : 66 + 0 ≤ _)⟩)
      dsimp only [Pt.U, Pt.locs, Pt.cells, Pt.slots] at X96 l96 y96 z96 st96 hQ96
      subst l96 y96 z96
      obtain ⟨hv96, Nq96, eq96⟩ := hQ96
      subst hv96
      replace Nf := Fr.app Nf Nq96
      refine own_go (x' := T96.setTop (mkF m 482 #[.val (.int p0), .val (.int p1), .val (.int p2), .val (.int p3), .val (.ref b1), .val (.ref b46), .val (.ref b69), .val (.int (own_ix p0)), .val (.int ((p3 &&& (7 : Int32)) - (4 : Int32))), .val (.int (p1 &&& (3 : Int32))), .val (.int ver), .val (.int (0 : Int32))] [(.int (own_sup ver (own_at own_los (own_ix p0)) (own_at own_his (own_ix p0))))])) (fun _ k => st96.trans k) ?_
      refine own_go (x' := T96.setTop (mkF m 492 #[.val (.int p0), .val (.int p1), .val (.int p2), .val (.int p3), .val (.ref b1), .val (.ref b46), .val (.ref b69), .val (.int (own_ix p0)), .val (.int ((p3 &&& (7 : Int32)) - (4 : Int32))), .val (.int (p1 &&& (3 : Int32))), .val (.int ver), .val (.int (0 : Int32))] [(.int (1 : Int32))])) (fun _ k => XS.iload X96.here hx rfl (hb hby at_482) rfl (XS.icmpNo X96.here hx rfl (hb hby at_484) rfl (teq (if_pos hc452)).2 (XS.iconst X96.here hx rfl (hb hby at_487) (XS.goto X96.here hx rfl (pc0 := 488) (pc' := 492) rfl (hb hby at_488) (by decide) (by decide) k)))) ?_
      refine own_retN X96 hx hlk (t := .boolean) hret (by simp) (hb hby at_492) (w := (1 : Int32)) rfl ?_ (by decide) (by decide)
      rw [eq96]
      exact ⟨rfl, Nf⟩
    · refine own_go (x' := T91.setTop (mkF m 461 #[.val (.int p0), .val (.int p1), .val (.int p2), .val (.int p3), .val (.ref b1), .val (.ref b46), .val (.ref b69), .val (.int (own_ix p0)), .val (.int ((p3 &&& (7 : Int32)) - (4 : Int32))), .val (.int (p1 &&& (3 : Int32))), .val (.int ver), .unset] [(.int (own_ix p0)), (.ref b69), (.int ver)])) (fun _ k => XS.icmpNo X92.here hx rfl (hb hby at_452) rfl (flt hc452).1 (XS.iload X92.here hx rfl (hb hby at_455) rfl (XS.aload X92.here hx rfl (hb hby at_457) rfl rfl (XS.iload X92.here hx rfl (hb hby at_459) rfl k)))) ?_
      obtain ⟨cl97, Ar97, q97, Sz97, Nn97, Hh97, Gg97⟩ := id V_b69
      have Hq97 : Has cl97 (own_his.map Value.int) (.int 0) := Hh97
      have hin97 : ¬ ((own_ix p0) < 0 ∨ cl97.slots.size ≤ ((own_ix p0)).toNatClampNeg) := inb_of Sz97 (own_i p0)
      refine own_go (x' := T91.setTop (mkF m 462 #[.val (.int p0), .val (.int p1), .val (.int p2), .val (.int p3), .val (.ref b1), .val (.ref b46), .val (.ref b69), .val (.int (own_ix p0)), .val (.int ((p3 &&& (7 : Int32)) - (4 : Int32))), .val (.int (p1 &&& (3 : Int32))), .val (.int ver), .unset] [(.int (own_at own_his (own_ix p0))), (.int ver)])) (X92.iaload hx (j := (own_ix p0)) (v := (.int (own_at own_his (own_ix p0)))) (by rw [e91]; exact Ar97.1) (State.isArrayOf_alike hZ.alike Ar97.2.1) Ar97.2.2 hin97 (Hq97.at hin97 (own_mapI own_his _)) (g := (mkF m 461 #[.val (.int p0), .val (.int p1), .val (.int p2), .val (.int p3), .val (.ref b1), .val (.ref b46), .val (.ref b69), .val (.int (own_ix p0)), .val (.int ((p3 &&& (7 : Int32)) - (4 : Int32))), .val (.int (p1 &&& (3 : Int32))), .val (.int ver), .unset] [(.int (own_ix p0)), (.ref b69), (.int ver)])) rfl rfl (hb hby at_461)) ?_
      by_cases hc462 : (own_at own_his (own_ix p0)) < ver
      · refine own_go (x' := T91.setTop (mkF m 476 #[.val (.int p0), .val (.int p1), .val (.int p2), .val (.int p3), .val (.ref b1), .val (.ref b46), .val (.ref b69), .val (.int (own_ix p0)), .val (.int ((p3 &&& (7 : Int32)) - (4 : Int32))), .val (.int (p1 &&& (3 : Int32))), .val (.int ver), .val (.int (0 : Int32))] [(.int (own_ix p0)), (.ref b1)])) (fun _ k => XS.icmpYes X92.here hx rfl (pc0 := 462) (pc' := 469) rfl (hb hby at_462) rfl (tlt hc462).2.2.1 (by decide) (by decide) (XS.iconst X92.here hx rfl (hb hby at_469) (XS.istore X92.here hx rfl (hb hby at_470) rfl (l' := #[.val (.int p0), .val (.int p1), .val (.int p2), .val (.int p3), .val (.ref b1), .val (.ref b46), .val (.ref b69), .val (.int (own_ix p0)), .val (.int ((p3 &&& (7 : Int32)) - (4 : Int32))), .val (.int (p1 &&& (3 : Int32))), .val (.int ver), .val (.int (0 : Int32))]) rfl (XS.aload X92.here hx rfl (hb hby at_472) rfl rfl (XS.iload X92.here hx rfl (hb hby at_474) rfl k))))) ?_
        obtain ⟨cl98, Ar98, q98, Sz98, Nn98, Hh98, Gg98⟩ := id V_b1
        have Hq98 : Has cl98 (([a_PRODUCE, a_FETCH, a_LIST_OFFSETS, a_METADATA, a_OFFSET_COMMIT, a_OFFSET_FETCH, a_FIND_COORDINATOR, a_JOIN_GROUP, a_HEARTBEAT, a_LEAVE_GROUP, a_SYNC_GROUP, a_DESCRIBE_GROUPS, a_LIST_GROUPS, a_API_VERSIONS, a_CREATE_TOPICS, a_DELETE_TOPICS, a_DELETE_RECORDS, a_INIT_PRODUCER_ID, a_DESCRIBE_CONFIGS, a_CREATE_PARTITIONS, a_DELETE_GROUPS, a_OFFSET_DELETE] : List Addr).map Value.ref) .null := Hh98
        obtain ⟨ob98, hob98⟩ : ∃ z, z = ([a_PRODUCE, a_FETCH, a_LIST_OFFSETS, a_METADATA, a_OFFSET_COMMIT, a_OFFSET_FETCH, a_FIND_COORDINATOR, a_JOIN_GROUP, a_HEARTBEAT, a_LEAVE_GROUP, a_SYNC_GROUP, a_DESCRIBE_GROUPS, a_LIST_GROUPS, a_API_VERSIONS, a_CREATE_TOPICS, a_DELETE_TOPICS, a_DELETE_RECORDS, a_INIT_PRODUCER_ID, a_DESCRIBE_CONFIGS, a_CREATE_PARTITIONS, a_DELETE_GROUPS, a_OFFSET_DELETE] : List Addr).getD (own_ix p0).toNatClampNeg 0 := ⟨_, rfl⟩
        obtain ⟨E_ob98, F_ob98_minVersion, F_ob98_maxVersion⟩ := own_key (own_ix p0).toNatClampNeg (own_n p0)
        rw [← hob98] at E_ob98 F_ob98_minVersion F_ob98_maxVersion
        replace E_ob98 := Exa.ext Od.2 E_ob98
        replace F_ob98_minVersion := Fld.ext Od.2 F_ob98_minVersion
        replace F_ob98_maxVersion := Fld.ext Od.2 F_ob98_maxVersion
        have hin98 : ¬ ((own_ix p0) < 0 ∨ cl98.slots.size ≤ ((own_ix p0)).toNatClampNeg) := inb_of Sz98 (own_i p0)
        refine own_go (x' := T91.setTop (mkF m 477 #[.val (.int p0), .val (.int p1), .val (.int p2), .val (.int p3), .val (.ref b1), .val (.ref b46), .val (.ref b69), .val (.int (own_ix p0)), .val (.int ((p3 &&& (7 : Int32)) - (4 : Int32))), .val (.int (p1 &&& (3 : Int32))), .val (.int ver), .val (.int (0 : Int32))] [(.ref ob98)])) (X92.aaload hx (j := (own_ix p0)) (v := (.ref ob98)) (by rw [e91]; exact Ar98.1) (State.isArrayOf_alike hZ.alike Ar98.2.1) rfl Ar98.2.2 hin98 (Hq98.at hin98 (by rw [hob98]; exact own_mapR ([a_PRODUCE, a_FETCH, a_LIST_OFFSETS, a_METADATA, a_OFFSET_COMMIT, a_OFFSET_FETCH, a_FIND_COORDINATOR, a_JOIN_GROUP, a_HEARTBEAT, a_LEAVE_GROUP, a_SYNC_GROUP, a_DESCRIBE_GROUPS, a_LIST_GROUPS, a_API_VERSIONS, a_CREATE_TOPICS, a_DELETE_TOPICS, a_DELETE_RECORDS, a_INIT_PRODUCER_ID, a_DESCRIBE_CONFIGS, a_CREATE_PARTITIONS, a_DELETE_GROUPS, a_OFFSET_DELETE] : List Addr) _ (own_n p0))) (g := (mkF m 476 #[.val (.int p0), .val (.int p1), .val (.int p2), .val (.int p3), .val (.ref b1), .val (.ref b46), .val (.ref b69), .val (.int (own_ix p0)), .val (.int ((p3 &&& (7 : Int32)) - (4 : Int32))), .val (.int (p1 &&& (3 : Int32))), .val (.int ver), .val (.int (0 : Int32))] [(.int (own_ix p0)), (.ref b1)])) rfl rfl (hb hby at_476)) ?_
        refine own_go (x' := T91.setTop (mkF m 479 #[.val (.int p0), .val (.int p1), .val (.int p2), .val (.int p3), .val (.ref b1), .val (.ref b46), .val (.ref b69), .val (.int (own_ix p0)), .val (.int ((p3 &&& (7 : Int32)) - (4 : Int32))), .val (.int (p1 &&& (3 : Int32))), .val (.int ver), .val (.int (0 : Int32))] [(.int ver), (.ref ob98)])) (fun _ k => XS.iload X92.here hx rfl (hb hby at_477) rfl k) ?_
        obtain ⟨cq99, kq99, q99a, q99b, q99c⟩ := isOf hZ e91 E_ob98
        obtain ⟨_, _, ⟨T99, L99, k99, n99⟩, -, X99, ⟨Lc99, hQ99, l99, y99, z99⟩, st99⟩ := X92.virtualBack hx (y := (⟨"com/example/mechelen/mechelen/protocol/ApiKey", "serves", "(S)Z"⟩ : MethodName)) (z := (⟨"com/example/mechelen/mechelen/protocol/ApiKey", "serves", "(S)Z"⟩ : MethodName)) hown (mvT hZ (own_w hw 50 rfl)) (mvT hZ (own_w hw 51 rfl)) (notFace_of_selects (args := #[]) (mvT hZ (own_w hw 53 rfl))) (mvT hZ (own_w hw 53 rfl)) (mvT hZ (own_w hw 52 rfl)) (by decide) (backOf (W := 0) (rm1 l Z a0 hw [] ob98 ver (own_at own_los (own_ix p0)) (own_at own_his (own_ix p0)) h91 n0 Zs F_ob98_minVersion F_ob98_maxVersion) hZ (own_w hw 54 rfl) (own_w hw 3 rfl) (by decide) (by decide)) q99a q99c (g := (mkF m 479 #[.val (.int p0), .val (.int p1), .val (.int p2), .val (.int p3), .val (.ref b1), .val (.ref b46), .val (.ref b69), .val (.int (own_ix p0)), .val (.int ((p3 &&& (7 : Int32)) - (4 : Int32))), .val (.int (p1 &&& (3 : Int32))), .val (.int ver), .val (.int (0 : Int32))] [(.int ver), (.ref ob98)])) rfl (by rw [hml]; rfl) (Steps.refl _) (argsL := [(.int ver)]) (rest := []) (lenOf pd_0 rfl) rfl (by show 2 * 0 + _ ≤ _; exact Nat.le_of_eq rfl) (hb hby at_479) (fun _ _ => ⟨rfl, e91, (by decide : 3 + 0 ≤ _), (by decide : 66 + 0 ≤ _)⟩)
        dsimp only [Pt.U, Pt.locs, Pt.cells, Pt.slots] at X99 l99 y99 z99 st99 hQ99
        subst l99 y99 z99
        obtain ⟨hv99, Nq99, eq99⟩ := hQ99
        subst hv99
        replace Nf := Fr.app Nf Nq99
        refine own_go (x' := T99.setTop (mkF m 482 #[.val (.int p0), .val (.int p1), .val (.int p2), .val (.int p3), .val (.ref b1), .val (.ref b46), .val (.ref b69), .val (.int (own_ix p0)), .val (.int ((p3 &&& (7 : Int32)) - (4 : Int32))), .val (.int (p1 &&& (3 : Int32))), .val (.int ver), .val (.int (0 : Int32))] [(.int (own_sup ver (own_at own_los (own_ix p0)) (own_at own_his (own_ix p0))))])) (fun _ k => st99.trans k) ?_
        refine own_go (x' := T99.setTop (mkF m 492 #[.val (.int p0), .val (.int p1), .val (.int p2), .val (.int p3), .val (.ref b1), .val (.ref b46), .val (.ref b69), .val (.int (own_ix p0)), .val (.int ((p3 &&& (7 : Int32)) - (4 : Int32))), .val (.int (p1 &&& (3 : Int32))), .val (.int ver), .val (.int (0 : Int32))] [(.int (1 : Int32))])) (fun _ k => XS.iload X99.here hx rfl (hb hby at_482) rfl (XS.icmpNo X99.here hx rfl (hb hby at_484) rfl (teq ((if_neg hc452).trans (if_pos hc462))).2 (XS.iconst X99.here hx rfl (hb hby at_487) (XS.goto X99.here hx rfl (pc0 := 488) (pc' := 492) rfl (hb hby at_488) (by decide) (by decide) k)))) ?_
        refine own_retN X99 hx hlk (t := .boolean) hret (by simp) (hb hby at_492) (w := (1 : Int32)) rfl ?_ (by decide) (by decide)
        rw [eq99]
        exact ⟨rfl, Nf⟩
      · refine own_go (x' := T91.setTop (mkF m 476 #[.val (.int p0), .val (.int p1), .val (.int p2), .val (.int p3), .val (.ref b1), .val (.ref b46), .val (.ref b69), .val (.int (own_ix p0)), .val (.int ((p3 &&& (7 : Int32)) - (4 : Int32))), .val (.int (p1 &&& (3 : Int32))), .val (.int ver), .val (.int (1 : Int32))] [(.int (own_ix p0)), (.ref b1)])) (fun _ k => XS.icmpNo X92.here hx rfl (hb hby at_462) rfl (flt hc462).2.2.1 (XS.iconst X92.here hx rfl (hb hby at_465) (XS.goto X92.here hx rfl (pc0 := 466) (pc' := 470) rfl (hb hby at_466) (by decide) (by decide) (XS.istore X92.here hx rfl (hb hby at_470) rfl (l' := #[.val (.int p0), .val (.int p1), .val (.int p2), .val (.int p3), .val (.ref b1), .val (.ref b46), .val (.ref b69), .val (.int (own_ix p0)), .val (.int ((p3 &&& (7 : Int32)) - (4 : Int32))), .val (.int (p1 &&& (3 : Int32))), .val (.int ver), .val (.int (1 : Int32))]) rfl (XS.aload X92.here hx rfl (hb hby at_472) rfl rfl (XS.iload X92.here hx rfl (hb hby at_474) rfl k)))))) ?_
        obtain ⟨cl100, Ar100, q100, Sz100, Nn100, Hh100, Gg100⟩ := id V_b1
        have Hq100 : Has cl100 (([a_PRODUCE, a_FETCH, a_LIST_OFFSETS, a_METADATA, a_OFFSET_COMMIT, a_OFFSET_FETCH, a_FIND_COORDINATOR, a_JOIN_GROUP, a_HEARTBEAT, a_LEAVE_GROUP, a_SYNC_GROUP, a_DESCRIBE_GROUPS, a_LIST_GROUPS, a_API_VERSIONS, a_CREATE_TOPICS, a_DELETE_TOPICS, a_DELETE_RECORDS, a_INIT_PRODUCER_ID, a_DESCRIBE_CONFIGS, a_CREATE_PARTITIONS, a_DELETE_GROUPS, a_OFFSET_DELETE] : List Addr).map Value.ref) .null := Hh100
        obtain ⟨ob100, hob100⟩ : ∃ z, z = ([a_PRODUCE, a_FETCH, a_LIST_OFFSETS, a_METADATA, a_OFFSET_COMMIT, a_OFFSET_FETCH, a_FIND_COORDINATOR, a_JOIN_GROUP, a_HEARTBEAT, a_LEAVE_GROUP, a_SYNC_GROUP, a_DESCRIBE_GROUPS, a_LIST_GROUPS, a_API_VERSIONS, a_CREATE_TOPICS, a_DELETE_TOPICS, a_DELETE_RECORDS, a_INIT_PRODUCER_ID, a_DESCRIBE_CONFIGS, a_CREATE_PARTITIONS, a_DELETE_GROUPS, a_OFFSET_DELETE] : List Addr).getD (own_ix p0).toNatClampNeg 0 := ⟨_, rfl⟩
        obtain ⟨E_ob100, F_ob100_minVersion, F_ob100_maxVersion⟩ := own_key (own_ix p0).toNatClampNeg (own_n p0)
        rw [← hob100] at E_ob100 F_ob100_minVersion F_ob100_maxVersion
        replace E_ob100 := Exa.ext Od.2 E_ob100
        replace F_ob100_minVersion := Fld.ext Od.2 F_ob100_minVersion
        replace F_ob100_maxVersion := Fld.ext Od.2 F_ob100_maxVersion
        have hin100 : ¬ ((own_ix p0) < 0 ∨ cl100.slots.size ≤ ((own_ix p0)).toNatClampNeg) := inb_of Sz100 (own_i p0)
        refine own_go (x' := T91.setTop (mkF m 477 #[.val (.int p0), .val (.int p1), .val (.int p2), .val (.int p3), .val (.ref b1), .val (.ref b46), .val (.ref b69), .val (.int (own_ix p0)), .val (.int ((p3 &&& (7 : Int32)) - (4 : Int32))), .val (.int (p1 &&& (3 : Int32))), .val (.int ver), .val (.int (1 : Int32))] [(.ref ob100)])) (X92.aaload hx (j := (own_ix p0)) (v := (.ref ob100)) (by rw [e91]; exact Ar100.1) (State.isArrayOf_alike hZ.alike Ar100.2.1) rfl Ar100.2.2 hin100 (Hq100.at hin100 (by rw [hob100]; exact own_mapR ([a_PRODUCE, a_FETCH, a_LIST_OFFSETS, a_METADATA, a_OFFSET_COMMIT, a_OFFSET_FETCH, a_FIND_COORDINATOR, a_JOIN_GROUP, a_HEARTBEAT, a_LEAVE_GROUP, a_SYNC_GROUP, a_DESCRIBE_GROUPS, a_LIST_GROUPS, a_API_VERSIONS, a_CREATE_TOPICS, a_DELETE_TOPICS, a_DELETE_RECORDS, a_INIT_PRODUCER_ID, a_DESCRIBE_CONFIGS, a_CREATE_PARTITIONS, a_DELETE_GROUPS, a_OFFSET_DELETE] : List Addr) _ (own_n p0))) (g := (mkF m 476 #[.val (.int p0), .val (.int p1), .val (.int p2), .val (.int p3), .val (.ref b1), .val (.ref b46), .val (.ref b69), .val (.int (own_ix p0)), .val (.int ((p3 &&& (7 : Int32)) - (4 : Int32))), .val (.int (p1 &&& (3 : Int32))), .val (.int ver), .val (.int (1 : Int32))] [(.int (own_ix p0)), (.ref b1)])) rfl rfl (hb hby at_476)) ?_
        refine own_go (x' := T91.setTop (mkF m 479 #[.val (.int p0), .val (.int p1), .val (.int p2), .val (.int p3), .val (.ref b1), .val (.ref b46), .val (.ref b69), .val (.int (own_ix p0)), .val (.int ((p3 &&& (7 : Int32)) - (4 : Int32))), .val (.int (p1 &&& (3 : Int32))), .val (.int ver), .val (.int (1 : Int32))] [(.int ver), (.ref ob100)])) (fun _ k => XS.iload X92.here hx rfl (hb hby at_477) rfl k) ?_
        obtain ⟨cq101, kq101, q101a, q101b, q101c⟩ := isOf hZ e91 E_ob100
        obtain ⟨_, _, ⟨T101, L101, k101, n101⟩, -, X101, ⟨Lc101, hQ101, l101, y101, z101⟩, st101⟩ := X92.virtualBack hx (y := (⟨"com/example/mechelen/mechelen/protocol/ApiKey", "serves", "(S)Z"⟩ : MethodName)) (z := (⟨"com/example/mechelen/mechelen/protocol/ApiKey", "serves", "(S)Z"⟩ : MethodName)) hown (mvT hZ (own_w hw 50 rfl)) (mvT hZ (own_w hw 51 rfl)) (notFace_of_selects (args := #[]) (mvT hZ (own_w hw 53 rfl))) (mvT hZ (own_w hw 53 rfl)) (mvT hZ (own_w hw 52 rfl)) (by decide) (backOf (W := 0) (rm1 l Z a0 hw [] ob100 ver (own_at own_los (own_ix p0)) (own_at own_his (own_ix p0)) h91 n0 Zs F_ob100_minVersion F_ob100_maxVersion) hZ (own_w hw 54 rfl) (own_w hw 3 rfl) (by decide) (by decide)) q101a q101c (g := (mkF m 479 #[.val (.int p0), .val (.int p1), .val (.int p2), .val (.int p3), .val (.ref b1), .val (.ref b46), .val (.ref b69), .val (.int (own_ix p0)), .val (.int ((p3 &&& (7 : Int32)) - (4 : Int32))), .val (.int (p1 &&& (3 : Int32))), .val (.int ver), .val (.int (1 : Int32))] [(.int ver), (.ref ob100)])) rfl (by rw [hml]; rfl) (Steps.refl _) (argsL := [(.int ver)]) (rest := []) (lenOf pd_0 rfl) rfl (by show 2 * 0 + _ ≤ _; exact Nat.le_of_eq rfl) (hb hby at_479) (fun _ _ => ⟨rfl, e91, (by decide : 3 + 0 ≤ _), (by decide : 66 + 0 ≤ _)⟩)
        dsimp only [Pt.U, Pt.locs, Pt.cells, Pt.slots] at X101 l101 y101 z101 st101 hQ101
        subst l101 y101 z101
        obtain ⟨hv101, Nq101, eq101⟩ := hQ101
        subst hv101
        replace Nf := Fr.app Nf Nq101
        refine own_go (x' := T101.setTop (mkF m 482 #[.val (.int p0), .val (.int p1), .val (.int p2), .val (.int p3), .val (.ref b1), .val (.ref b46), .val (.ref b69), .val (.int (own_ix p0)), .val (.int ((p3 &&& (7 : Int32)) - (4 : Int32))), .val (.int (p1 &&& (3 : Int32))), .val (.int ver), .val (.int (1 : Int32))] [(.int (own_sup ver (own_at own_los (own_ix p0)) (own_at own_his (own_ix p0))))])) (fun _ k => st101.trans k) ?_
        refine own_go (x' := T101.setTop (mkF m 492 #[.val (.int p0), .val (.int p1), .val (.int p2), .val (.int p3), .val (.ref b1), .val (.ref b46), .val (.ref b69), .val (.int (own_ix p0)), .val (.int ((p3 &&& (7 : Int32)) - (4 : Int32))), .val (.int (p1 &&& (3 : Int32))), .val (.int ver), .val (.int (1 : Int32))] [(.int (1 : Int32))])) (fun _ k => XS.iload X101.here hx rfl (hb hby at_482) rfl (XS.icmpNo X101.here hx rfl (hb hby at_484) rfl (teq ((if_neg hc452).trans (if_neg hc462))).2 (XS.iconst X101.here hx rfl (hb hby at_487) (XS.goto X101.here hx rfl (pc0 := 488) (pc' := 492) rfl (hb hby at_488) (by decide) (by decide) k)))) ?_
        refine own_retN X101 hx hlk (t := .boolean) hret (by simp) (hb hby at_492) (w := (1 : Int32)) rfl ?_ (by decide) (by decide)
        rw [eq101]
        exact ⟨rfl, Nf⟩
  · refine own_go (x' := T91.setTop (mkF m 424 #[.val (.int p0), .val (.int p1), .val (.int p2), .val (.int p3), .val (.ref b1), .val (.ref b46), .val (.ref b69), .val (.int (own_ix p0)), .val (.int ((p3 &&& (7 : Int32)) - (4 : Int32))), .val (.int (p1 &&& (3 : Int32))), .unset, .unset] [(.int (2 : Int32)), (.int (p1 &&& (3 : Int32)))])) (fun _ k => XS.icmpYes X92.here hx rfl (pc0 := 404) (pc' := 421) rfl (hb hby at_404) rfl (feq hc404).2 (by decide) (by decide) (XS.iload X92.here hx rfl (hb hby at_421) rfl (XS.iconst X92.here hx rfl (hb hby at_423) k))) ?_
    by_cases hc424 : (p1 &&& (3 : Int32)) = (2 : Int32)
    · refine own_go (x' := T91.setTop (mkF m 431 #[.val (.int p0), .val (.int p1), .val (.int p2), .val (.int p3), .val (.ref b1), .val (.ref b46), .val (.ref b69), .val (.int (own_ix p0)), .val (.int ((p3 &&& (7 : Int32)) - (4 : Int32))), .val (.int (p1 &&& (3 : Int32))), .unset, .unset] [(.int (own_ix p0)), (.ref b69)])) (fun _ k => XS.icmpNo X92.here hx rfl (hb hby at_424) rfl (teq hc424).2 (XS.aload X92.here hx rfl (hb hby at_427) rfl rfl (XS.iload X92.here hx rfl (hb hby at_429) rfl k))) ?_
      obtain ⟨cl102, Ar102, q102, Sz102, Nn102, Hh102, Gg102⟩ := id V_b69
      have Hq102 : Has cl102 (own_his.map Value.int) (.int 0) := Hh102
      have hin102 : ¬ ((own_ix p0) < 0 ∨ cl102.slots.size ≤ ((own_ix p0)).toNatClampNeg) := inb_of Sz102 (own_i p0)
      refine own_go (x' := T91.setTop (mkF m 432 #[.val (.int p0), .val (.int p1), .val (.int p2), .val (.int p3), .val (.ref b1), .val (.ref b46), .val (.ref b69), .val (.int (own_ix p0)), .val (.int ((p3 &&& (7 : Int32)) - (4 : Int32))), .val (.int (p1 &&& (3 : Int32))), .unset, .unset] [(.int (own_at own_his (own_ix p0)))])) (X92.iaload hx (j := (own_ix p0)) (v := (.int (own_at own_his (own_ix p0)))) (by rw [e91]; exact Ar102.1) (State.isArrayOf_alike hZ.alike Ar102.2.1) Ar102.2.2 hin102 (Hq102.at hin102 (own_mapI own_his _)) (g := (mkF m 431 #[.val (.int p0), .val (.int p1), .val (.int p2), .val (.int p3), .val (.ref b1), .val (.ref b46), .val (.ref b69), .val (.int (own_ix p0)), .val (.int ((p3 &&& (7 : Int32)) - (4 : Int32))), .val (.int (p1 &&& (3 : Int32))), .unset, .unset] [(.int (own_ix p0)), (.ref b69)])) rfl rfl (hb hby at_431)) ?_
      refine own_go (x' := T91.setTop (mkF m 445 #[.val (.int p0), .val (.int p1), .val (.int p2), .val (.int p3), .val (.ref b1), .val (.ref b46), .val (.ref b69), .val (.int (own_ix p0)), .val (.int ((p3 &&& (7 : Int32)) - (4 : Int32))), .val (.int (p1 &&& (3 : Int32))), .val (.int (((own_at own_his (own_ix p0)) + ((p3 &&& (7 : Int32)) - (4 : Int32))).toInt16.toInt32)), .unset] [])) (fun _ k => XS.iload X92.here hx rfl (hb hby at_432) rfl (XS.iadd X92.here hx rfl (hb hby at_434) rfl (XS.i2s X92.here hx rfl (hb hby at_435) rfl (XS.istore X92.here hx rfl (hb hby at_436) rfl (l' := #[.val (.int p0), .val (.int p1), .val (.int p2), .val (.int p3), .val (.ref b1), .val (.ref b46), .val (.ref b69), .val (.int (own_ix p0)), .val (.int ((p3 &&& (7 : Int32)) - (4 : Int32))), .val (.int (p1 &&& (3 : Int32))), .val (.int (((own_at own_his (own_ix p0)) + ((p3 &&& (7 : Int32)) - (4 : Int32))).toInt16.toInt32)), .unset]) rfl (XS.goto X92.here hx rfl (pc0 := 438) (pc' := 445) rfl (hb hby at_438) (by decide) (by decide) k))))) ?_
      generalize (((own_at own_his (own_ix p0)) + ((p3 &&& (7 : Int32)) - (4 : Int32))).toInt16.toInt32) = ver
      refine own_go (x' := T91.setTop (mkF m 451 #[.val (.int p0), .val (.int p1), .val (.int p2), .val (.int p3), .val (.ref b1), .val (.ref b46), .val (.ref b69), .val (.int (own_ix p0)), .val (.int ((p3 &&& (7 : Int32)) - (4 : Int32))), .val (.int (p1 &&& (3 : Int32))), .val (.int ver), .unset] [(.int (own_ix p0)), (.ref b46), (.int ver)])) (fun _ k => XS.iload X92.here hx rfl (hb hby at_445) rfl (XS.aload X92.here hx rfl (hb hby at_447) rfl rfl (XS.iload X92.here hx rfl (hb hby at_449) rfl k))) ?_
      obtain ⟨cl103, Ar103, q103, Sz103, Nn103, Hh103, Gg103⟩ := id V_b46
      have Hq103 : Has cl103 (own_los.map Value.int) (.int 0) := Hh103
      have hin103 : ¬ ((own_ix p0) < 0 ∨ cl103.slots.size ≤ ((own_ix p0)).toNatClampNeg) := inb_of Sz103 (own_i p0)
      refine own_go (x' := T91.setTop (mkF m 452 #[.val (.int p0), .val (.int p1), .val (.int p2), .val (.int p3), .val (.ref b1), .val (.ref b46), .val (.ref b69), .val (.int (own_ix p0)), .val (.int ((p3 &&& (7 : Int32)) - (4 : Int32))), .val (.int (p1 &&& (3 : Int32))), .val (.int ver), .unset] [(.int (own_at own_los (own_ix p0))), (.int ver)])) (X92.iaload hx (j := (own_ix p0)) (v := (.int (own_at own_los (own_ix p0)))) (by rw [e91]; exact Ar103.1) (State.isArrayOf_alike hZ.alike Ar103.2.1) Ar103.2.2 hin103 (Hq103.at hin103 (own_mapI own_los _)) (g := (mkF m 451 #[.val (.int p0), .val (.int p1), .val (.int p2), .val (.int p3), .val (.ref b1), .val (.ref b46), .val (.ref b69), .val (.int (own_ix p0)), .val (.int ((p3 &&& (7 : Int32)) - (4 : Int32))), .val (.int (p1 &&& (3 : Int32))), .val (.int ver), .unset] [(.int (own_ix p0)), (.ref b46), (.int ver)])) rfl rfl (hb hby at_451)) ?_
      by_cases hc452 : ver < (own_at own_los (own_ix p0))
      · refine own_go (x' := T91.setTop (mkF m 476 #[.val (.int p0), .val (.int p1), .val (.int p2), .val (.int p3), .val (.ref b1), .val (.ref b46), .val (.ref b69), .val (.int (own_ix p0)), .val (.int ((p3 &&& (7 : Int32)) - (4 : Int32))), .val (.int (p1 &&& (3 : Int32))), .val (.int ver), .val (.int (0 : Int32))] [(.int (own_ix p0)), (.ref b1)])) (fun _ k => XS.icmpYes X92.here hx rfl (pc0 := 452) (pc' := 469) rfl (hb hby at_452) rfl (tlt hc452).1 (by decide) (by decide) (XS.iconst X92.here hx rfl (hb hby at_469) (XS.istore X92.here hx rfl (hb hby at_470) rfl (l' := #[.val (.int p0), .val (.int p1), .val (.int p2), .val (.int p3), .val (.ref b1), .val (.ref b46), .val (.ref b69), .val (.int (own_ix p0)), .val (.int ((p3 &&& (7 : Int32)) - (4 : Int32))), .val (.int (p1 &&& (3 : Int32))), .val (.int ver), .val (.int (0 : Int32))]) rfl (XS.aload X92.here hx rfl (hb hby at_472) rfl rfl (XS.iload X92.here hx rfl (hb hby at_474) rfl k))))) ?_
        obtain ⟨cl104, Ar104, q104, Sz104, Nn104, Hh104, Gg104⟩ := id V_b1
        have Hq104 : Has cl104 (([a_PRODUCE, a_FETCH, a_LIST_OFFSETS, a_METADATA, a_OFFSET_COMMIT, a_OFFSET_FETCH, a_FIND_COORDINATOR, a_JOIN_GROUP, a_HEARTBEAT, a_LEAVE_GROUP, a_SYNC_GROUP, a_DESCRIBE_GROUPS, a_LIST_GROUPS, a_API_VERSIONS, a_CREATE_TOPICS, a_DELETE_TOPICS, a_DELETE_RECORDS, a_INIT_PRODUCER_ID, a_DESCRIBE_CONFIGS, a_CREATE_PARTITIONS, a_DELETE_GROUPS, a_OFFSET_DELETE] : List Addr).map Value.ref) .null := Hh104
        obtain ⟨ob104, hob104⟩ : ∃ z, z = ([a_PRODUCE, a_FETCH, a_LIST_OFFSETS, a_METADATA, a_OFFSET_COMMIT, a_OFFSET_FETCH, a_FIND_COORDINATOR, a_JOIN_GROUP, a_HEARTBEAT, a_LEAVE_GROUP, a_SYNC_GROUP, a_DESCRIBE_GROUPS, a_LIST_GROUPS, a_API_VERSIONS, a_CREATE_TOPICS, a_DELETE_TOPICS, a_DELETE_RECORDS, a_INIT_PRODUCER_ID, a_DESCRIBE_CONFIGS, a_CREATE_PARTITIONS, a_DELETE_GROUPS, a_OFFSET_DELETE] : List Addr).getD (own_ix p0).toNatClampNeg 0 := ⟨_, rfl⟩
        obtain ⟨E_ob104, F_ob104_minVersion, F_ob104_maxVersion⟩ := own_key (own_ix p0).toNatClampNeg (own_n p0)
        rw [← hob104] at E_ob104 F_ob104_minVersion F_ob104_maxVersion
        replace E_ob104 := Exa.ext Od.2 E_ob104
        replace F_ob104_minVersion := Fld.ext Od.2 F_ob104_minVersion
        replace F_ob104_maxVersion := Fld.ext Od.2 F_ob104_maxVersion
        have hin104 : ¬ ((own_ix p0) < 0 ∨ cl104.slots.size ≤ ((own_ix p0)).toNatClampNeg) := inb_of Sz104 (own_i p0)
        refine own_go (x' := T91.setTop (mkF m 477 #[.val (.int p0), .val (.int p1), .val (.int p2), .val (.int p3), .val (.ref b1), .val (.ref b46), .val (.ref b69), .val (.int (own_ix p0)), .val (.int ((p3 &&& (7 : Int32)) - (4 : Int32))), .val (.int (p1 &&& (3 : Int32))), .val (.int ver), .val (.int (0 : Int32))] [(.ref ob104)])) (X92.aaload hx (j := (own_ix p0)) (v := (.ref ob104)) (by rw [e91]; exact Ar104.1) (State.isArrayOf_alike hZ.alike Ar104.2.1) rfl Ar104.2.2 hin104 (Hq104.at hin104 (by rw [hob104]; exact own_mapR ([a_PRODUCE, a_FETCH, a_LIST_OFFSETS, a_METADATA, a_OFFSET_COMMIT, a_OFFSET_FETCH, a_FIND_COORDINATOR, a_JOIN_GROUP, a_HEARTBEAT, a_LEAVE_GROUP, a_SYNC_GROUP, a_DESCRIBE_GROUPS, a_LIST_GROUPS, a_API_VERSIONS, a_CREATE_TOPICS, a_DELETE_TOPICS, a_DELETE_RECORDS, a_INIT_PRODUCER_ID, a_DESCRIBE_CONFIGS, a_CREATE_PARTITIONS, a_DELETE_GROUPS, a_OFFSET_DELETE] : List Addr) _ (own_n p0))) (g := (mkF m 476 #[.val (.int p0), .val (.int p1), .val (.int p2), .val (.int p3), .val (.ref b1), .val (.ref b46), .val (.ref b69), .val (.int (own_ix p0)), .val (.int ((p3 &&& (7 : Int32)) - (4 : Int32))), .val (.int (p1 &&& (3 : Int32))), .val (.int ver), .val (.int (0 : Int32))] [(.int (own_ix p0)), (.ref b1)])) rfl rfl (hb hby at_476)) ?_
        refine own_go (x' := T91.setTop (mkF m 479 #[.val (.int p0), .val (.int p1), .val (.int p2), .val (.int p3), .val (.ref b1), .val (.ref b46), .val (.ref b69), .val (.int (own_ix p0)), .val (.int ((p3 &&& (7 : Int32)) - (4 : Int32))), .val (.int (p1 &&& (3 : Int32))), .val (.int ver), .val (.int (0 : Int32))] [(.int ver), (.ref ob104)])) (fun _ k => XS.iload X92.here hx rfl (hb hby at_477) rfl k) ?_
        obtain ⟨cq105, kq105, q105a, q105b, q105c⟩ := isOf hZ e91 E_ob104
        obtain ⟨_, _, ⟨T105, L105, k105, n105⟩, -, X105, ⟨Lc105, hQ105, l105, y105, z105⟩, st105⟩ := X92.virtualBack hx (y := (⟨"com/example/mechelen/mechelen/protocol/ApiKey", "serves", "(S)Z"⟩ : MethodName)) (z := (⟨"com/example/mechelen/mechelen/protocol/ApiKey", "serves", "(S)Z"⟩ : MethodName)) hown (mvT hZ (own_w hw 50 rfl)) (mvT hZ (own_w hw 51 rfl)) (notFace_of_selects (args := #[]) (mvT hZ (own_w hw 53 rfl))) (mvT hZ (own_w hw 53 rfl)) (mvT hZ (own_w hw 52 rfl)) (by decide) (backOf (W := 0) (rm1 l Z a0 hw [] ob104 ver (own_at own_los (own_ix p0)) (own_at own_his (own_ix p0)) h91 n0 Zs F_ob104_minVersion F_ob104_maxVersion) hZ (own_w hw 54 rfl) (own_w hw 3 rfl) (by decide) (by decide)) q105a q105c (g := (mkF m 479 #[.val (.int p0), .val (.int p1), .val (.int p2), .val (.int p3), .val (.ref b1), .val (.ref b46), .val (.ref b69), .val (.int (own_ix p0)), .val (.int ((p3 &&& (7 : Int32)) - (4 : Int32))), .val (.int (p1 &&& (3 : Int32))), .val (.int ver), .val (.int (0 : Int32))] [(.int ver), (.ref ob104)])) rfl (by rw [hml]; rfl) (Steps.refl _) (argsL := [(.int ver)]) (rest := []) (lenOf pd_0 rfl) rfl (by show 2 * 0 + _ ≤ _; exact Nat.le_of_eq rfl) (hb hby at_479) (fun _ _ => ⟨rfl, e91, (by decide : 3 + 0 ≤ _), (by decide : 66 + 0 ≤ _)⟩)
        dsimp only [Pt.U, Pt.locs, Pt.cells, Pt.slots] at X105 l105 y105 z105 st105 hQ105
        subst l105 y105 z105
        obtain ⟨hv105, Nq105, eq105⟩ := hQ105
        subst hv105
        replace Nf := Fr.app Nf Nq105
        refine own_go (x' := T105.setTop (mkF m 482 #[.val (.int p0), .val (.int p1), .val (.int p2), .val (.int p3), .val (.ref b1), .val (.ref b46), .val (.ref b69), .val (.int (own_ix p0)), .val (.int ((p3 &&& (7 : Int32)) - (4 : Int32))), .val (.int (p1 &&& (3 : Int32))), .val (.int ver), .val (.int (0 : Int32))] [(.int (own_sup ver (own_at own_los (own_ix p0)) (own_at own_his (own_ix p0))))])) (fun _ k => st105.trans k) ?_
        refine own_go (x' := T105.setTop (mkF m 492 #[.val (.int p0), .val (.int p1), .val (.int p2), .val (.int p3), .val (.ref b1), .val (.ref b46), .val (.ref b69), .val (.int (own_ix p0)), .val (.int ((p3 &&& (7 : Int32)) - (4 : Int32))), .val (.int (p1 &&& (3 : Int32))), .val (.int ver), .val (.int (0 : Int32))] [(.int (1 : Int32))])) (fun _ k => XS.iload X105.here hx rfl (hb hby at_482) rfl (XS.icmpNo X105.here hx rfl (hb hby at_484) rfl (teq (if_pos hc452)).2 (XS.iconst X105.here hx rfl (hb hby at_487) (XS.goto X105.here hx rfl (pc0 := 488) (pc' := 492) rfl (hb hby at_488) (by decide) (by decide) k)))) ?_
        refine own_retN X105 hx hlk (t := .boolean) hret (by simp) (hb hby at_492) (w := (1 : Int32)) rfl ?_ (by decide) (by decide)
        rw [eq105]
        exact ⟨rfl, Nf⟩
      · refine own_go (x' := T91.setTop (mkF m 461 #[.val (.int p0), .val (.int p1), .val (.int p2), .val (.int p3), .val (.ref b1), .val (.ref b46), .val (.ref b69), .val (.int (own_ix p0)), .val (.int ((p3 &&& (7 : Int32)) - (4 : Int32))), .val (.int (p1 &&& (3 : Int32))), .val (.int ver), .unset] [(.int (own_ix p0)), (.ref b69), (.int ver)])) (fun _ k => XS.icmpNo X92.here hx rfl (hb hby at_452) rfl (flt hc452).1 (XS.iload X92.here hx rfl (hb hby at_455) rfl (XS.aload X92.here hx rfl (hb hby at_457) rfl rfl (XS.iload X92.here hx rfl (hb hby at_459) rfl k)))) ?_
        obtain ⟨cl106, Ar106, q106, Sz106, Nn106, Hh106, Gg106⟩ := id V_b69
        have Hq106 : Has cl106 (own_his.map Value.int) (.int 0) := Hh106
        have hin106 : ¬ ((own_ix p0) < 0 ∨ cl106.slots.size ≤ ((own_ix p0)).toNatClampNeg) := inb_of Sz106 (own_i p0)
        refine own_go (x' := T91.setTop (mkF m 462 #[.val (.int p0), .val (.int p1), .val (.int p2), .val (.int p3), .val (.ref b1), .val (.ref b46), .val (.ref b69), .val (.int (own_ix p0)), .val (.int ((p3 &&& (7 : Int32)) - (4 : Int32))), .val (.int (p1 &&& (3 : Int32))), .val (.int ver), .unset] [(.int (own_at own_his (own_ix p0))), (.int ver)])) (X92.iaload hx (j := (own_ix p0)) (v := (.int (own_at own_his (own_ix p0)))) (by rw [e91]; exact Ar106.1) (State.isArrayOf_alike hZ.alike Ar106.2.1) Ar106.2.2 hin106 (Hq106.at hin106 (own_mapI own_his _)) (g := (mkF m 461 #[.val (.int p0), .val (.int p1), .val (.int p2), .val (.int p3), .val (.ref b1), .val (.ref b46), .val (.ref b69), .val (.int (own_ix p0)), .val (.int ((p3 &&& (7 : Int32)) - (4 : Int32))), .val (.int (p1 &&& (3 : Int32))), .val (.int ver), .unset] [(.int (own_ix p0)), (.ref b69), (.int ver)])) rfl rfl (hb hby at_461)) ?_
        by_cases hc462 : (own_at own_his (own_ix p0)) < ver
        · refine own_go (x' := T91.setTop (mkF m 476 #[.val (.int p0), .val (.int p1), .val (.int p2), .val (.int p3), .val (.ref b1), .val (.ref b46), .val (.ref b69), .val (.int (own_ix p0)), .val (.int ((p3 &&& (7 : Int32)) - (4 : Int32))), .val (.int (p1 &&& (3 : Int32))), .val (.int ver), .val (.int (0 : Int32))] [(.int (own_ix p0)), (.ref b1)])) (fun _ k => XS.icmpYes X92.here hx rfl (pc0 := 462) (pc' := 469) rfl (hb hby at_462) rfl (tlt hc462).2.2.1 (by decide) (by decide) (XS.iconst X92.here hx rfl (hb hby at_469) (XS.istore X92.here hx rfl (hb hby at_470) rfl (l' := #[.val (.int p0), .val (.int p1), .val (.int p2), .val (.int p3), .val (.ref b1), .val (.ref b46), .val (.ref b69), .val (.int (own_ix p0)), .val (.int ((p3 &&& (7 : Int32)) - (4 : Int32))), .val (.int (p1 &&& (3 : Int32))), .val (.int ver), .val (.int (0 : Int32))]) rfl (XS.aload X92.here hx rfl (hb hby at_472) rfl rfl (XS.iload X92.here hx rfl (hb hby at_474) rfl k))))) ?_
          obtain ⟨cl107, Ar107, q107, Sz107, Nn107, Hh107, Gg107⟩ := id V_b1
          have Hq107 : Has cl107 (([a_PRODUCE, a_FETCH, a_LIST_OFFSETS, a_METADATA, a_OFFSET_COMMIT, a_OFFSET_FETCH, a_FIND_COORDINATOR, a_JOIN_GROUP, a_HEARTBEAT, a_LEAVE_GROUP, a_SYNC_GROUP, a_DESCRIBE_GROUPS, a_LIST_GROUPS, a_API_VERSIONS, a_CREATE_TOPICS, a_DELETE_TOPICS, a_DELETE_RECORDS, a_INIT_PRODUCER_ID, a_DESCRIBE_CONFIGS, a_CREATE_PARTITIONS, a_DELETE_GROUPS, a_OFFSET_DELETE] : List Addr).map Value.ref) .null := Hh107
          obtain ⟨ob107, hob107⟩ : ∃ z, z = ([a_PRODUCE, a_FETCH, a_LIST_OFFSETS, a_METADATA, a_OFFSET_COMMIT, a_OFFSET_FETCH, a_FIND_COORDINATOR, a_JOIN_GROUP, a_HEARTBEAT, a_LEAVE_GROUP, a_SYNC_GROUP, a_DESCRIBE_GROUPS, a_LIST_GROUPS, a_API_VERSIONS, a_CREATE_TOPICS, a_DELETE_TOPICS, a_DELETE_RECORDS, a_INIT_PRODUCER_ID, a_DESCRIBE_CONFIGS, a_CREATE_PARTITIONS, a_DELETE_GROUPS, a_OFFSET_DELETE] : List Addr).getD (own_ix p0).toNatClampNeg 0 := ⟨_, rfl⟩
          obtain ⟨E_ob107, F_ob107_minVersion, F_ob107_maxVersion⟩ := own_key (own_ix p0).toNatClampNeg (own_n p0)
          rw [← hob107] at E_ob107 F_ob107_minVersion F_ob107_maxVersion
          replace E_ob107 := Exa.ext Od.2 E_ob107
          replace F_ob107_minVersion := Fld.ext Od.2 F_ob107_minVersion
          replace F_ob107_maxVersion := Fld.ext Od.2 F_ob107_maxVersion
          have hin107 : ¬ ((own_ix p0) < 0 ∨ cl107.slots.size ≤ ((own_ix p0)).toNatClampNeg) := inb_of Sz107 (own_i p0)
          refine own_go (x' := T91.setTop (mkF m 477 #[.val (.int p0), .val (.int p1), .val (.int p2), .val (.int p3), .val (.ref b1), .val (.ref b46), .val (.ref b69), .val (.int (own_ix p0)), .val (.int ((p3 &&& (7 : Int32)) - (4 : Int32))), .val (.int (p1 &&& (3 : Int32))), .val (.int ver), .val (.int (0 : Int32))] [(.ref ob107)])) (X92.aaload hx (j := (own_ix p0)) (v := (.ref ob107)) (by rw [e91]; exact Ar107.1) (State.isArrayOf_alike hZ.alike Ar107.2.1) rfl Ar107.2.2 hin107 (Hq107.at hin107 (by rw [hob107]; exact own_mapR ([a_PRODUCE, a_FETCH, a_LIST_OFFSETS, a_METADATA, a_OFFSET_COMMIT, a_OFFSET_FETCH, a_FIND_COORDINATOR, a_JOIN_GROUP, a_HEARTBEAT, a_LEAVE_GROUP, a_SYNC_GROUP, a_DESCRIBE_GROUPS, a_LIST_GROUPS, a_API_VERSIONS, a_CREATE_TOPICS, a_DELETE_TOPICS, a_DELETE_RECORDS, a_INIT_PRODUCER_ID, a_DESCRIBE_CONFIGS, a_CREATE_PARTITIONS, a_DELETE_GROUPS, a_OFFSET_DELETE] : List Addr) _ (own_n p0))) (g := (mkF m 476 #[.val (.int p0), .val (.int p1), .val (.int p2), .val (.int p3), .val (.ref b1), .val (.ref b46), .val (.ref b69), .val (.int (own_ix p0)), .val (.int ((p3 &&& (7 : Int32)) - (4 : Int32))), .val (.int (p1 &&& (3 : Int32))), .val (.int ver), .val (.int (0 : Int32))] [(.int (own_ix p0)), (.ref b1)])) rfl rfl (hb hby at_476)) ?_
          refine own_go (x' := T91.setTop (mkF m 479 #[.val (.int p0), .val (.int p1), .val (.int p2), .val (.int p3), .val (.ref b1), .val (.ref b46), .val (.ref b69), .val (.int (own_ix p0)), .val (.int ((p3 &&& (7 : Int32)) - (4 : Int32))), .val (.int (p1 &&& (3 : Int32))), .val (.int ver), .val (.int (0 : Int32))] [(.int ver), (.ref ob107)])) (fun _ k => XS.iload X92.here hx rfl (hb hby at_477) rfl k) ?_
          obtain ⟨cq108, kq108, q108a, q108b, q108c⟩ := isOf hZ e91 E_ob107
          obtain ⟨_, _, ⟨T108, L108, k108, n108⟩, -, X108, ⟨Lc108, hQ108, l108, y108, z108⟩, st108⟩ := X92.virtualBack hx (y := (⟨"com/example/mechelen/mechelen/protocol/ApiKey", "serves", "(S)Z"⟩ : MethodName)) (z := (⟨"com/example/mechelen/mechelen/protocol/ApiKey", "serves", "(S)Z"⟩ : MethodName)) hown (mvT hZ (own_w hw 50 rfl)) (mvT hZ (own_w hw 51 rfl)) (notFace_of_selects (args := #[]) (mvT hZ (own_w hw 53 rfl))) (mvT hZ (own_w hw 53 rfl)) (mvT hZ (own_w hw 52 rfl)) (by decide) (backOf (W := 0) (rm1 l Z a0 hw [] ob107 ver (own_at own_los (own_ix p0)) (own_at own_his (own_ix p0)) h91 n0 Zs F_ob107_minVersion F_ob107_maxVersion) hZ (own_w hw 54 rfl) (own_w hw 3 rfl) (by decide) (by decide)) q108a q108c (g := (mkF m 479 #[.val (.int p0), .val (.int p1), .val (.int p2), .val (.int p3), .val (.ref b1), .val (.ref b46), .val (.ref b69), .val (.int (own_ix p0)), .val (.int ((p3 &&& (7 : Int32)) - (4 : Int32))), .val (.int (p1 &&& (3 : Int32))), .val (.int ver), .val (.int (0 : Int32))] [(.int ver), (.ref ob107)])) rfl (by rw [hml]; rfl) (Steps.refl _) (argsL := [(.int ver)]) (rest := []) (lenOf pd_0 rfl) rfl (by show 2 * 0 + _ ≤ _; exact Nat.le_of_eq rfl) (hb hby at_479) (fun _ _ => ⟨rfl, e91, (by decide : 3 + 0 ≤ _), (by decide : 66 + 0 ≤ _)⟩)
          dsimp only [Pt.U, Pt.locs, Pt.cells, Pt.slots] at X108 l108 y108 z108 st108 hQ108
          subst l108 y108 z108
          obtain ⟨hv108, Nq108, eq108⟩ := hQ108
          subst hv108
          replace Nf := Fr.app Nf Nq108
          refine own_go (x' := T108.setTop (mkF m 482 #[.val (.int p0), .val (.int p1), .val (.int p2), .val (.int p3), .val (.ref b1), .val (.ref b46), .val (.ref b69), .val (.int (own_ix p0)), .val (.int ((p3 &&& (7 : Int32)) - (4 : Int32))), .val (.int (p1 &&& (3 : Int32))), .val (.int ver), .val (.int (0 : Int32))] [(.int (own_sup ver (own_at own_los (own_ix p0)) (own_at own_his (own_ix p0))))])) (fun _ k => st108.trans k) ?_
          refine own_go (x' := T108.setTop (mkF m 492 #[.val (.int p0), .val (.int p1), .val (.int p2), .val (.int p3), .val (.ref b1), .val (.ref b46), .val (.ref b69), .val (.int (own_ix p0)), .val (.int ((p3 &&& (7 : Int32)) - (4 : Int32))), .val (.int (p1 &&& (3 : Int32))), .val (.int ver), .val (.int (0 : Int32))] [(.int (1 : Int32))])) (fun _ k => XS.iload X108.here hx rfl (hb hby at_482) rfl (XS.icmpNo X108.here hx rfl (hb hby at_484) rfl (teq ((if_neg hc452).trans (if_pos hc462))).2 (XS.iconst X108.here hx rfl (hb hby at_487) (XS.goto X108.here hx rfl (pc0 := 488) (pc' := 492) rfl (hb hby at_488) (by decide) (by decide) k)))) ?_
          refine own_retN X108 hx hlk (t := .boolean) hret (by simp) (hb hby at_492) (w := (1 : Int32)) rfl ?_ (by decide) (by decide)
          rw [eq108]
          exact ⟨rfl, Nf⟩
        · refine own_go (x' := T91.setTop (mkF m 476 #[.val (.int p0), .val (.int p1), .val (.int p2), .val (.int p3), .val (.ref b1), .val (.ref b46), .val (.ref b69), .val (.int (own_ix p0)), .val (.int ((p3 &&& (7 : Int32)) - (4 : Int32))), .val (.int (p1 &&& (3 : Int32))), .val (.int ver), .val (.int (1 : Int32))] [(.int (own_ix p0)), (.ref b1)])) (fun _ k => XS.icmpNo X92.here hx rfl (hb hby at_462) rfl (flt hc462).2.2.1 (XS.iconst X92.here hx rfl (hb hby at_465) (XS.goto X92.here hx rfl (pc0 := 466) (pc' := 470) rfl (hb hby at_466) (by decide) (by decide) (XS.istore X92.here hx rfl (hb hby at_470) rfl (l' := #[.val (.int p0), .val (.int p1), .val (.int p2), .val (.int p3), .val (.ref b1), .val (.ref b46), .val (.ref b69), .val (.int (own_ix p0)), .val (.int ((p3 &&& (7 : Int32)) - (4 : Int32))), .val (.int (p1 &&& (3 : Int32))), .val (.int ver), .val (.int (1 : Int32))]) rfl (XS.aload X92.here hx rfl (hb hby at_472) rfl rfl (XS.iload X92.here hx rfl (hb hby at_474) rfl k)))))) ?_
          obtain ⟨cl109, Ar109, q109, Sz109, Nn109, Hh109, Gg109⟩ := id V_b1
          have Hq109 : Has cl109 (([a_PRODUCE, a_FETCH, a_LIST_OFFSETS, a_METADATA, a_OFFSET_COMMIT, a_OFFSET_FETCH, a_FIND_COORDINATOR, a_JOIN_GROUP, a_HEARTBEAT, a_LEAVE_GROUP, a_SYNC_GROUP, a_DESCRIBE_GROUPS, a_LIST_GROUPS, a_API_VERSIONS, a_CREATE_TOPICS, a_DELETE_TOPICS, a_DELETE_RECORDS, a_INIT_PRODUCER_ID, a_DESCRIBE_CONFIGS, a_CREATE_PARTITIONS, a_DELETE_GROUPS, a_OFFSET_DELETE] : List Addr).map Value.ref) .null := Hh109
          obtain ⟨ob109, hob109⟩ : ∃ z, z = ([a_PRODUCE, a_FETCH, a_LIST_OFFSETS, a_METADATA, a_OFFSET_COMMIT, a_OFFSET_FETCH, a_FIND_COORDINATOR, a_JOIN_GROUP, a_HEARTBEAT, a_LEAVE_GROUP, a_SYNC_GROUP, a_DESCRIBE_GROUPS, a_LIST_GROUPS, a_API_VERSIONS, a_CREATE_TOPICS, a_DELETE_TOPICS, a_DELETE_RECORDS, a_INIT_PRODUCER_ID, a_DESCRIBE_CONFIGS, a_CREATE_PARTITIONS, a_DELETE_GROUPS, a_OFFSET_DELETE] : List Addr).getD (own_ix p0).toNatClampNeg 0 := ⟨_, rfl⟩
          obtain ⟨E_ob109, F_ob109_minVersion, F_ob109_maxVersion⟩ := own_key (own_ix p0).toNatClampNeg (own_n p0)
          rw [← hob109] at E_ob109 F_ob109_minVersion F_ob109_maxVersion
          replace E_ob109 := Exa.ext Od.2 E_ob109
          replace F_ob109_minVersion := Fld.ext Od.2 F_ob109_minVersion
          replace F_ob109_maxVersion := Fld.ext Od.2 F_ob109_maxVersion
          have hin109 : ¬ ((own_ix p0) < 0 ∨ cl109.slots.size ≤ ((own_ix p0)).toNatClampNeg) := inb_of Sz109 (own_i p0)
          refine own_go (x' := T91.setTop (mkF m 477 #[.val (.int p0), .val (.int p1), .val (.int p2), .val (.int p3), .val (.ref b1), .val (.ref b46), .val (.ref b69), .val (.int (own_ix p0)), .val (.int ((p3 &&& (7 : Int32)) - (4 : Int32))), .val (.int (p1 &&& (3 : Int32))), .val (.int ver), .val (.int (1 : Int32))] [(.ref ob109)])) (X92.aaload hx (j := (own_ix p0)) (v := (.ref ob109)) (by rw [e91]; exact Ar109.1) (State.isArrayOf_alike hZ.alike Ar109.2.1) rfl Ar109.2.2 hin109 (Hq109.at hin109 (by rw [hob109]; exact own_mapR ([a_PRODUCE, a_FETCH, a_LIST_OFFSETS, a_METADATA, a_OFFSET_COMMIT, a_OFFSET_FETCH, a_FIND_COORDINATOR, a_JOIN_GROUP, a_HEARTBEAT, a_LEAVE_GROUP, a_SYNC_GROUP, a_DESCRIBE_GROUPS, a_LIST_GROUPS, a_API_VERSIONS, a_CREATE_TOPICS, a_DELETE_TOPICS, a_DELETE_RECORDS, a_INIT_PRODUCER_ID, a_DESCRIBE_CONFIGS, a_CREATE_PARTITIONS, a_DELETE_GROUPS, a_OFFSET_DELETE] : List Addr) _ (own_n p0))) (g := (mkF m 476 #[.val (.int p0), .val (.int p1), .val (.int p2), .val (.int p3), .val (.ref b1), .val (.ref b46), .val (.ref b69), .val (.int (own_ix p0)), .val (.int ((p3 &&& (7 : Int32)) - (4 : Int32))), .val (.int (p1 &&& (3 : Int32))), .val (.int ver), .val (.int (1 : Int32))] [(.int (own_ix p0)), (.ref b1)])) rfl rfl (hb hby at_476)) ?_
          refine own_go (x' := T91.setTop (mkF m 479 #[.val (.int p0), .val (.int p1), .val (.int p2), .val (.int p3), .val (.ref b1), .val (.ref b46), .val (.ref b69), .val (.int (own_ix p0)), .val (.int ((p3 &&& (7 : Int32)) - (4 : Int32))), .val (.int (p1 &&& (3 : Int32))), .val (.int ver), .val (.int (1 : Int32))] [(.int ver), (.ref ob109)])) (fun _ k => XS.iload X92.here hx rfl (hb hby at_477) rfl k) ?_
          obtain ⟨cq110, kq110, q110a, q110b, q110c⟩ := isOf hZ e91 E_ob109
          obtain ⟨_, _, ⟨T110, L110, k110, n110⟩, -, X110, ⟨Lc110, hQ110, l110, y110, z110⟩, st110⟩ := X92.virtualBack hx (y := (⟨"com/example/mechelen/mechelen/protocol/ApiKey", "serves", "(S)Z"⟩ : MethodName)) (z := (⟨"com/example/mechelen/mechelen/protocol/ApiKey", "serves", "(S)Z"⟩ : MethodName)) hown (mvT hZ (own_w hw 50 rfl)) (mvT hZ (own_w hw 51 rfl)) (notFace_of_selects (args := #[]) (mvT hZ (own_w hw 53 rfl))) (mvT hZ (own_w hw 53 rfl)) (mvT hZ (own_w hw 52 rfl)) (by decide) (backOf (W := 0) (rm1 l Z a0 hw [] ob109 ver (own_at own_los (own_ix p0)) (own_at own_his (own_ix p0)) h91 n0 Zs F_ob109_minVersion F_ob109_maxVersion) hZ (own_w hw 54 rfl) (own_w hw 3 rfl) (by decide) (by decide)) q110a q110c (g := (mkF m 479 #[.val (.int p0), .val (.int p1), .val (.int p2), .val (.int p3), .val (.ref b1), .val (.ref b46), .val (.ref b69), .val (.int (own_ix p0)), .val (.int ((p3 &&& (7 : Int32)) - (4 : Int32))), .val (.int (p1 &&& (3 : Int32))), .val (.int ver), .val (.int (1 : Int32))] [(.int ver), (.ref ob109)])) rfl (by rw [hml]; rfl) (Steps.refl _) (argsL := [(.int ver)]) (rest := []) (lenOf pd_0 rfl) rfl (by show 2 * 0 + _ ≤ _; exact Nat.le_of_eq rfl) (hb hby at_479) (fun _ _ => ⟨rfl, e91, (by decide : 3 + 0 ≤ _), (by decide : 66 + 0 ≤ _)⟩)
          dsimp only [Pt.U, Pt.locs, Pt.cells, Pt.slots] at X110 l110 y110 z110 st110 hQ110
          subst l110 y110 z110
          obtain ⟨hv110, Nq110, eq110⟩ := hQ110
          subst hv110
          replace Nf := Fr.app Nf Nq110
          refine own_go (x' := T110.setTop (mkF m 482 #[.val (.int p0), .val (.int p1), .val (.int p2), .val (.int p3), .val (.ref b1), .val (.ref b46), .val (.ref b69), .val (.int (own_ix p0)), .val (.int ((p3 &&& (7 : Int32)) - (4 : Int32))), .val (.int (p1 &&& (3 : Int32))), .val (.int ver), .val (.int (1 : Int32))] [(.int (own_sup ver (own_at own_los (own_ix p0)) (own_at own_his (own_ix p0))))])) (fun _ k => st110.trans k) ?_
          refine own_go (x' := T110.setTop (mkF m 492 #[.val (.int p0), .val (.int p1), .val (.int p2), .val (.int p3), .val (.ref b1), .val (.ref b46), .val (.ref b69), .val (.int (own_ix p0)), .val (.int ((p3 &&& (7 : Int32)) - (4 : Int32))), .val (.int (p1 &&& (3 : Int32))), .val (.int ver), .val (.int (1 : Int32))] [(.int (1 : Int32))])) (fun _ k => XS.iload X110.here hx rfl (hb hby at_482) rfl (XS.icmpNo X110.here hx rfl (hb hby at_484) rfl (teq ((if_neg hc452).trans (if_neg hc462))).2 (XS.iconst X110.here hx rfl (hb hby at_487) (XS.goto X110.here hx rfl (pc0 := 488) (pc' := 492) rfl (hb hby at_488) (by decide) (by decide) k)))) ?_
          refine own_retN X110 hx hlk (t := .boolean) hret (by simp) (hb hby at_492) (w := (1 : Int32)) rfl ?_ (by decide) (by decide)
          rw [eq110]
          exact ⟨rfl, Nf⟩
    · refine own_go (x' := T91.setTop (mkF m 445 #[.val (.int p0), .val (.int p1), .val (.int p2), .val (.int p3), .val (.ref b1), .val (.ref b46), .val (.ref b69), .val (.int (own_ix p0)), .val (.int ((p3 &&& (7 : Int32)) - (4 : Int32))), .val (.int (p1 &&& (3 : Int32))), .val (.int (p2.toInt16.toInt32)), .unset] [])) (fun _ k => XS.icmpYes X92.here hx rfl (pc0 := 424) (pc' := 441) rfl (hb hby at_424) rfl (feq hc424).2 (by decide) (by decide) (XS.iloadN X92.here hx rfl (hb hby at_441) rfl (XS.i2s X92.here hx rfl (hb hby at_442) rfl (XS.istore X92.here hx rfl (hb hby at_443) rfl (l' := #[.val (.int p0), .val (.int p1), .val (.int p2), .val (.int p3), .val (.ref b1), .val (.ref b46), .val (.ref b69), .val (.int (own_ix p0)), .val (.int ((p3 &&& (7 : Int32)) - (4 : Int32))), .val (.int (p1 &&& (3 : Int32))), .val (.int (p2.toInt16.toInt32)), .unset]) rfl k)))) ?_
      generalize (p2.toInt16.toInt32) = ver
      refine own_go (x' := T91.setTop (mkF m 451 #[.val (.int p0), .val (.int p1), .val (.int p2), .val (.int p3), .val (.ref b1), .val (.ref b46), .val (.ref b69), .val (.int (own_ix p0)), .val (.int ((p3 &&& (7 : Int32)) - (4 : Int32))), .val (.int (p1 &&& (3 : Int32))), .val (.int ver), .unset] [(.int (own_ix p0)), (.ref b46), (.int ver)])) (fun _ k => XS.iload X92.here hx rfl (hb hby at_445) rfl (XS.aload X92.here hx rfl (hb hby at_447) rfl rfl (XS.iload X92.here hx rfl (hb hby at_449) rfl k))) ?_
      obtain ⟨cl111, Ar111, q111, Sz111, Nn111, Hh111, Gg111⟩ := id V_b46
      have Hq111 : Has cl111 (own_los.map Value.int) (.int 0) := Hh111
      have hin111 : ¬ ((own_ix p0) < 0 ∨ cl111.slots.size ≤ ((own_ix p0)).toNatClampNeg) := inb_of Sz111 (own_i p0)
      refine own_go (x' := T91.setTop (mkF m 452 #[.val (.int p0), .val (.int p1), .val (.int p2), .val (.int p3), .val (.ref b1), .val (.ref b46), .val (.ref b69), .val (.int (own_ix p0)), .val (.int ((p3 &&& (7 : Int32)) - (4 : Int32))), .val (.int (p1 &&& (3 : Int32))), .val (.int ver), .unset] [(.int (own_at own_los (own_ix p0))), (.int ver)])) (X92.iaload hx (j := (own_ix p0)) (v := (.int (own_at own_los (own_ix p0)))) (by rw [e91]; exact Ar111.1) (State.isArrayOf_alike hZ.alike Ar111.2.1) Ar111.2.2 hin111 (Hq111.at hin111 (own_mapI own_los _)) (g := (mkF m 451 #[.val (.int p0), .val (.int p1), .val (.int p2), .val (.int p3), .val (.ref b1), .val (.ref b46), .val (.ref b69), .val (.int (own_ix p0)), .val (.int ((p3 &&& (7 : Int32)) - (4 : Int32))), .val (.int (p1 &&& (3 : Int32))), .val (.int ver), .unset] [(.int (own_ix p0)), (.ref b46), (.int ver)])) rfl rfl (hb hby at_451)) ?_
      by_cases hc452 : ver < (own_at own_los (own_ix p0))
      · refine own_go (x' := T91.setTop (mkF m 476 #[.val (.int p0), .val (.int p1), .val (.int p2), .val (.int p3), .val (.ref b1), .val (.ref b46), .val (.ref b69), .val (.int (own_ix p0)), .val (.int ((p3 &&& (7 : Int32)) - (4 : Int32))), .val (.int (p1 &&& (3 : Int32))), .val (.int ver), .val (.int (0 : Int32))] [(.int (own_ix p0)), (.ref b1)])) (fun _ k => XS.icmpYes X92.here hx rfl (pc0 := 452) (pc' := 469) rfl (hb hby at_452) rfl (tlt hc452).1 (by decide) (by decide) (XS.iconst X92.here hx rfl (hb hby at_469) (XS.istore X92.here hx rfl (hb hby at_470) rfl (l' := #[.val (.int p0), .val (.int p1), .val (.int p2), .val (.int p3), .val (.ref b1), .val (.ref b46), .val (.ref b69), .val (.int (own_ix p0)), .val (.int ((p3 &&& (7 : Int32)) - (4 : Int32))), .val (.int (p1 &&& (3 : Int32))), .val (.int ver), .val (.int (0 : Int32))]) rfl (XS.aload X92.here hx rfl (hb hby at_472) rfl rfl (XS.iload X92.here hx rfl (hb hby at_474) rfl k))))) ?_
        obtain ⟨cl112, Ar112, q112, Sz112, Nn112, Hh112, Gg112⟩ := id V_b1
        have Hq112 : Has cl112 (([a_PRODUCE, a_FETCH, a_LIST_OFFSETS, a_METADATA, a_OFFSET_COMMIT, a_OFFSET_FETCH, a_FIND_COORDINATOR, a_JOIN_GROUP, a_HEARTBEAT, a_LEAVE_GROUP, a_SYNC_GROUP, a_DESCRIBE_GROUPS, a_LIST_GROUPS, a_API_VERSIONS, a_CREATE_TOPICS, a_DELETE_TOPICS, a_DELETE_RECORDS, a_INIT_PRODUCER_ID, a_DESCRIBE_CONFIGS, a_CREATE_PARTITIONS, a_DELETE_GROUPS, a_OFFSET_DELETE] : List Addr).map Value.ref) .null := Hh112
        obtain ⟨ob112, hob112⟩ : ∃ z, z = ([a_PRODUCE, a_FETCH, a_LIST_OFFSETS, a_METADATA, a_OFFSET_COMMIT, a_OFFSET_FETCH, a_FIND_COORDINATOR, a_JOIN_GROUP, a_HEARTBEAT, a_LEAVE_GROUP, a_SYNC_GROUP, a_DESCRIBE_GROUPS, a_LIST_GROUPS, a_API_VERSIONS, a_CREATE_TOPICS, a_DELETE_TOPICS, a_DELETE_RECORDS, a_INIT_PRODUCER_ID, a_DESCRIBE_CONFIGS, a_CREATE_PARTITIONS, a_DELETE_GROUPS, a_OFFSET_DELETE] : List Addr).getD (own_ix p0).toNatClampNeg 0 := ⟨_, rfl⟩
        obtain ⟨E_ob112, F_ob112_minVersion, F_ob112_maxVersion⟩ := own_key (own_ix p0).toNatClampNeg (own_n p0)
        rw [← hob112] at E_ob112 F_ob112_minVersion F_ob112_maxVersion
        replace E_ob112 := Exa.ext Od.2 E_ob112
        replace F_ob112_minVersion := Fld.ext Od.2 F_ob112_minVersion
        replace F_ob112_maxVersion := Fld.ext Od.2 F_ob112_maxVersion
        have hin112 : ¬ ((own_ix p0) < 0 ∨ cl112.slots.size ≤ ((own_ix p0)).toNatClampNeg) := inb_of Sz112 (own_i p0)
        refine own_go (x' := T91.setTop (mkF m 477 #[.val (.int p0), .val (.int p1), .val (.int p2), .val (.int p3), .val (.ref b1), .val (.ref b46), .val (.ref b69), .val (.int (own_ix p0)), .val (.int ((p3 &&& (7 : Int32)) - (4 : Int32))), .val (.int (p1 &&& (3 : Int32))), .val (.int ver), .val (.int (0 : Int32))] [(.ref ob112)])) (X92.aaload hx (j := (own_ix p0)) (v := (.ref ob112)) (by rw [e91]; exact Ar112.1) (State.isArrayOf_alike hZ.alike Ar112.2.1) rfl Ar112.2.2 hin112 (Hq112.at hin112 (by rw [hob112]; exact own_mapR ([a_PRODUCE, a_FETCH, a_LIST_OFFSETS, a_METADATA, a_OFFSET_COMMIT, a_OFFSET_FETCH, a_FIND_COORDINATOR, a_JOIN_GROUP, a_HEARTBEAT, a_LEAVE_GROUP, a_SYNC_GROUP, a_DESCRIBE_GROUPS, a_LIST_GROUPS, a_API_VERSIONS, a_CREATE_TOPICS, a_DELETE_TOPICS, a_DELETE_RECORDS, a_INIT_PRODUCER_ID, a_DESCRIBE_CONFIGS, a_CREATE_PARTITIONS, a_DELETE_GROUPS, a_OFFSET_DELETE] : List Addr) _ (own_n p0))) (g := (mkF m 476 #[.val (.int p0), .val (.int p1), .val (.int p2), .val (.int p3), .val (.ref b1), .val (.ref b46), .val (.ref b69), .val (.int (own_ix p0)), .val (.int ((p3 &&& (7 : Int32)) - (4 : Int32))), .val (.int (p1 &&& (3 : Int32))), .val (.int ver), .val (.int (0 : Int32))] [(.int (own_ix p0)), (.ref b1)])) rfl rfl (hb hby at_476)) ?_
        refine own_go (x' := T91.setTop (mkF m 479 #[.val (.int p0), .val (.int p1), .val (.int p2), .val (.int p3), .val (.ref b1), .val (.ref b46), .val (.ref b69), .val (.int (own_ix p0)), .val (.int ((p3 &&& (7 : Int32)) - (4 : Int32))), .val (.int (p1 &&& (3 : Int32))), .val (.int ver), .val (.int (0 : Int32))] [(.int ver), (.ref ob112)])) (fun _ k => XS.iload X92.here hx rfl (hb hby at_477) rfl k) ?_
        obtain ⟨cq113, kq113, q113a, q113b, q113c⟩ := isOf hZ e91 E_ob112
        obtain ⟨_, _, ⟨T113, L113, k113, n113⟩, -, X113, ⟨Lc113, hQ113, l113, y113, z113⟩, st113⟩ := X92.virtualBack hx (y := (⟨"com/example/mechelen/mechelen/protocol/ApiKey", "serves", "(S)Z"⟩ : MethodName)) (z := (⟨"com/example/mechelen/mechelen/protocol/ApiKey", "serves", "(S)Z"⟩ : MethodName)) hown (mvT hZ (own_w hw 50 rfl)) (mvT hZ (own_w hw 51 rfl)) (notFace_of_selects (args := #[]) (mvT hZ (own_w hw 53 rfl))) (mvT hZ (own_w hw 53 rfl)) (mvT hZ (own_w hw 52 rfl)) (by decide) (backOf (W := 0) (rm1 l Z a0 hw [] ob112 ver (own_at own_los (own_ix p0)) (own_at own_his (own_ix p0)) h91 n0 Zs F_ob112_minVersion F_ob112_maxVersion) hZ (own_w hw 54 rfl) (own_w hw 3 rfl) (by decide) (by decide)) q113a q113c (g := (mkF m 479 #[.val (.int p0), .val (.int p1), .val (.int p2), .val (.int p3), .val (.ref b1), .val (.ref b46), .val (.ref b69), .val (.int (own_ix p0)), .val (.int ((p3 &&& (7 : Int32)) - (4 : Int32))), .val (.int (p1 &&& (3 : Int32))), .val (.int ver), .val (.int (0 : Int32))] [(.int ver), (.ref ob112)])) rfl (by rw [hml]; rfl) (Steps.refl _) (argsL := [(.int ver)]) (rest := []) (lenOf pd_0 rfl) rfl (by show 2 * 0 + _ ≤ _; exact Nat.le_of_eq rfl) (hb hby at_479) (fun _ _ => ⟨rfl, e91, (by decide : 3 + 0 ≤ _), (by decide : 66 + 0 ≤ _)⟩)
        dsimp only [Pt.U, Pt.locs, Pt.cells, Pt.slots] at X113 l113 y113 z113 st113 hQ113
        subst l113 y113 z113
        obtain ⟨hv113, Nq113, eq113⟩ := hQ113
        subst hv113
        replace Nf := Fr.app Nf Nq113
        refine own_go (x' := T113.setTop (mkF m 482 #[.val (.int p0), .val (.int p1), .val (.int p2), .val (.int p3), .val (.ref b1), .val (.ref b46), .val (.ref b69), .val (.int (own_ix p0)), .val (.int ((p3 &&& (7 : Int32)) - (4 : Int32))), .val (.int (p1 &&& (3 : Int32))), .val (.int ver), .val (.int (0 : Int32))] [(.int (own_sup ver (own_at own_los (own_ix p0)) (own_at own_his (own_ix p0))))])) (fun _ k => st113.trans k) ?_
        refine own_go (x' := T113.setTop (mkF m 492 #[.val (.int p0), .val (.int p1), .val (.int p2), .val (.int p3), .val (.ref b1), .val (.ref b46), .val (.ref b69), .val (.int (own_ix p0)), .val (.int ((p3 &&& (7 : Int32)) - (4 : Int32))), .val (.int (p1 &&& (3 : Int32))), .val (.int ver), .val (.int (0 : Int32))] [(.int (1 : Int32))])) (fun _ k => XS.iload X113.here hx rfl (hb hby at_482) rfl (XS.icmpNo X113.here hx rfl (hb hby at_484) rfl (teq (if_pos hc452)).2 (XS.iconst X113.here hx rfl (hb hby at_487) (XS.goto X113.here hx rfl (pc0 := 488) (pc' := 492) rfl (hb hby at_488) (by decide) (by decide) k)))) ?_
        refine own_retN X113 hx hlk (t := .boolean) hret (by simp) (hb hby at_492) (w := (1 : Int32)) rfl ?_ (by decide) (by decide)
        rw [eq113]
        exact ⟨rfl, Nf⟩
      · refine own_go (x' := T91.setTop (mkF m 461 #[.val (.int p0), .val (.int p1), .val (.int p2), .val (.int p3), .val (.ref b1), .val (.ref b46), .val (.ref b69), .val (.int (own_ix p0)), .val (.int ((p3 &&& (7 : Int32)) - (4 : Int32))), .val (.int (p1 &&& (3 : Int32))), .val (.int ver), .unset] [(.int (own_ix p0)), (.ref b69), (.int ver)])) (fun _ k => XS.icmpNo X92.here hx rfl (hb hby at_452) rfl (flt hc452).1 (XS.iload X92.here hx rfl (hb hby at_455) rfl (XS.aload X92.here hx rfl (hb hby at_457) rfl rfl (XS.iload X92.here hx rfl (hb hby at_459) rfl k)))) ?_
        obtain ⟨cl114, Ar114, q114, Sz114, Nn114, Hh114, Gg114⟩ := id V_b69
        have Hq114 : Has cl114 (own_his.map Value.int) (.int 0) := Hh114
        have hin114 : ¬ ((own_ix p0) < 0 ∨ cl114.slots.size ≤ ((own_ix p0)).toNatClampNeg) := inb_of Sz114 (own_i p0)
        refine own_go (x' := T91.setTop (mkF m 462 #[.val (.int p0), .val (.int p1), .val (.int p2), .val (.int p3), .val (.ref b1), .val (.ref b46), .val (.ref b69), .val (.int (own_ix p0)), .val (.int ((p3 &&& (7 : Int32)) - (4 : Int32))), .val (.int (p1 &&& (3 : Int32))), .val (.int ver), .unset] [(.int (own_at own_his (own_ix p0))), (.int ver)])) (X92.iaload hx (j := (own_ix p0)) (v := (.int (own_at own_his (own_ix p0)))) (by rw [e91]; exact Ar114.1) (State.isArrayOf_alike hZ.alike Ar114.2.1) Ar114.2.2 hin114 (Hq114.at hin114 (own_mapI own_his _)) (g := (mkF m 461 #[.val (.int p0), .val (.int p1), .val (.int p2), .val (.int p3), .val (.ref b1), .val (.ref b46), .val (.ref b69), .val (.int (own_ix p0)), .val (.int ((p3 &&& (7 : Int32)) - (4 : Int32))), .val (.int (p1 &&& (3 : Int32))), .val (.int ver), .unset] [(.int (own_ix p0)), (.ref b69), (.int ver)])) rfl rfl (hb hby at_461)) ?_
        by_cases hc462 : (own_at own_his (own_ix p0)) < ver
        · refine own_go (x' := T91.setTop (mkF m 476 #[.val (.int p0), .val (.int p1), .val (.int p2), .val (.int p3), .val (.ref b1), .val (.ref b46), .val (.ref b69), .val (.int (own_ix p0)), .val (.int ((p3 &&& (7 : Int32)) - (4 : Int32))), .val (.int (p1 &&& (3 : Int32))), .val (.int ver), .val (.int (0 : Int32))] [(.int (own_ix p0)), (.ref b1)])) (fun _ k => XS.icmpYes X92.here hx rfl (pc0 := 462) (pc' := 469) rfl (hb hby at_462) rfl (tlt hc462).2.2.1 (by decide) (by decide) (XS.iconst X92.here hx rfl (hb hby at_469) (XS.istore X92.here hx rfl (hb hby at_470) rfl (l' := #[.val (.int p0), .val (.int p1), .val (.int p2), .val (.int p3), .val (.ref b1), .val (.ref b46), .val (.ref b69), .val (.int (own_ix p0)), .val (.int ((p3 &&& (7 : Int32)) - (4 : Int32))), .val (.int (p1 &&& (3 : Int32))), .val (.int ver), .val (.int (0 : Int32))]) rfl (XS.aload X92.here hx rfl (hb hby at_472) rfl rfl (XS.iload X92.here hx rfl (hb hby at_474) rfl k))))) ?_
          obtain ⟨cl115, Ar115, q115, Sz115, Nn115, Hh115, Gg115⟩ := id V_b1
          have Hq115 : Has cl115 (([a_PRODUCE, a_FETCH, a_LIST_OFFSETS, a_METADATA, a_OFFSET_COMMIT, a_OFFSET_FETCH, a_FIND_COORDINATOR, a_JOIN_GROUP, a_HEARTBEAT, a_LEAVE_GROUP, a_SYNC_GROUP, a_DESCRIBE_GROUPS, a_LIST_GROUPS, a_API_VERSIONS, a_CREATE_TOPICS, a_DELETE_TOPICS, a_DELETE_RECORDS, a_INIT_PRODUCER_ID, a_DESCRIBE_CONFIGS, a_CREATE_PARTITIONS, a_DELETE_GROUPS, a_OFFSET_DELETE] : List Addr).map Value.ref) .null := Hh115
          obtain ⟨ob115, hob115⟩ : ∃ z, z = ([a_PRODUCE, a_FETCH, a_LIST_OFFSETS, a_METADATA, a_OFFSET_COMMIT, a_OFFSET_FETCH, a_FIND_COORDINATOR, a_JOIN_GROUP, a_HEARTBEAT, a_LEAVE_GROUP, a_SYNC_GROUP, a_DESCRIBE_GROUPS, a_LIST_GROUPS, a_API_VERSIONS, a_CREATE_TOPICS, a_DELETE_TOPICS, a_DELETE_RECORDS, a_INIT_PRODUCER_ID, a_DESCRIBE_CONFIGS, a_CREATE_PARTITIONS, a_DELETE_GROUPS, a_OFFSET_DELETE] : List Addr).getD (own_ix p0).toNatClampNeg 0 := ⟨_, rfl⟩
          obtain ⟨E_ob115, F_ob115_minVersion, F_ob115_maxVersion⟩ := own_key (own_ix p0).toNatClampNeg (own_n p0)
          rw [← hob115] at E_ob115 F_ob115_minVersion F_ob115_maxVersion
          replace E_ob115 := Exa.ext Od.2 E_ob115
          replace F_ob115_minVersion := Fld.ext Od.2 F_ob115_minVersion
          replace F_ob115_maxVersion := Fld.ext Od.2 F_ob115_maxVersion
          have hin115 : ¬ ((own_ix p0) < 0 ∨ cl115.slots.size ≤ ((own_ix p0)).toNatClampNeg) := inb_of Sz115 (own_i p0)
          refine own_go (x' := T91.setTop (mkF m 477 #[.val (.int p0), .val (.int p1), .val (.int p2), .val (.int p3), .val (.ref b1), .val (.ref b46), .val (.ref b69), .val (.int (own_ix p0)), .val (.int ((p3 &&& (7 : Int32)) - (4 : Int32))), .val (.int (p1 &&& (3 : Int32))), .val (.int ver), .val (.int (0 : Int32))] [(.ref ob115)])) (X92.aaload hx (j := (own_ix p0)) (v := (.ref ob115)) (by rw [e91]; exact Ar115.1) (State.isArrayOf_alike hZ.alike Ar115.2.1) rfl Ar115.2.2 hin115 (Hq115.at hin115 (by rw [hob115]; exact own_mapR ([a_PRODUCE, a_FETCH, a_LIST_OFFSETS, a_METADATA, a_OFFSET_COMMIT, a_OFFSET_FETCH, a_FIND_COORDINATOR, a_JOIN_GROUP, a_HEARTBEAT, a_LEAVE_GROUP, a_SYNC_GROUP, a_DESCRIBE_GROUPS, a_LIST_GROUPS, a_API_VERSIONS, a_CREATE_TOPICS, a_DELETE_TOPICS, a_DELETE_RECORDS, a_INIT_PRODUCER_ID, a_DESCRIBE_CONFIGS, a_CREATE_PARTITIONS, a_DELETE_GROUPS, a_OFFSET_DELETE] : List Addr) _ (own_n p0))) (g := (mkF m 476 #[.val (.int p0), .val (.int p1), .val (.int p2), .val (.int p3), .val (.ref b1), .val (.ref b46), .val (.ref b69), .val (.int (own_ix p0)), .val (.int ((p3 &&& (7 : Int32)) - (4 : Int32))), .val (.int (p1 &&& (3 : Int32))), .val (.int ver), .val (.int (0 : Int32))] [(.int (own_ix p0)), (.ref b1)])) rfl rfl (hb hby at_476)) ?_
          refine own_go (x' := T91.setTop (mkF m 479 #[.val (.int p0), .val (.int p1), .val (.int p2), .val (.int p3), .val (.ref b1), .val (.ref b46), .val (.ref b69), .val (.int (own_ix p0)), .val (.int ((p3 &&& (7 : Int32)) - (4 : Int32))), .val (.int (p1 &&& (3 : Int32))), .val (.int ver), .val (.int (0 : Int32))] [(.int ver), (.ref ob115)])) (fun _ k => XS.iload X92.here hx rfl (hb hby at_477) rfl k) ?_
          obtain ⟨cq116, kq116, q116a, q116b, q116c⟩ := isOf hZ e91 E_ob115
          obtain ⟨_, _, ⟨T116, L116, k116, n116⟩, -, X116, ⟨Lc116, hQ116, l116, y116, z116⟩, st116⟩ := X92.virtualBack hx (y := (⟨"com/example/mechelen/mechelen/protocol/ApiKey", "serves", "(S)Z"⟩ : MethodName)) (z := (⟨"com/example/mechelen/mechelen/protocol/ApiKey", "serves", "(S)Z"⟩ : MethodName)) hown (mvT hZ (own_w hw 50 rfl)) (mvT hZ (own_w hw 51 rfl)) (notFace_of_selects (args := #[]) (mvT hZ (own_w hw 53 rfl))) (mvT hZ (own_w hw 53 rfl)) (mvT hZ (own_w hw 52 rfl)) (by decide) (backOf (W := 0) (rm1 l Z a0 hw [] ob115 ver (own_at own_los (own_ix p0)) (own_at own_his (own_ix p0)) h91 n0 Zs F_ob115_minVersion F_ob115_maxVersion) hZ (own_w hw 54 rfl) (own_w hw 3 rfl) (by decide) (by decide)) q116a q116c (g := (mkF m 479 #[.val (.int p0), .val (.int p1), .val (.int p2), .val (.int p3), .val (.ref b1), .val (.ref b46), .val (.ref b69), .val (.int (own_ix p0)), .val (.int ((p3 &&& (7 : Int32)) - (4 : Int32))), .val (.int (p1 &&& (3 : Int32))), .val (.int ver), .val (.int (0 : Int32))] [(.int ver), (.ref ob115)])) rfl (by rw [hml]; rfl) (Steps.refl _) (argsL := [(.int ver)]) (rest := []) (lenOf pd_0 rfl) rfl (by show 2 * 0 + _ ≤ _; exact Nat.le_of_eq rfl) (hb hby at_479) (fun _ _ => ⟨rfl, e91, (by decide : 3 + 0 ≤ _), (by decide : 66 + 0 ≤ _)⟩)
          dsimp only [Pt.U, Pt.locs, Pt.cells, Pt.slots] at X116 l116 y116 z116 st116 hQ116
          subst l116 y116 z116
          obtain ⟨hv116, Nq116, eq116⟩ := hQ116
          subst hv116
          replace Nf := Fr.app Nf Nq116
          refine own_go (x' := T116.setTop (mkF m 482 #[.val (.int p0), .val (.int p1), .val (.int p2), .val (.int p3), .val (.ref b1), .val (.ref b46), .val (.ref b69), .val (.int (own_ix p0)), .val (.int ((p3 &&& (7 : Int32)) - (4 : Int32))), .val (.int (p1 &&& (3 : Int32))), .val (.int ver), .val (.int (0 : Int32))] [(.int (own_sup ver (own_at own_los (own_ix p0)) (own_at own_his (own_ix p0))))])) (fun _ k => st116.trans k) ?_
          refine own_go (x' := T116.setTop (mkF m 492 #[.val (.int p0), .val (.int p1), .val (.int p2), .val (.int p3), .val (.ref b1), .val (.ref b46), .val (.ref b69), .val (.int (own_ix p0)), .val (.int ((p3 &&& (7 : Int32)) - (4 : Int32))), .val (.int (p1 &&& (3 : Int32))), .val (.int ver), .val (.int (0 : Int32))] [(.int (1 : Int32))])) (fun _ k => XS.iload X116.here hx rfl (hb hby at_482) rfl (XS.icmpNo X116.here hx rfl (hb hby at_484) rfl (teq ((if_neg hc452).trans (if_pos hc462))).2 (XS.iconst X116.here hx rfl (hb hby at_487) (XS.goto X116.here hx rfl (pc0 := 488) (pc' := 492) rfl (hb hby at_488) (by decide) (by decide) k)))) ?_
          refine own_retN X116 hx hlk (t := .boolean) hret (by simp) (hb hby at_492) (w := (1 : Int32)) rfl ?_ (by decide) (by decide)
          rw [eq116]
          exact ⟨rfl, Nf⟩
        · refine own_go (x' := T91.setTop (mkF m 476 #[.val (.int p0), .val (.int p1), .val (.int p2), .val (.int p3), .val (.ref b1), .val (.ref b46), .val (.ref b69), .val (.int (own_ix p0)), .val (.int ((p3 &&& (7 : Int32)) - (4 : Int32))), .val (.int (p1 &&& (3 : Int32))), .val (.int ver), .val (.int (1 : Int32))] [(.int (own_ix p0)), (.ref b1)])) (fun _ k => XS.icmpNo X92.here hx rfl (hb hby at_462) rfl (flt hc462).2.2.1 (XS.iconst X92.here hx rfl (hb hby at_465) (XS.goto X92.here hx rfl (pc0 := 466) (pc' := 470) rfl (hb hby at_466) (by decide) (by decide) (XS.istore X92.here hx rfl (hb hby at_470) rfl (l' := #[.val (.int p0), .val (.int p1), .val (.int p2), .val (.int p3), .val (.ref b1), .val (.ref b46), .val (.ref b69), .val (.int (own_ix p0)), .val (.int ((p3 &&& (7 : Int32)) - (4 : Int32))), .val (.int (p1 &&& (3 : Int32))), .val (.int ver), .val (.int (1 : Int32))]) rfl (XS.aload X92.here hx rfl (hb hby at_472) rfl rfl (XS.iload X92.here hx rfl (hb hby at_474) rfl k)))))) ?_
          obtain ⟨cl117, Ar117, q117, Sz117, Nn117, Hh117, Gg117⟩ := id V_b1
          have Hq117 : Has cl117 (([a_PRODUCE, a_FETCH, a_LIST_OFFSETS, a_METADATA, a_OFFSET_COMMIT, a_OFFSET_FETCH, a_FIND_COORDINATOR, a_JOIN_GROUP, a_HEARTBEAT, a_LEAVE_GROUP, a_SYNC_GROUP, a_DESCRIBE_GROUPS, a_LIST_GROUPS, a_API_VERSIONS, a_CREATE_TOPICS, a_DELETE_TOPICS, a_DELETE_RECORDS, a_INIT_PRODUCER_ID, a_DESCRIBE_CONFIGS, a_CREATE_PARTITIONS, a_DELETE_GROUPS, a_OFFSET_DELETE] : List Addr).map Value.ref) .null := Hh117
          obtain ⟨ob117, hob117⟩ : ∃ z, z = ([a_PRODUCE, a_FETCH, a_LIST_OFFSETS, a_METADATA, a_OFFSET_COMMIT, a_OFFSET_FETCH, a_FIND_COORDINATOR, a_JOIN_GROUP, a_HEARTBEAT, a_LEAVE_GROUP, a_SYNC_GROUP, a_DESCRIBE_GROUPS, a_LIST_GROUPS, a_API_VERSIONS, a_CREATE_TOPICS, a_DELETE_TOPICS, a_DELETE_RECORDS, a_INIT_PRODUCER_ID, a_DESCRIBE_CONFIGS, a_CREATE_PARTITIONS, a_DELETE_GROUPS, a_OFFSET_DELETE] : List Addr).getD (own_ix p0).toNatClampNeg 0 := ⟨_, rfl⟩
          obtain ⟨E_ob117, F_ob117_minVersion, F_ob117_maxVersion⟩ := own_key (own_ix p0).toNatClampNeg (own_n p0)
          rw [← hob117] at E_ob117 F_ob117_minVersion F_ob117_maxVersion
          replace E_ob117 := Exa.ext Od.2 E_ob117
          replace F_ob117_minVersion := Fld.ext Od.2 F_ob117_minVersion
          replace F_ob117_maxVersion := Fld.ext Od.2 F_ob117_maxVersion
          have hin117 : ¬ ((own_ix p0) < 0 ∨ cl117.slots.size ≤ ((own_ix p0)).toNatClampNeg) := inb_of Sz117 (own_i p0)
          refine own_go (x' := T91.setTop (mkF m 477 #[.val (.int p0), .val (.int p1), .val (.int p2), .val (.int p3), .val (.ref b1), .val (.ref b46), .val (.ref b69), .val (.int (own_ix p0)), .val (.int ((p3 &&& (7 : Int32)) - (4 : Int32))), .val (.int (p1 &&& (3 : Int32))), .val (.int ver), .val (.int (1 : Int32))] [(.ref ob117)])) (X92.aaload hx (j := (own_ix p0)) (v := (.ref ob117)) (by rw [e91]; exact Ar117.1) (State.isArrayOf_alike hZ.alike Ar117.2.1) rfl Ar117.2.2 hin117 (Hq117.at hin117 (by rw [hob117]; exact own_mapR ([a_PRODUCE, a_FETCH, a_LIST_OFFSETS, a_METADATA, a_OFFSET_COMMIT, a_OFFSET_FETCH, a_FIND_COORDINATOR, a_JOIN_GROUP, a_HEARTBEAT, a_LEAVE_GROUP, a_SYNC_GROUP, a_DESCRIBE_GROUPS, a_LIST_GROUPS, a_API_VERSIONS, a_CREATE_TOPICS, a_DELETE_TOPICS, a_DELETE_RECORDS, a_INIT_PRODUCER_ID, a_DESCRIBE_CONFIGS, a_CREATE_PARTITIONS, a_DELETE_GROUPS, a_OFFSET_DELETE] : List Addr) _ (own_n p0))) (g := (mkF m 476 #[.val (.int p0), .val (.int p1), .val (.int p2), .val (.int p3), .val (.ref b1), .val (.ref b46), .val (.ref b69), .val (.int (own_ix p0)), .val (.int ((p3 &&& (7 : Int32)) - (4 : Int32))), .val (.int (p1 &&& (3 : Int32))), .val (.int ver), .val (.int (1 : Int32))] [(.int (own_ix p0)), (.ref b1)])) rfl rfl (hb hby at_476)) ?_
          refine own_go (x' := T91.setTop (mkF m 479 #[.val (.int p0), .val (.int p1), .val (.int p2), .val (.int p3), .val (.ref b1), .val (.ref b46), .val (.ref b69), .val (.int (own_ix p0)), .val (.int ((p3 &&& (7 : Int32)) - (4 : Int32))), .val (.int (p1 &&& (3 : Int32))), .val (.int ver), .val (.int (1 : Int32))] [(.int ver), (.ref ob117)])) (fun _ k => XS.iload X92.here hx rfl (hb hby at_477) rfl k) ?_
          obtain ⟨cq118, kq118, q118a, q118b, q118c⟩ := isOf hZ e91 E_ob117
          obtain ⟨_, _, ⟨T118, L118, k118, n118⟩, -, X118, ⟨Lc118, hQ118, l118, y118, z118⟩, st118⟩ := X92.virtualBack hx (y := (⟨"com/example/mechelen/mechelen/protocol/ApiKey", "serves", "(S)Z"⟩ : MethodName)) (z := (⟨"com/example/mechelen/mechelen/protocol/ApiKey", "serves", "(S)Z"⟩ : MethodName)) hown (mvT hZ (own_w hw 50 rfl)) (mvT hZ (own_w hw 51 rfl)) (notFace_of_selects (args := #[]) (mvT hZ (own_w hw 53 rfl))) (mvT hZ (own_w hw 53 rfl)) (mvT hZ (own_w hw 52 rfl)) (by decide) (backOf (W := 0) (rm1 l Z a0 hw [] ob117 ver (own_at own_los (own_ix p0)) (own_at own_his (own_ix p0)) h91 n0 Zs F_ob117_minVersion F_ob117_maxVersion) hZ (own_w hw 54 rfl) (own_w hw 3 rfl) (by decide) (by decide)) q118a q118c (g := (mkF m 479 #[.val (.int p0), .val (.int p1), .val (.int p2), .val (.int p3), .val (.ref b1), .val (.ref b46), .val (.ref b69), .val (.int (own_ix p0)), .val (.int ((p3 &&& (7 : Int32)) - (4 : Int32))), .val (.int (p1 &&& (3 : Int32))), .val (.int ver), .val (.int (1 : Int32))] [(.int ver), (.ref ob117)])) rfl (by rw [hml]; rfl) (Steps.refl _) (argsL := [(.int ver)]) (rest := []) (lenOf pd_0 rfl) rfl (by show 2 * 0 + _ ≤ _; exact Nat.le_of_eq rfl) (hb hby at_479) (fun _ _ => ⟨rfl, e91, (by decide : 3 + 0 ≤ _), (by decide : 66 + 0 ≤ _)⟩)
          dsimp only [Pt.U, Pt.locs, Pt.cells, Pt.slots] at X118 l118 y118 z118 st118 hQ118
          subst l118 y118 z118
          obtain ⟨hv118, Nq118, eq118⟩ := hQ118
          subst hv118
          replace Nf := Fr.app Nf Nq118
          refine own_go (x' := T118.setTop (mkF m 482 #[.val (.int p0), .val (.int p1), .val (.int p2), .val (.int p3), .val (.ref b1), .val (.ref b46), .val (.ref b69), .val (.int (own_ix p0)), .val (.int ((p3 &&& (7 : Int32)) - (4 : Int32))), .val (.int (p1 &&& (3 : Int32))), .val (.int ver), .val (.int (1 : Int32))] [(.int (own_sup ver (own_at own_los (own_ix p0)) (own_at own_his (own_ix p0))))])) (fun _ k => st118.trans k) ?_
          refine own_go (x' := T118.setTop (mkF m 492 #[.val (.int p0), .val (.int p1), .val (.int p2), .val (.int p3), .val (.ref b1), .val (.ref b46), .val (.ref b69), .val (.int (own_ix p0)), .val (.int ((p3 &&& (7 : Int32)) - (4 : Int32))), .val (.int (p1 &&& (3 : Int32))), .val (.int ver), .val (.int (1 : Int32))] [(.int (1 : Int32))])) (fun _ k => XS.iload X118.here hx rfl (hb hby at_482) rfl (XS.icmpNo X118.here hx rfl (hb hby at_484) rfl (teq ((if_neg hc452).trans (if_neg hc462))).2 (XS.iconst X118.here hx rfl (hb hby at_487) (XS.goto X118.here hx rfl (pc0 := 488) (pc' := 492) rfl (hb hby at_488) (by decide) (by decide) k)))) ?_
          refine own_retN X118 hx hlk (t := .boolean) hret (by simp) (hb hby at_492) (w := (1 : Int32)) rfl ?_ (by decide) (by decide)
          rw [eq118]
          exact ⟨rfl, Nf⟩
set_option maxRecDepth 65536 in
set_option maxHeartbeats 40000000 in
theorem comes_1 {Post : Tables → Env → Array Value → State → Outcome → State → Prop} (hpost : ∀ tb e args s v u, (limb_1_1.after args s (.returned v) u = true ∧ limb_1_2.after args s (.returned v) u = true ∧ True) → FrameEnd s (.returned v) u (Jvm.fieldLocs frame_1_writes args s ++ Jvm.arrayLocs frame_1_arrays args s ++ Jvm.staticLocs frame_1_statics s) 16 256 → Post tb e args s (.returned v) u) :
    ArmFor flags0 classFile x code maxLocals ret World_1 tables_1 room_1 Calls_1 rest_1 Pre_1 Post := by
  intro l hfl _ _ p e ha hc hk s m args below hf hA hF happ hP
  obtain ⟨hcalls, hrest, hpre⟩ := hP
  obtain ⟨-, -, -, hnamed, -, -, -, hat⟩ := (Spec.applies_iff hf).mp happ
  obtain ⟨hg, hn⟩ := and_e (Cond.before_iff.mp (show (Jvm.Cond.and given_1 narrow_1).before args s = true from hpre))
  obtain ⟨gg1, gg2⟩ := and_e hg
  obtain ⟨gg3, gg4⟩ := and_e gg2
  obtain ⟨gg5, gg6⟩ := and_e gg4
  obtain ⟨gg7, gg8⟩ := and_e gg6
  obtain ⟨w0, w1, w2, w3, rfl⟩ : ∃ w0 w1 w2 w3 : Value, args = #[w0, w1, w2, w3] := by
    have hs : args.size = 4 := by simpa [Cond.value, given_1] using gg1
    obtain ⟨L⟩ := args
    match L, hs with
    | [w0, w1, w2, w3], _ => exact ⟨w0, w1, w2, w3, rfl⟩
  have hw := fun d (hd : d ∈ tables_1) => atoms_spec (ws := Jvm.Cond.code x code maxLocals ret :: tables_1) hat d (List.mem_cons_of_mem _ hd)
  have hfit : Fit s := fun {y c} hc i hi => by
    obtain ⟨ha, rfl⟩ := Array.getElem?_eq_some_iff.mp hc
    have q := List.all_eq_true.mp ((Array.all_eq_true_iff_forall_mem.mp hF) _ (Array.getElem_mem ha)) i (List.mem_range.mpr hi)
    simpa [Array.getElem?_eq_getElem hi] using q
  obtain ⟨i0, ei0⟩ := is_v gg3
  obtain rfl : w0 = (.int i0) := Option.some.inj ei0
  obtain ⟨i1, ei1⟩ := is_v gg5
  obtain rfl : w1 = (.int i1) := Option.some.inj ei1
  obtain ⟨i2, ei2⟩ := is_v gg7
  obtain rfl : w2 = (.int i2) := Option.some.inj ei2
  obtain ⟨i3, ei3⟩ := is_v gg8
  obtain rfl : w3 = (.int i3) := Option.some.inj ei3
  obtain ⟨hn1, hn2⟩ := and_e hn
  obtain ⟨hn3, hn4⟩ := and_e hn2
  obtain ⟨hn5, hn6⟩ := and_e hn4
  obtain ⟨hn7, hn8⟩ := and_e hn6
  obtain ⟨hn9, hn10⟩ := and_e hn8
  obtain ⟨hn11, hn12⟩ := and_e hn10
  obtain ⟨hn13, hn14⟩ := and_e hn12
  obtain ⟨hn15, hn16⟩ := and_e hn14
  obtain ⟨hn17, hn18⟩ := and_e hn16
  obtain ⟨hn19, hn20⟩ := and_e hn18
  obtain ⟨hn21, hn22⟩ := and_e hn20
  obtain ⟨hn23, hn24⟩ := and_e hn22
  obtain ⟨hn25, hn26⟩ := and_e hn24
  obtain ⟨hn27, hn28⟩ := and_e hn26
  obtain ⟨hn29, hn30⟩ := and_e hn28
  obtain ⟨hn31, hn32⟩ := and_e hn30
  obtain ⟨hn33, hn34⟩ := and_e hn32
  obtain ⟨hn35, hn36⟩ := and_e hn34
  obtain ⟨hn37, hn38⟩ := and_e hn36
  obtain ⟨hn39, hn40⟩ := and_e hn38
  obtain ⟨hn41, hn42⟩ := and_e hn40
  obtain ⟨hn43, hn44⟩ := and_e hn42
  obtain ⟨hn45, hn46⟩ := and_e hn44
  obtain ⟨hn47, hn48⟩ := and_e hn46
  obtain ⟨hn49, hn50⟩ := and_e hn48
  obtain ⟨hn51, hn52⟩ := and_e hn50
  obtain ⟨hn53, hn54⟩ := and_e hn52
  obtain ⟨hn55, hn56⟩ := and_e hn54
  obtain ⟨hn57, hn58⟩ := and_e hn56
  obtain ⟨hn59, hn60⟩ := and_e hn58
  obtain ⟨hn61, hn62⟩ := and_e hn60
  obtain ⟨hn63, hn64⟩ := and_e hn62
  obtain ⟨hn65, hn66⟩ := and_e hn64
  obtain ⟨hn67, hn68⟩ := and_e hn66
  obtain ⟨hn69, hn70⟩ := and_e hn68
  obtain ⟨hn71, hn72⟩ := and_e hn70
  obtain ⟨hn73, hn74⟩ := and_e hn72
  obtain ⟨hn75, hn76⟩ := and_e hn74
  obtain ⟨hn77, hn78⟩ := and_e hn76
  obtain ⟨hn79, hn80⟩ := and_e hn78
  obtain ⟨hn81, hn82⟩ := and_e hn80
  obtain ⟨hn83, hn84⟩ := and_e hn82
  obtain ⟨hn85, hn86⟩ := and_e hn84
  obtain ⟨hn87, hn88⟩ := and_e hn86
  obtain ⟨hn89, hn90⟩ := and_e hn88
  obtain ⟨hn91, hn92⟩ := and_e hn90
  obtain ⟨hn93, hn94⟩ := and_e hn92
  obtain ⟨hn95, hn96⟩ := and_e hn94
  obtain ⟨hn97, hn98⟩ := and_e hn96
  obtain ⟨hn99, hn100⟩ := and_e hn98
  obtain ⟨hn101, hn102⟩ := and_e hn100
  obtain ⟨hn103, hn104⟩ := and_e hn102
  obtain ⟨hn105, hn106⟩ := and_e hn104
  obtain ⟨hn107, hn108⟩ := and_e hn106
  obtain ⟨hn109, hn110⟩ := and_e hn108
  obtain ⟨hn111, hn112⟩ := and_e hn110
  obtain ⟨hn113, hn114⟩ := and_e hn112
  obtain ⟨hn115, hn116⟩ := and_e hn114
  obtain ⟨hn117, hn118⟩ := and_e hn116
  obtain ⟨hn119, hn120⟩ := and_e hn118
  obtain ⟨hn121, hn122⟩ := and_e hn120
  obtain ⟨hn123, hn124⟩ := and_e hn122
  obtain ⟨hn125, hn126⟩ := and_e hn124
  obtain ⟨hn127, hn128⟩ := and_e hn126
  obtain ⟨hn129, hn130⟩ := and_e hn128
  obtain ⟨a_PRODUCE, ev_PRODUCE⟩ := exa_v hn1
  have S_PRODUCE : Sta s s.heap "com/example/mechelen/mechelen/protocol/ApiKey" "PRODUCE" "Lcom/example/mechelen/mechelen/protocol/ApiKey;" (.ref a_PRODUCE) := Sta.start ev_PRODUCE (Or.inr ⟨(own_w hw 3 rfl), (own_w hw 4 rfl)⟩)
  have E_a_PRODUCE : Exa s s.heap a_PRODUCE "com/example/mechelen/mechelen/protocol/ApiKey" := Exa.start ev_PRODUCE hn1
  obtain ⟨a_FETCH, ev_FETCH⟩ := exa_v hn3
  have S_FETCH : Sta s s.heap "com/example/mechelen/mechelen/protocol/ApiKey" "FETCH" "Lcom/example/mechelen/mechelen/protocol/ApiKey;" (.ref a_FETCH) := Sta.start ev_FETCH (Or.inr ⟨(own_w hw 3 rfl), (own_w hw 7 rfl)⟩)
  have E_a_FETCH : Exa s s.heap a_FETCH "com/example/mechelen/mechelen/protocol/ApiKey" := Exa.start ev_FETCH hn3
  obtain ⟨a_LIST_OFFSETS, ev_LIST_OFFSETS⟩ := exa_v hn5
  have S_LIST_OFFSETS : Sta s s.heap "com/example/mechelen/mechelen/protocol/ApiKey" "LIST_OFFSETS" "Lcom/example/mechelen/mechelen/protocol/ApiKey;" (.ref a_LIST_OFFSETS) := Sta.start ev_LIST_OFFSETS (Or.inr ⟨(own_w hw 3 rfl), (own_w hw 9 rfl)⟩)
  have E_a_LIST_OFFSETS : Exa s s.heap a_LIST_OFFSETS "com/example/mechelen/mechelen/protocol/ApiKey" := Exa.start ev_LIST_OFFSETS hn5
  obtain ⟨a_METADATA, ev_METADATA⟩ := exa_v hn7
  have S_METADATA : Sta s s.heap "com/example/mechelen/mechelen/protocol/ApiKey" "METADATA" "Lcom/example/mechelen/mechelen/protocol/ApiKey;" (.ref a_METADATA) := Sta.start ev_METADATA (Or.inr ⟨(own_w hw 3 rfl), (own_w hw 11 rfl)⟩)
  have E_a_METADATA : Exa s s.heap a_METADATA "com/example/mechelen/mechelen/protocol/ApiKey" := Exa.start ev_METADATA hn7
  obtain ⟨a_OFFSET_COMMIT, ev_OFFSET_COMMIT⟩ := exa_v hn9
  have S_OFFSET_COMMIT : Sta s s.heap "com/example/mechelen/mechelen/protocol/ApiKey" "OFFSET_COMMIT" "Lcom/example/mechelen/mechelen/protocol/ApiKey;" (.ref a_OFFSET_COMMIT) := Sta.start ev_OFFSET_COMMIT (Or.inr ⟨(own_w hw 3 rfl), (own_w hw 13 rfl)⟩)
  have E_a_OFFSET_COMMIT : Exa s s.heap a_OFFSET_COMMIT "com/example/mechelen/mechelen/protocol/ApiKey" := Exa.start ev_OFFSET_COMMIT hn9
  obtain ⟨a_OFFSET_FETCH, ev_OFFSET_FETCH⟩ := exa_v hn11
  have S_OFFSET_FETCH : Sta s s.heap "com/example/mechelen/mechelen/protocol/ApiKey" "OFFSET_FETCH" "Lcom/example/mechelen/mechelen/protocol/ApiKey;" (.ref a_OFFSET_FETCH) := Sta.start ev_OFFSET_FETCH (Or.inr ⟨(own_w hw 3 rfl), (own_w hw 15 rfl)⟩)
  have E_a_OFFSET_FETCH : Exa s s.heap a_OFFSET_FETCH "com/example/mechelen/mechelen/protocol/ApiKey" := Exa.start ev_OFFSET_FETCH hn11
  obtain ⟨a_FIND_COORDINATOR, ev_FIND_COORDINATOR⟩ := exa_v hn13
  have S_FIND_COORDINATOR : Sta s s.heap "com/example/mechelen/mechelen/protocol/ApiKey" "FIND_COORDINATOR" "Lcom/example/mechelen/mechelen/protocol/ApiKey;" (.ref a_FIND_COORDINATOR) := Sta.start ev_FIND_COORDINATOR (Or.inr ⟨(own_w hw 3 rfl), (own_w hw 17 rfl)⟩)
  have E_a_FIND_COORDINATOR : Exa s s.heap a_FIND_COORDINATOR "com/example/mechelen/mechelen/protocol/ApiKey" := Exa.start ev_FIND_COORDINATOR hn13
  obtain ⟨a_JOIN_GROUP, ev_JOIN_GROUP⟩ := exa_v hn15
  have S_JOIN_GROUP : Sta s s.heap "com/example/mechelen/mechelen/protocol/ApiKey" "JOIN_GROUP" "Lcom/example/mechelen/mechelen/protocol/ApiKey;" (.ref a_JOIN_GROUP) := Sta.start ev_JOIN_GROUP (Or.inr ⟨(own_w hw 3 rfl), (own_w hw 19 rfl)⟩)
  have E_a_JOIN_GROUP : Exa s s.heap a_JOIN_GROUP "com/example/mechelen/mechelen/protocol/ApiKey" := Exa.start ev_JOIN_GROUP hn15
  obtain ⟨a_HEARTBEAT, ev_HEARTBEAT⟩ := exa_v hn17
  have S_HEARTBEAT : Sta s s.heap "com/example/mechelen/mechelen/protocol/ApiKey" "HEARTBEAT" "Lcom/example/mechelen/mechelen/protocol/ApiKey;" (.ref a_HEARTBEAT) := Sta.start ev_HEARTBEAT (Or.inr ⟨(own_w hw 3 rfl), (own_w hw 21 rfl)⟩)
  have E_a_HEARTBEAT : Exa s s.heap a_HEARTBEAT "com/example/mechelen/mechelen/protocol/ApiKey" := Exa.start ev_HEARTBEAT hn17
  obtain ⟨a_LEAVE_GROUP, ev_LEAVE_GROUP⟩ := exa_v hn19
  have S_LEAVE_GROUP : Sta s s.heap "com/example/mechelen/mechelen/protocol/ApiKey" "LEAVE_GROUP" "Lcom/example/mechelen/mechelen/protocol/ApiKey;" (.ref a_LEAVE_GROUP) := Sta.start ev_LEAVE_GROUP (Or.inr ⟨(own_w hw 3 rfl), (own_w hw 23 rfl)⟩)
  have E_a_LEAVE_GROUP : Exa s s.heap a_LEAVE_GROUP "com/example/mechelen/mechelen/protocol/ApiKey" := Exa.start ev_LEAVE_GROUP hn19
  obtain ⟨a_SYNC_GROUP, ev_SYNC_GROUP⟩ := exa_v hn21
  have S_SYNC_GROUP : Sta s s.heap "com/example/mechelen/mechelen/protocol/ApiKey" "SYNC_GROUP" "Lcom/example/mechelen/mechelen/protocol/ApiKey;" (.ref a_SYNC_GROUP) := Sta.start ev_SYNC_GROUP (Or.inr ⟨(own_w hw 3 rfl), (own_w hw 25 rfl)⟩)
  have E_a_SYNC_GROUP : Exa s s.heap a_SYNC_GROUP "com/example/mechelen/mechelen/protocol/ApiKey" := Exa.start ev_SYNC_GROUP hn21
  obtain ⟨a_DESCRIBE_GROUPS, ev_DESCRIBE_GROUPS⟩ := exa_v hn23
  have S_DESCRIBE_GROUPS : Sta s s.heap "com/example/mechelen/mechelen/protocol/ApiKey" "DESCRIBE_GROUPS" "Lcom/example/mechelen/mechelen/protocol/ApiKey;" (.ref a_DESCRIBE_GROUPS) := Sta.start ev_DESCRIBE_GROUPS (Or.inr ⟨(own_w hw 3 rfl), (own_w hw 27 rfl)⟩)
  have E_a_DESCRIBE_GROUPS : Exa s s.heap a_DESCRIBE_GROUPS "com/example/mechelen/mechelen/protocol/ApiKey" := Exa.start ev_DESCRIBE_GROUPS hn23
  obtain ⟨a_LIST_GROUPS, ev_LIST_GROUPS⟩ := exa_v hn25
  have S_LIST_GROUPS : Sta s s.heap "com/example/mechelen/mechelen/protocol/ApiKey" "LIST_GROUPS" "Lcom/example/mechelen/mechelen/protocol/ApiKey;" (.ref a_LIST_GROUPS) := Sta.start ev_LIST_GROUPS (Or.inr ⟨(own_w hw 3 rfl), (own_w hw 29 rfl)⟩)
  have E_a_LIST_GROUPS : Exa s s.heap a_LIST_GROUPS "com/example/mechelen/mechelen/protocol/ApiKey" := Exa.start ev_LIST_GROUPS hn25
  obtain ⟨a_API_VERSIONS, ev_API_VERSIONS⟩ := exa_v hn27
  have S_API_VERSIONS : Sta s s.heap "com/example/mechelen/mechelen/protocol/ApiKey" "API_VERSIONS" "Lcom/example/mechelen/mechelen/protocol/ApiKey;" (.ref a_API_VERSIONS) := Sta.start ev_API_VERSIONS (Or.inr ⟨(own_w hw 3 rfl), (own_w hw 31 rfl)⟩)
  have E_a_API_VERSIONS : Exa s s.heap a_API_VERSIONS "com/example/mechelen/mechelen/protocol/ApiKey" := Exa.start ev_API_VERSIONS hn27
  obtain ⟨a_CREATE_TOPICS, ev_CREATE_TOPICS⟩ := exa_v hn29
  have S_CREATE_TOPICS : Sta s s.heap "com/example/mechelen/mechelen/protocol/ApiKey" "CREATE_TOPICS" "Lcom/example/mechelen/mechelen/protocol/ApiKey;" (.ref a_CREATE_TOPICS) := Sta.start ev_CREATE_TOPICS (Or.inr ⟨(own_w hw 3 rfl), (own_w hw 33 rfl)⟩)
  have E_a_CREATE_TOPICS : Exa s s.heap a_CREATE_TOPICS "com/example/mechelen/mechelen/protocol/ApiKey" := Exa.start ev_CREATE_TOPICS hn29
  obtain ⟨a_DELETE_TOPICS, ev_DELETE_TOPICS⟩ := exa_v hn31
  have S_DELETE_TOPICS : Sta s s.heap "com/example/mechelen/mechelen/protocol/ApiKey" "DELETE_TOPICS" "Lcom/example/mechelen/mechelen/protocol/ApiKey;" (.ref a_DELETE_TOPICS) := Sta.start ev_DELETE_TOPICS (Or.inr ⟨(own_w hw 3 rfl), (own_w hw 35 rfl)⟩)
  have E_a_DELETE_TOPICS : Exa s s.heap a_DELETE_TOPICS "com/example/mechelen/mechelen/protocol/ApiKey" := Exa.start ev_DELETE_TOPICS hn31
  obtain ⟨a_DELETE_RECORDS, ev_DELETE_RECORDS⟩ := exa_v hn33
  have S_DELETE_RECORDS : Sta s s.heap "com/example/mechelen/mechelen/protocol/ApiKey" "DELETE_RECORDS" "Lcom/example/mechelen/mechelen/protocol/ApiKey;" (.ref a_DELETE_RECORDS) := Sta.start ev_DELETE_RECORDS (Or.inr ⟨(own_w hw 3 rfl), (own_w hw 37 rfl)⟩)
  have E_a_DELETE_RECORDS : Exa s s.heap a_DELETE_RECORDS "com/example/mechelen/mechelen/protocol/ApiKey" := Exa.start ev_DELETE_RECORDS hn33
  obtain ⟨a_INIT_PRODUCER_ID, ev_INIT_PRODUCER_ID⟩ := exa_v hn35
  have S_INIT_PRODUCER_ID : Sta s s.heap "com/example/mechelen/mechelen/protocol/ApiKey" "INIT_PRODUCER_ID" "Lcom/example/mechelen/mechelen/protocol/ApiKey;" (.ref a_INIT_PRODUCER_ID) := Sta.start ev_INIT_PRODUCER_ID (Or.inr ⟨(own_w hw 3 rfl), (own_w hw 39 rfl)⟩)
  have E_a_INIT_PRODUCER_ID : Exa s s.heap a_INIT_PRODUCER_ID "com/example/mechelen/mechelen/protocol/ApiKey" := Exa.start ev_INIT_PRODUCER_ID hn35
  obtain ⟨a_DESCRIBE_CONFIGS, ev_DESCRIBE_CONFIGS⟩ := exa_v hn37
  have S_DESCRIBE_CONFIGS : Sta s s.heap "com/example/mechelen/mechelen/protocol/ApiKey" "DESCRIBE_CONFIGS" "Lcom/example/mechelen/mechelen/protocol/ApiKey;" (.ref a_DESCRIBE_CONFIGS) := Sta.start ev_DESCRIBE_CONFIGS (Or.inr ⟨(own_w hw 3 rfl), (own_w hw 41 rfl)⟩)
  have E_a_DESCRIBE_CONFIGS : Exa s s.heap a_DESCRIBE_CONFIGS "com/example/mechelen/mechelen/protocol/ApiKey" := Exa.start ev_DESCRIBE_CONFIGS hn37
  obtain ⟨a_CREATE_PARTITIONS, ev_CREATE_PARTITIONS⟩ := exa_v hn39
  have S_CREATE_PARTITIONS : Sta s s.heap "com/example/mechelen/mechelen/protocol/ApiKey" "CREATE_PARTITIONS" "Lcom/example/mechelen/mechelen/protocol/ApiKey;" (.ref a_CREATE_PARTITIONS) := Sta.start ev_CREATE_PARTITIONS (Or.inr ⟨(own_w hw 3 rfl), (own_w hw 43 rfl)⟩)
  have E_a_CREATE_PARTITIONS : Exa s s.heap a_CREATE_PARTITIONS "com/example/mechelen/mechelen/protocol/ApiKey" := Exa.start ev_CREATE_PARTITIONS hn39
  obtain ⟨a_DELETE_GROUPS, ev_DELETE_GROUPS⟩ := exa_v hn41
  have S_DELETE_GROUPS : Sta s s.heap "com/example/mechelen/mechelen/protocol/ApiKey" "DELETE_GROUPS" "Lcom/example/mechelen/mechelen/protocol/ApiKey;" (.ref a_DELETE_GROUPS) := Sta.start ev_DELETE_GROUPS (Or.inr ⟨(own_w hw 3 rfl), (own_w hw 45 rfl)⟩)
  have E_a_DELETE_GROUPS : Exa s s.heap a_DELETE_GROUPS "com/example/mechelen/mechelen/protocol/ApiKey" := Exa.start ev_DELETE_GROUPS hn41
  obtain ⟨a_OFFSET_DELETE, ev_OFFSET_DELETE⟩ := exa_v hn43
  have S_OFFSET_DELETE : Sta s s.heap "com/example/mechelen/mechelen/protocol/ApiKey" "OFFSET_DELETE" "Lcom/example/mechelen/mechelen/protocol/ApiKey;" (.ref a_OFFSET_DELETE) := Sta.start ev_OFFSET_DELETE (Or.inr ⟨(own_w hw 3 rfl), (own_w hw 47 rfl)⟩)
  have E_a_OFFSET_DELETE : Exa s s.heap a_OFFSET_DELETE "com/example/mechelen/mechelen/protocol/ApiKey" := Exa.start ev_OFFSET_DELETE hn43
  have F_a_PRODUCE_minVersion : Fld s s.heap a_PRODUCE "com/example/mechelen/mechelen/protocol/ApiKey" "minVersion" "S" (.int (0 : Int32)) := own_fldI ev_PRODUCE hn45
  have F_a_PRODUCE_maxVersion : Fld s s.heap a_PRODUCE "com/example/mechelen/mechelen/protocol/ApiKey" "maxVersion" "S" (.int (7 : Int32)) := own_fldI ev_PRODUCE hn47
  have F_a_LIST_GROUPS_minVersion : Fld s s.heap a_LIST_GROUPS "com/example/mechelen/mechelen/protocol/ApiKey" "minVersion" "S" (.int (0 : Int32)) := own_fldI ev_LIST_GROUPS hn49
  have F_a_LIST_GROUPS_maxVersion : Fld s s.heap a_LIST_GROUPS "com/example/mechelen/mechelen/protocol/ApiKey" "maxVersion" "S" (.int (2 : Int32)) := own_fldI ev_LIST_GROUPS hn51
  have F_a_API_VERSIONS_minVersion : Fld s s.heap a_API_VERSIONS "com/example/mechelen/mechelen/protocol/ApiKey" "minVersion" "S" (.int (0 : Int32)) := own_fldI ev_API_VERSIONS hn53
  have F_a_API_VERSIONS_maxVersion : Fld s s.heap a_API_VERSIONS "com/example/mechelen/mechelen/protocol/ApiKey" "maxVersion" "S" (.int (3 : Int32)) := own_fldI ev_API_VERSIONS hn55
  have F_a_OFFSET_COMMIT_minVersion : Fld s s.heap a_OFFSET_COMMIT "com/example/mechelen/mechelen/protocol/ApiKey" "minVersion" "S" (.int (0 : Int32)) := own_fldI ev_OFFSET_COMMIT hn57
  have F_a_OFFSET_COMMIT_maxVersion : Fld s s.heap a_OFFSET_COMMIT "com/example/mechelen/mechelen/protocol/ApiKey" "maxVersion" "S" (.int (7 : Int32)) := own_fldI ev_OFFSET_COMMIT hn59
  have F_a_FETCH_minVersion : Fld s s.heap a_FETCH "com/example/mechelen/mechelen/protocol/ApiKey" "minVersion" "S" (.int (4 : Int32)) := own_fldI ev_FETCH hn61
  have F_a_METADATA_minVersion : Fld s s.heap a_METADATA "com/example/mechelen/mechelen/protocol/ApiKey" "minVersion" "S" (.int (0 : Int32)) := own_fldI ev_METADATA hn63
  have F_a_METADATA_maxVersion : Fld s s.heap a_METADATA "com/example/mechelen/mechelen/protocol/ApiKey" "maxVersion" "S" (.int (4 : Int32)) := own_fldI ev_METADATA hn65
  have F_a_DELETE_TOPICS_minVersion : Fld s s.heap a_DELETE_TOPICS "com/example/mechelen/mechelen/protocol/ApiKey" "minVersion" "S" (.int (0 : Int32)) := own_fldI ev_DELETE_TOPICS hn67
  have F_a_DELETE_RECORDS_minVersion : Fld s s.heap a_DELETE_RECORDS "com/example/mechelen/mechelen/protocol/ApiKey" "minVersion" "S" (.int (0 : Int32)) := own_fldI ev_DELETE_RECORDS hn69
  have F_a_DELETE_RECORDS_maxVersion : Fld s s.heap a_DELETE_RECORDS "com/example/mechelen/mechelen/protocol/ApiKey" "maxVersion" "S" (.int (1 : Int32)) := own_fldI ev_DELETE_RECORDS hn71
  have F_a_HEARTBEAT_minVersion : Fld s s.heap a_HEARTBEAT "com/example/mechelen/mechelen/protocol/ApiKey" "minVersion" "S" (.int (0 : Int32)) := own_fldI ev_HEARTBEAT hn73
  have F_a_HEARTBEAT_maxVersion : Fld s s.heap a_HEARTBEAT "com/example/mechelen/mechelen/protocol/ApiKey" "maxVersion" "S" (.int (3 : Int32)) := own_fldI ev_HEARTBEAT hn75
  have F_a_LIST_OFFSETS_minVersion : Fld s s.heap a_LIST_OFFSETS "com/example/mechelen/mechelen/protocol/ApiKey" "minVersion" "S" (.int (1 : Int32)) := own_fldI ev_LIST_OFFSETS hn77
  have F_a_LIST_OFFSETS_maxVersion : Fld s s.heap a_LIST_OFFSETS "com/example/mechelen/mechelen/protocol/ApiKey" "maxVersion" "S" (.int (2 : Int32)) := own_fldI ev_LIST_OFFSETS hn79
  have F_a_OFFSET_FETCH_minVersion : Fld s s.heap a_OFFSET_FETCH "com/example/mechelen/mechelen/protocol/ApiKey" "minVersion" "S" (.int (0 : Int32)) := own_fldI ev_OFFSET_FETCH hn81
  have F_a_OFFSET_FETCH_maxVersion : Fld s s.heap a_OFFSET_FETCH "com/example/mechelen/mechelen/protocol/ApiKey" "maxVersion" "S" (.int (7 : Int32)) := own_fldI ev_OFFSET_FETCH hn83
  have F_a_DESCRIBE_GROUPS_minVersion : Fld s s.heap a_DESCRIBE_GROUPS "com/example/mechelen/mechelen/protocol/ApiKey" "minVersion" "S" (.int (0 : Int32)) := own_fldI ev_DESCRIBE_GROUPS hn85
  have F_a_DESCRIBE_GROUPS_maxVersion : Fld s s.heap a_DESCRIBE_GROUPS "com/example/mechelen/mechelen/protocol/ApiKey" "maxVersion" "S" (.int (2 : Int32)) := own_fldI ev_DESCRIBE_GROUPS hn87
  have F_a_CREATE_PARTITIONS_minVersion : Fld s s.heap a_CREATE_PARTITIONS "com/example/mechelen/mechelen/protocol/ApiKey" "minVersion" "S" (.int (0 : Int32)) := own_fldI ev_CREATE_PARTITIONS hn89
  have F_a_JOIN_GROUP_minVersion : Fld s s.heap a_JOIN_GROUP "com/example/mechelen/mechelen/protocol/ApiKey" "minVersion" "S" (.int (0 : Int32)) := own_fldI ev_JOIN_GROUP hn91
  have F_a_JOIN_GROUP_maxVersion : Fld s s.heap a_JOIN_GROUP "com/example/mechelen/mechelen/protocol/ApiKey" "maxVersion" "S" (.int (5 : Int32)) := own_fldI ev_JOIN_GROUP hn93
  have F_a_FIND_COORDINATOR_minVersion : Fld s s.heap a_FIND_COORDINATOR "com/example/mechelen/mechelen/protocol/ApiKey" "minVersion" "S" (.int (0 : Int32)) := own_fldI ev_FIND_COORDINATOR hn95
  have F_a_FIND_COORDINATOR_maxVersion : Fld s s.heap a_FIND_COORDINATOR "com/example/mechelen/mechelen/protocol/ApiKey" "maxVersion" "S" (.int (2 : Int32)) := own_fldI ev_FIND_COORDINATOR hn97
  have F_a_DELETE_TOPICS_maxVersion : Fld s s.heap a_DELETE_TOPICS "com/example/mechelen/mechelen/protocol/ApiKey" "maxVersion" "S" (.int (1 : Int32)) := own_fldI ev_DELETE_TOPICS hn99
  have F_a_SYNC_GROUP_minVersion : Fld s s.heap a_SYNC_GROUP "com/example/mechelen/mechelen/protocol/ApiKey" "minVersion" "S" (.int (0 : Int32)) := own_fldI ev_SYNC_GROUP hn101
  have F_a_FETCH_maxVersion : Fld s s.heap a_FETCH "com/example/mechelen/mechelen/protocol/ApiKey" "maxVersion" "S" (.int (11 : Int32)) := own_fldI ev_FETCH hn103
  have F_a_LEAVE_GROUP_minVersion : Fld s s.heap a_LEAVE_GROUP "com/example/mechelen/mechelen/protocol/ApiKey" "minVersion" "S" (.int (0 : Int32)) := own_fldI ev_LEAVE_GROUP hn105
  have F_a_CREATE_TOPICS_minVersion : Fld s s.heap a_CREATE_TOPICS "com/example/mechelen/mechelen/protocol/ApiKey" "minVersion" "S" (.int (0 : Int32)) := own_fldI ev_CREATE_TOPICS hn107
  have F_a_CREATE_TOPICS_maxVersion : Fld s s.heap a_CREATE_TOPICS "com/example/mechelen/mechelen/protocol/ApiKey" "maxVersion" "S" (.int (4 : Int32)) := own_fldI ev_CREATE_TOPICS hn109
  have F_a_OFFSET_DELETE_minVersion : Fld s s.heap a_OFFSET_DELETE "com/example/mechelen/mechelen/protocol/ApiKey" "minVersion" "S" (.int (0 : Int32)) := own_fldI ev_OFFSET_DELETE hn111
  have F_a_OFFSET_DELETE_maxVersion : Fld s s.heap a_OFFSET_DELETE "com/example/mechelen/mechelen/protocol/ApiKey" "maxVersion" "S" (.int (0 : Int32)) := own_fldI ev_OFFSET_DELETE hn113
  have F_a_DELETE_GROUPS_minVersion : Fld s s.heap a_DELETE_GROUPS "com/example/mechelen/mechelen/protocol/ApiKey" "minVersion" "S" (.int (0 : Int32)) := own_fldI ev_DELETE_GROUPS hn115
  have F_a_LEAVE_GROUP_maxVersion : Fld s s.heap a_LEAVE_GROUP "com/example/mechelen/mechelen/protocol/ApiKey" "maxVersion" "S" (.int (1 : Int32)) := own_fldI ev_LEAVE_GROUP hn117
  have F_a_INIT_PRODUCER_ID_minVersion : Fld s s.heap a_INIT_PRODUCER_ID "com/example/mechelen/mechelen/protocol/ApiKey" "minVersion" "S" (.int (0 : Int32)) := own_fldI ev_INIT_PRODUCER_ID hn119
  have F_a_DELETE_GROUPS_maxVersion : Fld s s.heap a_DELETE_GROUPS "com/example/mechelen/mechelen/protocol/ApiKey" "maxVersion" "S" (.int (1 : Int32)) := own_fldI ev_DELETE_GROUPS hn121
  have F_a_SYNC_GROUP_maxVersion : Fld s s.heap a_SYNC_GROUP "com/example/mechelen/mechelen/protocol/ApiKey" "maxVersion" "S" (.int (3 : Int32)) := own_fldI ev_SYNC_GROUP hn123
  have F_a_DESCRIBE_CONFIGS_minVersion : Fld s s.heap a_DESCRIBE_CONFIGS "com/example/mechelen/mechelen/protocol/ApiKey" "minVersion" "S" (.int (0 : Int32)) := own_fldI ev_DESCRIBE_CONFIGS hn125
  have F_a_DESCRIBE_CONFIGS_maxVersion : Fld s s.heap a_DESCRIBE_CONFIGS "com/example/mechelen/mechelen/protocol/ApiKey" "maxVersion" "S" (.int (2 : Int32)) := own_fldI ev_DESCRIBE_CONFIGS hn127
  have F_a_CREATE_PARTITIONS_maxVersion : Fld s s.heap a_CREATE_PARTITIONS "com/example/mechelen/mechelen/protocol/ApiKey" "maxVersion" "S" (.int (0 : Int32)) := own_fldI ev_CREATE_PARTITIONS hn129
  have F_a_INIT_PRODUCER_ID_maxVersion : Fld s s.heap a_INIT_PRODUCER_ID "com/example/mechelen/mechelen/protocol/ApiKey" "maxVersion" "S" (.int (1 : Int32)) := own_fldI ev_INIT_PRODUCER_ID hn130
  have key : ∀ n, n < 22 → Exa s s.heap (([a_PRODUCE, a_FETCH, a_LIST_OFFSETS, a_METADATA, a_OFFSET_COMMIT, a_OFFSET_FETCH, a_FIND_COORDINATOR, a_JOIN_GROUP, a_HEARTBEAT, a_LEAVE_GROUP, a_SYNC_GROUP, a_DESCRIBE_GROUPS, a_LIST_GROUPS, a_API_VERSIONS, a_CREATE_TOPICS, a_DELETE_TOPICS, a_DELETE_RECORDS, a_INIT_PRODUCER_ID, a_DESCRIBE_CONFIGS, a_CREATE_PARTITIONS, a_DELETE_GROUPS, a_OFFSET_DELETE] : List Addr).getD n 0) "com/example/mechelen/mechelen/protocol/ApiKey" ∧ Fld s s.heap (([a_PRODUCE, a_FETCH, a_LIST_OFFSETS, a_METADATA, a_OFFSET_COMMIT, a_OFFSET_FETCH, a_FIND_COORDINATOR, a_JOIN_GROUP, a_HEARTBEAT, a_LEAVE_GROUP, a_SYNC_GROUP, a_DESCRIBE_GROUPS, a_LIST_GROUPS, a_API_VERSIONS, a_CREATE_TOPICS, a_DELETE_TOPICS, a_DELETE_RECORDS, a_INIT_PRODUCER_ID, a_DESCRIBE_CONFIGS, a_CREATE_PARTITIONS, a_DELETE_GROUPS, a_OFFSET_DELETE] : List Addr).getD n 0) "com/example/mechelen/mechelen/protocol/ApiKey" "minVersion" "S" (.int (own_nth own_los n)) ∧ Fld s s.heap (([a_PRODUCE, a_FETCH, a_LIST_OFFSETS, a_METADATA, a_OFFSET_COMMIT, a_OFFSET_FETCH, a_FIND_COORDINATOR, a_JOIN_GROUP, a_HEARTBEAT, a_LEAVE_GROUP, a_SYNC_GROUP, a_DESCRIBE_GROUPS, a_LIST_GROUPS, a_API_VERSIONS, a_CREATE_TOPICS, a_DELETE_TOPICS, a_DELETE_RECORDS, a_INIT_PRODUCER_ID, a_DESCRIBE_CONFIGS, a_CREATE_PARTITIONS, a_DELETE_GROUPS, a_OFFSET_DELETE] : List Addr).getD n 0) "com/example/mechelen/mechelen/protocol/ApiKey" "maxVersion" "S" (.int (own_nth own_his n)) := by
    intro n hn
    match n, hn with
    | 0, _ => exact ⟨E_a_PRODUCE, F_a_PRODUCE_minVersion, F_a_PRODUCE_maxVersion⟩
    | 1, _ => exact ⟨E_a_FETCH, F_a_FETCH_minVersion, F_a_FETCH_maxVersion⟩
    | 2, _ => exact ⟨E_a_LIST_OFFSETS, F_a_LIST_OFFSETS_minVersion, F_a_LIST_OFFSETS_maxVersion⟩
    | 3, _ => exact ⟨E_a_METADATA, F_a_METADATA_minVersion, F_a_METADATA_maxVersion⟩
    | 4, _ => exact ⟨E_a_OFFSET_COMMIT, F_a_OFFSET_COMMIT_minVersion, F_a_OFFSET_COMMIT_maxVersion⟩
    | 5, _ => exact ⟨E_a_OFFSET_FETCH, F_a_OFFSET_FETCH_minVersion, F_a_OFFSET_FETCH_maxVersion⟩
    | 6, _ => exact ⟨E_a_FIND_COORDINATOR, F_a_FIND_COORDINATOR_minVersion, F_a_FIND_COORDINATOR_maxVersion⟩
    | 7, _ => exact ⟨E_a_JOIN_GROUP, F_a_JOIN_GROUP_minVersion, F_a_JOIN_GROUP_maxVersion⟩
    | 8, _ => exact ⟨E_a_HEARTBEAT, F_a_HEARTBEAT_minVersion, F_a_HEARTBEAT_maxVersion⟩
    | 9, _ => exact ⟨E_a_LEAVE_GROUP, F_a_LEAVE_GROUP_minVersion, F_a_LEAVE_GROUP_maxVersion⟩
    | 10, _ => exact ⟨E_a_SYNC_GROUP, F_a_SYNC_GROUP_minVersion, F_a_SYNC_GROUP_maxVersion⟩
    | 11, _ => exact ⟨E_a_DESCRIBE_GROUPS, F_a_DESCRIBE_GROUPS_minVersion, F_a_DESCRIBE_GROUPS_maxVersion⟩
    | 12, _ => exact ⟨E_a_LIST_GROUPS, F_a_LIST_GROUPS_minVersion, F_a_LIST_GROUPS_maxVersion⟩
    | 13, _ => exact ⟨E_a_API_VERSIONS, F_a_API_VERSIONS_minVersion, F_a_API_VERSIONS_maxVersion⟩
    | 14, _ => exact ⟨E_a_CREATE_TOPICS, F_a_CREATE_TOPICS_minVersion, F_a_CREATE_TOPICS_maxVersion⟩
    | 15, _ => exact ⟨E_a_DELETE_TOPICS, F_a_DELETE_TOPICS_minVersion, F_a_DELETE_TOPICS_maxVersion⟩
    | 16, _ => exact ⟨E_a_DELETE_RECORDS, F_a_DELETE_RECORDS_minVersion, F_a_DELETE_RECORDS_maxVersion⟩
    | 17, _ => exact ⟨E_a_INIT_PRODUCER_ID, F_a_INIT_PRODUCER_ID_minVersion, F_a_INIT_PRODUCER_ID_maxVersion⟩
    | 18, _ => exact ⟨E_a_DESCRIBE_CONFIGS, F_a_DESCRIBE_CONFIGS_minVersion, F_a_DESCRIBE_CONFIGS_maxVersion⟩
    | 19, _ => exact ⟨E_a_CREATE_PARTITIONS, F_a_CREATE_PARTITIONS_minVersion, F_a_CREATE_PARTITIONS_maxVersion⟩
    | 20, _ => exact ⟨E_a_DELETE_GROUPS, F_a_DELETE_GROUPS_minVersion, F_a_DELETE_GROUPS_maxVersion⟩
    | 21, _ => exact ⟨E_a_OFFSET_DELETE, F_a_OFFSET_DELETE_minVersion, F_a_OFFSET_DELETE_maxVersion⟩
    | n + 22, h => exact absurd h (by omega)
  obtain ⟨n, o, h1, h2, h3, _, L, rfl, ⟨rfl, N⟩, hq⟩ := rm0 l s _ hw tables_1 i0 i1 i2 i3 a_PRODUCE a_FETCH a_LIST_OFFSETS a_METADATA a_OFFSET_COMMIT a_OFFSET_FETCH a_FIND_COORDINATOR a_JOIN_GROUP a_HEARTBEAT a_LEAVE_GROUP a_SYNC_GROUP a_DESCRIBE_GROUPS a_LIST_GROUPS a_API_VERSIONS a_CREATE_TOPICS a_DELETE_TOPICS a_DELETE_RECORDS a_INIT_PRODUCER_ID a_DESCRIBE_CONFIGS a_CREATE_PARTITIONS a_DELETE_GROUPS a_OFFSET_DELETE s.heap s.heap.size (Nat.le_refl _) (Old.start s) S_PRODUCE E_a_PRODUCE S_FETCH E_a_FETCH S_LIST_OFFSETS E_a_LIST_OFFSETS S_METADATA E_a_METADATA S_OFFSET_COMMIT E_a_OFFSET_COMMIT S_OFFSET_FETCH E_a_OFFSET_FETCH S_FIND_COORDINATOR E_a_FIND_COORDINATOR S_JOIN_GROUP E_a_JOIN_GROUP S_HEARTBEAT E_a_HEARTBEAT S_LEAVE_GROUP E_a_LEAVE_GROUP S_SYNC_GROUP E_a_SYNC_GROUP S_DESCRIBE_GROUPS E_a_DESCRIBE_GROUPS S_LIST_GROUPS E_a_LIST_GROUPS S_API_VERSIONS E_a_API_VERSIONS S_CREATE_TOPICS E_a_CREATE_TOPICS S_DELETE_TOPICS E_a_DELETE_TOPICS S_DELETE_RECORDS E_a_DELETE_RECORDS S_INIT_PRODUCER_ID E_a_INIT_PRODUCER_ID S_DESCRIBE_CONFIGS E_a_DESCRIBE_CONFIGS S_CREATE_PARTITIONS E_a_CREATE_PARTITIONS S_DELETE_GROUPS E_a_DELETE_GROUPS S_OFFSET_DELETE E_a_OFFSET_DELETE key p e ha hc hk s m _ below hf ((Spec.applies_iff_loose hf).mp happ).1 ⟨rfl, State.Warmed39.refl s, rfl⟩ trivial
  refine ⟨n, _, h1, h2, h3, hpost _ _ _ _ _ _ ⟨Cond.after_iff.mpr rfl, Cond.after_iff.mpr (eq_i res_at (Term.int_eval (1)) rfl), trivial⟩ ⟨hq.1, hq.2.1, (hq.2.2.sift fun y hy => Or.inr (N y hy)).mono (by decide) (by decide)⟩⟩
theorem main_1_1 : Claimed_1_1 := comes_1 fun _ _ _ _ _ _ h hF => ⟨h.1, hF⟩
theorem main_1_2 : Claimed_1_2 := comes_1 fun _ _ _ _ _ _ h hF => ⟨h.2.1, hF⟩
end Jvm.Pilot.@@N@@
namespace Jvm.Pilot.@@N@@
open Jvm Jvm.ClassFile Sem Op Lib Jvm.Free Jvm.Stand Jvm.Pilot.@@N@@.Jvm.D
/-! MADE BY PROGRAM (witnessworld.py) out of the Statement's table words and the real class files: 13 classes; the members and pool entries that the words name. The judged class is class 1, her method 1. -/
namespace start1
open Jvm.ClassFile
def u (s : String) : CpInfo := .utf8 (stringToUtf16 s)
/-- a pool by its gaps: so many unusable entries, then the entry; so many at the end -/
def gap : Nat → List CpInfo → List CpInfo
  | 0, r => r
  | n + 1, r => .unusable :: gap n r
def poolList (es : List (Nat × CpInfo)) (last : Nat) : List CpInfo := es.foldr (fun e r => gap e.1 (e.2 :: r)) (gap last [])
def pool (es : List (Nat × CpInfo)) (last : Nat) : Array CpInfo := ⟨poolList es last⟩
def fileOf (pool : Array CpInfo) (this : Nat) (attrs : Array Attribute := #[]) (ms : Array MethodInfo := #[]) (fl : Nat := 33) (sup : Nat := 0) (ifs : Array Nat := #[]) (fds : Array FieldInfo := #[]) : ClassFile where
  minorVersion := 0
  majorVersion := 65
  constantPool := pool
  accessFlags := fl
  thisClass := this
  superClass := sup
  interfaces := ifs
  fields := fds
  methods := ms
  attributes := attrs
def plain (name : String) (sup : Option ClassId) : Class where
  name := name
  kind := .ordinary
  loader := none
  accessFlags := 33
  super := sup
  interfaces := #[]
  cf := none
  fields := #[]
  methods := #[]
  instanceTypes := #[]
  staticTypes := #[]
  resolved := #[]
  callSites := []
  init := .initialized
  statics := none
  mirror := none

def pool0 : Array CpInfo := pool [(5, u "<init>"), (0, u "()V"), (1, .class_ 10), (1, u "java/lang/Object")] 113

def k0m0 : Method := { name := "<init>", desc := "()V", sig := { parameters := [], returnType := none }, accessFlags := 1, code := none }
/-- java/lang/Object -/
def k0 : Class := { plain "java/lang/Object" none with
  accessFlags := 33
  interfaces := #[]
  cf := some (fileOf pool0 8 #[] #[{ accessFlags := 1, nameIndex := 5, descriptorIndex := 6, attributes := #[] }] 33 0 #[] #[])
  fields := #[]
  methods := #[k0m0]
  instanceTypes := #[]
  staticTypes := #[]
  resolved := Array.replicate 124 none
  statics := none }

def pool1 : Array CpInfo := pool [(2, .class_ 4), (1, u "java/lang/Object"), (0, u "<init>"), (0, u "()V"), (0, .class_ 8), (0, u "com/example/mechelen/mechelen/protocol/ApiKey"), (0, .fieldref 7 10), (0, .nameAndType 11 12), (0, u "PRODUCE"), (0, u "Lcom/example/mechelen/mechelen/protocol/ApiKey;"), (0, .fieldref 7 14), (0, .nameAndType 15 12), (0, u "FETCH"), (0, .fieldref 7 17), (0, .nameAndType 18 12), (0, u "LIST_OFFSETS"), (0, .fieldref 7 20), (0, .nameAndType 21 12), (0, u "METADATA"), (0, .fieldref 7 23), (0, .nameAndType 24 12), (0, u "OFFSET_COMMIT"), (0, .fieldref 7 26), (0, .nameAndType 27 12), (0, u "OFFSET_FETCH"), (0, .fieldref 7 29), (0, .nameAndType 30 12), (0, u "FIND_COORDINATOR"), (0, .fieldref 7 32), (0, .nameAndType 33 12), (0, u "JOIN_GROUP"), (0, .fieldref 7 35), (0, .nameAndType 36 12), (0, u "HEARTBEAT"), (0, .fieldref 7 38), (0, .nameAndType 39 12), (0, u "LEAVE_GROUP"), (0, .fieldref 7 41), (0, .nameAndType 42 12), (0, u "SYNC_GROUP"), (0, .fieldref 7 44), (0, .nameAndType 45 12), (0, u "DESCRIBE_GROUPS"), (0, .fieldref 7 47), (0, .nameAndType 48 12), (0, u "LIST_GROUPS"), (0, .fieldref 7 50), (0, .nameAndType 51 12), (0, u "API_VERSIONS"), (0, .fieldref 7 53), (0, .nameAndType 54 12), (0, u "CREATE_TOPICS"), (0, .fieldref 7 56), (0, .nameAndType 57 12), (0, u "DELETE_TOPICS"), (0, .fieldref 7 59), (0, .nameAndType 60 12), (0, u "DELETE_RECORDS"), (0, .fieldref 7 62), (0, .nameAndType 63 12), (0, u "INIT_PRODUCER_ID"), (0, .fieldref 7 65), (0, .nameAndType 66 12), (0, u "DESCRIBE_CONFIGS"), (0, .fieldref 7 68), (0, .nameAndType 69 12), (0, u "CREATE_PARTITIONS"), (0, .fieldref 7 71), (0, .nameAndType 72 12), (0, u "DELETE_GROUPS"), (0, .fieldref 7 74), (0, .nameAndType 75 12), (0, u "OFFSET_DELETE"), (0, .integer 2147483647), (0, .methodref 7 78), (0, .nameAndType 79 80), (0, u "serves"), (0, u "(S)Z"), (0, .class_ 82), (0, u "com/example/mechelen/mechelen/protocol/ApiKeyServesPinLaw"), (2, u "law"), (0, u "(IIII)Z")] 7

def k1m0 : Method := { name := "<init>", desc := "()V", sig := { parameters := [], returnType := none }, accessFlags := 1, code := none }
def k1c1 : Code := { maxStack := 4, maxLocals := 12, code := code, exceptionTable := #[], attributes := #[] }
def k1m1 : Method := { name := "law", desc := "(IIII)Z", sig := { parameters := [.int, .int, .int, .int], returnType := some .boolean }, accessFlags := 9, code := some k1c1 }
/-- com/example/mechelen/mechelen/protocol/ApiKeyServesPinLaw -/
def k1 : Class := { plain "com/example/mechelen/mechelen/protocol/ApiKeyServesPinLaw" (some 0) with
  accessFlags := 49
  interfaces := #[]
  cf := some (fileOf pool1 81 #[] #[{ accessFlags := 1, nameIndex := 5, descriptorIndex := 6, attributes := #[] }, { accessFlags := 9, nameIndex := 85, descriptorIndex := 86, attributes := #[] }] 49 2 #[] #[])
  fields := #[]
  methods := #[k1m0, k1m1]
  instanceTypes := #[]
  staticTypes := #[]
  resolved := Array.replicate 94 none
  statics := none }

def pool2 : Array CpInfo := pool [(1, .class_ 2), (0, u "java/lang/constant/Constable"), (0, .class_ 4), (0, u "java/lang/Object")] 6

/-- java/lang/constant/Constable -/
def k2 : Class := { plain "java/lang/constant/Constable" (some 0) with
  accessFlags := 1537
  interfaces := #[]
  cf := some (fileOf pool2 1 #[] #[] 1537 3 #[] #[])
  fields := #[]
  methods := #[]
  instanceTypes := #[]
  staticTypes := #[]
  resolved := Array.replicate 11 none
  statics := none }

def pool3 : Array CpInfo := pool [(1, .class_ 2), (0, u "java/lang/Comparable"), (0, .class_ 4), (0, u "java/lang/Object")] 7

/-- java/lang/Comparable -/
def k3 : Class := { plain "java/lang/Comparable" (some 0) with
  accessFlags := 1537
  interfaces := #[]
  cf := some (fileOf pool3 1 #[] #[] 1537 3 #[] #[])
  fields := #[]
  methods := #[]
  instanceTypes := #[]
  staticTypes := #[]
  resolved := Array.replicate 12 none
  statics := none }

def pool4 : Array CpInfo := pool [(1, .class_ 2), (0, u "java/io/Serializable"), (0, .class_ 4), (0, u "java/lang/Object")] 2

/-- java/io/Serializable -/
def k4 : Class := { plain "java/io/Serializable" (some 0) with
  accessFlags := 1537
  interfaces := #[]
  cf := some (fileOf pool4 1 #[] #[] 1537 3 #[] #[])
  fields := #[]
  methods := #[]
  instanceTypes := #[]
  staticTypes := #[]
  resolved := Array.replicate 7 none
  statics := none }

def pool5 : Array CpInfo := pool [(2, .class_ 4), (1, u "java/lang/Enum"), (0, u "name"), (0, u "Ljava/lang/String;"), (2, u "ordinal"), (0, u "I"), (1, .class_ 14), (1, u "java/lang/Object"), (4, u "hash"), (86, .class_ 108), (1, u "java/lang/Enum$EnumDesc"), (2, .class_ 112), (0, u "java/lang/constant/Constable"), (0, .class_ 114), (0, u "java/lang/Comparable"), (0, .class_ 116), (0, u "java/io/Serializable")] 87

/-- java/lang/Enum -/
def k5 : Class := { plain "java/lang/Enum" (some 0) with
  accessFlags := 1057
  interfaces := #[2, 3, 4]
  cf := some (fileOf pool5 2 #[.nestMembers #[106]] #[] 1057 12 #[111, 113, 115] #[{ accessFlags := 18, nameIndex := 5, descriptorIndex := 6, attributes := #[] }, { accessFlags := 18, nameIndex := 9, descriptorIndex := 10, attributes := #[] }, { accessFlags := 2, nameIndex := 19, descriptorIndex := 10, attributes := #[] }])
  fields := #[{ name := "name", type := (.object "java/lang/String"), accessFlags := 18, slot := 0, constantValue := 0 }, { name := "ordinal", type := .int, accessFlags := 18, slot := 1, constantValue := 0 }, { name := "hash", type := .int, accessFlags := 2, slot := 2, constantValue := 0 }]
  methods := #[]
  instanceTypes := #[(.object "java/lang/String"), .int, .int]
  staticTypes := #[]
  resolved := Array.replicate 204 none
  statics := none }

def pool6 : Array CpInfo := pool [(3, .class_ 4), (0, u "com/example/mechelen/mechelen/protocol/ApiKey"), (2, u "PRODUCE"), (0, u "Lcom/example/mechelen/mechelen/protocol/ApiKey;"), (2, u "FETCH"), (2, u "LIST_OFFSETS"), (2, u "METADATA"), (2, u "OFFSET_COMMIT"), (2, u "OFFSET_FETCH"), (2, u "FIND_COORDINATOR"), (2, u "JOIN_GROUP"), (2, u "HEARTBEAT"), (2, u "LEAVE_GROUP"), (2, u "SYNC_GROUP"), (2, u "DESCRIBE_GROUPS"), (2, u "LIST_GROUPS"), (2, u "API_VERSIONS"), (2, u "CREATE_TOPICS"), (2, u "DELETE_TOPICS"), (2, u "DELETE_RECORDS"), (2, u "INIT_PRODUCER_ID"), (2, u "DESCRIBE_CONFIGS"), (2, u "CREATE_PARTITIONS"), (2, u "DELETE_GROUPS"), (2, u "OFFSET_DELETE"), (2, u "$VALUES"), (0, u "[Lcom/example/mechelen/mechelen/protocol/ApiKey;"), (6, .class_ 84), (1, u "java/lang/Enum"), (12, u "id"), (0, u "S"), (0, .fieldref 3 100), (0, .nameAndType 101 98), (0, u "minVersion"), (0, .fieldref 3 103), (0, .nameAndType 104 98), (0, u "maxVersion"), (2, u "firstFlexible"), (0, u "I"), (42, u "NEVER"), (13, u "serves"), (0, u "(S)Z")] 6

def k6c0 : Code := { maxStack := 2, maxLocals := 2, code := prog_51_method_9_code, exceptionTable := #[], attributes := #[] }
def k6m0 : Method := { name := "serves", desc := "(S)Z", sig := { parameters := [.short], returnType := some .boolean }, accessFlags := 0, code := some k6c0 }
/-- com/example/mechelen/mechelen/protocol/ApiKey -/
def k6 : Class := { plain "com/example/mechelen/mechelen/protocol/ApiKey" (some 5) with
  accessFlags := 16432
  interfaces := #[]
  cf := some (fileOf pool6 3 #[] #[{ accessFlags := 0, nameIndex := 165, descriptorIndex := 166, attributes := #[] }] 16432 82 #[] #[{ accessFlags := 16409, nameIndex := 7, descriptorIndex := 8, attributes := #[] }, { accessFlags := 16409, nameIndex := 11, descriptorIndex := 8, attributes := #[] }, { accessFlags := 16409, nameIndex := 14, descriptorIndex := 8, attributes := #[] }, { accessFlags := 16409, nameIndex := 17, descriptorIndex := 8, attributes := #[] }, { accessFlags := 16409, nameIndex := 20, descriptorIndex := 8, attributes := #[] }, { accessFlags := 16409, nameIndex := 23, descriptorIndex := 8, attributes := #[] }, { accessFlags := 16409, nameIndex := 26, descriptorIndex := 8, attributes := #[] }, { accessFlags := 16409, nameIndex := 29, descriptorIndex := 8, attributes := #[] }, { accessFlags := 16409, nameIndex := 32, descriptorIndex := 8, attributes := #[] }, { accessFlags := 16409, nameIndex := 35, descriptorIndex := 8, attributes := #[] }, { accessFlags := 16409, nameIndex := 38, descriptorIndex := 8, attributes := #[] }, { accessFlags := 16409, nameIndex := 41, descriptorIndex := 8, attributes := #[] }, { accessFlags := 16409, nameIndex := 44, descriptorIndex := 8, attributes := #[] }, { accessFlags := 16409, nameIndex := 47, descriptorIndex := 8, attributes := #[] }, { accessFlags := 16409, nameIndex := 50, descriptorIndex := 8, attributes := #[] }, { accessFlags := 16409, nameIndex := 53, descriptorIndex := 8, attributes := #[] }, { accessFlags := 16409, nameIndex := 56, descriptorIndex := 8, attributes := #[] }, { accessFlags := 16409, nameIndex := 59, descriptorIndex := 8, attributes := #[] }, { accessFlags := 16409, nameIndex := 62, descriptorIndex := 8, attributes := #[] }, { accessFlags := 16409, nameIndex := 65, descriptorIndex := 8, attributes := #[] }, { accessFlags := 16409, nameIndex := 68, descriptorIndex := 8, attributes := #[] }, { accessFlags := 16409, nameIndex := 71, descriptorIndex := 8, attributes := #[] }, { accessFlags := 26, nameIndex := 151, descriptorIndex := 108, attributes := #[] }, { accessFlags := 18, nameIndex := 97, descriptorIndex := 98, attributes := #[] }, { accessFlags := 18, nameIndex := 101, descriptorIndex := 98, attributes := #[] }, { accessFlags := 18, nameIndex := 104, descriptorIndex := 98, attributes := #[] }, { accessFlags := 18, nameIndex := 107, descriptorIndex := 108, attributes := #[] }, { accessFlags := 4122, nameIndex := 74, descriptorIndex := 75, attributes := #[] }])
  fields := #[{ name := "PRODUCE", type := (.object "com/example/mechelen/mechelen/protocol/ApiKey"), accessFlags := 16409, slot := 0, constantValue := 0 }, { name := "FETCH", type := (.object "com/example/mechelen/mechelen/protocol/ApiKey"), accessFlags := 16409, slot := 1, constantValue := 0 }, { name := "LIST_OFFSETS", type := (.object "com/example/mechelen/mechelen/protocol/ApiKey"), accessFlags := 16409, slot := 2, constantValue := 0 }, { name := "METADATA", type := (.object "com/example/mechelen/mechelen/protocol/ApiKey"), accessFlags := 16409, slot := 3, constantValue := 0 }, { name := "OFFSET_COMMIT", type := (.object "com/example/mechelen/mechelen/protocol/ApiKey"), accessFlags := 16409, slot := 4, constantValue := 0 }, { name := "OFFSET_FETCH", type := (.object "com/example/mechelen/mechelen/protocol/ApiKey"), accessFlags := 16409, slot := 5, constantValue := 0 }, { name := "FIND_COORDINATOR", type := (.object "com/example/mechelen/mechelen/protocol/ApiKey"), accessFlags := 16409, slot := 6, constantValue := 0 }, { name := "JOIN_GROUP", type := (.object "com/example/mechelen/mechelen/protocol/ApiKey"), accessFlags := 16409, slot := 7, constantValue := 0 }, { name := "HEARTBEAT", type := (.object "com/example/mechelen/mechelen/protocol/ApiKey"), accessFlags := 16409, slot := 8, constantValue := 0 }, { name := "LEAVE_GROUP", type := (.object "com/example/mechelen/mechelen/protocol/ApiKey"), accessFlags := 16409, slot := 9, constantValue := 0 }, { name := "SYNC_GROUP", type := (.object "com/example/mechelen/mechelen/protocol/ApiKey"), accessFlags := 16409, slot := 10, constantValue := 0 }, { name := "DESCRIBE_GROUPS", type := (.object "com/example/mechelen/mechelen/protocol/ApiKey"), accessFlags := 16409, slot := 11, constantValue := 0 }, { name := "LIST_GROUPS", type := (.object "com/example/mechelen/mechelen/protocol/ApiKey"), accessFlags := 16409, slot := 12, constantValue := 0 }, { name := "API_VERSIONS", type := (.object "com/example/mechelen/mechelen/protocol/ApiKey"), accessFlags := 16409, slot := 13, constantValue := 0 }, { name := "CREATE_TOPICS", type := (.object "com/example/mechelen/mechelen/protocol/ApiKey"), accessFlags := 16409, slot := 14, constantValue := 0 }, { name := "DELETE_TOPICS", type := (.object "com/example/mechelen/mechelen/protocol/ApiKey"), accessFlags := 16409, slot := 15, constantValue := 0 }, { name := "DELETE_RECORDS", type := (.object "com/example/mechelen/mechelen/protocol/ApiKey"), accessFlags := 16409, slot := 16, constantValue := 0 }, { name := "INIT_PRODUCER_ID", type := (.object "com/example/mechelen/mechelen/protocol/ApiKey"), accessFlags := 16409, slot := 17, constantValue := 0 }, { name := "DESCRIBE_CONFIGS", type := (.object "com/example/mechelen/mechelen/protocol/ApiKey"), accessFlags := 16409, slot := 18, constantValue := 0 }, { name := "CREATE_PARTITIONS", type := (.object "com/example/mechelen/mechelen/protocol/ApiKey"), accessFlags := 16409, slot := 19, constantValue := 0 }, { name := "DELETE_GROUPS", type := (.object "com/example/mechelen/mechelen/protocol/ApiKey"), accessFlags := 16409, slot := 20, constantValue := 0 }, { name := "OFFSET_DELETE", type := (.object "com/example/mechelen/mechelen/protocol/ApiKey"), accessFlags := 16409, slot := 21, constantValue := 0 }, { name := "NEVER", type := .int, accessFlags := 26, slot := 22, constantValue := 0 }, { name := "id", type := .short, accessFlags := 18, slot := 3, constantValue := 0 }, { name := "minVersion", type := .short, accessFlags := 18, slot := 4, constantValue := 0 }, { name := "maxVersion", type := .short, accessFlags := 18, slot := 5, constantValue := 0 }, { name := "firstFlexible", type := .int, accessFlags := 18, slot := 6, constantValue := 0 }, { name := "$VALUES", type := (.array (.object "com/example/mechelen/mechelen/protocol/ApiKey")), accessFlags := 4122, slot := 23, constantValue := 0 }]
  methods := #[k6m0]
  instanceTypes := #[(.object "java/lang/String"), .int, .int, .short, .short, .short, .int]
  staticTypes := #[(.object "com/example/mechelen/mechelen/protocol/ApiKey"), (.object "com/example/mechelen/mechelen/protocol/ApiKey"), (.object "com/example/mechelen/mechelen/protocol/ApiKey"), (.object "com/example/mechelen/mechelen/protocol/ApiKey"), (.object "com/example/mechelen/mechelen/protocol/ApiKey"), (.object "com/example/mechelen/mechelen/protocol/ApiKey"), (.object "com/example/mechelen/mechelen/protocol/ApiKey"), (.object "com/example/mechelen/mechelen/protocol/ApiKey"), (.object "com/example/mechelen/mechelen/protocol/ApiKey"), (.object "com/example/mechelen/mechelen/protocol/ApiKey"), (.object "com/example/mechelen/mechelen/protocol/ApiKey"), (.object "com/example/mechelen/mechelen/protocol/ApiKey"), (.object "com/example/mechelen/mechelen/protocol/ApiKey"), (.object "com/example/mechelen/mechelen/protocol/ApiKey"), (.object "com/example/mechelen/mechelen/protocol/ApiKey"), (.object "com/example/mechelen/mechelen/protocol/ApiKey"), (.object "com/example/mechelen/mechelen/protocol/ApiKey"), (.object "com/example/mechelen/mechelen/protocol/ApiKey"), (.object "com/example/mechelen/mechelen/protocol/ApiKey"), (.object "com/example/mechelen/mechelen/protocol/ApiKey"), (.object "com/example/mechelen/mechelen/protocol/ApiKey"), (.object "com/example/mechelen/mechelen/protocol/ApiKey"), .int, (.array (.object "com/example/mechelen/mechelen/protocol/ApiKey"))]
  resolved := Array.replicate 173 none
  statics := some 0 }

def pool7 : Array CpInfo := pool [(1, u "java/lang/Cloneable"), (0, .class_ 1), (0, u "java/lang/Object"), (0, .class_ 3)] 3

/-- java/lang/Cloneable -/
def k7 : Class := { plain "java/lang/Cloneable" (some 0) with
  accessFlags := 1537
  interfaces := #[]
  cf := some (fileOf pool7 2 #[] #[] 1537 4 #[] #[])
  fields := #[]
  methods := #[]
  instanceTypes := #[]
  staticTypes := #[]
  resolved := Array.replicate 8 none
  statics := none }

/-- the primitive byte -/
def k8 : Class := { plain "byte" none with kind := .primitive 'B', accessFlags := 0x411 }
/-- [B -/
def k9 : Class := { plain "[B" (some 0) with kind := .array 8 .byte, interfaces := #[7, 4], accessFlags := 1041 }

/-- the primitive int -/
def k10 : Class := { plain "int" none with kind := .primitive 'I', accessFlags := 0x411 }
/-- [I -/
def k11 : Class := { plain "[I" (some 0) with kind := .array 10 .int, interfaces := #[7, 4], accessFlags := 1041 }

/-- [Lcom/example/mechelen/mechelen/protocol/ApiKey; -/
def k12 : Class := { plain "[Lcom/example/mechelen/mechelen/protocol/ApiKey;" (some 0) with kind := .array 6 (.object "com/example/mechelen/mechelen/protocol/ApiKey"), interfaces := #[7, 4], accessFlags := 1041 }

def heap : Heap := #[{ cls := 6, slots := #[.ref 1, .ref 2, .ref 3, .ref 4, .ref 5, .ref 6, .ref 7, .ref 8, .ref 9, .ref 10, .ref 11, .ref 12, .ref 13, .ref 14, .ref 15, .ref 16, .ref 17, .ref 18, .ref 19, .ref 20, .ref 21, .ref 22, .int 0, .null], vm := .statics 6 },
  { cls := 6, slots := #[.null, .int 0, .int 0, .int 0, .int 0, .int 7, .int 0], vm := .none },
  { cls := 6, slots := #[.null, .int 1, .int 0, .int 1, .int 4, .int 11, .int 0], vm := .none },
  { cls := 6, slots := #[.null, .int 2, .int 0, .int 2, .int 1, .int 2, .int 0], vm := .none },
  { cls := 6, slots := #[.null, .int 3, .int 0, .int 3, .int 0, .int 4, .int 0], vm := .none },
  { cls := 6, slots := #[.null, .int 4, .int 0, .int 4, .int 0, .int 7, .int 0], vm := .none },
  { cls := 6, slots := #[.null, .int 5, .int 0, .int 5, .int 0, .int 7, .int 0], vm := .none },
  { cls := 6, slots := #[.null, .int 6, .int 0, .int 6, .int 0, .int 2, .int 0], vm := .none },
  { cls := 6, slots := #[.null, .int 7, .int 0, .int 7, .int 0, .int 5, .int 0], vm := .none },
  { cls := 6, slots := #[.null, .int 8, .int 0, .int 8, .int 0, .int 3, .int 0], vm := .none },
  { cls := 6, slots := #[.null, .int 9, .int 0, .int 9, .int 0, .int 1, .int 0], vm := .none },
  { cls := 6, slots := #[.null, .int 10, .int 0, .int 10, .int 0, .int 3, .int 0], vm := .none },
  { cls := 6, slots := #[.null, .int 11, .int 0, .int 11, .int 0, .int 2, .int 0], vm := .none },
  { cls := 6, slots := #[.null, .int 12, .int 0, .int 12, .int 0, .int 2, .int 0], vm := .none },
  { cls := 6, slots := #[.null, .int 13, .int 0, .int 13, .int 0, .int 3, .int 0], vm := .none },
  { cls := 6, slots := #[.null, .int 14, .int 0, .int 14, .int 0, .int 4, .int 0], vm := .none },
  { cls := 6, slots := #[.null, .int 15, .int 0, .int 15, .int 0, .int 1, .int 0], vm := .none },
  { cls := 6, slots := #[.null, .int 16, .int 0, .int 16, .int 0, .int 1, .int 0], vm := .none },
  { cls := 6, slots := #[.null, .int 17, .int 0, .int 17, .int 0, .int 1, .int 0], vm := .none },
  { cls := 6, slots := #[.null, .int 18, .int 0, .int 18, .int 0, .int 2, .int 0], vm := .none },
  { cls := 6, slots := #[.null, .int 19, .int 0, .int 19, .int 0, .int 0, .int 0], vm := .none },
  { cls := 6, slots := #[.null, .int 20, .int 0, .int 20, .int 0, .int 1, .int 0], vm := .none },
  { cls := 6, slots := #[.null, .int 21, .int 0, .int 21, .int 0, .int 0, .int 0], vm := .none }]
def classes : Array Class := #[k0, k1, k2, k3, k4, k5, k6, k7, k8, k9, k10, k11, k12]
def interned : List (Array UInt16 × Addr) := []
def slotsUsed : Nat := 178
def theMethod : MethodId := ⟨1, 1⟩
def args0 : Array Value := #[.int 1, .int 2, .int 3, .int 4]
def aboutOver (below : List Frame) : State where
  vm := { classes := classes, interned := interned.toArray }
  heap := heap
  slotsUsed := slotsUsed
  threads := #[{ frames := .invoking theMethod args0 :: below }]
def below0 : List Frame := [.native { method := ⟨0, 0⟩, args := #[] }]
def about1 : State := aboutOver below0
def p0 : Program := .bare "" "" ""
def e0 : Env := launch0.env 0 0 0
theorem w_frames : about1.frames = Frame.invoking theMethod args0 :: below0 := rfl
set_option maxRecDepth 65536 in
theorem w_args : argsFit about1.vm theMethod args0 = true := by decide +kernel
set_option maxRecDepth 65536 in
theorem w_heap : heapFits about1 = true := by decide +kernel
set_option maxRecDepth 65536 in
theorem w_runnable : about1.curStatus? = some .runnable := by decide +kernel
set_option maxRecDepth 65536 in
theorem w_alone : about1.alone = true := by decide +kernel
set_option maxRecDepth 65536 in
theorem w_named : about1.methodNamed? x = some theMethod := by decide +kernel
set_option maxRecDepth 65536 in
theorem w_hears : about1.hears theMethod below0 = true := by decide +kernel
set_option maxRecDepth 65536 in
theorem w_ripe : about1.ripe theMethod args0 below0 = true := by decide +kernel
theorem w_running : about1.status = .running := rfl
set_option maxRecDepth 65536 in
theorem w_room : about1.hasRoom e0.platform room_1 = true :=
  launch0.hasRoom_least _ room_1 (by decide +kernel) (by decide +kernel) (by decide +kernel) (by decide +kernel) (by decide +kernel) (by decide +kernel)
theorem allAtoms_all (ts : List Jvm.Cond) (a : Array Jvm.Value) (st : Jvm.State) : (allAtoms ts).before a st = ts.all (fun c => c.before a st) := by
  induction ts with
  | nil => rfl
  | cons c t ih =>
    show (Jvm.Cond.and c (allAtoms t)).before a st = _
    rw [Jvm.Cond.before_and, ih, List.all_cons]
def words1 : List Jvm.Cond := Jvm.Cond.code x code maxLocals ret :: tables_1
/-- a 'code' word, met by the world's own term for the bytes: nothing is compared byte by byte -/
theorem code_word {y : MethodName} {bytes : ByteArray} {mx : Nat} {rt : Option FieldType} {a : Array Value} {s : State} {m : MethodId} {meth : Method} {c : Code} (h1 : s.methodNamed? y = some m) (h2 : s.vm.method? m = some meth) (h3 : meth.code = some c) (h4 : c.code = bytes)
    (h5 : (c.maxLocals == mx && c.exceptionTable.isEmpty && decide (c.maxStack ≤ mostOperands) && decide (meth.sig.returnType = rt) && !meth.locks && decide (parseMethodDescriptor y.desc = some meth.sig)) = true) : (Jvm.Cond.code y bytes mx rt).before a s = true := by
  simp only [Bool.and_eq_true, beq_iff_eq, Bool.not_eq_true', decide_eq_true_eq] at h5
  obtain ⟨⟨⟨⟨⟨g1, g2⟩, g3⟩, g4⟩, g5⟩, g6⟩ := h5
  simp [Cond.before, Cond.holds, Cond.value, h1, h2, h3, h4, g1, g2, g3, g4, g5, g6]
def isCode : Jvm.Cond → Bool
  | .code _ _ _ _ => true
  | _ => false
theorem all_split {L : List Jvm.Cond} {P : Jvm.Cond → Bool} (h1 : L.all (fun c => isCode c || P c) = true) (h2 : ∀ c ∈ L.filter isCode, P c = true) : L.all P = true := by
  refine List.all_eq_true.mpr fun c hc => ?_
  have h := List.all_eq_true.mp h1 c hc
  rcases Bool.eq_false_or_eq_true (isCode c) with hi | hi
  · exact h2 c (List.mem_filter.mpr ⟨hc, hi⟩)
  · simpa [hi] using h
set_option maxRecDepth 65536 in
theorem w_c0 : (Jvm.Cond.code x code maxLocals ret).before args0 about1 = true := code_word (m := ⟨1, 1⟩) (meth := k1m1) (c := k1c1) (by decide +kernel) rfl rfl rfl (by decide +kernel)
set_option maxRecDepth 65536 in
theorem w_c1 : (Jvm.Cond.code ({ cls := "com/example/mechelen/mechelen/protocol/ApiKey", name := "serves", desc := "(S)Z" } : Jvm.MethodName) prog_51_method_9_code (2 : Nat) (Option.some Jvm.ClassFile.FieldType.boolean)).before args0 about1 = true := code_word (m := ⟨6, 0⟩) (meth := k6m0) (c := k6c0) (by decide +kernel) rfl rfl rfl (by decide +kernel)
def codes1 : List Jvm.Cond := [Jvm.Cond.code x code maxLocals ret, Jvm.Cond.code ({ cls := "com/example/mechelen/mechelen/protocol/ApiKey", name := "serves", desc := "(S)Z" } : Jvm.MethodName) prog_51_method_9_code (2 : Nat) (Option.some Jvm.ClassFile.FieldType.boolean)]
set_option maxRecDepth 65536 in
theorem codes_eq : words1.filter isCode = codes1 := rfl
theorem w_codes : ∀ c ∈ words1.filter isCode, c.before args0 about1 = true := by
  rw [codes_eq]
  intro c hc
  simp only [codes1, List.mem_cons, List.not_mem_nil, or_false] at hc
  rcases hc with rfl | rfl
  · exact w_c0
  · exact w_c1
set_option maxRecDepth 65536 in
theorem w_t1 : (words1.take 24).all (fun c => isCode c || c.before args0 about1) = true := by decide +kernel
set_option maxRecDepth 65536 in
theorem w_t2 : ((words1.drop 24).take 24).all (fun c => isCode c || c.before args0 about1) = true := by decide +kernel
set_option maxRecDepth 65536 in
theorem w_t3 : ((words1.drop 24).drop 24).all (fun c => isCode c || c.before args0 about1) = true := by decide +kernel
theorem w_tables : (allAtoms (Jvm.Cond.code x code maxLocals ret :: tables_1)).before args0 about1 = true := by
  rw [allAtoms_all]
  show words1.all (fun c => c.before args0 about1) = true
  refine all_split ?_ w_codes
  rw [← List.take_append_drop 24 words1, List.all_append, w_t1, ← List.take_append_drop 24 (words1.drop 24), List.all_append, w_t2, w_t3]
  rfl
set_option maxRecDepth 65536 in
theorem w_case : (Jvm.Cond.and given_1 narrow_1).before args0 about1 = true := by decide +kernel
theorem w_applies : (headSpec (Jvm.Cond.code x code maxLocals ret :: tables_1) room_1).applies x e0.platform about1 = true :=
  (Spec.applies_iff w_frames).mpr ⟨w_running, w_runnable, w_alone, w_named, w_hears, w_ripe, w_room, w_tables⟩
theorem atStart : AtStart classFile x code maxLocals ret World_1 tables_1 room_1 Calls_1 rest_1 Pre_1 launch0 p0 e0 about1 theMethod args0 below0 :=
  ⟨lists_1, trivial, launch0.admits_env _ _ _, launch0.least_env, fairChoices_fair.cas, fairChoices_fair.clock, w_frames, w_args, w_heap, w_applies, trivial, trivial, w_case⟩
end start1
theorem witness_1 : WitnessClaimed_1 := ⟨start1.p0, start1.e0, start1.about1, start1.theMethod, start1.args0, start1.below0, start1.atStart⟩
end Jvm.Pilot.@@N@@
