import JvmDerived
import JvmDerived.Pilot.@@N@@Statement
import JvmDerived.Pilot.@@N@@Code
set_option linter.unusedVariables false
set_option linter.unusedSimpArgs false
namespace Jvm.Pilot.@@N@@
open Jvm Jvm.ClassFile Sem Op Lib Jvm.Free Jvm.Stand Jvm.LawKit Jvm.RoadKit Bundle Jvm.Pilot.@@N@@.Jvm.D
def own_Go (p : Program) (e : Env) (below : List Frame) (s : State) (Q : Option Value → Heap → List Loc → Prop) (kc ks : Nat) (A : State) : Prop :=
  ∃ s₂ o, Steps p.tables e below A s₂ ∧ s₂.status = .running ∧ Ended s₂ below o ∧ ∃ v L, o = .returned v ∧ Q v s₂.heap L ∧ FrameEnd s o s₂ L kc ks
section OwnLayer
variable {p : Program} {l : Launch} {e : Env} {R : Room} {s : State} {m : MethodId} {args : Array Value} {below : List Frame} {meth : Method} {c : Code} {T : State} {locs : List Loc} {cells slots : Nat}
variable {Q : Option Value → Heap → List Loc → Prop} {kc ks : Nat} {A B : State}
theorem own_via (h : ∀ t, Steps p.tables e below B t → Steps p.tables e below A t) (g : own_Go p e below s Q kc ks B) : own_Go p e below s Q kc ks A := by
  obtain ⟨t, o, h1, r⟩ := g
  exact ⟨t, o, h _ h1, r⟩
theorem own_tr (h : Steps p.tables e below A B) (g : own_Go p e below s Q kc ks B) : own_Go p e below s Q kc ks A := by
  obtain ⟨t, o, h1, r⟩ := g
  exact ⟨t, o, h.trans h1, r⟩
theorem own_end (X : Stand p l e R s m args below meth c T locs cells slots) (hlk : meth.locks = false) {v : Option Value} (hv : meth.sig.returnType = none → v = none) {A : State}
    (hstep : ∀ fs, (∀ (f : JFrame) (acts : List Action), f.method = m → f.locked = none → f.entered = [] → (doReturn e (T.setTop f) acts v).1 = T.setFrames fs) → Steps p.tables e below A (T.setFrames fs))
    (hQ : Q v T.heap locs) (hc : cells ≤ kc) (hs : slots ≤ ks) : own_Go p e below s Q kc ks A := by
  obtain ⟨fs, hr, hrun, hended, hW, hsame⟩ := X.leave (v := v) hv hlk
  exact ⟨_, _, hstep fs hr, hrun, hended, _, _, rfl, hQ, ⟨_, rfl⟩, hW, hsame.mono hc hs⟩
theorem own_retZ (X : Stand p l e R s m args below meth c T locs cells slots) (hx : p.tables.exec = Jvm.exec) (hlk : meth.locks = false) {pc : Nat} {Ls : Array Slot} {z z' : Int32} {t : FieldType} {rest : List Value} (hret : meth.sig.returnType = some t) (ht : t = .boolean ∨ t = .byte ∨ t = .char ∨ t = .short)
    (hd : decode c.code pc = .ok (.ireturn, 1)) (hz : nar t z = z') (hQ : Q (some (.int z')) T.heap locs) (hc : cells ≤ kc) (hs : slots ≤ ks) : own_Go p e below s Q kc ks (T.setTop (mkF m pc Ls (.int z :: rest))) := by
  subst hz
  exact own_end X hlk (fun h => by rw [hret] at h; cases h) (fun fs hr => retN X hx hret ht hd hr) hQ hc hs
theorem own_retO (X : Stand p l e R s m args below meth c T locs cells slots) (hx : p.tables.exec = Jvm.exec) (hlk : meth.locks = false) {pc : Nat} {Ls : Array Slot} {w : Value} {t : FieldType} {i : Instr} {rest : List Value} (hret : meth.sig.returnType = some t) (hn : narrow t w = w)
    (hi : (i = .ireturn ∧ (t = .int ∨ t = .boolean ∨ t = .byte ∨ t = .char ∨ t = .short) ∧ ∃ z, w = .int z) ∨ (i = .lreturn ∧ t = .long ∧ ∃ z, w = .long z) ∨ (i = .dreturn ∧ t = .double ∧ ∃ z, w = .double z) ∨ (i = .freturn ∧ t = .float ∧ ∃ z, w = .float z) ∨ (i = .areturn ∧ t.isReference = true ∧ w.isRef = true))
    (hd : decode c.code pc = .ok (i, 1)) (hQ : Q (some w) T.heap locs) (hc : cells ≤ kc) (hs : slots ≤ ks) : own_Go p e below s Q kc ks (T.setTop (mkF m pc Ls (w :: rest))) :=
  own_end X hlk (fun h => by rw [hret] at h; cases h) (fun fs hr => retOut X hx hret hn hi hd hr) hQ hc hs
theorem own_retI (X : Stand p l e R s m args below meth c T locs cells slots) (hx : p.tables.exec = Jvm.exec) (hlk : meth.locks = false) {pc : Nat} {Ls : Array Slot} {z : Int32} {rest : List Value} (hret : meth.sig.returnType = some .int)
    (hd : decode c.code pc = .ok (.ireturn, 1)) (hQ : Q (some (.int z)) T.heap locs) (hc : cells ≤ kc) (hs : slots ≤ ks) : own_Go p e below s Q kc ks (T.setTop (mkF m pc Ls (.int z :: rest))) :=
  own_retO X hx hlk hret rfl (Or.inl ⟨rfl, Or.inl rfl, _, rfl⟩) hd hQ hc hs
theorem own_retJ (X : Stand p l e R s m args below meth c T locs cells slots) (hx : p.tables.exec = Jvm.exec) (hlk : meth.locks = false) {pc : Nat} {Ls : Array Slot} {z : Int64} {rest : List Value} (hret : meth.sig.returnType = some .long)
    (hd : decode c.code pc = .ok (.lreturn, 1)) (hQ : Q (some (.long z)) T.heap locs) (hc : cells ≤ kc) (hs : slots ≤ ks) : own_Go p e below s Q kc ks (T.setTop (mkF m pc Ls (.long z :: rest))) :=
  own_retO X hx hlk hret rfl (Or.inr (Or.inl ⟨rfl, rfl, _, rfl⟩)) hd hQ hc hs
theorem own_retR (X : Stand p l e R s m args below meth c T locs cells slots) (hx : p.tables.exec = Jvm.exec) (hlk : meth.locks = false) {pc : Nat} {Ls : Array Slot} {w : Value} {t : FieldType} {rest : List Value} (hret : meth.sig.returnType = some t) (ht : t.isReference = true) (hw : w.isRef = true)
    (hd : decode c.code pc = .ok (.areturn, 1)) (hQ : Q (some w) T.heap locs) (hc : cells ≤ kc) (hs : slots ≤ ks) : own_Go p e below s Q kc ks (T.setTop (mkF m pc Ls (w :: rest))) :=
  own_retO X hx hlk hret (by cases t <;> first | (cases ht; done) | rfl) (Or.inr (Or.inr (Or.inr (Or.inr ⟨rfl, ht, hw⟩)))) hd hQ hc hs
theorem own_retV (X : Stand p l e R s m args below meth c T locs cells slots) (hx : p.tables.exec = Jvm.exec) (hlk : meth.locks = false) {pc : Nat} {Ls : Array Slot} (hret : meth.sig.returnType = none)
    (hd : decode c.code pc = .ok (.return_, 1)) (hQ : Q none T.heap locs) (hc : cells ≤ kc) (hs : slots ≤ ks) : own_Go p e below s Q kc ks (T.setTop (mkF m pc Ls [])) :=
  own_end X hlk (fun _ => rfl) (fun fs hr => X.returnOut hx hret hd hr) hQ hc hs
end OwnLayer
theorem own_eqv {args : Array Value} {Z : State} {t : Term} {k : Int32} (h : (Jvm.Cond.eq t (Term.int k)).value args Z none Z [] = some true) : t.eval args Z none [] Z = some (.int k) := by
  simp only [Jvm.Cond.value, Term.eval] at h
  cases ht : t.eval args Z none [] Z with
  | none => simp [ht] at h
  | some x => cases x <;> simp [ht] at h ⊢; exact h
theorem own_eqvL {args : Array Value} {Z : State} {t : Term} {k : Int64} (h : (Jvm.Cond.eq t (Term.long k)).value args Z none Z [] = some true) : t.eval args Z none [] Z = some (.long k) := by
  simp only [Jvm.Cond.value, Term.eval] at h
  cases ht : t.eval args Z none [] Z with
  | none => simp [ht] at h
  | some x => cases x <;> simp [ht] at h ⊢; exact h
theorem own_fld {args : Array Value} {Z : State} {t : Term} {C n d : String} {a : Addr} {k : Int32} (ev : t.eval args Z none [] Z = some (.ref a)) (h : (Jvm.Cond.eq (Term.field t C n d) (Term.int k)).value args Z none Z [] = some true) : Fld Z Z.heap a C n d (.int k) :=
  Fld.start ((fld_at ev).symm.trans (own_eqv h))
theorem own_fldL {args : Array Value} {Z : State} {t : Term} {C n d : String} {a : Addr} {k : Int64} (ev : t.eval args Z none [] Z = some (.ref a)) (h : (Jvm.Cond.eq (Term.field t C n d) (Term.long k)).value args Z none Z [] = some true) : Fld Z Z.heap a C n d (.long k) :=
  Fld.start ((fld_at ev).symm.trans (own_eqvL h))
theorem own_mod (x : Int32) (n : Int32) (k : Int) (hn : n.toInt = k) (hk : 0 < k) : 0 ≤ ((x &&& 2147483647) % n).toInt ∧ ((x &&& 2147483647) % n).toInt < k := by
  have h := (c_and x 2147483647 (by decide)).1
  rw [Int32.toInt_mod, hn, Int.tmod_eq_emod_of_nonneg h]
  exact ⟨Int.emod_nonneg _ (by omega), Int.emod_lt_of_pos _ hk⟩
theorem own_z {x y : Int32} (h : x.toInt = y.toInt) : x = y := Int32.toInt_inj.mp h
theorem own_mod3 (x : Int32) : (x &&& 2147483647) % 3 = 0 ∨ (x &&& 2147483647) % 3 = 1 ∨ (x &&& 2147483647) % 3 = 2 := by
  have h := own_mod x 3 3 rfl (by decide)
  simp only [← Int32.toInt_inj, show (0 : Int32).toInt = 0 from rfl, show (1 : Int32).toInt = 1 from rfl, show (2 : Int32).toInt = 2 from rfl]
  omega
theorem own_mod5 (x : Int32) : (x &&& 2147483647) % 5 = 0 ∨ (x &&& 2147483647) % 5 = 1 ∨ (x &&& 2147483647) % 5 = 2 ∨ (x &&& 2147483647) % 5 = 3 ∨ (x &&& 2147483647) % 5 = 4 := by
  have h := own_mod x 5 5 rfl (by decide)
  simp only [← Int32.toInt_inj, show (0 : Int32).toInt = 0 from rfl, show (1 : Int32).toInt = 1 from rfl, show (2 : Int32).toInt = 2 from rfl, show (3 : Int32).toInt = 3 from rfl, show (4 : Int32).toInt = 4 from rfl]
  omega
theorem own_mod6 (x : Int32) : (x &&& 2147483647) % 6 = 0 ∨ (x &&& 2147483647) % 6 = 1 ∨ (x &&& 2147483647) % 6 = 2 ∨ (x &&& 2147483647) % 6 = 3 ∨ (x &&& 2147483647) % 6 = 4 ∨ (x &&& 2147483647) % 6 = 5 := by
  have h := own_mod x 6 6 rfl (by decide)
  simp only [← Int32.toInt_inj, show (0 : Int32).toInt = 0 from rfl, show (1 : Int32).toInt = 1 from rfl, show (2 : Int32).toInt = 2 from rfl, show (3 : Int32).toInt = 3 from rfl, show (4 : Int32).toInt = 4 from rfl, show (5 : Int32).toInt = 5 from rfl]
  omega
theorem own_and1 (x : Int32) : x &&& 1 = 0 ∨ x &&& 1 = 1 := by
  have h := c_and x 1 (by decide)
  simp only [← Int32.toInt_inj, show (0 : Int32).toInt = 0 from rfl, show (1 : Int32).toInt = 1 from rfl] at *
  omega
theorem own_and3 (x : Int32) : x &&& 3 = 0 ∨ x &&& 3 = 1 ∨ x &&& 3 = 2 ∨ x &&& 3 = 3 := by
  have h := c_and x 3 (by decide)
  simp only [← Int32.toInt_inj, show (0 : Int32).toInt = 0 from rfl, show (1 : Int32).toInt = 1 from rfl, show (2 : Int32).toInt = 2 from rfl, show (3 : Int32).toInt = 3 from rfl] at *
  omega
def own_K (Z : State) (h0 : Heap) (w0 : Addr) (w1 : Addr) (w2 : Addr) (w3 : Addr) : Prop :=
  Sta Z h0 "com/example/mailbox/mailbox/core/Right" "REGISTRY_READ" "Lcom/example/mailbox/mailbox/core/Right;" (.ref w0) ∧
  Sta Z h0 "com/example/mailbox/mailbox/core/Right" "REGISTRY_READ_WRITE" "Lcom/example/mailbox/mailbox/core/Right;" (.ref w1) ∧
  Sta Z h0 "com/example/mailbox/mailbox/core/Right" "SERVICE_CONNECT" "Lcom/example/mailbox/mailbox/core/Right;" (.ref w2) ∧
  Sta Z h0 "com/example/mailbox/mailbox/core/Right" "DEVICE_CONNECT" "Lcom/example/mailbox/mailbox/core/Right;" (.ref w3) ∧
  Exa Z h0 w0 "com/example/mailbox/mailbox/core/Right" ∧
  Exa Z h0 w1 "com/example/mailbox/mailbox/core/Right" ∧
  Exa Z h0 w2 "com/example/mailbox/mailbox/core/Right" ∧
  Exa Z h0 w3 "com/example/mailbox/mailbox/core/Right" ∧
  Fld Z h0 w3 "java/lang/Enum" "ordinal" "I" (.int (3 : Int32)) ∧
  Fld Z h0 w0 "java/lang/Enum" "ordinal" "I" (.int (0 : Int32)) ∧
  Fld Z h0 w1 "java/lang/Enum" "ordinal" "I" (.int (1 : Int32)) ∧
  Fld Z h0 w2 "java/lang/Enum" "ordinal" "I" (.int (2 : Int32)) ∧
  ¬ (w0 = w1) ∧
  ¬ (w0 = w2) ∧
  ¬ (w0 = w3) ∧
  ¬ (w1 = w2) ∧
  ¬ (w1 = w3) ∧
  ¬ (w2 = w3)
theorem pn0 : plainName "com/example/mailbox/mailbox/core/Right" = true := by first | (simp [plainName, overriddenIn]; done) | decide +kernel
theorem pn1 : plainName "com/example/mailbox/mailbox/core/RightAllowsPinLaw" = true := by first | (simp [plainName, overriddenIn]; done) | decide +kernel
theorem pd0 : parseMethodDescriptor "(Lcom/example/mailbox/mailbox/core/Right;)Z" = some ⟨[(.object "com/example/mailbox/mailbox/core/Right")], some .boolean⟩ := by decide +kernel
theorem d1_0 : decode prog_91_method_6_code 0 = .ok (.aload_n 1, 1) := by decide +kernel
theorem d1_1 : decode prog_91_method_6_code 1 = .ok (.aload_n 0, 1) := by decide +kernel
theorem d1_2 : decode prog_91_method_6_code 2 = .ok (.if_acmp .eq 17, 3) := by decide +kernel
theorem d1_5 : decode prog_91_method_6_code 5 = .ok (.aload_n 0, 1) := by decide +kernel
theorem d1_6 : decode prog_91_method_6_code 6 = .ok (.getstatic 7, 3) := by decide +kernel
theorem d1_9 : decode prog_91_method_6_code 9 = .ok (.if_acmp .ne 14, 3) := by decide +kernel
theorem d1_12 : decode prog_91_method_6_code 12 = .ok (.aload_n 1, 1) := by decide +kernel
theorem d1_13 : decode prog_91_method_6_code 13 = .ok (.getstatic 3, 3) := by decide +kernel
theorem d1_16 : decode prog_91_method_6_code 16 = .ok (.if_acmp .ne 7, 3) := by decide +kernel
theorem d1_19 : decode prog_91_method_6_code 19 = .ok (.iconst 1, 1) := by decide +kernel
theorem d1_20 : decode prog_91_method_6_code 20 = .ok (.goto 4, 3) := by decide +kernel
theorem d1_23 : decode prog_91_method_6_code 23 = .ok (.iconst 0, 1) := by decide +kernel
theorem d1_24 : decode prog_91_method_6_code 24 = .ok (.ireturn, 1) := by decide +kernel
def Q1_0 (x0 : Addr) (x1 : Addr) (w0 : Addr) (w1 : Addr) (w2 : Addr) (w3 : Addr) (h0 : Heap) (v : Option Value) (h : Heap) (L : List Loc) : Prop := L = [] ∧ h = h0 ∧ ((x1 = x0 ∧ v = some (.int (1 : Int32))) ∨ (¬ (x1 = x0) ∧ x0 = w1 ∧ x1 = w0 ∧ v = some (.int (1 : Int32))) ∨ (¬ (x1 = x0) ∧ x0 = w1 ∧ ¬ (x1 = w0) ∧ v = some (.int (0 : Int32))) ∨ (¬ (x1 = x0) ∧ ¬ (x0 = w1) ∧ v = some (.int (0 : Int32))))
set_option maxRecDepth 65536 in
set_option maxHeartbeats 40000000 in
theorem rm1_0 (l : Launch) (Z : State) (a0 : Array Value) (hw : ∀ d ∈ tables_1, d.before a0 Z = true) (ws : List Jvm.Cond) (x0 : Addr) (x1 : Addr) (w0 : Addr) (w1 : Addr) (w2 : Addr) (w3 : Addr) (h0 : Heap) (n0 : Nat) (Z0 : n0 ≤ h0.size) (K : own_K Z Z.heap w0 w1 w2 w3) (OL : Old Z n0 h0) :
    MetFree l (⟨"com/example/mailbox/mailbox/core/Right", "allows", "(Lcom/example/mailbox/mailbox/core/Right;)Z"⟩ : MethodName) (head1 (Jvm.Cond.code (⟨"com/example/mailbox/mailbox/core/Right", "allows", "(Lcom/example/mailbox/mailbox/core/Right;)Z"⟩ : MethodName) prog_91_method_6_code 2 (some .boolean) :: ws) ({ frames := 0, cells := 0, slots := 0, locals := 0 } : Room)) (fun a U => a = #[(.ref x0), (.ref x1)] ∧ Z.Warmed39 U.vm ∧ U.heap = h0) (fun _ _ _ _ _ => True) (fun _ U o U' => ∃ v L, o = .returned v ∧ Q1_0 x0 x1 w0 w1 w2 w3 h0 v U'.heap L ∧ FrameEnd U o U' L ({ frames := 0, cells := 0, slots := 0, locals := 0 } : Room).cells ({ frames := 0, cells := 0, slots := 0, locals := 0 } : Room).slots) := by
  refine MetFree.of_bodySF (plainFor_of_name pn0) hisR ?_
  intro p e s m args below meth c s₁ Bd hml0 hP hK
  obtain ⟨rfl, hZ, hh⟩ := hP
  have hx := Bd.exec
  have hby := Bd.bytes
  have hml : c.maxLocals = 2 := hml0
  have hown : s.vm.findClass "com/example/mailbox/mailbox/core/Right" = some m.cls := findClass_of_methodNamed Bd.named
  have hnm := (name_of_methodNamed Bd.named Bd.method).1
  have hlk := Bd.notSynchronized
  have X0 : Stand p l e ({ frames := 0, cells := 0, slots := 0, locals := 0 } : Room) s m #[(.ref x0), (.ref x1)] below meth c s₁ [] 0 0 := Stand.of_body Bd
  have e0 : s₁.heap = h0 := by rw [← hh, Bd.state]; rfl
  have K0 := K
  obtain ⟨S_w0, S_w1, S_w2, S_w3, E_w0, E_w1, E_w2, E_w3, F_w3_ordinal, F_w0_ordinal, F_w1_ordinal, F_w2_ordinal, n_w0_w1, n_w0_w2, n_w0_w3, n_w1_w2, n_w1_w3, n_w2_w3⟩ := K
  show own_Go p e below s (Q1_0 x0 x1 w0 w1 w2 w3 h0) 0 0 (s₁.setTop (entryFrame m #[(.ref x0), (.ref x1)] 2))
  rw [show entryFrame m #[(.ref x0), (.ref x1)] 2 = mkF m 0 #[.val (.ref x0), .val (.ref x1)] [] from by first | (simp [entryFrame, mkF, argsToLocals, Value.category]; done) | rfl]
  show own_Go p e below s _ _ _ (s₁.setTop (mkF m 0 #[.val (.ref x0), .val (.ref x1)] []))
  refine own_via (fun _ k => XS.aloadN X0.here hx rfl (hb hby d1_0) rfl rfl k) ?_
  show own_Go p e below s _ _ _ (s₁.setTop (mkF m 1 #[.val (.ref x0), .val (.ref x1)] [(.ref x1)]))
  refine own_via (fun _ k => XS.aloadN X0.here hx rfl (hb hby d1_1) rfl rfl k) ?_
  show own_Go p e below s _ _ _ (s₁.setTop (mkF m 2 #[.val (.ref x0), .val (.ref x1)] [(.ref x0), (.ref x1)]))
  by_cases hc1 : x1 = x0
  · refine own_via (fun _ k => Jvm.RoadKit.acmp (g := (mkF m 2 #[.val (.ref x0), .val (.ref x1)] [(.ref x0), (.ref x1)])) X0 hx rfl rfl rfl (pc0 := 2) (pc' := 19) (same := true) rfl (hb hby d1_2) rfl (decide_eq_true (congrArg Value.ref hc1)) (by decide) (by decide) k) ?_
    show own_Go p e below s _ _ _ (s₁.setTop (mkF m 19 #[.val (.ref x0), .val (.ref x1)] []))
    refine own_via (fun _ k => XS.iconst X0.here hx rfl (hb hby d1_19) k) ?_
    show own_Go p e below s _ _ _ (s₁.setTop (mkF m 20 #[.val (.ref x0), .val (.ref x1)] [(.int (1 : Int32))]))
    refine own_via (fun _ k => XS.goto X0.here hx rfl (pc0 := 20) (pc' := 24) rfl (hb hby d1_20) (by decide) (by decide) k) ?_
    show own_Go p e below s _ _ _ (s₁.setTop (mkF m 24 #[.val (.ref x0), .val (.ref x1)] [(.int (1 : Int32))]))
    exact own_retZ X0 hx hlk (t := .boolean) Bd.returns (by simp) (hb hby d1_24) (z' := (1 : Int32)) (by first | rfl | decide) ⟨rfl, e0, Or.inl ⟨hc1, rfl⟩⟩ (by decide) (by decide)
  · refine own_via (fun _ k => Jvm.RoadKit.acmp (g := (mkF m 2 #[.val (.ref x0), .val (.ref x1)] [(.ref x0), (.ref x1)])) X0 hx rfl rfl rfl (pc0 := 2) (pc' := 5) (same := false) rfl (hb hby d1_2) rfl (decide_eq_false fun q => hc1 (Value.ref.inj q)) (by decide) (by decide) k) ?_
    show own_Go p e below s _ _ _ (s₁.setTop (mkF m 5 #[.val (.ref x0), .val (.ref x1)] []))
    refine own_via (fun _ k => XS.aloadN X0.here hx rfl (hb hby d1_5) rfl rfl k) ?_
    show own_Go p e below s _ _ _ (s₁.setTop (mkF m 6 #[.val (.ref x0), .val (.ref x1)] [(.ref x0)]))
    obtain ⟨T2, X2, e2, st2⟩ := getS2 X0 hx hZ hown (host := "") (Or.inl (hw _ (List.mem_of_getElem? (i := 18) rfl))) Via.refl e0 (S_w1.ext OL.2) (g := (mkF m 6 #[.val (.ref x0), .val (.ref x1)] [(.ref x0)])) rfl (hb hby d1_6)
    refine own_via st2 ?_
    show own_Go p e below s _ _ _ (T2.setTop (mkF m 9 #[.val (.ref x0), .val (.ref x1)] [(.ref w1), (.ref x0)]))
    by_cases hc3 : x0 = w1
    · refine own_via (fun _ k => Jvm.RoadKit.acmp (g := (mkF m 9 #[.val (.ref x0), .val (.ref x1)] [(.ref w1), (.ref x0)])) X2 hx rfl rfl rfl (pc0 := 9) (pc' := 12) (same := true) rfl (hb hby d1_9) rfl (decide_eq_true (congrArg Value.ref hc3)) (by decide) (by decide) k) ?_
      show own_Go p e below s _ _ _ (T2.setTop (mkF m 12 #[.val (.ref x0), .val (.ref x1)] []))
      refine own_via (fun _ k => XS.aloadN X2.here hx rfl (hb hby d1_12) rfl rfl k) ?_
      show own_Go p e below s _ _ _ (T2.setTop (mkF m 13 #[.val (.ref x0), .val (.ref x1)] [(.ref x1)]))
      obtain ⟨T4, X4, e4, st4⟩ := getS2 X2 hx hZ hown (host := "") (Or.inl (hw _ (List.mem_of_getElem? (i := 19) rfl))) Via.refl e2 (S_w0.ext OL.2) (g := (mkF m 13 #[.val (.ref x0), .val (.ref x1)] [(.ref x1)])) rfl (hb hby d1_13)
      refine own_via st4 ?_
      show own_Go p e below s _ _ _ (T4.setTop (mkF m 16 #[.val (.ref x0), .val (.ref x1)] [(.ref w0), (.ref x1)]))
      by_cases hc5 : x1 = w0
      · refine own_via (fun _ k => Jvm.RoadKit.acmp (g := (mkF m 16 #[.val (.ref x0), .val (.ref x1)] [(.ref w0), (.ref x1)])) X4 hx rfl rfl rfl (pc0 := 16) (pc' := 19) (same := true) rfl (hb hby d1_16) rfl (decide_eq_true (congrArg Value.ref hc5)) (by decide) (by decide) k) ?_
        show own_Go p e below s _ _ _ (T4.setTop (mkF m 19 #[.val (.ref x0), .val (.ref x1)] []))
        refine own_via (fun _ k => XS.iconst X4.here hx rfl (hb hby d1_19) k) ?_
        show own_Go p e below s _ _ _ (T4.setTop (mkF m 20 #[.val (.ref x0), .val (.ref x1)] [(.int (1 : Int32))]))
        refine own_via (fun _ k => XS.goto X4.here hx rfl (pc0 := 20) (pc' := 24) rfl (hb hby d1_20) (by decide) (by decide) k) ?_
        show own_Go p e below s _ _ _ (T4.setTop (mkF m 24 #[.val (.ref x0), .val (.ref x1)] [(.int (1 : Int32))]))
        exact own_retZ X4 hx hlk (t := .boolean) Bd.returns (by simp) (hb hby d1_24) (z' := (1 : Int32)) (by first | rfl | decide) ⟨rfl, e4, Or.inr (Or.inl ⟨hc1, hc3, hc5, rfl⟩)⟩ (by decide) (by decide)
      · refine own_via (fun _ k => Jvm.RoadKit.acmp (g := (mkF m 16 #[.val (.ref x0), .val (.ref x1)] [(.ref w0), (.ref x1)])) X4 hx rfl rfl rfl (pc0 := 16) (pc' := 23) (same := false) rfl (hb hby d1_16) rfl (decide_eq_false fun q => hc5 (Value.ref.inj q)) (by decide) (by decide) k) ?_
        show own_Go p e below s _ _ _ (T4.setTop (mkF m 23 #[.val (.ref x0), .val (.ref x1)] []))
        refine own_via (fun _ k => XS.iconst X4.here hx rfl (hb hby d1_23) k) ?_
        show own_Go p e below s _ _ _ (T4.setTop (mkF m 24 #[.val (.ref x0), .val (.ref x1)] [(.int (0 : Int32))]))
        exact own_retZ X4 hx hlk (t := .boolean) Bd.returns (by simp) (hb hby d1_24) (z' := (0 : Int32)) (by first | rfl | decide) ⟨rfl, e4, Or.inr (Or.inr (Or.inl ⟨hc1, hc3, hc5, rfl⟩))⟩ (by decide) (by decide)
    · refine own_via (fun _ k => Jvm.RoadKit.acmp (g := (mkF m 9 #[.val (.ref x0), .val (.ref x1)] [(.ref w1), (.ref x0)])) X2 hx rfl rfl rfl (pc0 := 9) (pc' := 23) (same := false) rfl (hb hby d1_9) rfl (decide_eq_false fun q => hc3 (Value.ref.inj q)) (by decide) (by decide) k) ?_
      show own_Go p e below s _ _ _ (T2.setTop (mkF m 23 #[.val (.ref x0), .val (.ref x1)] []))
      refine own_via (fun _ k => XS.iconst X2.here hx rfl (hb hby d1_23) k) ?_
      show own_Go p e below s _ _ _ (T2.setTop (mkF m 24 #[.val (.ref x0), .val (.ref x1)] [(.int (0 : Int32))]))
      exact own_retZ X2 hx hlk (t := .boolean) Bd.returns (by simp) (hb hby d1_24) (z' := (0 : Int32)) (by first | rfl | decide) ⟨rfl, e2, Or.inr (Or.inr (Or.inr (⟨hc1, hc3, rfl⟩)))⟩ (by decide) (by decide)
def Q0 (n0 : Nat) (v : Option Value) (h : Heap) (L : List Loc) : Prop := v = some (.int 1) ∧ Fr n0 L
set_option maxRecDepth 65536 in
set_option maxHeartbeats 40000000 in
theorem rm0 (l : Launch) (Z : State) (a0 : Array Value) (hw : ∀ d ∈ tables_1, d.before a0 Z = true) (ws : List Jvm.Cond) (p0 : Int32) (p1 : Int32) (w0 : Addr) (w1 : Addr) (w2 : Addr) (w3 : Addr) (h0 : Heap) (n0 : Nat) (Z0 : n0 ≤ h0.size) (K : own_K Z Z.heap w0 w1 w2 w3) (OL : Old Z n0 h0) :
    MetFree l x (head1 (Jvm.Cond.code x code maxLocals ret :: ws) room_1) (fun a U => a = #[(.int p0), (.int p1)] ∧ Z.Warmed39 U.vm ∧ U.heap = h0) (fun _ _ _ _ _ => True) (fun _ U o U' => ∃ v L, o = .returned v ∧ Q0 n0 v U'.heap L ∧ FrameEnd U o U' L 16 128) := by
  refine MetFree.of_bodySF (plainFor_of_name pn1) hisR ?_
  intro p e s m args below meth c s₁ Bd hml0 hP hK
  obtain ⟨rfl, hZ, hh⟩ := hP
  have hx := Bd.exec
  have hby := Bd.bytes
  have hml : c.maxLocals = 7 := hml0
  have hown : s.vm.findClass "com/example/mailbox/mailbox/core/RightAllowsPinLaw" = some m.cls := findClass_of_methodNamed Bd.named
  have hnm := (name_of_methodNamed Bd.named Bd.method).1
  have hlk := Bd.notSynchronized
  have X0 : Stand p l e room_1 s m #[(.int p0), (.int p1)] below meth c s₁ [] 0 0 := Stand.of_body Bd
  have e0 : s₁.heap = h0 := by rw [← hh, Bd.state]; rfl
  have K0 := K
  obtain ⟨S_w0, S_w1, S_w2, S_w3, E_w0, E_w1, E_w2, E_w3, F_w3_ordinal, F_w0_ordinal, F_w1_ordinal, F_w2_ordinal, n_w0_w1, n_w0_w2, n_w0_w3, n_w1_w2, n_w1_w3, n_w2_w3⟩ := K
  show own_Go p e below s (Q0 n0) 16 128 (s₁.setTop (entryFrame m #[(.int p0), (.int p1)] maxLocals))
  rw [show entryFrame m #[(.int p0), (.int p1)] maxLocals = mkF m 0 #[.val (.int p0), .val (.int p1), .unset, .unset, .unset, .unset, .unset] [] from by first | (simp [entryFrame, mkF, argsToLocals, Value.category, maxLocals]; done) | rfl]
  show own_Go p e below s _ _ _ (s₁.setTop (mkF m 0 #[.val (.int p0), .val (.int p1), .unset, .unset, .unset, .unset, .unset] []))
  refine own_via (fun _ k => XS.iconst X0.here hx rfl (hb hby at_0) k) ?_
  show own_Go p e below s _ _ _ (s₁.setTop (mkF m 1 #[.val (.int p0), .val (.int p1), .unset, .unset, .unset, .unset, .unset] [(.int (4 : Int32))]))
  obtain ⟨T1, h1, k1, X1, e1, E1, A1, O1, st1⟩ := newR X0 hx hZ hown (hw _ (List.mem_of_getElem? (i := 0) rfl)) (hw _ (List.mem_of_getElem? (i := 1) rfl)) e0 (g := (mkF m 1 #[.val (.int p0), .val (.int p1), .unset, .unset, .unset, .unset, .unset] [(.int (4 : Int32))])) rfl (hb hby at_1) rfl (by decide) (cap := 4) (by decide) (by decide) (by decide) (by decide)
  obtain ⟨b1, g1⟩ : ∃ z, z = h0.size := ⟨_, rfl⟩
  rw [← g1] at A1 st1
  have V_b1 : Arv Z h1 b1 k1 (.object "com/example/mailbox/mailbox/core/Right") (4 : Int32) [.null, .null, .null, .null] .null := (Arv.new A1 (by decide)).pad (pad_rep [] .null 4)
  have g_b1 : n0 ≤ b1 := Nat.le_trans Z0 (Nat.le_of_eq g1.symm)
  have Z0 := Nat.le_trans Z0 E1.1
  have OL := OL.ext E1
  refine own_via st1 ?_
  show own_Go p e below s _ _ _ (T1.setTop (mkF m 4 #[.val (.int p0), .val (.int p1), .unset, .unset, .unset, .unset, .unset] [(.ref b1)]))
  refine own_via (fun _ k => XS.dup X1.here hx rfl (hb hby at_4) rfl rfl k) ?_
  show own_Go p e below s _ _ _ (T1.setTop (mkF m 5 #[.val (.int p0), .val (.int p1), .unset, .unset, .unset, .unset, .unset] [(.ref b1), (.ref b1)]))
  refine own_via (fun _ k => XS.iconst X1.here hx rfl (hb hby at_5) k) ?_
  show own_Go p e below s _ _ _ (T1.setTop (mkF m 6 #[.val (.int p0), .val (.int p1), .unset, .unset, .unset, .unset, .unset] [(.int (0 : Int32)), (.ref b1), (.ref b1)]))
  obtain ⟨T2, X2, e2, st2⟩ := getS2 X1 hx hZ hown (host := "") (Or.inl (hw _ (List.mem_of_getElem? (i := 2) rfl))) Via.refl e1 (S_w0.ext OL.2) (g := (mkF m 6 #[.val (.int p0), .val (.int p1), .unset, .unset, .unset, .unset, .unset] [(.int (0 : Int32)), (.ref b1), (.ref b1)])) rfl (hb hby at_6)
  refine own_via st2 ?_
  show own_Go p e below s _ _ _ (T2.setTop (mkF m 9 #[.val (.int p0), .val (.int p1), .unset, .unset, .unset, .unset, .unset] [(.ref w0), (.int (0 : Int32)), (.ref b1), (.ref b1)]))
  have Vx3 := V_b1
  obtain ⟨cl3, Ar3, q3, S3, N3, H3, G3⟩ := Vx3
  have hin3 : ¬ ((0 : Int32) < 0 ∨ cl3.slots.size ≤ ((0 : Int32)).toNatClampNeg) := inb_of S3 ⟨by decide, by decide⟩
  have Sto3 : Sto Z h1 b1 (.ref w0) := Sto.ofV Ar3 q3 O1 (Ins.self (E_w0.ext OL.2))
  obtain ⟨T3, h3, X3, e3, W3, st3⟩ := stR X2 hx hZ e2 Ar3 (j := (0 : Int32)) hin3 rfl Sto3 (g := (mkF m 9 #[.val (.int p0), .val (.int p1), .unset, .unset, .unset, .unset, .unset] [(.ref w0), (.int (0 : Int32)), (.ref b1), (.ref b1)])) rfl rfl (hb hby at_9)
  have V_b1 : Arv Z h3 b1 k1 (.object "com/example/mailbox/mailbox/core/Right") (4 : Int32) [(.ref w0), .null, .null, .null] .null := Arv.set Ar3 q3 S3 N3 H3 G3 rfl W3 0 rfl (Nat.le_of_ble_eq_true rfl)
  have N3 := Fr.snoc X3 (Fr.nil n0) g_b1
  have Z0 := Nat.le_trans Z0 (Keep.of_wr W3).1
  have OL := OL.wr W3 g_b1
  refine own_via st3 ?_
  show own_Go p e below s _ _ _ (T3.setTop (mkF m 10 #[.val (.int p0), .val (.int p1), .unset, .unset, .unset, .unset, .unset] [(.ref b1)]))
  refine own_via (fun _ k => XS.dup X3.here hx rfl (hb hby at_10) rfl rfl k) ?_
  show own_Go p e below s _ _ _ (T3.setTop (mkF m 11 #[.val (.int p0), .val (.int p1), .unset, .unset, .unset, .unset, .unset] [(.ref b1), (.ref b1)]))
  refine own_via (fun _ k => XS.iconst X3.here hx rfl (hb hby at_11) k) ?_
  show own_Go p e below s _ _ _ (T3.setTop (mkF m 12 #[.val (.int p0), .val (.int p1), .unset, .unset, .unset, .unset, .unset] [(.int (1 : Int32)), (.ref b1), (.ref b1)]))
  obtain ⟨T4, X4, e4, st4⟩ := getS2 X3 hx hZ hown (host := "") (Or.inl (hw _ (List.mem_of_getElem? (i := 6) rfl))) Via.refl e3 (S_w1.ext OL.2) (g := (mkF m 12 #[.val (.int p0), .val (.int p1), .unset, .unset, .unset, .unset, .unset] [(.int (1 : Int32)), (.ref b1), (.ref b1)])) rfl (hb hby at_12)
  refine own_via st4 ?_
  show own_Go p e below s _ _ _ (T4.setTop (mkF m 15 #[.val (.int p0), .val (.int p1), .unset, .unset, .unset, .unset, .unset] [(.ref w1), (.int (1 : Int32)), (.ref b1), (.ref b1)]))
  have Vx5 := V_b1
  obtain ⟨cl5, Ar5, q5, S5, N5, H5, G5⟩ := Vx5
  have hin5 : ¬ ((1 : Int32) < 0 ∨ cl5.slots.size ≤ ((1 : Int32)).toNatClampNeg) := inb_of S5 ⟨by decide, by decide⟩
  have Sto5 : Sto Z h3 b1 (.ref w1) := Sto.ofV Ar5 q5 O1 (Ins.self (E_w1.ext OL.2))
  obtain ⟨T5, h5, X5, e5, W5, st5⟩ := stR X4 hx hZ e4 Ar5 (j := (1 : Int32)) hin5 rfl Sto5 (g := (mkF m 15 #[.val (.int p0), .val (.int p1), .unset, .unset, .unset, .unset, .unset] [(.ref w1), (.int (1 : Int32)), (.ref b1), (.ref b1)])) rfl rfl (hb hby at_15)
  have V_b1 : Arv Z h5 b1 k1 (.object "com/example/mailbox/mailbox/core/Right") (4 : Int32) [(.ref w0), (.ref w1), .null, .null] .null := Arv.set Ar5 q5 S5 N5 H5 G5 rfl W5 1 rfl (Nat.le_of_ble_eq_true rfl)
  have N5 := Fr.snoc X5 N3 g_b1
  have Z0 := Nat.le_trans Z0 (Keep.of_wr W5).1
  have OL := OL.wr W5 g_b1
  refine own_via st5 ?_
  show own_Go p e below s _ _ _ (T5.setTop (mkF m 16 #[.val (.int p0), .val (.int p1), .unset, .unset, .unset, .unset, .unset] [(.ref b1)]))
  refine own_via (fun _ k => XS.dup X5.here hx rfl (hb hby at_16) rfl rfl k) ?_
  show own_Go p e below s _ _ _ (T5.setTop (mkF m 17 #[.val (.int p0), .val (.int p1), .unset, .unset, .unset, .unset, .unset] [(.ref b1), (.ref b1)]))
  refine own_via (fun _ k => XS.iconst X5.here hx rfl (hb hby at_17) k) ?_
  show own_Go p e below s _ _ _ (T5.setTop (mkF m 18 #[.val (.int p0), .val (.int p1), .unset, .unset, .unset, .unset, .unset] [(.int (2 : Int32)), (.ref b1), (.ref b1)]))
  obtain ⟨T6, X6, e6, st6⟩ := getS2 X5 hx hZ hown (host := "") (Or.inl (hw _ (List.mem_of_getElem? (i := 8) rfl))) Via.refl e5 (S_w2.ext OL.2) (g := (mkF m 18 #[.val (.int p0), .val (.int p1), .unset, .unset, .unset, .unset, .unset] [(.int (2 : Int32)), (.ref b1), (.ref b1)])) rfl (hb hby at_18)
  refine own_via st6 ?_
  show own_Go p e below s _ _ _ (T6.setTop (mkF m 21 #[.val (.int p0), .val (.int p1), .unset, .unset, .unset, .unset, .unset] [(.ref w2), (.int (2 : Int32)), (.ref b1), (.ref b1)]))
  have Vx7 := V_b1
  obtain ⟨cl7, Ar7, q7, S7, N7, H7, G7⟩ := Vx7
  have hin7 : ¬ ((2 : Int32) < 0 ∨ cl7.slots.size ≤ ((2 : Int32)).toNatClampNeg) := inb_of S7 ⟨by decide, by decide⟩
  have Sto7 : Sto Z h5 b1 (.ref w2) := Sto.ofV Ar7 q7 O1 (Ins.self (E_w2.ext OL.2))
  obtain ⟨T7, h7, X7, e7, W7, st7⟩ := stR X6 hx hZ e6 Ar7 (j := (2 : Int32)) hin7 rfl Sto7 (g := (mkF m 21 #[.val (.int p0), .val (.int p1), .unset, .unset, .unset, .unset, .unset] [(.ref w2), (.int (2 : Int32)), (.ref b1), (.ref b1)])) rfl rfl (hb hby at_21)
  have V_b1 : Arv Z h7 b1 k1 (.object "com/example/mailbox/mailbox/core/Right") (4 : Int32) [(.ref w0), (.ref w1), (.ref w2), .null] .null := Arv.set Ar7 q7 S7 N7 H7 G7 rfl W7 2 rfl (Nat.le_of_ble_eq_true rfl)
  have N7 := Fr.snoc X7 N5 g_b1
  have Z0 := Nat.le_trans Z0 (Keep.of_wr W7).1
  have OL := OL.wr W7 g_b1
  refine own_via st7 ?_
  show own_Go p e below s _ _ _ (T7.setTop (mkF m 22 #[.val (.int p0), .val (.int p1), .unset, .unset, .unset, .unset, .unset] [(.ref b1)]))
  refine own_via (fun _ k => XS.dup X7.here hx rfl (hb hby at_22) rfl rfl k) ?_
  show own_Go p e below s _ _ _ (T7.setTop (mkF m 23 #[.val (.int p0), .val (.int p1), .unset, .unset, .unset, .unset, .unset] [(.ref b1), (.ref b1)]))
  refine own_via (fun _ k => XS.iconst X7.here hx rfl (hb hby at_23) k) ?_
  show own_Go p e below s _ _ _ (T7.setTop (mkF m 24 #[.val (.int p0), .val (.int p1), .unset, .unset, .unset, .unset, .unset] [(.int (3 : Int32)), (.ref b1), (.ref b1)]))
  obtain ⟨T8, X8, e8, st8⟩ := getS2 X7 hx hZ hown (host := "") (Or.inl (hw _ (List.mem_of_getElem? (i := 10) rfl))) Via.refl e7 (S_w3.ext OL.2) (g := (mkF m 24 #[.val (.int p0), .val (.int p1), .unset, .unset, .unset, .unset, .unset] [(.int (3 : Int32)), (.ref b1), (.ref b1)])) rfl (hb hby at_24)
  refine own_via st8 ?_
  show own_Go p e below s _ _ _ (T8.setTop (mkF m 27 #[.val (.int p0), .val (.int p1), .unset, .unset, .unset, .unset, .unset] [(.ref w3), (.int (3 : Int32)), (.ref b1), (.ref b1)]))
  have Vx9 := V_b1
  obtain ⟨cl9, Ar9, q9, S9, N9, H9, G9⟩ := Vx9
  have hin9 : ¬ ((3 : Int32) < 0 ∨ cl9.slots.size ≤ ((3 : Int32)).toNatClampNeg) := inb_of S9 ⟨by decide, by decide⟩
  have Sto9 : Sto Z h7 b1 (.ref w3) := Sto.ofV Ar9 q9 O1 (Ins.self (E_w3.ext OL.2))
  obtain ⟨T9, h9, X9, e9, W9, st9⟩ := stR X8 hx hZ e8 Ar9 (j := (3 : Int32)) hin9 rfl Sto9 (g := (mkF m 27 #[.val (.int p0), .val (.int p1), .unset, .unset, .unset, .unset, .unset] [(.ref w3), (.int (3 : Int32)), (.ref b1), (.ref b1)])) rfl rfl (hb hby at_27)
  have V_b1 : Arv Z h9 b1 k1 (.object "com/example/mailbox/mailbox/core/Right") (4 : Int32) [(.ref w0), (.ref w1), (.ref w2), (.ref w3)] .null := Arv.set Ar9 q9 S9 N9 H9 G9 rfl W9 3 rfl (Nat.le_of_ble_eq_true rfl)
  have N9 := Fr.snoc X9 N7 g_b1
  have Z0 := Nat.le_trans Z0 (Keep.of_wr W9).1
  have OL := OL.wr W9 g_b1
  refine own_via st9 ?_
  show own_Go p e below s _ _ _ (T9.setTop (mkF m 28 #[.val (.int p0), .val (.int p1), .unset, .unset, .unset, .unset, .unset] [(.ref b1)]))
  refine own_via (fun _ k => XS.astoreN X9.here hx rfl (hb hby at_28) rfl rfl (l' := #[.val (.int p0), .val (.int p1), .val (.ref b1), .unset, .unset, .unset, .unset]) rfl k) ?_
  show own_Go p e below s _ _ _ (T9.setTop (mkF m 29 #[.val (.int p0), .val (.int p1), .val (.ref b1), .unset, .unset, .unset, .unset] []))
  refine own_via (fun _ k => XS.iloadN X9.here hx rfl (hb hby at_29) rfl k) ?_
  show own_Go p e below s _ _ _ (T9.setTop (mkF m 30 #[.val (.int p0), .val (.int p1), .val (.ref b1), .unset, .unset, .unset, .unset] [(.int p0)]))
  refine own_via (fun _ k => XS.iconst X9.here hx rfl (hb hby at_30) k) ?_
  show own_Go p e below s _ _ _ (T9.setTop (mkF m 31 #[.val (.int p0), .val (.int p1), .val (.ref b1), .unset, .unset, .unset, .unset] [(.int (3 : Int32)), (.int p0)]))
  refine own_via (fun _ k => XS.iand X9.here hx rfl (hb hby at_31) rfl k) ?_
  rcases (own_and3 _ : (p0 &&& (3 : Int32)) = (0 : Int32) ∨ (p0 &&& (3 : Int32)) = (1 : Int32) ∨ (p0 &&& (3 : Int32)) = (2 : Int32) ∨ (p0 &&& (3 : Int32)) = (3 : Int32)) with hk10 | hk11 | hk12 | hk13
  · rw [hk10]
    show own_Go p e below s _ _ _ (T9.setTop (mkF m 32 #[.val (.int p0), .val (.int p1), .val (.ref b1), .unset, .unset, .unset, .unset] [(.int (0 : Int32))]))
    refine own_via (fun _ k => XS.istoreN X9.here hx rfl (hb hby at_32) rfl (l' := #[.val (.int p0), .val (.int p1), .val (.ref b1), .val (.int (0 : Int32)), .unset, .unset, .unset]) rfl k) ?_
    show own_Go p e below s _ _ _ (T9.setTop (mkF m 33 #[.val (.int p0), .val (.int p1), .val (.ref b1), .val (.int (0 : Int32)), .unset, .unset, .unset] []))
    refine own_via (fun _ k => XS.iloadN X9.here hx rfl (hb hby at_33) rfl k) ?_
    show own_Go p e below s _ _ _ (T9.setTop (mkF m 34 #[.val (.int p0), .val (.int p1), .val (.ref b1), .val (.int (0 : Int32)), .unset, .unset, .unset] [(.int p1)]))
    refine own_via (fun _ k => XS.iconst X9.here hx rfl (hb hby at_34) k) ?_
    show own_Go p e below s _ _ _ (T9.setTop (mkF m 35 #[.val (.int p0), .val (.int p1), .val (.ref b1), .val (.int (0 : Int32)), .unset, .unset, .unset] [(.int (3 : Int32)), (.int p1)]))
    refine own_via (fun _ k => XS.iand X9.here hx rfl (hb hby at_35) rfl k) ?_
    rcases (own_and3 _ : (p1 &&& (3 : Int32)) = (0 : Int32) ∨ (p1 &&& (3 : Int32)) = (1 : Int32) ∨ (p1 &&& (3 : Int32)) = (2 : Int32) ∨ (p1 &&& (3 : Int32)) = (3 : Int32)) with hk14 | hk15 | hk16 | hk17
    · rw [hk14]
      show own_Go p e below s _ _ _ (T9.setTop (mkF m 36 #[.val (.int p0), .val (.int p1), .val (.ref b1), .val (.int (0 : Int32)), .unset, .unset, .unset] [(.int (0 : Int32))]))
      refine own_via (fun _ k => XS.istore X9.here hx rfl (hb hby at_36) rfl (l' := #[.val (.int p0), .val (.int p1), .val (.ref b1), .val (.int (0 : Int32)), .val (.int (0 : Int32)), .unset, .unset]) rfl k) ?_
      show own_Go p e below s _ _ _ (T9.setTop (mkF m 38 #[.val (.int p0), .val (.int p1), .val (.ref b1), .val (.int (0 : Int32)), .val (.int (0 : Int32)), .unset, .unset] []))
      refine own_via (fun _ k => X9.ldcInt hx hown (mvT hZ (hw _ (List.mem_of_getElem? (i := 12) rfl))) (g := (mkF m 38 #[.val (.int p0), .val (.int p1), .val (.ref b1), .val (.int (0 : Int32)), .val (.int (0 : Int32)), .unset, .unset] [])) rfl (hb hby at_38) _ k) ?_
      show own_Go p e below s _ _ _ (T9.setTop (mkF m 40 #[.val (.int p0), .val (.int p1), .val (.ref b1), .val (.int (0 : Int32)), .val (.int (0 : Int32)), .unset, .unset] [(.int (33841 : Int32))]))
      refine own_via (fun _ k => XS.istore X9.here hx rfl (hb hby at_40) rfl (l' := #[.val (.int p0), .val (.int p1), .val (.ref b1), .val (.int (0 : Int32)), .val (.int (0 : Int32)), .val (.int (33841 : Int32)), .unset]) rfl k) ?_
      show own_Go p e below s _ _ _ (T9.setTop (mkF m 42 #[.val (.int p0), .val (.int p1), .val (.ref b1), .val (.int (0 : Int32)), .val (.int (0 : Int32)), .val (.int (33841 : Int32)), .unset] []))
      refine own_via (fun _ k => XS.iload X9.here hx rfl (hb hby at_42) rfl k) ?_
      show own_Go p e below s _ _ _ (T9.setTop (mkF m 44 #[.val (.int p0), .val (.int p1), .val (.ref b1), .val (.int (0 : Int32)), .val (.int (0 : Int32)), .val (.int (33841 : Int32)), .unset] [(.int (33841 : Int32))]))
      refine own_via (fun _ k => XS.iloadN X9.here hx rfl (hb hby at_44) rfl k) ?_
      show own_Go p e below s _ _ _ (T9.setTop (mkF m 45 #[.val (.int p0), .val (.int p1), .val (.ref b1), .val (.int (0 : Int32)), .val (.int (0 : Int32)), .val (.int (33841 : Int32)), .unset] [(.int (0 : Int32)), (.int (33841 : Int32))]))
      refine own_via (fun _ k => XS.iconst X9.here hx rfl (hb hby at_45) k) ?_
      show own_Go p e below s _ _ _ (T9.setTop (mkF m 46 #[.val (.int p0), .val (.int p1), .val (.ref b1), .val (.int (0 : Int32)), .val (.int (0 : Int32)), .val (.int (33841 : Int32)), .unset] [(.int (4 : Int32)), (.int (0 : Int32)), (.int (33841 : Int32))]))
      refine own_via (fun _ k => XS.imul X9.here hx rfl (hb hby at_46) rfl k) ?_
      show own_Go p e below s _ _ _ (T9.setTop (mkF m 47 #[.val (.int p0), .val (.int p1), .val (.ref b1), .val (.int (0 : Int32)), .val (.int (0 : Int32)), .val (.int (33841 : Int32)), .unset] [(.int ((0 : Int32) * (4 : Int32))), (.int (33841 : Int32))]))
      refine own_via (fun _ k => XS.iload X9.here hx rfl (hb hby at_47) rfl k) ?_
      show own_Go p e below s _ _ _ (T9.setTop (mkF m 49 #[.val (.int p0), .val (.int p1), .val (.ref b1), .val (.int (0 : Int32)), .val (.int (0 : Int32)), .val (.int (33841 : Int32)), .unset] [(.int (0 : Int32)), (.int ((0 : Int32) * (4 : Int32))), (.int (33841 : Int32))]))
      refine own_via (fun _ k => XS.iadd X9.here hx rfl (hb hby at_49) rfl k) ?_
      show own_Go p e below s _ _ _ (T9.setTop (mkF m 50 #[.val (.int p0), .val (.int p1), .val (.ref b1), .val (.int (0 : Int32)), .val (.int (0 : Int32)), .val (.int (33841 : Int32)), .unset] [(.int (((0 : Int32) * (4 : Int32)) + (0 : Int32))), (.int (33841 : Int32))]))
      refine own_via (fun _ k => XS.ishr X9.here hx rfl (hb hby at_50) rfl k) ?_
      show own_Go p e below s _ _ _ (T9.setTop (mkF m 51 #[.val (.int p0), .val (.int p1), .val (.ref b1), .val (.int (0 : Int32)), .val (.int (0 : Int32)), .val (.int (33841 : Int32)), .unset] [(.int ((33841 : Int32) >>> ((((0 : Int32) * (4 : Int32)) + (0 : Int32)) &&& 31)))]))
      refine own_via (fun _ k => XS.iconst X9.here hx rfl (hb hby at_51) k) ?_
      show own_Go p e below s _ _ _ (T9.setTop (mkF m 52 #[.val (.int p0), .val (.int p1), .val (.ref b1), .val (.int (0 : Int32)), .val (.int (0 : Int32)), .val (.int (33841 : Int32)), .unset] [(.int (1 : Int32)), (.int ((33841 : Int32) >>> ((((0 : Int32) * (4 : Int32)) + (0 : Int32)) &&& 31)))]))
      refine own_via (fun _ k => XS.iand X9.here hx rfl (hb hby at_52) rfl k) ?_
      show own_Go p e below s _ _ _ (T9.setTop (mkF m 53 #[.val (.int p0), .val (.int p1), .val (.ref b1), .val (.int (0 : Int32)), .val (.int (0 : Int32)), .val (.int (33841 : Int32)), .unset] [(.int (((33841 : Int32) >>> ((((0 : Int32) * (4 : Int32)) + (0 : Int32)) &&& 31)) &&& (1 : Int32)))]))
      refine own_via (fun _ k => XS.ifNo X9.here hx rfl (hb hby at_53) rfl ((if0 _ _).trans (feq (by decide : ¬ ((((33841 : Int32) >>> ((((0 : Int32) * (4 : Int32)) + (0 : Int32)) &&& 31)) &&& (1 : Int32)) = (0 : Int32)))).1) k) ?_
      show own_Go p e below s _ _ _ (T9.setTop (mkF m 56 #[.val (.int p0), .val (.int p1), .val (.ref b1), .val (.int (0 : Int32)), .val (.int (0 : Int32)), .val (.int (33841 : Int32)), .unset] []))
      refine own_via (fun _ k => XS.iconst X9.here hx rfl (hb hby at_56) k) ?_
      show own_Go p e below s _ _ _ (T9.setTop (mkF m 57 #[.val (.int p0), .val (.int p1), .val (.ref b1), .val (.int (0 : Int32)), .val (.int (0 : Int32)), .val (.int (33841 : Int32)), .unset] [(.int (1 : Int32))]))
      refine own_via (fun _ k => XS.goto X9.here hx rfl (pc0 := 57) (pc' := 61) rfl (hb hby at_57) (by decide) (by decide) k) ?_
      show own_Go p e below s _ _ _ (T9.setTop (mkF m 61 #[.val (.int p0), .val (.int p1), .val (.ref b1), .val (.int (0 : Int32)), .val (.int (0 : Int32)), .val (.int (33841 : Int32)), .unset] [(.int (1 : Int32))]))
      refine own_via (fun _ k => XS.istore X9.here hx rfl (hb hby at_61) rfl (l' := #[.val (.int p0), .val (.int p1), .val (.ref b1), .val (.int (0 : Int32)), .val (.int (0 : Int32)), .val (.int (33841 : Int32)), .val (.int (1 : Int32))]) rfl k) ?_
      show own_Go p e below s _ _ _ (T9.setTop (mkF m 63 #[.val (.int p0), .val (.int p1), .val (.ref b1), .val (.int (0 : Int32)), .val (.int (0 : Int32)), .val (.int (33841 : Int32)), .val (.int (1 : Int32))] []))
      refine own_via (fun _ k => XS.aloadN X9.here hx rfl (hb hby at_63) rfl rfl k) ?_
      show own_Go p e below s _ _ _ (T9.setTop (mkF m 64 #[.val (.int p0), .val (.int p1), .val (.ref b1), .val (.int (0 : Int32)), .val (.int (0 : Int32)), .val (.int (33841 : Int32)), .val (.int (1 : Int32))] [(.ref b1)]))
      refine own_via (fun _ k => XS.iloadN X9.here hx rfl (hb hby at_64) rfl k) ?_
      show own_Go p e below s _ _ _ (T9.setTop (mkF m 65 #[.val (.int p0), .val (.int p1), .val (.ref b1), .val (.int (0 : Int32)), .val (.int (0 : Int32)), .val (.int (33841 : Int32)), .val (.int (1 : Int32))] [(.int (0 : Int32)), (.ref b1)]))
      have Vx18 := V_b1
      obtain ⟨cl18, Ar18, q18, S18, N18, H18, G18⟩ := Vx18
      have hin18 : ¬ ((0 : Int32) < 0 ∨ cl18.slots.size ≤ ((0 : Int32)).toNatClampNeg) := inb_of S18 ⟨by decide, by decide⟩
      have hat18 : cl18.slots[((0 : Int32)).toNatClampNeg]? = some (.ref w0) := H18.at hin18 rfl
      refine own_via (fun _ k => X9.aaload hx (j := (0 : Int32)) (v := (.ref w0)) (by rw [e9]; exact Ar18.1) (State.isArrayOf_alike hZ.alike Ar18.2.1) rfl Ar18.2.2 hin18 hat18 (g := (mkF m 65 #[.val (.int p0), .val (.int p1), .val (.ref b1), .val (.int (0 : Int32)), .val (.int (0 : Int32)), .val (.int (33841 : Int32)), .val (.int (1 : Int32))] [(.int (0 : Int32)), (.ref b1)])) rfl rfl (hb hby at_65) _ k) ?_
      show own_Go p e below s _ _ _ (T9.setTop (mkF m 66 #[.val (.int p0), .val (.int p1), .val (.ref b1), .val (.int (0 : Int32)), .val (.int (0 : Int32)), .val (.int (33841 : Int32)), .val (.int (1 : Int32))] [(.ref w0)]))
      refine own_via (fun _ k => XS.aloadN X9.here hx rfl (hb hby at_66) rfl rfl k) ?_
      show own_Go p e below s _ _ _ (T9.setTop (mkF m 67 #[.val (.int p0), .val (.int p1), .val (.ref b1), .val (.int (0 : Int32)), .val (.int (0 : Int32)), .val (.int (33841 : Int32)), .val (.int (1 : Int32))] [(.ref b1), (.ref w0)]))
      refine own_via (fun _ k => XS.iload X9.here hx rfl (hb hby at_67) rfl k) ?_
      show own_Go p e below s _ _ _ (T9.setTop (mkF m 69 #[.val (.int p0), .val (.int p1), .val (.ref b1), .val (.int (0 : Int32)), .val (.int (0 : Int32)), .val (.int (33841 : Int32)), .val (.int (1 : Int32))] [(.int (0 : Int32)), (.ref b1), (.ref w0)]))
      have Vx19 := V_b1
      obtain ⟨cl19, Ar19, q19, S19, N19, H19, G19⟩ := Vx19
      have hin19 : ¬ ((0 : Int32) < 0 ∨ cl19.slots.size ≤ ((0 : Int32)).toNatClampNeg) := inb_of S19 ⟨by decide, by decide⟩
      have hat19 : cl19.slots[((0 : Int32)).toNatClampNeg]? = some (.ref w0) := H19.at hin19 rfl
      refine own_via (fun _ k => X9.aaload hx (j := (0 : Int32)) (v := (.ref w0)) (by rw [e9]; exact Ar19.1) (State.isArrayOf_alike hZ.alike Ar19.2.1) rfl Ar19.2.2 hin19 hat19 (g := (mkF m 69 #[.val (.int p0), .val (.int p1), .val (.ref b1), .val (.int (0 : Int32)), .val (.int (0 : Int32)), .val (.int (33841 : Int32)), .val (.int (1 : Int32))] [(.int (0 : Int32)), (.ref b1), (.ref w0)])) rfl rfl (hb hby at_69) _ k) ?_
      show own_Go p e below s _ _ _ (T9.setTop (mkF m 70 #[.val (.int p0), .val (.int p1), .val (.ref b1), .val (.int (0 : Int32)), .val (.int (0 : Int32)), .val (.int (33841 : Int32)), .val (.int (1 : Int32))] [(.ref w0), (.ref w0)]))
      obtain ⟨cq20, kq20, q20a, q20b, q20c⟩ := isOf hZ e9 (E_w0.ext OL.2)
      obtain ⟨_, _, ⟨T20, L20, k20, n20⟩, -, X20, ⟨Lc20, hQ20, l20, y20, z20⟩, st20⟩ := X9.virtualBack hx (y := (⟨"com/example/mailbox/mailbox/core/Right", "allows", "(Lcom/example/mailbox/mailbox/core/Right;)Z"⟩ : MethodName)) (z := (⟨"com/example/mailbox/mailbox/core/Right", "allows", "(Lcom/example/mailbox/mailbox/core/Right;)Z"⟩ : MethodName)) hown (mvT hZ (hw _ (List.mem_of_getElem? (i := 13) rfl))) (mvT hZ (hw _ (List.mem_of_getElem? (i := 14) rfl))) (notFace_of_selects (args := #[]) (mvT hZ (hw _ (List.mem_of_getElem? (i := 16) rfl)))) (mvT hZ (hw _ (List.mem_of_getElem? (i := 16) rfl))) (mvT hZ (hw _ (List.mem_of_getElem? (i := 15) rfl))) (by decide) (backOf (W := 0) (rm1_0 l Z a0 hw [] w0 w0 w0 w1 w2 w3 h9 n0 Z0 K0 OL) hZ (hw _ (List.mem_of_getElem? (i := 17) rfl)) (hw _ (List.mem_of_getElem? (i := 3) rfl)) (by decide) (by decide)) q20a q20c (g := (mkF m 70 #[.val (.int p0), .val (.int p1), .val (.ref b1), .val (.int (0 : Int32)), .val (.int (0 : Int32)), .val (.int (33841 : Int32)), .val (.int (1 : Int32))] [(.ref w0), (.ref w0)])) rfl (by rw [hml]; rfl) (Steps.refl _) (argsL := [(.ref w0)]) (rest := []) (lenOf pd0 rfl) rfl (by show 2 * 0 + _ ≤ _; exact Nat.le_of_eq rfl) (hb hby at_70) (fun _ _ => ⟨rfl, e9, (by decide : 0 + 1 + 0 ≤ _), (by decide : 0 + 4 + 0 ≤ _)⟩)
      dsimp only [Pt.U, Pt.locs, Pt.cells, Pt.slots] at X20 l20 y20 z20 st20 hQ20
      subst l20 y20 z20
      obtain ⟨rfl, e20, hO20⟩ := hQ20
      rcases hO20 with ⟨hr20_0_0, rfl⟩ | ⟨hr20_1_0, hr20_1_1, hr20_1_2, rfl⟩ | ⟨hr20_2_0, hr20_2_1, hr20_2_2, rfl⟩ | ⟨hr20_3_0, hr20_3_1, rfl⟩
      · refine own_tr st20 ?_
        show own_Go p e below s _ _ _ (T20.setTop (mkF m 73 #[.val (.int p0), .val (.int p1), .val (.ref b1), .val (.int (0 : Int32)), .val (.int (0 : Int32)), .val (.int (33841 : Int32)), .val (.int (1 : Int32))] [(.int (1 : Int32))]))
        refine own_via (fun _ k => XS.iload X20.here hx rfl (hb hby at_73) rfl k) ?_
        show own_Go p e below s _ _ _ (T20.setTop (mkF m 75 #[.val (.int p0), .val (.int p1), .val (.ref b1), .val (.int (0 : Int32)), .val (.int (0 : Int32)), .val (.int (33841 : Int32)), .val (.int (1 : Int32))] [(.int (1 : Int32)), (.int (1 : Int32))]))
        refine own_via (fun _ k => XS.icmpNo X20.here hx rfl (hb hby at_75) rfl (teq (by decide : (1 : Int32) = (1 : Int32))).2 k) ?_
        show own_Go p e below s _ _ _ (T20.setTop (mkF m 78 #[.val (.int p0), .val (.int p1), .val (.ref b1), .val (.int (0 : Int32)), .val (.int (0 : Int32)), .val (.int (33841 : Int32)), .val (.int (1 : Int32))] []))
        refine own_via (fun _ k => XS.iconst X20.here hx rfl (hb hby at_78) k) ?_
        show own_Go p e below s _ _ _ (T20.setTop (mkF m 79 #[.val (.int p0), .val (.int p1), .val (.ref b1), .val (.int (0 : Int32)), .val (.int (0 : Int32)), .val (.int (33841 : Int32)), .val (.int (1 : Int32))] [(.int (1 : Int32))]))
        refine own_via (fun _ k => XS.goto X20.here hx rfl (pc0 := 79) (pc' := 83) rfl (hb hby at_79) (by decide) (by decide) k) ?_
        show own_Go p e below s _ _ _ (T20.setTop (mkF m 83 #[.val (.int p0), .val (.int p1), .val (.ref b1), .val (.int (0 : Int32)), .val (.int (0 : Int32)), .val (.int (33841 : Int32)), .val (.int (1 : Int32))] [(.int (1 : Int32))]))
        exact own_retZ X20 hx hlk (t := .boolean) Bd.returns (by simp) (hb hby at_83) (z' := (1 : Int32)) (by first | rfl | decide) ⟨rfl, (Fr.app N9 (Fr.nil n0))⟩ (by decide) (by decide)
      · exact absurd rfl hr20_1_0
      · exact absurd rfl hr20_2_0
      · exact absurd rfl hr20_3_0
    · rw [hk15]
      show own_Go p e below s _ _ _ (T9.setTop (mkF m 36 #[.val (.int p0), .val (.int p1), .val (.ref b1), .val (.int (0 : Int32)), .unset, .unset, .unset] [(.int (1 : Int32))]))
      refine own_via (fun _ k => XS.istore X9.here hx rfl (hb hby at_36) rfl (l' := #[.val (.int p0), .val (.int p1), .val (.ref b1), .val (.int (0 : Int32)), .val (.int (1 : Int32)), .unset, .unset]) rfl k) ?_
      show own_Go p e below s _ _ _ (T9.setTop (mkF m 38 #[.val (.int p0), .val (.int p1), .val (.ref b1), .val (.int (0 : Int32)), .val (.int (1 : Int32)), .unset, .unset] []))
      refine own_via (fun _ k => X9.ldcInt hx hown (mvT hZ (hw _ (List.mem_of_getElem? (i := 12) rfl))) (g := (mkF m 38 #[.val (.int p0), .val (.int p1), .val (.ref b1), .val (.int (0 : Int32)), .val (.int (1 : Int32)), .unset, .unset] [])) rfl (hb hby at_38) _ k) ?_
      show own_Go p e below s _ _ _ (T9.setTop (mkF m 40 #[.val (.int p0), .val (.int p1), .val (.ref b1), .val (.int (0 : Int32)), .val (.int (1 : Int32)), .unset, .unset] [(.int (33841 : Int32))]))
      refine own_via (fun _ k => XS.istore X9.here hx rfl (hb hby at_40) rfl (l' := #[.val (.int p0), .val (.int p1), .val (.ref b1), .val (.int (0 : Int32)), .val (.int (1 : Int32)), .val (.int (33841 : Int32)), .unset]) rfl k) ?_
      show own_Go p e below s _ _ _ (T9.setTop (mkF m 42 #[.val (.int p0), .val (.int p1), .val (.ref b1), .val (.int (0 : Int32)), .val (.int (1 : Int32)), .val (.int (33841 : Int32)), .unset] []))
      refine own_via (fun _ k => XS.iload X9.here hx rfl (hb hby at_42) rfl k) ?_
      show own_Go p e below s _ _ _ (T9.setTop (mkF m 44 #[.val (.int p0), .val (.int p1), .val (.ref b1), .val (.int (0 : Int32)), .val (.int (1 : Int32)), .val (.int (33841 : Int32)), .unset] [(.int (33841 : Int32))]))
      refine own_via (fun _ k => XS.iloadN X9.here hx rfl (hb hby at_44) rfl k) ?_
      show own_Go p e below s _ _ _ (T9.setTop (mkF m 45 #[.val (.int p0), .val (.int p1), .val (.ref b1), .val (.int (0 : Int32)), .val (.int (1 : Int32)), .val (.int (33841 : Int32)), .unset] [(.int (0 : Int32)), (.int (33841 : Int32))]))
      refine own_via (fun _ k => XS.iconst X9.here hx rfl (hb hby at_45) k) ?_
      show own_Go p e below s _ _ _ (T9.setTop (mkF m 46 #[.val (.int p0), .val (.int p1), .val (.ref b1), .val (.int (0 : Int32)), .val (.int (1 : Int32)), .val (.int (33841 : Int32)), .unset] [(.int (4 : Int32)), (.int (0 : Int32)), (.int (33841 : Int32))]))
      refine own_via (fun _ k => XS.imul X9.here hx rfl (hb hby at_46) rfl k) ?_
      show own_Go p e below s _ _ _ (T9.setTop (mkF m 47 #[.val (.int p0), .val (.int p1), .val (.ref b1), .val (.int (0 : Int32)), .val (.int (1 : Int32)), .val (.int (33841 : Int32)), .unset] [(.int ((0 : Int32) * (4 : Int32))), (.int (33841 : Int32))]))
      refine own_via (fun _ k => XS.iload X9.here hx rfl (hb hby at_47) rfl k) ?_
      show own_Go p e below s _ _ _ (T9.setTop (mkF m 49 #[.val (.int p0), .val (.int p1), .val (.ref b1), .val (.int (0 : Int32)), .val (.int (1 : Int32)), .val (.int (33841 : Int32)), .unset] [(.int (1 : Int32)), (.int ((0 : Int32) * (4 : Int32))), (.int (33841 : Int32))]))
      refine own_via (fun _ k => XS.iadd X9.here hx rfl (hb hby at_49) rfl k) ?_
      show own_Go p e below s _ _ _ (T9.setTop (mkF m 50 #[.val (.int p0), .val (.int p1), .val (.ref b1), .val (.int (0 : Int32)), .val (.int (1 : Int32)), .val (.int (33841 : Int32)), .unset] [(.int (((0 : Int32) * (4 : Int32)) + (1 : Int32))), (.int (33841 : Int32))]))
      refine own_via (fun _ k => XS.ishr X9.here hx rfl (hb hby at_50) rfl k) ?_
      show own_Go p e below s _ _ _ (T9.setTop (mkF m 51 #[.val (.int p0), .val (.int p1), .val (.ref b1), .val (.int (0 : Int32)), .val (.int (1 : Int32)), .val (.int (33841 : Int32)), .unset] [(.int ((33841 : Int32) >>> ((((0 : Int32) * (4 : Int32)) + (1 : Int32)) &&& 31)))]))
      refine own_via (fun _ k => XS.iconst X9.here hx rfl (hb hby at_51) k) ?_
      show own_Go p e below s _ _ _ (T9.setTop (mkF m 52 #[.val (.int p0), .val (.int p1), .val (.ref b1), .val (.int (0 : Int32)), .val (.int (1 : Int32)), .val (.int (33841 : Int32)), .unset] [(.int (1 : Int32)), (.int ((33841 : Int32) >>> ((((0 : Int32) * (4 : Int32)) + (1 : Int32)) &&& 31)))]))
      refine own_via (fun _ k => XS.iand X9.here hx rfl (hb hby at_52) rfl k) ?_
      show own_Go p e below s _ _ _ (T9.setTop (mkF m 53 #[.val (.int p0), .val (.int p1), .val (.ref b1), .val (.int (0 : Int32)), .val (.int (1 : Int32)), .val (.int (33841 : Int32)), .unset] [(.int (((33841 : Int32) >>> ((((0 : Int32) * (4 : Int32)) + (1 : Int32)) &&& 31)) &&& (1 : Int32)))]))
      refine own_via (fun _ k => XS.ifYes X9.here hx rfl (pc0 := 53) (pc' := 60) rfl (hb hby at_53) rfl ((if0 _ _).trans (teq (by decide : (((33841 : Int32) >>> ((((0 : Int32) * (4 : Int32)) + (1 : Int32)) &&& 31)) &&& (1 : Int32)) = (0 : Int32))).1) (by decide) (by decide) k) ?_
      show own_Go p e below s _ _ _ (T9.setTop (mkF m 60 #[.val (.int p0), .val (.int p1), .val (.ref b1), .val (.int (0 : Int32)), .val (.int (1 : Int32)), .val (.int (33841 : Int32)), .unset] []))
      refine own_via (fun _ k => XS.iconst X9.here hx rfl (hb hby at_60) k) ?_
      show own_Go p e below s _ _ _ (T9.setTop (mkF m 61 #[.val (.int p0), .val (.int p1), .val (.ref b1), .val (.int (0 : Int32)), .val (.int (1 : Int32)), .val (.int (33841 : Int32)), .unset] [(.int (0 : Int32))]))
      refine own_via (fun _ k => XS.istore X9.here hx rfl (hb hby at_61) rfl (l' := #[.val (.int p0), .val (.int p1), .val (.ref b1), .val (.int (0 : Int32)), .val (.int (1 : Int32)), .val (.int (33841 : Int32)), .val (.int (0 : Int32))]) rfl k) ?_
      show own_Go p e below s _ _ _ (T9.setTop (mkF m 63 #[.val (.int p0), .val (.int p1), .val (.ref b1), .val (.int (0 : Int32)), .val (.int (1 : Int32)), .val (.int (33841 : Int32)), .val (.int (0 : Int32))] []))
      refine own_via (fun _ k => XS.aloadN X9.here hx rfl (hb hby at_63) rfl rfl k) ?_
      show own_Go p e below s _ _ _ (T9.setTop (mkF m 64 #[.val (.int p0), .val (.int p1), .val (.ref b1), .val (.int (0 : Int32)), .val (.int (1 : Int32)), .val (.int (33841 : Int32)), .val (.int (0 : Int32))] [(.ref b1)]))
      refine own_via (fun _ k => XS.iloadN X9.here hx rfl (hb hby at_64) rfl k) ?_
      show own_Go p e below s _ _ _ (T9.setTop (mkF m 65 #[.val (.int p0), .val (.int p1), .val (.ref b1), .val (.int (0 : Int32)), .val (.int (1 : Int32)), .val (.int (33841 : Int32)), .val (.int (0 : Int32))] [(.int (0 : Int32)), (.ref b1)]))
      have Vx21 := V_b1
      obtain ⟨cl21, Ar21, q21, S21, N21, H21, G21⟩ := Vx21
      have hin21 : ¬ ((0 : Int32) < 0 ∨ cl21.slots.size ≤ ((0 : Int32)).toNatClampNeg) := inb_of S21 ⟨by decide, by decide⟩
      have hat21 : cl21.slots[((0 : Int32)).toNatClampNeg]? = some (.ref w0) := H21.at hin21 rfl
      refine own_via (fun _ k => X9.aaload hx (j := (0 : Int32)) (v := (.ref w0)) (by rw [e9]; exact Ar21.1) (State.isArrayOf_alike hZ.alike Ar21.2.1) rfl Ar21.2.2 hin21 hat21 (g := (mkF m 65 #[.val (.int p0), .val (.int p1), .val (.ref b1), .val (.int (0 : Int32)), .val (.int (1 : Int32)), .val (.int (33841 : Int32)), .val (.int (0 : Int32))] [(.int (0 : Int32)), (.ref b1)])) rfl rfl (hb hby at_65) _ k) ?_
      show own_Go p e below s _ _ _ (T9.setTop (mkF m 66 #[.val (.int p0), .val (.int p1), .val (.ref b1), .val (.int (0 : Int32)), .val (.int (1 : Int32)), .val (.int (33841 : Int32)), .val (.int (0 : Int32))] [(.ref w0)]))
      refine own_via (fun _ k => XS.aloadN X9.here hx rfl (hb hby at_66) rfl rfl k) ?_
      show own_Go p e below s _ _ _ (T9.setTop (mkF m 67 #[.val (.int p0), .val (.int p1), .val (.ref b1), .val (.int (0 : Int32)), .val (.int (1 : Int32)), .val (.int (33841 : Int32)), .val (.int (0 : Int32))] [(.ref b1), (.ref w0)]))
      refine own_via (fun _ k => XS.iload X9.here hx rfl (hb hby at_67) rfl k) ?_
      show own_Go p e below s _ _ _ (T9.setTop (mkF m 69 #[.val (.int p0), .val (.int p1), .val (.ref b1), .val (.int (0 : Int32)), .val (.int (1 : Int32)), .val (.int (33841 : Int32)), .val (.int (0 : Int32))] [(.int (1 : Int32)), (.ref b1), (.ref w0)]))
      have Vx22 := V_b1
      obtain ⟨cl22, Ar22, q22, S22, N22, H22, G22⟩ := Vx22
      have hin22 : ¬ ((1 : Int32) < 0 ∨ cl22.slots.size ≤ ((1 : Int32)).toNatClampNeg) := inb_of S22 ⟨by decide, by decide⟩
      have hat22 : cl22.slots[((1 : Int32)).toNatClampNeg]? = some (.ref w1) := H22.at hin22 rfl
      refine own_via (fun _ k => X9.aaload hx (j := (1 : Int32)) (v := (.ref w1)) (by rw [e9]; exact Ar22.1) (State.isArrayOf_alike hZ.alike Ar22.2.1) rfl Ar22.2.2 hin22 hat22 (g := (mkF m 69 #[.val (.int p0), .val (.int p1), .val (.ref b1), .val (.int (0 : Int32)), .val (.int (1 : Int32)), .val (.int (33841 : Int32)), .val (.int (0 : Int32))] [(.int (1 : Int32)), (.ref b1), (.ref w0)])) rfl rfl (hb hby at_69) _ k) ?_
      show own_Go p e below s _ _ _ (T9.setTop (mkF m 70 #[.val (.int p0), .val (.int p1), .val (.ref b1), .val (.int (0 : Int32)), .val (.int (1 : Int32)), .val (.int (33841 : Int32)), .val (.int (0 : Int32))] [(.ref w1), (.ref w0)]))
      obtain ⟨cq23, kq23, q23a, q23b, q23c⟩ := isOf hZ e9 (E_w0.ext OL.2)
      obtain ⟨_, _, ⟨T23, L23, k23, n23⟩, -, X23, ⟨Lc23, hQ23, l23, y23, z23⟩, st23⟩ := X9.virtualBack hx (y := (⟨"com/example/mailbox/mailbox/core/Right", "allows", "(Lcom/example/mailbox/mailbox/core/Right;)Z"⟩ : MethodName)) (z := (⟨"com/example/mailbox/mailbox/core/Right", "allows", "(Lcom/example/mailbox/mailbox/core/Right;)Z"⟩ : MethodName)) hown (mvT hZ (hw _ (List.mem_of_getElem? (i := 13) rfl))) (mvT hZ (hw _ (List.mem_of_getElem? (i := 14) rfl))) (notFace_of_selects (args := #[]) (mvT hZ (hw _ (List.mem_of_getElem? (i := 16) rfl)))) (mvT hZ (hw _ (List.mem_of_getElem? (i := 16) rfl))) (mvT hZ (hw _ (List.mem_of_getElem? (i := 15) rfl))) (by decide) (backOf (W := 0) (rm1_0 l Z a0 hw [] w0 w1 w0 w1 w2 w3 h9 n0 Z0 K0 OL) hZ (hw _ (List.mem_of_getElem? (i := 17) rfl)) (hw _ (List.mem_of_getElem? (i := 3) rfl)) (by decide) (by decide)) q23a q23c (g := (mkF m 70 #[.val (.int p0), .val (.int p1), .val (.ref b1), .val (.int (0 : Int32)), .val (.int (1 : Int32)), .val (.int (33841 : Int32)), .val (.int (0 : Int32))] [(.ref w1), (.ref w0)])) rfl (by rw [hml]; rfl) (Steps.refl _) (argsL := [(.ref w1)]) (rest := []) (lenOf pd0 rfl) rfl (by show 2 * 0 + _ ≤ _; exact Nat.le_of_eq rfl) (hb hby at_70) (fun _ _ => ⟨rfl, e9, (by decide : 0 + 1 + 0 ≤ _), (by decide : 0 + 4 + 0 ≤ _)⟩)
      dsimp only [Pt.U, Pt.locs, Pt.cells, Pt.slots] at X23 l23 y23 z23 st23 hQ23
      subst l23 y23 z23
      obtain ⟨rfl, e23, hO23⟩ := hQ23
      rcases hO23 with ⟨hr23_0_0, rfl⟩ | ⟨hr23_1_0, hr23_1_1, hr23_1_2, rfl⟩ | ⟨hr23_2_0, hr23_2_1, hr23_2_2, rfl⟩ | ⟨hr23_3_0, hr23_3_1, rfl⟩
      · exact absurd hr23_0_0 (fun q => n_w0_w1 q.symm)
      · exact absurd hr23_1_1 n_w0_w1
      · exact absurd hr23_2_1 n_w0_w1
      · refine own_tr st23 ?_
        show own_Go p e below s _ _ _ (T23.setTop (mkF m 73 #[.val (.int p0), .val (.int p1), .val (.ref b1), .val (.int (0 : Int32)), .val (.int (1 : Int32)), .val (.int (33841 : Int32)), .val (.int (0 : Int32))] [(.int (0 : Int32))]))
        refine own_via (fun _ k => XS.iload X23.here hx rfl (hb hby at_73) rfl k) ?_
        show own_Go p e below s _ _ _ (T23.setTop (mkF m 75 #[.val (.int p0), .val (.int p1), .val (.ref b1), .val (.int (0 : Int32)), .val (.int (1 : Int32)), .val (.int (33841 : Int32)), .val (.int (0 : Int32))] [(.int (0 : Int32)), (.int (0 : Int32))]))
        refine own_via (fun _ k => XS.icmpNo X23.here hx rfl (hb hby at_75) rfl (teq (by decide : (0 : Int32) = (0 : Int32))).2 k) ?_
        show own_Go p e below s _ _ _ (T23.setTop (mkF m 78 #[.val (.int p0), .val (.int p1), .val (.ref b1), .val (.int (0 : Int32)), .val (.int (1 : Int32)), .val (.int (33841 : Int32)), .val (.int (0 : Int32))] []))
        refine own_via (fun _ k => XS.iconst X23.here hx rfl (hb hby at_78) k) ?_
        show own_Go p e below s _ _ _ (T23.setTop (mkF m 79 #[.val (.int p0), .val (.int p1), .val (.ref b1), .val (.int (0 : Int32)), .val (.int (1 : Int32)), .val (.int (33841 : Int32)), .val (.int (0 : Int32))] [(.int (1 : Int32))]))
        refine own_via (fun _ k => XS.goto X23.here hx rfl (pc0 := 79) (pc' := 83) rfl (hb hby at_79) (by decide) (by decide) k) ?_
        show own_Go p e below s _ _ _ (T23.setTop (mkF m 83 #[.val (.int p0), .val (.int p1), .val (.ref b1), .val (.int (0 : Int32)), .val (.int (1 : Int32)), .val (.int (33841 : Int32)), .val (.int (0 : Int32))] [(.int (1 : Int32))]))
        exact own_retZ X23 hx hlk (t := .boolean) Bd.returns (by simp) (hb hby at_83) (z' := (1 : Int32)) (by first | rfl | decide) ⟨rfl, (Fr.app N9 (Fr.nil n0))⟩ (by decide) (by decide)
    · rw [hk16]
      show own_Go p e below s _ _ _ (T9.setTop (mkF m 36 #[.val (.int p0), .val (.int p1), .val (.ref b1), .val (.int (0 : Int32)), .unset, .unset, .unset] [(.int (2 : Int32))]))
      refine own_via (fun _ k => XS.istore X9.here hx rfl (hb hby at_36) rfl (l' := #[.val (.int p0), .val (.int p1), .val (.ref b1), .val (.int (0 : Int32)), .val (.int (2 : Int32)), .unset, .unset]) rfl k) ?_
      show own_Go p e below s _ _ _ (T9.setTop (mkF m 38 #[.val (.int p0), .val (.int p1), .val (.ref b1), .val (.int (0 : Int32)), .val (.int (2 : Int32)), .unset, .unset] []))
      refine own_via (fun _ k => X9.ldcInt hx hown (mvT hZ (hw _ (List.mem_of_getElem? (i := 12) rfl))) (g := (mkF m 38 #[.val (.int p0), .val (.int p1), .val (.ref b1), .val (.int (0 : Int32)), .val (.int (2 : Int32)), .unset, .unset] [])) rfl (hb hby at_38) _ k) ?_
      show own_Go p e below s _ _ _ (T9.setTop (mkF m 40 #[.val (.int p0), .val (.int p1), .val (.ref b1), .val (.int (0 : Int32)), .val (.int (2 : Int32)), .unset, .unset] [(.int (33841 : Int32))]))
      refine own_via (fun _ k => XS.istore X9.here hx rfl (hb hby at_40) rfl (l' := #[.val (.int p0), .val (.int p1), .val (.ref b1), .val (.int (0 : Int32)), .val (.int (2 : Int32)), .val (.int (33841 : Int32)), .unset]) rfl k) ?_
      show own_Go p e below s _ _ _ (T9.setTop (mkF m 42 #[.val (.int p0), .val (.int p1), .val (.ref b1), .val (.int (0 : Int32)), .val (.int (2 : Int32)), .val (.int (33841 : Int32)), .unset] []))
      refine own_via (fun _ k => XS.iload X9.here hx rfl (hb hby at_42) rfl k) ?_
      show own_Go p e below s _ _ _ (T9.setTop (mkF m 44 #[.val (.int p0), .val (.int p1), .val (.ref b1), .val (.int (0 : Int32)), .val (.int (2 : Int32)), .val (.int (33841 : Int32)), .unset] [(.int (33841 : Int32))]))
      refine own_via (fun _ k => XS.iloadN X9.here hx rfl (hb hby at_44) rfl k) ?_
      show own_Go p e below s _ _ _ (T9.setTop (mkF m 45 #[.val (.int p0), .val (.int p1), .val (.ref b1), .val (.int (0 : Int32)), .val (.int (2 : Int32)), .val (.int (33841 : Int32)), .unset] [(.int (0 : Int32)), (.int (33841 : Int32))]))
      refine own_via (fun _ k => XS.iconst X9.here hx rfl (hb hby at_45) k) ?_
      show own_Go p e below s _ _ _ (T9.setTop (mkF m 46 #[.val (.int p0), .val (.int p1), .val (.ref b1), .val (.int (0 : Int32)), .val (.int (2 : Int32)), .val (.int (33841 : Int32)), .unset] [(.int (4 : Int32)), (.int (0 : Int32)), (.int (33841 : Int32))]))
      refine own_via (fun _ k => XS.imul X9.here hx rfl (hb hby at_46) rfl k) ?_
      show own_Go p e below s _ _ _ (T9.setTop (mkF m 47 #[.val (.int p0), .val (.int p1), .val (.ref b1), .val (.int (0 : Int32)), .val (.int (2 : Int32)), .val (.int (33841 : Int32)), .unset] [(.int ((0 : Int32) * (4 : Int32))), (.int (33841 : Int32))]))
      refine own_via (fun _ k => XS.iload X9.here hx rfl (hb hby at_47) rfl k) ?_
      show own_Go p e below s _ _ _ (T9.setTop (mkF m 49 #[.val (.int p0), .val (.int p1), .val (.ref b1), .val (.int (0 : Int32)), .val (.int (2 : Int32)), .val (.int (33841 : Int32)), .unset] [(.int (2 : Int32)), (.int ((0 : Int32) * (4 : Int32))), (.int (33841 : Int32))]))
      refine own_via (fun _ k => XS.iadd X9.here hx rfl (hb hby at_49) rfl k) ?_
      show own_Go p e below s _ _ _ (T9.setTop (mkF m 50 #[.val (.int p0), .val (.int p1), .val (.ref b1), .val (.int (0 : Int32)), .val (.int (2 : Int32)), .val (.int (33841 : Int32)), .unset] [(.int (((0 : Int32) * (4 : Int32)) + (2 : Int32))), (.int (33841 : Int32))]))
      refine own_via (fun _ k => XS.ishr X9.here hx rfl (hb hby at_50) rfl k) ?_
      show own_Go p e below s _ _ _ (T9.setTop (mkF m 51 #[.val (.int p0), .val (.int p1), .val (.ref b1), .val (.int (0 : Int32)), .val (.int (2 : Int32)), .val (.int (33841 : Int32)), .unset] [(.int ((33841 : Int32) >>> ((((0 : Int32) * (4 : Int32)) + (2 : Int32)) &&& 31)))]))
      refine own_via (fun _ k => XS.iconst X9.here hx rfl (hb hby at_51) k) ?_
      show own_Go p e below s _ _ _ (T9.setTop (mkF m 52 #[.val (.int p0), .val (.int p1), .val (.ref b1), .val (.int (0 : Int32)), .val (.int (2 : Int32)), .val (.int (33841 : Int32)), .unset] [(.int (1 : Int32)), (.int ((33841 : Int32) >>> ((((0 : Int32) * (4 : Int32)) + (2 : Int32)) &&& 31)))]))
      refine own_via (fun _ k => XS.iand X9.here hx rfl (hb hby at_52) rfl k) ?_
      show own_Go p e below s _ _ _ (T9.setTop (mkF m 53 #[.val (.int p0), .val (.int p1), .val (.ref b1), .val (.int (0 : Int32)), .val (.int (2 : Int32)), .val (.int (33841 : Int32)), .unset] [(.int (((33841 : Int32) >>> ((((0 : Int32) * (4 : Int32)) + (2 : Int32)) &&& 31)) &&& (1 : Int32)))]))
      refine own_via (fun _ k => XS.ifYes X9.here hx rfl (pc0 := 53) (pc' := 60) rfl (hb hby at_53) rfl ((if0 _ _).trans (teq (by decide : (((33841 : Int32) >>> ((((0 : Int32) * (4 : Int32)) + (2 : Int32)) &&& 31)) &&& (1 : Int32)) = (0 : Int32))).1) (by decide) (by decide) k) ?_
      show own_Go p e below s _ _ _ (T9.setTop (mkF m 60 #[.val (.int p0), .val (.int p1), .val (.ref b1), .val (.int (0 : Int32)), .val (.int (2 : Int32)), .val (.int (33841 : Int32)), .unset] []))
      refine own_via (fun _ k => XS.iconst X9.here hx rfl (hb hby at_60) k) ?_
      show own_Go p e below s _ _ _ (T9.setTop (mkF m 61 #[.val (.int p0), .val (.int p1), .val (.ref b1), .val (.int (0 : Int32)), .val (.int (2 : Int32)), .val (.int (33841 : Int32)), .unset] [(.int (0 : Int32))]))
      refine own_via (fun _ k => XS.istore X9.here hx rfl (hb hby at_61) rfl (l' := #[.val (.int p0), .val (.int p1), .val (.ref b1), .val (.int (0 : Int32)), .val (.int (2 : Int32)), .val (.int (33841 : Int32)), .val (.int (0 : Int32))]) rfl k) ?_
      show own_Go p e below s _ _ _ (T9.setTop (mkF m 63 #[.val (.int p0), .val (.int p1), .val (.ref b1), .val (.int (0 : Int32)), .val (.int (2 : Int32)), .val (.int (33841 : Int32)), .val (.int (0 : Int32))] []))
      refine own_via (fun _ k => XS.aloadN X9.here hx rfl (hb hby at_63) rfl rfl k) ?_
      show own_Go p e below s _ _ _ (T9.setTop (mkF m 64 #[.val (.int p0), .val (.int p1), .val (.ref b1), .val (.int (0 : Int32)), .val (.int (2 : Int32)), .val (.int (33841 : Int32)), .val (.int (0 : Int32))] [(.ref b1)]))
      refine own_via (fun _ k => XS.iloadN X9.here hx rfl (hb hby at_64) rfl k) ?_
      show own_Go p e below s _ _ _ (T9.setTop (mkF m 65 #[.val (.int p0), .val (.int p1), .val (.ref b1), .val (.int (0 : Int32)), .val (.int (2 : Int32)), .val (.int (33841 : Int32)), .val (.int (0 : Int32))] [(.int (0 : Int32)), (.ref b1)]))
      have Vx24 := V_b1
      obtain ⟨cl24, Ar24, q24, S24, N24, H24, G24⟩ := Vx24
      have hin24 : ¬ ((0 : Int32) < 0 ∨ cl24.slots.size ≤ ((0 : Int32)).toNatClampNeg) := inb_of S24 ⟨by decide, by decide⟩
      have hat24 : cl24.slots[((0 : Int32)).toNatClampNeg]? = some (.ref w0) := H24.at hin24 rfl
      refine own_via (fun _ k => X9.aaload hx (j := (0 : Int32)) (v := (.ref w0)) (by rw [e9]; exact Ar24.1) (State.isArrayOf_alike hZ.alike Ar24.2.1) rfl Ar24.2.2 hin24 hat24 (g := (mkF m 65 #[.val (.int p0), .val (.int p1), .val (.ref b1), .val (.int (0 : Int32)), .val (.int (2 : Int32)), .val (.int (33841 : Int32)), .val (.int (0 : Int32))] [(.int (0 : Int32)), (.ref b1)])) rfl rfl (hb hby at_65) _ k) ?_
      show own_Go p e below s _ _ _ (T9.setTop (mkF m 66 #[.val (.int p0), .val (.int p1), .val (.ref b1), .val (.int (0 : Int32)), .val (.int (2 : Int32)), .val (.int (33841 : Int32)), .val (.int (0 : Int32))] [(.ref w0)]))
      refine own_via (fun _ k => XS.aloadN X9.here hx rfl (hb hby at_66) rfl rfl k) ?_
      show own_Go p e below s _ _ _ (T9.setTop (mkF m 67 #[.val (.int p0), .val (.int p1), .val (.ref b1), .val (.int (0 : Int32)), .val (.int (2 : Int32)), .val (.int (33841 : Int32)), .val (.int (0 : Int32))] [(.ref b1), (.ref w0)]))
      refine own_via (fun _ k => XS.iload X9.here hx rfl (hb hby at_67) rfl k) ?_
      show own_Go p e below s _ _ _ (T9.setTop (mkF m 69 #[.val (.int p0), .val (.int p1), .val (.ref b1), .val (.int (0 : Int32)), .val (.int (2 : Int32)), .val (.int (33841 : Int32)), .val (.int (0 : Int32))] [(.int (2 : Int32)), (.ref b1), (.ref w0)]))
      have Vx25 := V_b1
      obtain ⟨cl25, Ar25, q25, S25, N25, H25, G25⟩ := Vx25
      have hin25 : ¬ ((2 : Int32) < 0 ∨ cl25.slots.size ≤ ((2 : Int32)).toNatClampNeg) := inb_of S25 ⟨by decide, by decide⟩
      have hat25 : cl25.slots[((2 : Int32)).toNatClampNeg]? = some (.ref w2) := H25.at hin25 rfl
      refine own_via (fun _ k => X9.aaload hx (j := (2 : Int32)) (v := (.ref w2)) (by rw [e9]; exact Ar25.1) (State.isArrayOf_alike hZ.alike Ar25.2.1) rfl Ar25.2.2 hin25 hat25 (g := (mkF m 69 #[.val (.int p0), .val (.int p1), .val (.ref b1), .val (.int (0 : Int32)), .val (.int (2 : Int32)), .val (.int (33841 : Int32)), .val (.int (0 : Int32))] [(.int (2 : Int32)), (.ref b1), (.ref w0)])) rfl rfl (hb hby at_69) _ k) ?_
      show own_Go p e below s _ _ _ (T9.setTop (mkF m 70 #[.val (.int p0), .val (.int p1), .val (.ref b1), .val (.int (0 : Int32)), .val (.int (2 : Int32)), .val (.int (33841 : Int32)), .val (.int (0 : Int32))] [(.ref w2), (.ref w0)]))
      obtain ⟨cq26, kq26, q26a, q26b, q26c⟩ := isOf hZ e9 (E_w0.ext OL.2)
      obtain ⟨_, _, ⟨T26, L26, k26, n26⟩, -, X26, ⟨Lc26, hQ26, l26, y26, z26⟩, st26⟩ := X9.virtualBack hx (y := (⟨"com/example/mailbox/mailbox/core/Right", "allows", "(Lcom/example/mailbox/mailbox/core/Right;)Z"⟩ : MethodName)) (z := (⟨"com/example/mailbox/mailbox/core/Right", "allows", "(Lcom/example/mailbox/mailbox/core/Right;)Z"⟩ : MethodName)) hown (mvT hZ (hw _ (List.mem_of_getElem? (i := 13) rfl))) (mvT hZ (hw _ (List.mem_of_getElem? (i := 14) rfl))) (notFace_of_selects (args := #[]) (mvT hZ (hw _ (List.mem_of_getElem? (i := 16) rfl)))) (mvT hZ (hw _ (List.mem_of_getElem? (i := 16) rfl))) (mvT hZ (hw _ (List.mem_of_getElem? (i := 15) rfl))) (by decide) (backOf (W := 0) (rm1_0 l Z a0 hw [] w0 w2 w0 w1 w2 w3 h9 n0 Z0 K0 OL) hZ (hw _ (List.mem_of_getElem? (i := 17) rfl)) (hw _ (List.mem_of_getElem? (i := 3) rfl)) (by decide) (by decide)) q26a q26c (g := (mkF m 70 #[.val (.int p0), .val (.int p1), .val (.ref b1), .val (.int (0 : Int32)), .val (.int (2 : Int32)), .val (.int (33841 : Int32)), .val (.int (0 : Int32))] [(.ref w2), (.ref w0)])) rfl (by rw [hml]; rfl) (Steps.refl _) (argsL := [(.ref w2)]) (rest := []) (lenOf pd0 rfl) rfl (by show 2 * 0 + _ ≤ _; exact Nat.le_of_eq rfl) (hb hby at_70) (fun _ _ => ⟨rfl, e9, (by decide : 0 + 1 + 0 ≤ _), (by decide : 0 + 4 + 0 ≤ _)⟩)
      dsimp only [Pt.U, Pt.locs, Pt.cells, Pt.slots] at X26 l26 y26 z26 st26 hQ26
      subst l26 y26 z26
      obtain ⟨rfl, e26, hO26⟩ := hQ26
      rcases hO26 with ⟨hr26_0_0, rfl⟩ | ⟨hr26_1_0, hr26_1_1, hr26_1_2, rfl⟩ | ⟨hr26_2_0, hr26_2_1, hr26_2_2, rfl⟩ | ⟨hr26_3_0, hr26_3_1, rfl⟩
      · exact absurd hr26_0_0 (fun q => n_w0_w2 q.symm)
      · exact absurd hr26_1_1 n_w0_w1
      · exact absurd hr26_2_1 n_w0_w1
      · refine own_tr st26 ?_
        show own_Go p e below s _ _ _ (T26.setTop (mkF m 73 #[.val (.int p0), .val (.int p1), .val (.ref b1), .val (.int (0 : Int32)), .val (.int (2 : Int32)), .val (.int (33841 : Int32)), .val (.int (0 : Int32))] [(.int (0 : Int32))]))
        refine own_via (fun _ k => XS.iload X26.here hx rfl (hb hby at_73) rfl k) ?_
        show own_Go p e below s _ _ _ (T26.setTop (mkF m 75 #[.val (.int p0), .val (.int p1), .val (.ref b1), .val (.int (0 : Int32)), .val (.int (2 : Int32)), .val (.int (33841 : Int32)), .val (.int (0 : Int32))] [(.int (0 : Int32)), (.int (0 : Int32))]))
        refine own_via (fun _ k => XS.icmpNo X26.here hx rfl (hb hby at_75) rfl (teq (by decide : (0 : Int32) = (0 : Int32))).2 k) ?_
        show own_Go p e below s _ _ _ (T26.setTop (mkF m 78 #[.val (.int p0), .val (.int p1), .val (.ref b1), .val (.int (0 : Int32)), .val (.int (2 : Int32)), .val (.int (33841 : Int32)), .val (.int (0 : Int32))] []))
        refine own_via (fun _ k => XS.iconst X26.here hx rfl (hb hby at_78) k) ?_
        show own_Go p e below s _ _ _ (T26.setTop (mkF m 79 #[.val (.int p0), .val (.int p1), .val (.ref b1), .val (.int (0 : Int32)), .val (.int (2 : Int32)), .val (.int (33841 : Int32)), .val (.int (0 : Int32))] [(.int (1 : Int32))]))
        refine own_via (fun _ k => XS.goto X26.here hx rfl (pc0 := 79) (pc' := 83) rfl (hb hby at_79) (by decide) (by decide) k) ?_
        show own_Go p e below s _ _ _ (T26.setTop (mkF m 83 #[.val (.int p0), .val (.int p1), .val (.ref b1), .val (.int (0 : Int32)), .val (.int (2 : Int32)), .val (.int (33841 : Int32)), .val (.int (0 : Int32))] [(.int (1 : Int32))]))
        exact own_retZ X26 hx hlk (t := .boolean) Bd.returns (by simp) (hb hby at_83) (z' := (1 : Int32)) (by first | rfl | decide) ⟨rfl, (Fr.app N9 (Fr.nil n0))⟩ (by decide) (by decide)
    · rw [hk17]
      show own_Go p e below s _ _ _ (T9.setTop (mkF m 36 #[.val (.int p0), .val (.int p1), .val (.ref b1), .val (.int (0 : Int32)), .unset, .unset, .unset] [(.int (3 : Int32))]))
      refine own_via (fun _ k => XS.istore X9.here hx rfl (hb hby at_36) rfl (l' := #[.val (.int p0), .val (.int p1), .val (.ref b1), .val (.int (0 : Int32)), .val (.int (3 : Int32)), .unset, .unset]) rfl k) ?_
      show own_Go p e below s _ _ _ (T9.setTop (mkF m 38 #[.val (.int p0), .val (.int p1), .val (.ref b1), .val (.int (0 : Int32)), .val (.int (3 : Int32)), .unset, .unset] []))
      refine own_via (fun _ k => X9.ldcInt hx hown (mvT hZ (hw _ (List.mem_of_getElem? (i := 12) rfl))) (g := (mkF m 38 #[.val (.int p0), .val (.int p1), .val (.ref b1), .val (.int (0 : Int32)), .val (.int (3 : Int32)), .unset, .unset] [])) rfl (hb hby at_38) _ k) ?_
      show own_Go p e below s _ _ _ (T9.setTop (mkF m 40 #[.val (.int p0), .val (.int p1), .val (.ref b1), .val (.int (0 : Int32)), .val (.int (3 : Int32)), .unset, .unset] [(.int (33841 : Int32))]))
      refine own_via (fun _ k => XS.istore X9.here hx rfl (hb hby at_40) rfl (l' := #[.val (.int p0), .val (.int p1), .val (.ref b1), .val (.int (0 : Int32)), .val (.int (3 : Int32)), .val (.int (33841 : Int32)), .unset]) rfl k) ?_
      show own_Go p e below s _ _ _ (T9.setTop (mkF m 42 #[.val (.int p0), .val (.int p1), .val (.ref b1), .val (.int (0 : Int32)), .val (.int (3 : Int32)), .val (.int (33841 : Int32)), .unset] []))
      refine own_via (fun _ k => XS.iload X9.here hx rfl (hb hby at_42) rfl k) ?_
      show own_Go p e below s _ _ _ (T9.setTop (mkF m 44 #[.val (.int p0), .val (.int p1), .val (.ref b1), .val (.int (0 : Int32)), .val (.int (3 : Int32)), .val (.int (33841 : Int32)), .unset] [(.int (33841 : Int32))]))
      refine own_via (fun _ k => XS.iloadN X9.here hx rfl (hb hby at_44) rfl k) ?_
      show own_Go p e below s _ _ _ (T9.setTop (mkF m 45 #[.val (.int p0), .val (.int p1), .val (.ref b1), .val (.int (0 : Int32)), .val (.int (3 : Int32)), .val (.int (33841 : Int32)), .unset] [(.int (0 : Int32)), (.int (33841 : Int32))]))
      refine own_via (fun _ k => XS.iconst X9.here hx rfl (hb hby at_45) k) ?_
      show own_Go p e below s _ _ _ (T9.setTop (mkF m 46 #[.val (.int p0), .val (.int p1), .val (.ref b1), .val (.int (0 : Int32)), .val (.int (3 : Int32)), .val (.int (33841 : Int32)), .unset] [(.int (4 : Int32)), (.int (0 : Int32)), (.int (33841 : Int32))]))
      refine own_via (fun _ k => XS.imul X9.here hx rfl (hb hby at_46) rfl k) ?_
      show own_Go p e below s _ _ _ (T9.setTop (mkF m 47 #[.val (.int p0), .val (.int p1), .val (.ref b1), .val (.int (0 : Int32)), .val (.int (3 : Int32)), .val (.int (33841 : Int32)), .unset] [(.int ((0 : Int32) * (4 : Int32))), (.int (33841 : Int32))]))
      refine own_via (fun _ k => XS.iload X9.here hx rfl (hb hby at_47) rfl k) ?_
      show own_Go p e below s _ _ _ (T9.setTop (mkF m 49 #[.val (.int p0), .val (.int p1), .val (.ref b1), .val (.int (0 : Int32)), .val (.int (3 : Int32)), .val (.int (33841 : Int32)), .unset] [(.int (3 : Int32)), (.int ((0 : Int32) * (4 : Int32))), (.int (33841 : Int32))]))
      refine own_via (fun _ k => XS.iadd X9.here hx rfl (hb hby at_49) rfl k) ?_
      show own_Go p e below s _ _ _ (T9.setTop (mkF m 50 #[.val (.int p0), .val (.int p1), .val (.ref b1), .val (.int (0 : Int32)), .val (.int (3 : Int32)), .val (.int (33841 : Int32)), .unset] [(.int (((0 : Int32) * (4 : Int32)) + (3 : Int32))), (.int (33841 : Int32))]))
      refine own_via (fun _ k => XS.ishr X9.here hx rfl (hb hby at_50) rfl k) ?_
      show own_Go p e below s _ _ _ (T9.setTop (mkF m 51 #[.val (.int p0), .val (.int p1), .val (.ref b1), .val (.int (0 : Int32)), .val (.int (3 : Int32)), .val (.int (33841 : Int32)), .unset] [(.int ((33841 : Int32) >>> ((((0 : Int32) * (4 : Int32)) + (3 : Int32)) &&& 31)))]))
      refine own_via (fun _ k => XS.iconst X9.here hx rfl (hb hby at_51) k) ?_
      show own_Go p e below s _ _ _ (T9.setTop (mkF m 52 #[.val (.int p0), .val (.int p1), .val (.ref b1), .val (.int (0 : Int32)), .val (.int (3 : Int32)), .val (.int (33841 : Int32)), .unset] [(.int (1 : Int32)), (.int ((33841 : Int32) >>> ((((0 : Int32) * (4 : Int32)) + (3 : Int32)) &&& 31)))]))
      refine own_via (fun _ k => XS.iand X9.here hx rfl (hb hby at_52) rfl k) ?_
      show own_Go p e below s _ _ _ (T9.setTop (mkF m 53 #[.val (.int p0), .val (.int p1), .val (.ref b1), .val (.int (0 : Int32)), .val (.int (3 : Int32)), .val (.int (33841 : Int32)), .unset] [(.int (((33841 : Int32) >>> ((((0 : Int32) * (4 : Int32)) + (3 : Int32)) &&& 31)) &&& (1 : Int32)))]))
      refine own_via (fun _ k => XS.ifYes X9.here hx rfl (pc0 := 53) (pc' := 60) rfl (hb hby at_53) rfl ((if0 _ _).trans (teq (by decide : (((33841 : Int32) >>> ((((0 : Int32) * (4 : Int32)) + (3 : Int32)) &&& 31)) &&& (1 : Int32)) = (0 : Int32))).1) (by decide) (by decide) k) ?_
      show own_Go p e below s _ _ _ (T9.setTop (mkF m 60 #[.val (.int p0), .val (.int p1), .val (.ref b1), .val (.int (0 : Int32)), .val (.int (3 : Int32)), .val (.int (33841 : Int32)), .unset] []))
      refine own_via (fun _ k => XS.iconst X9.here hx rfl (hb hby at_60) k) ?_
      show own_Go p e below s _ _ _ (T9.setTop (mkF m 61 #[.val (.int p0), .val (.int p1), .val (.ref b1), .val (.int (0 : Int32)), .val (.int (3 : Int32)), .val (.int (33841 : Int32)), .unset] [(.int (0 : Int32))]))
      refine own_via (fun _ k => XS.istore X9.here hx rfl (hb hby at_61) rfl (l' := #[.val (.int p0), .val (.int p1), .val (.ref b1), .val (.int (0 : Int32)), .val (.int (3 : Int32)), .val (.int (33841 : Int32)), .val (.int (0 : Int32))]) rfl k) ?_
      show own_Go p e below s _ _ _ (T9.setTop (mkF m 63 #[.val (.int p0), .val (.int p1), .val (.ref b1), .val (.int (0 : Int32)), .val (.int (3 : Int32)), .val (.int (33841 : Int32)), .val (.int (0 : Int32))] []))
      refine own_via (fun _ k => XS.aloadN X9.here hx rfl (hb hby at_63) rfl rfl k) ?_
      show own_Go p e below s _ _ _ (T9.setTop (mkF m 64 #[.val (.int p0), .val (.int p1), .val (.ref b1), .val (.int (0 : Int32)), .val (.int (3 : Int32)), .val (.int (33841 : Int32)), .val (.int (0 : Int32))] [(.ref b1)]))
      refine own_via (fun _ k => XS.iloadN X9.here hx rfl (hb hby at_64) rfl k) ?_
      show own_Go p e below s _ _ _ (T9.setTop (mkF m 65 #[.val (.int p0), .val (.int p1), .val (.ref b1), .val (.int (0 : Int32)), .val (.int (3 : Int32)), .val (.int (33841 : Int32)), .val (.int (0 : Int32))] [(.int (0 : Int32)), (.ref b1)]))
      have Vx27 := V_b1
      obtain ⟨cl27, Ar27, q27, S27, N27, H27, G27⟩ := Vx27
      have hin27 : ¬ ((0 : Int32) < 0 ∨ cl27.slots.size ≤ ((0 : Int32)).toNatClampNeg) := inb_of S27 ⟨by decide, by decide⟩
      have hat27 : cl27.slots[((0 : Int32)).toNatClampNeg]? = some (.ref w0) := H27.at hin27 rfl
      refine own_via (fun _ k => X9.aaload hx (j := (0 : Int32)) (v := (.ref w0)) (by rw [e9]; exact Ar27.1) (State.isArrayOf_alike hZ.alike Ar27.2.1) rfl Ar27.2.2 hin27 hat27 (g := (mkF m 65 #[.val (.int p0), .val (.int p1), .val (.ref b1), .val (.int (0 : Int32)), .val (.int (3 : Int32)), .val (.int (33841 : Int32)), .val (.int (0 : Int32))] [(.int (0 : Int32)), (.ref b1)])) rfl rfl (hb hby at_65) _ k) ?_
      show own_Go p e below s _ _ _ (T9.setTop (mkF m 66 #[.val (.int p0), .val (.int p1), .val (.ref b1), .val (.int (0 : Int32)), .val (.int (3 : Int32)), .val (.int (33841 : Int32)), .val (.int (0 : Int32))] [(.ref w0)]))
      refine own_via (fun _ k => XS.aloadN X9.here hx rfl (hb hby at_66) rfl rfl k) ?_
      show own_Go p e below s _ _ _ (T9.setTop (mkF m 67 #[.val (.int p0), .val (.int p1), .val (.ref b1), .val (.int (0 : Int32)), .val (.int (3 : Int32)), .val (.int (33841 : Int32)), .val (.int (0 : Int32))] [(.ref b1), (.ref w0)]))
      refine own_via (fun _ k => XS.iload X9.here hx rfl (hb hby at_67) rfl k) ?_
      show own_Go p e below s _ _ _ (T9.setTop (mkF m 69 #[.val (.int p0), .val (.int p1), .val (.ref b1), .val (.int (0 : Int32)), .val (.int (3 : Int32)), .val (.int (33841 : Int32)), .val (.int (0 : Int32))] [(.int (3 : Int32)), (.ref b1), (.ref w0)]))
      have Vx28 := V_b1
      obtain ⟨cl28, Ar28, q28, S28, N28, H28, G28⟩ := Vx28
      have hin28 : ¬ ((3 : Int32) < 0 ∨ cl28.slots.size ≤ ((3 : Int32)).toNatClampNeg) := inb_of S28 ⟨by decide, by decide⟩
      have hat28 : cl28.slots[((3 : Int32)).toNatClampNeg]? = some (.ref w3) := H28.at hin28 rfl
      refine own_via (fun _ k => X9.aaload hx (j := (3 : Int32)) (v := (.ref w3)) (by rw [e9]; exact Ar28.1) (State.isArrayOf_alike hZ.alike Ar28.2.1) rfl Ar28.2.2 hin28 hat28 (g := (mkF m 69 #[.val (.int p0), .val (.int p1), .val (.ref b1), .val (.int (0 : Int32)), .val (.int (3 : Int32)), .val (.int (33841 : Int32)), .val (.int (0 : Int32))] [(.int (3 : Int32)), (.ref b1), (.ref w0)])) rfl rfl (hb hby at_69) _ k) ?_
      show own_Go p e below s _ _ _ (T9.setTop (mkF m 70 #[.val (.int p0), .val (.int p1), .val (.ref b1), .val (.int (0 : Int32)), .val (.int (3 : Int32)), .val (.int (33841 : Int32)), .val (.int (0 : Int32))] [(.ref w3), (.ref w0)]))
      obtain ⟨cq29, kq29, q29a, q29b, q29c⟩ := isOf hZ e9 (E_w0.ext OL.2)
      obtain ⟨_, _, ⟨T29, L29, k29, n29⟩, -, X29, ⟨Lc29, hQ29, l29, y29, z29⟩, st29⟩ := X9.virtualBack hx (y := (⟨"com/example/mailbox/mailbox/core/Right", "allows", "(Lcom/example/mailbox/mailbox/core/Right;)Z"⟩ : MethodName)) (z := (⟨"com/example/mailbox/mailbox/core/Right", "allows", "(Lcom/example/mailbox/mailbox/core/Right;)Z"⟩ : MethodName)) hown (mvT hZ (hw _ (List.mem_of_getElem? (i := 13) rfl))) (mvT hZ (hw _ (List.mem_of_getElem? (i := 14) rfl))) (notFace_of_selects (args := #[]) (mvT hZ (hw _ (List.mem_of_getElem? (i := 16) rfl)))) (mvT hZ (hw _ (List.mem_of_getElem? (i := 16) rfl))) (mvT hZ (hw _ (List.mem_of_getElem? (i := 15) rfl))) (by decide) (backOf (W := 0) (rm1_0 l Z a0 hw [] w0 w3 w0 w1 w2 w3 h9 n0 Z0 K0 OL) hZ (hw _ (List.mem_of_getElem? (i := 17) rfl)) (hw _ (List.mem_of_getElem? (i := 3) rfl)) (by decide) (by decide)) q29a q29c (g := (mkF m 70 #[.val (.int p0), .val (.int p1), .val (.ref b1), .val (.int (0 : Int32)), .val (.int (3 : Int32)), .val (.int (33841 : Int32)), .val (.int (0 : Int32))] [(.ref w3), (.ref w0)])) rfl (by rw [hml]; rfl) (Steps.refl _) (argsL := [(.ref w3)]) (rest := []) (lenOf pd0 rfl) rfl (by show 2 * 0 + _ ≤ _; exact Nat.le_of_eq rfl) (hb hby at_70) (fun _ _ => ⟨rfl, e9, (by decide : 0 + 1 + 0 ≤ _), (by decide : 0 + 4 + 0 ≤ _)⟩)
      dsimp only [Pt.U, Pt.locs, Pt.cells, Pt.slots] at X29 l29 y29 z29 st29 hQ29
      subst l29 y29 z29
      obtain ⟨rfl, e29, hO29⟩ := hQ29
      rcases hO29 with ⟨hr29_0_0, rfl⟩ | ⟨hr29_1_0, hr29_1_1, hr29_1_2, rfl⟩ | ⟨hr29_2_0, hr29_2_1, hr29_2_2, rfl⟩ | ⟨hr29_3_0, hr29_3_1, rfl⟩
      · exact absurd hr29_0_0 (fun q => n_w0_w3 q.symm)
      · exact absurd hr29_1_1 n_w0_w1
      · exact absurd hr29_2_1 n_w0_w1
      · refine own_tr st29 ?_
        show own_Go p e below s _ _ _ (T29.setTop (mkF m 73 #[.val (.int p0), .val (.int p1), .val (.ref b1), .val (.int (0 : Int32)), .val (.int (3 : Int32)), .val (.int (33841 : Int32)), .val (.int (0 : Int32))] [(.int (0 : Int32))]))
        refine own_via (fun _ k => XS.iload X29.here hx rfl (hb hby at_73) rfl k) ?_
        show own_Go p e below s _ _ _ (T29.setTop (mkF m 75 #[.val (.int p0), .val (.int p1), .val (.ref b1), .val (.int (0 : Int32)), .val (.int (3 : Int32)), .val (.int (33841 : Int32)), .val (.int (0 : Int32))] [(.int (0 : Int32)), (.int (0 : Int32))]))
        refine own_via (fun _ k => XS.icmpNo X29.here hx rfl (hb hby at_75) rfl (teq (by decide : (0 : Int32) = (0 : Int32))).2 k) ?_
        show own_Go p e below s _ _ _ (T29.setTop (mkF m 78 #[.val (.int p0), .val (.int p1), .val (.ref b1), .val (.int (0 : Int32)), .val (.int (3 : Int32)), .val (.int (33841 : Int32)), .val (.int (0 : Int32))] []))
        refine own_via (fun _ k => XS.iconst X29.here hx rfl (hb hby at_78) k) ?_
        show own_Go p e below s _ _ _ (T29.setTop (mkF m 79 #[.val (.int p0), .val (.int p1), .val (.ref b1), .val (.int (0 : Int32)), .val (.int (3 : Int32)), .val (.int (33841 : Int32)), .val (.int (0 : Int32))] [(.int (1 : Int32))]))
        refine own_via (fun _ k => XS.goto X29.here hx rfl (pc0 := 79) (pc' := 83) rfl (hb hby at_79) (by decide) (by decide) k) ?_
        show own_Go p e below s _ _ _ (T29.setTop (mkF m 83 #[.val (.int p0), .val (.int p1), .val (.ref b1), .val (.int (0 : Int32)), .val (.int (3 : Int32)), .val (.int (33841 : Int32)), .val (.int (0 : Int32))] [(.int (1 : Int32))]))
        exact own_retZ X29 hx hlk (t := .boolean) Bd.returns (by simp) (hb hby at_83) (z' := (1 : Int32)) (by first | rfl | decide) ⟨rfl, (Fr.app N9 (Fr.nil n0))⟩ (by decide) (by decide)
  · rw [hk11]
    show own_Go p e below s _ _ _ (T9.setTop (mkF m 32 #[.val (.int p0), .val (.int p1), .val (.ref b1), .unset, .unset, .unset, .unset] [(.int (1 : Int32))]))
    refine own_via (fun _ k => XS.istoreN X9.here hx rfl (hb hby at_32) rfl (l' := #[.val (.int p0), .val (.int p1), .val (.ref b1), .val (.int (1 : Int32)), .unset, .unset, .unset]) rfl k) ?_
    show own_Go p e below s _ _ _ (T9.setTop (mkF m 33 #[.val (.int p0), .val (.int p1), .val (.ref b1), .val (.int (1 : Int32)), .unset, .unset, .unset] []))
    refine own_via (fun _ k => XS.iloadN X9.here hx rfl (hb hby at_33) rfl k) ?_
    show own_Go p e below s _ _ _ (T9.setTop (mkF m 34 #[.val (.int p0), .val (.int p1), .val (.ref b1), .val (.int (1 : Int32)), .unset, .unset, .unset] [(.int p1)]))
    refine own_via (fun _ k => XS.iconst X9.here hx rfl (hb hby at_34) k) ?_
    show own_Go p e below s _ _ _ (T9.setTop (mkF m 35 #[.val (.int p0), .val (.int p1), .val (.ref b1), .val (.int (1 : Int32)), .unset, .unset, .unset] [(.int (3 : Int32)), (.int p1)]))
    refine own_via (fun _ k => XS.iand X9.here hx rfl (hb hby at_35) rfl k) ?_
    rcases (own_and3 _ : (p1 &&& (3 : Int32)) = (0 : Int32) ∨ (p1 &&& (3 : Int32)) = (1 : Int32) ∨ (p1 &&& (3 : Int32)) = (2 : Int32) ∨ (p1 &&& (3 : Int32)) = (3 : Int32)) with hk30 | hk31 | hk32 | hk33
    · rw [hk30]
      show own_Go p e below s _ _ _ (T9.setTop (mkF m 36 #[.val (.int p0), .val (.int p1), .val (.ref b1), .val (.int (1 : Int32)), .unset, .unset, .unset] [(.int (0 : Int32))]))
      refine own_via (fun _ k => XS.istore X9.here hx rfl (hb hby at_36) rfl (l' := #[.val (.int p0), .val (.int p1), .val (.ref b1), .val (.int (1 : Int32)), .val (.int (0 : Int32)), .unset, .unset]) rfl k) ?_
      show own_Go p e below s _ _ _ (T9.setTop (mkF m 38 #[.val (.int p0), .val (.int p1), .val (.ref b1), .val (.int (1 : Int32)), .val (.int (0 : Int32)), .unset, .unset] []))
      refine own_via (fun _ k => X9.ldcInt hx hown (mvT hZ (hw _ (List.mem_of_getElem? (i := 12) rfl))) (g := (mkF m 38 #[.val (.int p0), .val (.int p1), .val (.ref b1), .val (.int (1 : Int32)), .val (.int (0 : Int32)), .unset, .unset] [])) rfl (hb hby at_38) _ k) ?_
      show own_Go p e below s _ _ _ (T9.setTop (mkF m 40 #[.val (.int p0), .val (.int p1), .val (.ref b1), .val (.int (1 : Int32)), .val (.int (0 : Int32)), .unset, .unset] [(.int (33841 : Int32))]))
      refine own_via (fun _ k => XS.istore X9.here hx rfl (hb hby at_40) rfl (l' := #[.val (.int p0), .val (.int p1), .val (.ref b1), .val (.int (1 : Int32)), .val (.int (0 : Int32)), .val (.int (33841 : Int32)), .unset]) rfl k) ?_
      show own_Go p e below s _ _ _ (T9.setTop (mkF m 42 #[.val (.int p0), .val (.int p1), .val (.ref b1), .val (.int (1 : Int32)), .val (.int (0 : Int32)), .val (.int (33841 : Int32)), .unset] []))
      refine own_via (fun _ k => XS.iload X9.here hx rfl (hb hby at_42) rfl k) ?_
      show own_Go p e below s _ _ _ (T9.setTop (mkF m 44 #[.val (.int p0), .val (.int p1), .val (.ref b1), .val (.int (1 : Int32)), .val (.int (0 : Int32)), .val (.int (33841 : Int32)), .unset] [(.int (33841 : Int32))]))
      refine own_via (fun _ k => XS.iloadN X9.here hx rfl (hb hby at_44) rfl k) ?_
      show own_Go p e below s _ _ _ (T9.setTop (mkF m 45 #[.val (.int p0), .val (.int p1), .val (.ref b1), .val (.int (1 : Int32)), .val (.int (0 : Int32)), .val (.int (33841 : Int32)), .unset] [(.int (1 : Int32)), (.int (33841 : Int32))]))
      refine own_via (fun _ k => XS.iconst X9.here hx rfl (hb hby at_45) k) ?_
      show own_Go p e below s _ _ _ (T9.setTop (mkF m 46 #[.val (.int p0), .val (.int p1), .val (.ref b1), .val (.int (1 : Int32)), .val (.int (0 : Int32)), .val (.int (33841 : Int32)), .unset] [(.int (4 : Int32)), (.int (1 : Int32)), (.int (33841 : Int32))]))
      refine own_via (fun _ k => XS.imul X9.here hx rfl (hb hby at_46) rfl k) ?_
      show own_Go p e below s _ _ _ (T9.setTop (mkF m 47 #[.val (.int p0), .val (.int p1), .val (.ref b1), .val (.int (1 : Int32)), .val (.int (0 : Int32)), .val (.int (33841 : Int32)), .unset] [(.int ((1 : Int32) * (4 : Int32))), (.int (33841 : Int32))]))
      refine own_via (fun _ k => XS.iload X9.here hx rfl (hb hby at_47) rfl k) ?_
      show own_Go p e below s _ _ _ (T9.setTop (mkF m 49 #[.val (.int p0), .val (.int p1), .val (.ref b1), .val (.int (1 : Int32)), .val (.int (0 : Int32)), .val (.int (33841 : Int32)), .unset] [(.int (0 : Int32)), (.int ((1 : Int32) * (4 : Int32))), (.int (33841 : Int32))]))
      refine own_via (fun _ k => XS.iadd X9.here hx rfl (hb hby at_49) rfl k) ?_
      show own_Go p e below s _ _ _ (T9.setTop (mkF m 50 #[.val (.int p0), .val (.int p1), .val (.ref b1), .val (.int (1 : Int32)), .val (.int (0 : Int32)), .val (.int (33841 : Int32)), .unset] [(.int (((1 : Int32) * (4 : Int32)) + (0 : Int32))), (.int (33841 : Int32))]))
      refine own_via (fun _ k => XS.ishr X9.here hx rfl (hb hby at_50) rfl k) ?_
      show own_Go p e below s _ _ _ (T9.setTop (mkF m 51 #[.val (.int p0), .val (.int p1), .val (.ref b1), .val (.int (1 : Int32)), .val (.int (0 : Int32)), .val (.int (33841 : Int32)), .unset] [(.int ((33841 : Int32) >>> ((((1 : Int32) * (4 : Int32)) + (0 : Int32)) &&& 31)))]))
      refine own_via (fun _ k => XS.iconst X9.here hx rfl (hb hby at_51) k) ?_
      show own_Go p e below s _ _ _ (T9.setTop (mkF m 52 #[.val (.int p0), .val (.int p1), .val (.ref b1), .val (.int (1 : Int32)), .val (.int (0 : Int32)), .val (.int (33841 : Int32)), .unset] [(.int (1 : Int32)), (.int ((33841 : Int32) >>> ((((1 : Int32) * (4 : Int32)) + (0 : Int32)) &&& 31)))]))
      refine own_via (fun _ k => XS.iand X9.here hx rfl (hb hby at_52) rfl k) ?_
      show own_Go p e below s _ _ _ (T9.setTop (mkF m 53 #[.val (.int p0), .val (.int p1), .val (.ref b1), .val (.int (1 : Int32)), .val (.int (0 : Int32)), .val (.int (33841 : Int32)), .unset] [(.int (((33841 : Int32) >>> ((((1 : Int32) * (4 : Int32)) + (0 : Int32)) &&& 31)) &&& (1 : Int32)))]))
      refine own_via (fun _ k => XS.ifNo X9.here hx rfl (hb hby at_53) rfl ((if0 _ _).trans (feq (by decide : ¬ ((((33841 : Int32) >>> ((((1 : Int32) * (4 : Int32)) + (0 : Int32)) &&& 31)) &&& (1 : Int32)) = (0 : Int32)))).1) k) ?_
      show own_Go p e below s _ _ _ (T9.setTop (mkF m 56 #[.val (.int p0), .val (.int p1), .val (.ref b1), .val (.int (1 : Int32)), .val (.int (0 : Int32)), .val (.int (33841 : Int32)), .unset] []))
      refine own_via (fun _ k => XS.iconst X9.here hx rfl (hb hby at_56) k) ?_
      show own_Go p e below s _ _ _ (T9.setTop (mkF m 57 #[.val (.int p0), .val (.int p1), .val (.ref b1), .val (.int (1 : Int32)), .val (.int (0 : Int32)), .val (.int (33841 : Int32)), .unset] [(.int (1 : Int32))]))
      refine own_via (fun _ k => XS.goto X9.here hx rfl (pc0 := 57) (pc' := 61) rfl (hb hby at_57) (by decide) (by decide) k) ?_
      show own_Go p e below s _ _ _ (T9.setTop (mkF m 61 #[.val (.int p0), .val (.int p1), .val (.ref b1), .val (.int (1 : Int32)), .val (.int (0 : Int32)), .val (.int (33841 : Int32)), .unset] [(.int (1 : Int32))]))
      refine own_via (fun _ k => XS.istore X9.here hx rfl (hb hby at_61) rfl (l' := #[.val (.int p0), .val (.int p1), .val (.ref b1), .val (.int (1 : Int32)), .val (.int (0 : Int32)), .val (.int (33841 : Int32)), .val (.int (1 : Int32))]) rfl k) ?_
      show own_Go p e below s _ _ _ (T9.setTop (mkF m 63 #[.val (.int p0), .val (.int p1), .val (.ref b1), .val (.int (1 : Int32)), .val (.int (0 : Int32)), .val (.int (33841 : Int32)), .val (.int (1 : Int32))] []))
      refine own_via (fun _ k => XS.aloadN X9.here hx rfl (hb hby at_63) rfl rfl k) ?_
      show own_Go p e below s _ _ _ (T9.setTop (mkF m 64 #[.val (.int p0), .val (.int p1), .val (.ref b1), .val (.int (1 : Int32)), .val (.int (0 : Int32)), .val (.int (33841 : Int32)), .val (.int (1 : Int32))] [(.ref b1)]))
      refine own_via (fun _ k => XS.iloadN X9.here hx rfl (hb hby at_64) rfl k) ?_
      show own_Go p e below s _ _ _ (T9.setTop (mkF m 65 #[.val (.int p0), .val (.int p1), .val (.ref b1), .val (.int (1 : Int32)), .val (.int (0 : Int32)), .val (.int (33841 : Int32)), .val (.int (1 : Int32))] [(.int (1 : Int32)), (.ref b1)]))
      have Vx34 := V_b1
      obtain ⟨cl34, Ar34, q34, S34, N34, H34, G34⟩ := Vx34
      have hin34 : ¬ ((1 : Int32) < 0 ∨ cl34.slots.size ≤ ((1 : Int32)).toNatClampNeg) := inb_of S34 ⟨by decide, by decide⟩
      have hat34 : cl34.slots[((1 : Int32)).toNatClampNeg]? = some (.ref w1) := H34.at hin34 rfl
      refine own_via (fun _ k => X9.aaload hx (j := (1 : Int32)) (v := (.ref w1)) (by rw [e9]; exact Ar34.1) (State.isArrayOf_alike hZ.alike Ar34.2.1) rfl Ar34.2.2 hin34 hat34 (g := (mkF m 65 #[.val (.int p0), .val (.int p1), .val (.ref b1), .val (.int (1 : Int32)), .val (.int (0 : Int32)), .val (.int (33841 : Int32)), .val (.int (1 : Int32))] [(.int (1 : Int32)), (.ref b1)])) rfl rfl (hb hby at_65) _ k) ?_
      show own_Go p e below s _ _ _ (T9.setTop (mkF m 66 #[.val (.int p0), .val (.int p1), .val (.ref b1), .val (.int (1 : Int32)), .val (.int (0 : Int32)), .val (.int (33841 : Int32)), .val (.int (1 : Int32))] [(.ref w1)]))
      refine own_via (fun _ k => XS.aloadN X9.here hx rfl (hb hby at_66) rfl rfl k) ?_
      show own_Go p e below s _ _ _ (T9.setTop (mkF m 67 #[.val (.int p0), .val (.int p1), .val (.ref b1), .val (.int (1 : Int32)), .val (.int (0 : Int32)), .val (.int (33841 : Int32)), .val (.int (1 : Int32))] [(.ref b1), (.ref w1)]))
      refine own_via (fun _ k => XS.iload X9.here hx rfl (hb hby at_67) rfl k) ?_
      show own_Go p e below s _ _ _ (T9.setTop (mkF m 69 #[.val (.int p0), .val (.int p1), .val (.ref b1), .val (.int (1 : Int32)), .val (.int (0 : Int32)), .val (.int (33841 : Int32)), .val (.int (1 : Int32))] [(.int (0 : Int32)), (.ref b1), (.ref w1)]))
      have Vx35 := V_b1
      obtain ⟨cl35, Ar35, q35, S35, N35, H35, G35⟩ := Vx35
      have hin35 : ¬ ((0 : Int32) < 0 ∨ cl35.slots.size ≤ ((0 : Int32)).toNatClampNeg) := inb_of S35 ⟨by decide, by decide⟩
      have hat35 : cl35.slots[((0 : Int32)).toNatClampNeg]? = some (.ref w0) := H35.at hin35 rfl
      refine own_via (fun _ k => X9.aaload hx (j := (0 : Int32)) (v := (.ref w0)) (by rw [e9]; exact Ar35.1) (State.isArrayOf_alike hZ.alike Ar35.2.1) rfl Ar35.2.2 hin35 hat35 (g := (mkF m 69 #[.val (.int p0), .val (.int p1), .val (.ref b1), .val (.int (1 : Int32)), .val (.int (0 : Int32)), .val (.int (33841 : Int32)), .val (.int (1 : Int32))] [(.int (0 : Int32)), (.ref b1), (.ref w1)])) rfl rfl (hb hby at_69) _ k) ?_
      show own_Go p e below s _ _ _ (T9.setTop (mkF m 70 #[.val (.int p0), .val (.int p1), .val (.ref b1), .val (.int (1 : Int32)), .val (.int (0 : Int32)), .val (.int (33841 : Int32)), .val (.int (1 : Int32))] [(.ref w0), (.ref w1)]))
      obtain ⟨cq36, kq36, q36a, q36b, q36c⟩ := isOf hZ e9 (E_w1.ext OL.2)
      obtain ⟨_, _, ⟨T36, L36, k36, n36⟩, -, X36, ⟨Lc36, hQ36, l36, y36, z36⟩, st36⟩ := X9.virtualBack hx (y := (⟨"com/example/mailbox/mailbox/core/Right", "allows", "(Lcom/example/mailbox/mailbox/core/Right;)Z"⟩ : MethodName)) (z := (⟨"com/example/mailbox/mailbox/core/Right", "allows", "(Lcom/example/mailbox/mailbox/core/Right;)Z"⟩ : MethodName)) hown (mvT hZ (hw _ (List.mem_of_getElem? (i := 13) rfl))) (mvT hZ (hw _ (List.mem_of_getElem? (i := 14) rfl))) (notFace_of_selects (args := #[]) (mvT hZ (hw _ (List.mem_of_getElem? (i := 16) rfl)))) (mvT hZ (hw _ (List.mem_of_getElem? (i := 16) rfl))) (mvT hZ (hw _ (List.mem_of_getElem? (i := 15) rfl))) (by decide) (backOf (W := 0) (rm1_0 l Z a0 hw [] w1 w0 w0 w1 w2 w3 h9 n0 Z0 K0 OL) hZ (hw _ (List.mem_of_getElem? (i := 17) rfl)) (hw _ (List.mem_of_getElem? (i := 3) rfl)) (by decide) (by decide)) q36a q36c (g := (mkF m 70 #[.val (.int p0), .val (.int p1), .val (.ref b1), .val (.int (1 : Int32)), .val (.int (0 : Int32)), .val (.int (33841 : Int32)), .val (.int (1 : Int32))] [(.ref w0), (.ref w1)])) rfl (by rw [hml]; rfl) (Steps.refl _) (argsL := [(.ref w0)]) (rest := []) (lenOf pd0 rfl) rfl (by show 2 * 0 + _ ≤ _; exact Nat.le_of_eq rfl) (hb hby at_70) (fun _ _ => ⟨rfl, e9, (by decide : 0 + 1 + 0 ≤ _), (by decide : 0 + 4 + 0 ≤ _)⟩)
      dsimp only [Pt.U, Pt.locs, Pt.cells, Pt.slots] at X36 l36 y36 z36 st36 hQ36
      subst l36 y36 z36
      obtain ⟨rfl, e36, hO36⟩ := hQ36
      rcases hO36 with ⟨hr36_0_0, rfl⟩ | ⟨hr36_1_0, hr36_1_1, hr36_1_2, rfl⟩ | ⟨hr36_2_0, hr36_2_1, hr36_2_2, rfl⟩ | ⟨hr36_3_0, hr36_3_1, rfl⟩
      · exact absurd hr36_0_0 n_w0_w1
      · refine own_tr st36 ?_
        show own_Go p e below s _ _ _ (T36.setTop (mkF m 73 #[.val (.int p0), .val (.int p1), .val (.ref b1), .val (.int (1 : Int32)), .val (.int (0 : Int32)), .val (.int (33841 : Int32)), .val (.int (1 : Int32))] [(.int (1 : Int32))]))
        refine own_via (fun _ k => XS.iload X36.here hx rfl (hb hby at_73) rfl k) ?_
        show own_Go p e below s _ _ _ (T36.setTop (mkF m 75 #[.val (.int p0), .val (.int p1), .val (.ref b1), .val (.int (1 : Int32)), .val (.int (0 : Int32)), .val (.int (33841 : Int32)), .val (.int (1 : Int32))] [(.int (1 : Int32)), (.int (1 : Int32))]))
        refine own_via (fun _ k => XS.icmpNo X36.here hx rfl (hb hby at_75) rfl (teq (by decide : (1 : Int32) = (1 : Int32))).2 k) ?_
        show own_Go p e below s _ _ _ (T36.setTop (mkF m 78 #[.val (.int p0), .val (.int p1), .val (.ref b1), .val (.int (1 : Int32)), .val (.int (0 : Int32)), .val (.int (33841 : Int32)), .val (.int (1 : Int32))] []))
        refine own_via (fun _ k => XS.iconst X36.here hx rfl (hb hby at_78) k) ?_
        show own_Go p e below s _ _ _ (T36.setTop (mkF m 79 #[.val (.int p0), .val (.int p1), .val (.ref b1), .val (.int (1 : Int32)), .val (.int (0 : Int32)), .val (.int (33841 : Int32)), .val (.int (1 : Int32))] [(.int (1 : Int32))]))
        refine own_via (fun _ k => XS.goto X36.here hx rfl (pc0 := 79) (pc' := 83) rfl (hb hby at_79) (by decide) (by decide) k) ?_
        show own_Go p e below s _ _ _ (T36.setTop (mkF m 83 #[.val (.int p0), .val (.int p1), .val (.ref b1), .val (.int (1 : Int32)), .val (.int (0 : Int32)), .val (.int (33841 : Int32)), .val (.int (1 : Int32))] [(.int (1 : Int32))]))
        exact own_retZ X36 hx hlk (t := .boolean) Bd.returns (by simp) (hb hby at_83) (z' := (1 : Int32)) (by first | rfl | decide) ⟨rfl, (Fr.app N9 (Fr.nil n0))⟩ (by decide) (by decide)
      · exact absurd rfl hr36_2_2
      · exact absurd rfl hr36_3_1
    · rw [hk31]
      show own_Go p e below s _ _ _ (T9.setTop (mkF m 36 #[.val (.int p0), .val (.int p1), .val (.ref b1), .val (.int (1 : Int32)), .unset, .unset, .unset] [(.int (1 : Int32))]))
      refine own_via (fun _ k => XS.istore X9.here hx rfl (hb hby at_36) rfl (l' := #[.val (.int p0), .val (.int p1), .val (.ref b1), .val (.int (1 : Int32)), .val (.int (1 : Int32)), .unset, .unset]) rfl k) ?_
      show own_Go p e below s _ _ _ (T9.setTop (mkF m 38 #[.val (.int p0), .val (.int p1), .val (.ref b1), .val (.int (1 : Int32)), .val (.int (1 : Int32)), .unset, .unset] []))
      refine own_via (fun _ k => X9.ldcInt hx hown (mvT hZ (hw _ (List.mem_of_getElem? (i := 12) rfl))) (g := (mkF m 38 #[.val (.int p0), .val (.int p1), .val (.ref b1), .val (.int (1 : Int32)), .val (.int (1 : Int32)), .unset, .unset] [])) rfl (hb hby at_38) _ k) ?_
      show own_Go p e below s _ _ _ (T9.setTop (mkF m 40 #[.val (.int p0), .val (.int p1), .val (.ref b1), .val (.int (1 : Int32)), .val (.int (1 : Int32)), .unset, .unset] [(.int (33841 : Int32))]))
      refine own_via (fun _ k => XS.istore X9.here hx rfl (hb hby at_40) rfl (l' := #[.val (.int p0), .val (.int p1), .val (.ref b1), .val (.int (1 : Int32)), .val (.int (1 : Int32)), .val (.int (33841 : Int32)), .unset]) rfl k) ?_
      show own_Go p e below s _ _ _ (T9.setTop (mkF m 42 #[.val (.int p0), .val (.int p1), .val (.ref b1), .val (.int (1 : Int32)), .val (.int (1 : Int32)), .val (.int (33841 : Int32)), .unset] []))
      refine own_via (fun _ k => XS.iload X9.here hx rfl (hb hby at_42) rfl k) ?_
      show own_Go p e below s _ _ _ (T9.setTop (mkF m 44 #[.val (.int p0), .val (.int p1), .val (.ref b1), .val (.int (1 : Int32)), .val (.int (1 : Int32)), .val (.int (33841 : Int32)), .unset] [(.int (33841 : Int32))]))
      refine own_via (fun _ k => XS.iloadN X9.here hx rfl (hb hby at_44) rfl k) ?_
      show own_Go p e below s _ _ _ (T9.setTop (mkF m 45 #[.val (.int p0), .val (.int p1), .val (.ref b1), .val (.int (1 : Int32)), .val (.int (1 : Int32)), .val (.int (33841 : Int32)), .unset] [(.int (1 : Int32)), (.int (33841 : Int32))]))
      refine own_via (fun _ k => XS.iconst X9.here hx rfl (hb hby at_45) k) ?_
      show own_Go p e below s _ _ _ (T9.setTop (mkF m 46 #[.val (.int p0), .val (.int p1), .val (.ref b1), .val (.int (1 : Int32)), .val (.int (1 : Int32)), .val (.int (33841 : Int32)), .unset] [(.int (4 : Int32)), (.int (1 : Int32)), (.int (33841 : Int32))]))
      refine own_via (fun _ k => XS.imul X9.here hx rfl (hb hby at_46) rfl k) ?_
      show own_Go p e below s _ _ _ (T9.setTop (mkF m 47 #[.val (.int p0), .val (.int p1), .val (.ref b1), .val (.int (1 : Int32)), .val (.int (1 : Int32)), .val (.int (33841 : Int32)), .unset] [(.int ((1 : Int32) * (4 : Int32))), (.int (33841 : Int32))]))
      refine own_via (fun _ k => XS.iload X9.here hx rfl (hb hby at_47) rfl k) ?_
      show own_Go p e below s _ _ _ (T9.setTop (mkF m 49 #[.val (.int p0), .val (.int p1), .val (.ref b1), .val (.int (1 : Int32)), .val (.int (1 : Int32)), .val (.int (33841 : Int32)), .unset] [(.int (1 : Int32)), (.int ((1 : Int32) * (4 : Int32))), (.int (33841 : Int32))]))
      refine own_via (fun _ k => XS.iadd X9.here hx rfl (hb hby at_49) rfl k) ?_
      show own_Go p e below s _ _ _ (T9.setTop (mkF m 50 #[.val (.int p0), .val (.int p1), .val (.ref b1), .val (.int (1 : Int32)), .val (.int (1 : Int32)), .val (.int (33841 : Int32)), .unset] [(.int (((1 : Int32) * (4 : Int32)) + (1 : Int32))), (.int (33841 : Int32))]))
      refine own_via (fun _ k => XS.ishr X9.here hx rfl (hb hby at_50) rfl k) ?_
      show own_Go p e below s _ _ _ (T9.setTop (mkF m 51 #[.val (.int p0), .val (.int p1), .val (.ref b1), .val (.int (1 : Int32)), .val (.int (1 : Int32)), .val (.int (33841 : Int32)), .unset] [(.int ((33841 : Int32) >>> ((((1 : Int32) * (4 : Int32)) + (1 : Int32)) &&& 31)))]))
      refine own_via (fun _ k => XS.iconst X9.here hx rfl (hb hby at_51) k) ?_
      show own_Go p e below s _ _ _ (T9.setTop (mkF m 52 #[.val (.int p0), .val (.int p1), .val (.ref b1), .val (.int (1 : Int32)), .val (.int (1 : Int32)), .val (.int (33841 : Int32)), .unset] [(.int (1 : Int32)), (.int ((33841 : Int32) >>> ((((1 : Int32) * (4 : Int32)) + (1 : Int32)) &&& 31)))]))
      refine own_via (fun _ k => XS.iand X9.here hx rfl (hb hby at_52) rfl k) ?_
      show own_Go p e below s _ _ _ (T9.setTop (mkF m 53 #[.val (.int p0), .val (.int p1), .val (.ref b1), .val (.int (1 : Int32)), .val (.int (1 : Int32)), .val (.int (33841 : Int32)), .unset] [(.int (((33841 : Int32) >>> ((((1 : Int32) * (4 : Int32)) + (1 : Int32)) &&& 31)) &&& (1 : Int32)))]))
      refine own_via (fun _ k => XS.ifNo X9.here hx rfl (hb hby at_53) rfl ((if0 _ _).trans (feq (by decide : ¬ ((((33841 : Int32) >>> ((((1 : Int32) * (4 : Int32)) + (1 : Int32)) &&& 31)) &&& (1 : Int32)) = (0 : Int32)))).1) k) ?_
      show own_Go p e below s _ _ _ (T9.setTop (mkF m 56 #[.val (.int p0), .val (.int p1), .val (.ref b1), .val (.int (1 : Int32)), .val (.int (1 : Int32)), .val (.int (33841 : Int32)), .unset] []))
      refine own_via (fun _ k => XS.iconst X9.here hx rfl (hb hby at_56) k) ?_
      show own_Go p e below s _ _ _ (T9.setTop (mkF m 57 #[.val (.int p0), .val (.int p1), .val (.ref b1), .val (.int (1 : Int32)), .val (.int (1 : Int32)), .val (.int (33841 : Int32)), .unset] [(.int (1 : Int32))]))
      refine own_via (fun _ k => XS.goto X9.here hx rfl (pc0 := 57) (pc' := 61) rfl (hb hby at_57) (by decide) (by decide) k) ?_
      show own_Go p e below s _ _ _ (T9.setTop (mkF m 61 #[.val (.int p0), .val (.int p1), .val (.ref b1), .val (.int (1 : Int32)), .val (.int (1 : Int32)), .val (.int (33841 : Int32)), .unset] [(.int (1 : Int32))]))
      refine own_via (fun _ k => XS.istore X9.here hx rfl (hb hby at_61) rfl (l' := #[.val (.int p0), .val (.int p1), .val (.ref b1), .val (.int (1 : Int32)), .val (.int (1 : Int32)), .val (.int (33841 : Int32)), .val (.int (1 : Int32))]) rfl k) ?_
      show own_Go p e below s _ _ _ (T9.setTop (mkF m 63 #[.val (.int p0), .val (.int p1), .val (.ref b1), .val (.int (1 : Int32)), .val (.int (1 : Int32)), .val (.int (33841 : Int32)), .val (.int (1 : Int32))] []))
      refine own_via (fun _ k => XS.aloadN X9.here hx rfl (hb hby at_63) rfl rfl k) ?_
      show own_Go p e below s _ _ _ (T9.setTop (mkF m 64 #[.val (.int p0), .val (.int p1), .val (.ref b1), .val (.int (1 : Int32)), .val (.int (1 : Int32)), .val (.int (33841 : Int32)), .val (.int (1 : Int32))] [(.ref b1)]))
      refine own_via (fun _ k => XS.iloadN X9.here hx rfl (hb hby at_64) rfl k) ?_
      show own_Go p e below s _ _ _ (T9.setTop (mkF m 65 #[.val (.int p0), .val (.int p1), .val (.ref b1), .val (.int (1 : Int32)), .val (.int (1 : Int32)), .val (.int (33841 : Int32)), .val (.int (1 : Int32))] [(.int (1 : Int32)), (.ref b1)]))
      have Vx37 := V_b1
      obtain ⟨cl37, Ar37, q37, S37, N37, H37, G37⟩ := Vx37
      have hin37 : ¬ ((1 : Int32) < 0 ∨ cl37.slots.size ≤ ((1 : Int32)).toNatClampNeg) := inb_of S37 ⟨by decide, by decide⟩
      have hat37 : cl37.slots[((1 : Int32)).toNatClampNeg]? = some (.ref w1) := H37.at hin37 rfl
      refine own_via (fun _ k => X9.aaload hx (j := (1 : Int32)) (v := (.ref w1)) (by rw [e9]; exact Ar37.1) (State.isArrayOf_alike hZ.alike Ar37.2.1) rfl Ar37.2.2 hin37 hat37 (g := (mkF m 65 #[.val (.int p0), .val (.int p1), .val (.ref b1), .val (.int (1 : Int32)), .val (.int (1 : Int32)), .val (.int (33841 : Int32)), .val (.int (1 : Int32))] [(.int (1 : Int32)), (.ref b1)])) rfl rfl (hb hby at_65) _ k) ?_
      show own_Go p e below s _ _ _ (T9.setTop (mkF m 66 #[.val (.int p0), .val (.int p1), .val (.ref b1), .val (.int (1 : Int32)), .val (.int (1 : Int32)), .val (.int (33841 : Int32)), .val (.int (1 : Int32))] [(.ref w1)]))
      refine own_via (fun _ k => XS.aloadN X9.here hx rfl (hb hby at_66) rfl rfl k) ?_
      show own_Go p e below s _ _ _ (T9.setTop (mkF m 67 #[.val (.int p0), .val (.int p1), .val (.ref b1), .val (.int (1 : Int32)), .val (.int (1 : Int32)), .val (.int (33841 : Int32)), .val (.int (1 : Int32))] [(.ref b1), (.ref w1)]))
      refine own_via (fun _ k => XS.iload X9.here hx rfl (hb hby at_67) rfl k) ?_
      show own_Go p e below s _ _ _ (T9.setTop (mkF m 69 #[.val (.int p0), .val (.int p1), .val (.ref b1), .val (.int (1 : Int32)), .val (.int (1 : Int32)), .val (.int (33841 : Int32)), .val (.int (1 : Int32))] [(.int (1 : Int32)), (.ref b1), (.ref w1)]))
      have Vx38 := V_b1
      obtain ⟨cl38, Ar38, q38, S38, N38, H38, G38⟩ := Vx38
      have hin38 : ¬ ((1 : Int32) < 0 ∨ cl38.slots.size ≤ ((1 : Int32)).toNatClampNeg) := inb_of S38 ⟨by decide, by decide⟩
      have hat38 : cl38.slots[((1 : Int32)).toNatClampNeg]? = some (.ref w1) := H38.at hin38 rfl
      refine own_via (fun _ k => X9.aaload hx (j := (1 : Int32)) (v := (.ref w1)) (by rw [e9]; exact Ar38.1) (State.isArrayOf_alike hZ.alike Ar38.2.1) rfl Ar38.2.2 hin38 hat38 (g := (mkF m 69 #[.val (.int p0), .val (.int p1), .val (.ref b1), .val (.int (1 : Int32)), .val (.int (1 : Int32)), .val (.int (33841 : Int32)), .val (.int (1 : Int32))] [(.int (1 : Int32)), (.ref b1), (.ref w1)])) rfl rfl (hb hby at_69) _ k) ?_
      show own_Go p e below s _ _ _ (T9.setTop (mkF m 70 #[.val (.int p0), .val (.int p1), .val (.ref b1), .val (.int (1 : Int32)), .val (.int (1 : Int32)), .val (.int (33841 : Int32)), .val (.int (1 : Int32))] [(.ref w1), (.ref w1)]))
      obtain ⟨cq39, kq39, q39a, q39b, q39c⟩ := isOf hZ e9 (E_w1.ext OL.2)
      obtain ⟨_, _, ⟨T39, L39, k39, n39⟩, -, X39, ⟨Lc39, hQ39, l39, y39, z39⟩, st39⟩ := X9.virtualBack hx (y := (⟨"com/example/mailbox/mailbox/core/Right", "allows", "(Lcom/example/mailbox/mailbox/core/Right;)Z"⟩ : MethodName)) (z := (⟨"com/example/mailbox/mailbox/core/Right", "allows", "(Lcom/example/mailbox/mailbox/core/Right;)Z"⟩ : MethodName)) hown (mvT hZ (hw _ (List.mem_of_getElem? (i := 13) rfl))) (mvT hZ (hw _ (List.mem_of_getElem? (i := 14) rfl))) (notFace_of_selects (args := #[]) (mvT hZ (hw _ (List.mem_of_getElem? (i := 16) rfl)))) (mvT hZ (hw _ (List.mem_of_getElem? (i := 16) rfl))) (mvT hZ (hw _ (List.mem_of_getElem? (i := 15) rfl))) (by decide) (backOf (W := 0) (rm1_0 l Z a0 hw [] w1 w1 w0 w1 w2 w3 h9 n0 Z0 K0 OL) hZ (hw _ (List.mem_of_getElem? (i := 17) rfl)) (hw _ (List.mem_of_getElem? (i := 3) rfl)) (by decide) (by decide)) q39a q39c (g := (mkF m 70 #[.val (.int p0), .val (.int p1), .val (.ref b1), .val (.int (1 : Int32)), .val (.int (1 : Int32)), .val (.int (33841 : Int32)), .val (.int (1 : Int32))] [(.ref w1), (.ref w1)])) rfl (by rw [hml]; rfl) (Steps.refl _) (argsL := [(.ref w1)]) (rest := []) (lenOf pd0 rfl) rfl (by show 2 * 0 + _ ≤ _; exact Nat.le_of_eq rfl) (hb hby at_70) (fun _ _ => ⟨rfl, e9, (by decide : 0 + 1 + 0 ≤ _), (by decide : 0 + 4 + 0 ≤ _)⟩)
      dsimp only [Pt.U, Pt.locs, Pt.cells, Pt.slots] at X39 l39 y39 z39 st39 hQ39
      subst l39 y39 z39
      obtain ⟨rfl, e39, hO39⟩ := hQ39
      rcases hO39 with ⟨hr39_0_0, rfl⟩ | ⟨hr39_1_0, hr39_1_1, hr39_1_2, rfl⟩ | ⟨hr39_2_0, hr39_2_1, hr39_2_2, rfl⟩ | ⟨hr39_3_0, hr39_3_1, rfl⟩
      · refine own_tr st39 ?_
        show own_Go p e below s _ _ _ (T39.setTop (mkF m 73 #[.val (.int p0), .val (.int p1), .val (.ref b1), .val (.int (1 : Int32)), .val (.int (1 : Int32)), .val (.int (33841 : Int32)), .val (.int (1 : Int32))] [(.int (1 : Int32))]))
        refine own_via (fun _ k => XS.iload X39.here hx rfl (hb hby at_73) rfl k) ?_
        show own_Go p e below s _ _ _ (T39.setTop (mkF m 75 #[.val (.int p0), .val (.int p1), .val (.ref b1), .val (.int (1 : Int32)), .val (.int (1 : Int32)), .val (.int (33841 : Int32)), .val (.int (1 : Int32))] [(.int (1 : Int32)), (.int (1 : Int32))]))
        refine own_via (fun _ k => XS.icmpNo X39.here hx rfl (hb hby at_75) rfl (teq (by decide : (1 : Int32) = (1 : Int32))).2 k) ?_
        show own_Go p e below s _ _ _ (T39.setTop (mkF m 78 #[.val (.int p0), .val (.int p1), .val (.ref b1), .val (.int (1 : Int32)), .val (.int (1 : Int32)), .val (.int (33841 : Int32)), .val (.int (1 : Int32))] []))
        refine own_via (fun _ k => XS.iconst X39.here hx rfl (hb hby at_78) k) ?_
        show own_Go p e below s _ _ _ (T39.setTop (mkF m 79 #[.val (.int p0), .val (.int p1), .val (.ref b1), .val (.int (1 : Int32)), .val (.int (1 : Int32)), .val (.int (33841 : Int32)), .val (.int (1 : Int32))] [(.int (1 : Int32))]))
        refine own_via (fun _ k => XS.goto X39.here hx rfl (pc0 := 79) (pc' := 83) rfl (hb hby at_79) (by decide) (by decide) k) ?_
        show own_Go p e below s _ _ _ (T39.setTop (mkF m 83 #[.val (.int p0), .val (.int p1), .val (.ref b1), .val (.int (1 : Int32)), .val (.int (1 : Int32)), .val (.int (33841 : Int32)), .val (.int (1 : Int32))] [(.int (1 : Int32))]))
        exact own_retZ X39 hx hlk (t := .boolean) Bd.returns (by simp) (hb hby at_83) (z' := (1 : Int32)) (by first | rfl | decide) ⟨rfl, (Fr.app N9 (Fr.nil n0))⟩ (by decide) (by decide)
      · exact absurd rfl hr39_1_0
      · exact absurd rfl hr39_2_0
      · exact absurd rfl hr39_3_0
    · rw [hk32]
      show own_Go p e below s _ _ _ (T9.setTop (mkF m 36 #[.val (.int p0), .val (.int p1), .val (.ref b1), .val (.int (1 : Int32)), .unset, .unset, .unset] [(.int (2 : Int32))]))
      refine own_via (fun _ k => XS.istore X9.here hx rfl (hb hby at_36) rfl (l' := #[.val (.int p0), .val (.int p1), .val (.ref b1), .val (.int (1 : Int32)), .val (.int (2 : Int32)), .unset, .unset]) rfl k) ?_
      show own_Go p e below s _ _ _ (T9.setTop (mkF m 38 #[.val (.int p0), .val (.int p1), .val (.ref b1), .val (.int (1 : Int32)), .val (.int (2 : Int32)), .unset, .unset] []))
      refine own_via (fun _ k => X9.ldcInt hx hown (mvT hZ (hw _ (List.mem_of_getElem? (i := 12) rfl))) (g := (mkF m 38 #[.val (.int p0), .val (.int p1), .val (.ref b1), .val (.int (1 : Int32)), .val (.int (2 : Int32)), .unset, .unset] [])) rfl (hb hby at_38) _ k) ?_
      show own_Go p e below s _ _ _ (T9.setTop (mkF m 40 #[.val (.int p0), .val (.int p1), .val (.ref b1), .val (.int (1 : Int32)), .val (.int (2 : Int32)), .unset, .unset] [(.int (33841 : Int32))]))
      refine own_via (fun _ k => XS.istore X9.here hx rfl (hb hby at_40) rfl (l' := #[.val (.int p0), .val (.int p1), .val (.ref b1), .val (.int (1 : Int32)), .val (.int (2 : Int32)), .val (.int (33841 : Int32)), .unset]) rfl k) ?_
      show own_Go p e below s _ _ _ (T9.setTop (mkF m 42 #[.val (.int p0), .val (.int p1), .val (.ref b1), .val (.int (1 : Int32)), .val (.int (2 : Int32)), .val (.int (33841 : Int32)), .unset] []))
      refine own_via (fun _ k => XS.iload X9.here hx rfl (hb hby at_42) rfl k) ?_
      show own_Go p e below s _ _ _ (T9.setTop (mkF m 44 #[.val (.int p0), .val (.int p1), .val (.ref b1), .val (.int (1 : Int32)), .val (.int (2 : Int32)), .val (.int (33841 : Int32)), .unset] [(.int (33841 : Int32))]))
      refine own_via (fun _ k => XS.iloadN X9.here hx rfl (hb hby at_44) rfl k) ?_
      show own_Go p e below s _ _ _ (T9.setTop (mkF m 45 #[.val (.int p0), .val (.int p1), .val (.ref b1), .val (.int (1 : Int32)), .val (.int (2 : Int32)), .val (.int (33841 : Int32)), .unset] [(.int (1 : Int32)), (.int (33841 : Int32))]))
      refine own_via (fun _ k => XS.iconst X9.here hx rfl (hb hby at_45) k) ?_
      show own_Go p e below s _ _ _ (T9.setTop (mkF m 46 #[.val (.int p0), .val (.int p1), .val (.ref b1), .val (.int (1 : Int32)), .val (.int (2 : Int32)), .val (.int (33841 : Int32)), .unset] [(.int (4 : Int32)), (.int (1 : Int32)), (.int (33841 : Int32))]))
      refine own_via (fun _ k => XS.imul X9.here hx rfl (hb hby at_46) rfl k) ?_
      show own_Go p e below s _ _ _ (T9.setTop (mkF m 47 #[.val (.int p0), .val (.int p1), .val (.ref b1), .val (.int (1 : Int32)), .val (.int (2 : Int32)), .val (.int (33841 : Int32)), .unset] [(.int ((1 : Int32) * (4 : Int32))), (.int (33841 : Int32))]))
      refine own_via (fun _ k => XS.iload X9.here hx rfl (hb hby at_47) rfl k) ?_
      show own_Go p e below s _ _ _ (T9.setTop (mkF m 49 #[.val (.int p0), .val (.int p1), .val (.ref b1), .val (.int (1 : Int32)), .val (.int (2 : Int32)), .val (.int (33841 : Int32)), .unset] [(.int (2 : Int32)), (.int ((1 : Int32) * (4 : Int32))), (.int (33841 : Int32))]))
      refine own_via (fun _ k => XS.iadd X9.here hx rfl (hb hby at_49) rfl k) ?_
      show own_Go p e below s _ _ _ (T9.setTop (mkF m 50 #[.val (.int p0), .val (.int p1), .val (.ref b1), .val (.int (1 : Int32)), .val (.int (2 : Int32)), .val (.int (33841 : Int32)), .unset] [(.int (((1 : Int32) * (4 : Int32)) + (2 : Int32))), (.int (33841 : Int32))]))
      refine own_via (fun _ k => XS.ishr X9.here hx rfl (hb hby at_50) rfl k) ?_
      show own_Go p e below s _ _ _ (T9.setTop (mkF m 51 #[.val (.int p0), .val (.int p1), .val (.ref b1), .val (.int (1 : Int32)), .val (.int (2 : Int32)), .val (.int (33841 : Int32)), .unset] [(.int ((33841 : Int32) >>> ((((1 : Int32) * (4 : Int32)) + (2 : Int32)) &&& 31)))]))
      refine own_via (fun _ k => XS.iconst X9.here hx rfl (hb hby at_51) k) ?_
      show own_Go p e below s _ _ _ (T9.setTop (mkF m 52 #[.val (.int p0), .val (.int p1), .val (.ref b1), .val (.int (1 : Int32)), .val (.int (2 : Int32)), .val (.int (33841 : Int32)), .unset] [(.int (1 : Int32)), (.int ((33841 : Int32) >>> ((((1 : Int32) * (4 : Int32)) + (2 : Int32)) &&& 31)))]))
      refine own_via (fun _ k => XS.iand X9.here hx rfl (hb hby at_52) rfl k) ?_
      show own_Go p e below s _ _ _ (T9.setTop (mkF m 53 #[.val (.int p0), .val (.int p1), .val (.ref b1), .val (.int (1 : Int32)), .val (.int (2 : Int32)), .val (.int (33841 : Int32)), .unset] [(.int (((33841 : Int32) >>> ((((1 : Int32) * (4 : Int32)) + (2 : Int32)) &&& 31)) &&& (1 : Int32)))]))
      refine own_via (fun _ k => XS.ifYes X9.here hx rfl (pc0 := 53) (pc' := 60) rfl (hb hby at_53) rfl ((if0 _ _).trans (teq (by decide : (((33841 : Int32) >>> ((((1 : Int32) * (4 : Int32)) + (2 : Int32)) &&& 31)) &&& (1 : Int32)) = (0 : Int32))).1) (by decide) (by decide) k) ?_
      show own_Go p e below s _ _ _ (T9.setTop (mkF m 60 #[.val (.int p0), .val (.int p1), .val (.ref b1), .val (.int (1 : Int32)), .val (.int (2 : Int32)), .val (.int (33841 : Int32)), .unset] []))
      refine own_via (fun _ k => XS.iconst X9.here hx rfl (hb hby at_60) k) ?_
      show own_Go p e below s _ _ _ (T9.setTop (mkF m 61 #[.val (.int p0), .val (.int p1), .val (.ref b1), .val (.int (1 : Int32)), .val (.int (2 : Int32)), .val (.int (33841 : Int32)), .unset] [(.int (0 : Int32))]))
      refine own_via (fun _ k => XS.istore X9.here hx rfl (hb hby at_61) rfl (l' := #[.val (.int p0), .val (.int p1), .val (.ref b1), .val (.int (1 : Int32)), .val (.int (2 : Int32)), .val (.int (33841 : Int32)), .val (.int (0 : Int32))]) rfl k) ?_
      show own_Go p e below s _ _ _ (T9.setTop (mkF m 63 #[.val (.int p0), .val (.int p1), .val (.ref b1), .val (.int (1 : Int32)), .val (.int (2 : Int32)), .val (.int (33841 : Int32)), .val (.int (0 : Int32))] []))
      refine own_via (fun _ k => XS.aloadN X9.here hx rfl (hb hby at_63) rfl rfl k) ?_
      show own_Go p e below s _ _ _ (T9.setTop (mkF m 64 #[.val (.int p0), .val (.int p1), .val (.ref b1), .val (.int (1 : Int32)), .val (.int (2 : Int32)), .val (.int (33841 : Int32)), .val (.int (0 : Int32))] [(.ref b1)]))
      refine own_via (fun _ k => XS.iloadN X9.here hx rfl (hb hby at_64) rfl k) ?_
      show own_Go p e below s _ _ _ (T9.setTop (mkF m 65 #[.val (.int p0), .val (.int p1), .val (.ref b1), .val (.int (1 : Int32)), .val (.int (2 : Int32)), .val (.int (33841 : Int32)), .val (.int (0 : Int32))] [(.int (1 : Int32)), (.ref b1)]))
      have Vx40 := V_b1
      obtain ⟨cl40, Ar40, q40, S40, N40, H40, G40⟩ := Vx40
      have hin40 : ¬ ((1 : Int32) < 0 ∨ cl40.slots.size ≤ ((1 : Int32)).toNatClampNeg) := inb_of S40 ⟨by decide, by decide⟩
      have hat40 : cl40.slots[((1 : Int32)).toNatClampNeg]? = some (.ref w1) := H40.at hin40 rfl
      refine own_via (fun _ k => X9.aaload hx (j := (1 : Int32)) (v := (.ref w1)) (by rw [e9]; exact Ar40.1) (State.isArrayOf_alike hZ.alike Ar40.2.1) rfl Ar40.2.2 hin40 hat40 (g := (mkF m 65 #[.val (.int p0), .val (.int p1), .val (.ref b1), .val (.int (1 : Int32)), .val (.int (2 : Int32)), .val (.int (33841 : Int32)), .val (.int (0 : Int32))] [(.int (1 : Int32)), (.ref b1)])) rfl rfl (hb hby at_65) _ k) ?_
      show own_Go p e below s _ _ _ (T9.setTop (mkF m 66 #[.val (.int p0), .val (.int p1), .val (.ref b1), .val (.int (1 : Int32)), .val (.int (2 : Int32)), .val (.int (33841 : Int32)), .val (.int (0 : Int32))] [(.ref w1)]))
      refine own_via (fun _ k => XS.aloadN X9.here hx rfl (hb hby at_66) rfl rfl k) ?_
      show own_Go p e below s _ _ _ (T9.setTop (mkF m 67 #[.val (.int p0), .val (.int p1), .val (.ref b1), .val (.int (1 : Int32)), .val (.int (2 : Int32)), .val (.int (33841 : Int32)), .val (.int (0 : Int32))] [(.ref b1), (.ref w1)]))
      refine own_via (fun _ k => XS.iload X9.here hx rfl (hb hby at_67) rfl k) ?_
      show own_Go p e below s _ _ _ (T9.setTop (mkF m 69 #[.val (.int p0), .val (.int p1), .val (.ref b1), .val (.int (1 : Int32)), .val (.int (2 : Int32)), .val (.int (33841 : Int32)), .val (.int (0 : Int32))] [(.int (2 : Int32)), (.ref b1), (.ref w1)]))
      have Vx41 := V_b1
      obtain ⟨cl41, Ar41, q41, S41, N41, H41, G41⟩ := Vx41
      have hin41 : ¬ ((2 : Int32) < 0 ∨ cl41.slots.size ≤ ((2 : Int32)).toNatClampNeg) := inb_of S41 ⟨by decide, by decide⟩
      have hat41 : cl41.slots[((2 : Int32)).toNatClampNeg]? = some (.ref w2) := H41.at hin41 rfl
      refine own_via (fun _ k => X9.aaload hx (j := (2 : Int32)) (v := (.ref w2)) (by rw [e9]; exact Ar41.1) (State.isArrayOf_alike hZ.alike Ar41.2.1) rfl Ar41.2.2 hin41 hat41 (g := (mkF m 69 #[.val (.int p0), .val (.int p1), .val (.ref b1), .val (.int (1 : Int32)), .val (.int (2 : Int32)), .val (.int (33841 : Int32)), .val (.int (0 : Int32))] [(.int (2 : Int32)), (.ref b1), (.ref w1)])) rfl rfl (hb hby at_69) _ k) ?_
      show own_Go p e below s _ _ _ (T9.setTop (mkF m 70 #[.val (.int p0), .val (.int p1), .val (.ref b1), .val (.int (1 : Int32)), .val (.int (2 : Int32)), .val (.int (33841 : Int32)), .val (.int (0 : Int32))] [(.ref w2), (.ref w1)]))
      obtain ⟨cq42, kq42, q42a, q42b, q42c⟩ := isOf hZ e9 (E_w1.ext OL.2)
      obtain ⟨_, _, ⟨T42, L42, k42, n42⟩, -, X42, ⟨Lc42, hQ42, l42, y42, z42⟩, st42⟩ := X9.virtualBack hx (y := (⟨"com/example/mailbox/mailbox/core/Right", "allows", "(Lcom/example/mailbox/mailbox/core/Right;)Z"⟩ : MethodName)) (z := (⟨"com/example/mailbox/mailbox/core/Right", "allows", "(Lcom/example/mailbox/mailbox/core/Right;)Z"⟩ : MethodName)) hown (mvT hZ (hw _ (List.mem_of_getElem? (i := 13) rfl))) (mvT hZ (hw _ (List.mem_of_getElem? (i := 14) rfl))) (notFace_of_selects (args := #[]) (mvT hZ (hw _ (List.mem_of_getElem? (i := 16) rfl)))) (mvT hZ (hw _ (List.mem_of_getElem? (i := 16) rfl))) (mvT hZ (hw _ (List.mem_of_getElem? (i := 15) rfl))) (by decide) (backOf (W := 0) (rm1_0 l Z a0 hw [] w1 w2 w0 w1 w2 w3 h9 n0 Z0 K0 OL) hZ (hw _ (List.mem_of_getElem? (i := 17) rfl)) (hw _ (List.mem_of_getElem? (i := 3) rfl)) (by decide) (by decide)) q42a q42c (g := (mkF m 70 #[.val (.int p0), .val (.int p1), .val (.ref b1), .val (.int (1 : Int32)), .val (.int (2 : Int32)), .val (.int (33841 : Int32)), .val (.int (0 : Int32))] [(.ref w2), (.ref w1)])) rfl (by rw [hml]; rfl) (Steps.refl _) (argsL := [(.ref w2)]) (rest := []) (lenOf pd0 rfl) rfl (by show 2 * 0 + _ ≤ _; exact Nat.le_of_eq rfl) (hb hby at_70) (fun _ _ => ⟨rfl, e9, (by decide : 0 + 1 + 0 ≤ _), (by decide : 0 + 4 + 0 ≤ _)⟩)
      dsimp only [Pt.U, Pt.locs, Pt.cells, Pt.slots] at X42 l42 y42 z42 st42 hQ42
      subst l42 y42 z42
      obtain ⟨rfl, e42, hO42⟩ := hQ42
      rcases hO42 with ⟨hr42_0_0, rfl⟩ | ⟨hr42_1_0, hr42_1_1, hr42_1_2, rfl⟩ | ⟨hr42_2_0, hr42_2_1, hr42_2_2, rfl⟩ | ⟨hr42_3_0, hr42_3_1, rfl⟩
      · exact absurd hr42_0_0 (fun q => n_w1_w2 q.symm)
      · exact absurd hr42_1_2 (fun q => n_w0_w2 q.symm)
      · refine own_tr st42 ?_
        show own_Go p e below s _ _ _ (T42.setTop (mkF m 73 #[.val (.int p0), .val (.int p1), .val (.ref b1), .val (.int (1 : Int32)), .val (.int (2 : Int32)), .val (.int (33841 : Int32)), .val (.int (0 : Int32))] [(.int (0 : Int32))]))
        refine own_via (fun _ k => XS.iload X42.here hx rfl (hb hby at_73) rfl k) ?_
        show own_Go p e below s _ _ _ (T42.setTop (mkF m 75 #[.val (.int p0), .val (.int p1), .val (.ref b1), .val (.int (1 : Int32)), .val (.int (2 : Int32)), .val (.int (33841 : Int32)), .val (.int (0 : Int32))] [(.int (0 : Int32)), (.int (0 : Int32))]))
        refine own_via (fun _ k => XS.icmpNo X42.here hx rfl (hb hby at_75) rfl (teq (by decide : (0 : Int32) = (0 : Int32))).2 k) ?_
        show own_Go p e below s _ _ _ (T42.setTop (mkF m 78 #[.val (.int p0), .val (.int p1), .val (.ref b1), .val (.int (1 : Int32)), .val (.int (2 : Int32)), .val (.int (33841 : Int32)), .val (.int (0 : Int32))] []))
        refine own_via (fun _ k => XS.iconst X42.here hx rfl (hb hby at_78) k) ?_
        show own_Go p e below s _ _ _ (T42.setTop (mkF m 79 #[.val (.int p0), .val (.int p1), .val (.ref b1), .val (.int (1 : Int32)), .val (.int (2 : Int32)), .val (.int (33841 : Int32)), .val (.int (0 : Int32))] [(.int (1 : Int32))]))
        refine own_via (fun _ k => XS.goto X42.here hx rfl (pc0 := 79) (pc' := 83) rfl (hb hby at_79) (by decide) (by decide) k) ?_
        show own_Go p e below s _ _ _ (T42.setTop (mkF m 83 #[.val (.int p0), .val (.int p1), .val (.ref b1), .val (.int (1 : Int32)), .val (.int (2 : Int32)), .val (.int (33841 : Int32)), .val (.int (0 : Int32))] [(.int (1 : Int32))]))
        exact own_retZ X42 hx hlk (t := .boolean) Bd.returns (by simp) (hb hby at_83) (z' := (1 : Int32)) (by first | rfl | decide) ⟨rfl, (Fr.app N9 (Fr.nil n0))⟩ (by decide) (by decide)
      · exact absurd rfl hr42_3_1
    · rw [hk33]
      show own_Go p e below s _ _ _ (T9.setTop (mkF m 36 #[.val (.int p0), .val (.int p1), .val (.ref b1), .val (.int (1 : Int32)), .unset, .unset, .unset] [(.int (3 : Int32))]))
      refine own_via (fun _ k => XS.istore X9.here hx rfl (hb hby at_36) rfl (l' := #[.val (.int p0), .val (.int p1), .val (.ref b1), .val (.int (1 : Int32)), .val (.int (3 : Int32)), .unset, .unset]) rfl k) ?_
      show own_Go p e below s _ _ _ (T9.setTop (mkF m 38 #[.val (.int p0), .val (.int p1), .val (.ref b1), .val (.int (1 : Int32)), .val (.int (3 : Int32)), .unset, .unset] []))
      refine own_via (fun _ k => X9.ldcInt hx hown (mvT hZ (hw _ (List.mem_of_getElem? (i := 12) rfl))) (g := (mkF m 38 #[.val (.int p0), .val (.int p1), .val (.ref b1), .val (.int (1 : Int32)), .val (.int (3 : Int32)), .unset, .unset] [])) rfl (hb hby at_38) _ k) ?_
      show own_Go p e below s _ _ _ (T9.setTop (mkF m 40 #[.val (.int p0), .val (.int p1), .val (.ref b1), .val (.int (1 : Int32)), .val (.int (3 : Int32)), .unset, .unset] [(.int (33841 : Int32))]))
      refine own_via (fun _ k => XS.istore X9.here hx rfl (hb hby at_40) rfl (l' := #[.val (.int p0), .val (.int p1), .val (.ref b1), .val (.int (1 : Int32)), .val (.int (3 : Int32)), .val (.int (33841 : Int32)), .unset]) rfl k) ?_
      show own_Go p e below s _ _ _ (T9.setTop (mkF m 42 #[.val (.int p0), .val (.int p1), .val (.ref b1), .val (.int (1 : Int32)), .val (.int (3 : Int32)), .val (.int (33841 : Int32)), .unset] []))
      refine own_via (fun _ k => XS.iload X9.here hx rfl (hb hby at_42) rfl k) ?_
      show own_Go p e below s _ _ _ (T9.setTop (mkF m 44 #[.val (.int p0), .val (.int p1), .val (.ref b1), .val (.int (1 : Int32)), .val (.int (3 : Int32)), .val (.int (33841 : Int32)), .unset] [(.int (33841 : Int32))]))
      refine own_via (fun _ k => XS.iloadN X9.here hx rfl (hb hby at_44) rfl k) ?_
      show own_Go p e below s _ _ _ (T9.setTop (mkF m 45 #[.val (.int p0), .val (.int p1), .val (.ref b1), .val (.int (1 : Int32)), .val (.int (3 : Int32)), .val (.int (33841 : Int32)), .unset] [(.int (1 : Int32)), (.int (33841 : Int32))]))
      refine own_via (fun _ k => XS.iconst X9.here hx rfl (hb hby at_45) k) ?_
      show own_Go p e below s _ _ _ (T9.setTop (mkF m 46 #[.val (.int p0), .val (.int p1), .val (.ref b1), .val (.int (1 : Int32)), .val (.int (3 : Int32)), .val (.int (33841 : Int32)), .unset] [(.int (4 : Int32)), (.int (1 : Int32)), (.int (33841 : Int32))]))
      refine own_via (fun _ k => XS.imul X9.here hx rfl (hb hby at_46) rfl k) ?_
      show own_Go p e below s _ _ _ (T9.setTop (mkF m 47 #[.val (.int p0), .val (.int p1), .val (.ref b1), .val (.int (1 : Int32)), .val (.int (3 : Int32)), .val (.int (33841 : Int32)), .unset] [(.int ((1 : Int32) * (4 : Int32))), (.int (33841 : Int32))]))
      refine own_via (fun _ k => XS.iload X9.here hx rfl (hb hby at_47) rfl k) ?_
      show own_Go p e below s _ _ _ (T9.setTop (mkF m 49 #[.val (.int p0), .val (.int p1), .val (.ref b1), .val (.int (1 : Int32)), .val (.int (3 : Int32)), .val (.int (33841 : Int32)), .unset] [(.int (3 : Int32)), (.int ((1 : Int32) * (4 : Int32))), (.int (33841 : Int32))]))
      refine own_via (fun _ k => XS.iadd X9.here hx rfl (hb hby at_49) rfl k) ?_
      show own_Go p e below s _ _ _ (T9.setTop (mkF m 50 #[.val (.int p0), .val (.int p1), .val (.ref b1), .val (.int (1 : Int32)), .val (.int (3 : Int32)), .val (.int (33841 : Int32)), .unset] [(.int (((1 : Int32) * (4 : Int32)) + (3 : Int32))), (.int (33841 : Int32))]))
      refine own_via (fun _ k => XS.ishr X9.here hx rfl (hb hby at_50) rfl k) ?_
      show own_Go p e below s _ _ _ (T9.setTop (mkF m 51 #[.val (.int p0), .val (.int p1), .val (.ref b1), .val (.int (1 : Int32)), .val (.int (3 : Int32)), .val (.int (33841 : Int32)), .unset] [(.int ((33841 : Int32) >>> ((((1 : Int32) * (4 : Int32)) + (3 : Int32)) &&& 31)))]))
      refine own_via (fun _ k => XS.iconst X9.here hx rfl (hb hby at_51) k) ?_
      show own_Go p e below s _ _ _ (T9.setTop (mkF m 52 #[.val (.int p0), .val (.int p1), .val (.ref b1), .val (.int (1 : Int32)), .val (.int (3 : Int32)), .val (.int (33841 : Int32)), .unset] [(.int (1 : Int32)), (.int ((33841 : Int32) >>> ((((1 : Int32) * (4 : Int32)) + (3 : Int32)) &&& 31)))]))
      refine own_via (fun _ k => XS.iand X9.here hx rfl (hb hby at_52) rfl k) ?_
      show own_Go p e below s _ _ _ (T9.setTop (mkF m 53 #[.val (.int p0), .val (.int p1), .val (.ref b1), .val (.int (1 : Int32)), .val (.int (3 : Int32)), .val (.int (33841 : Int32)), .unset] [(.int (((33841 : Int32) >>> ((((1 : Int32) * (4 : Int32)) + (3 : Int32)) &&& 31)) &&& (1 : Int32)))]))
      refine own_via (fun _ k => XS.ifYes X9.here hx rfl (pc0 := 53) (pc' := 60) rfl (hb hby at_53) rfl ((if0 _ _).trans (teq (by decide : (((33841 : Int32) >>> ((((1 : Int32) * (4 : Int32)) + (3 : Int32)) &&& 31)) &&& (1 : Int32)) = (0 : Int32))).1) (by decide) (by decide) k) ?_
      show own_Go p e below s _ _ _ (T9.setTop (mkF m 60 #[.val (.int p0), .val (.int p1), .val (.ref b1), .val (.int (1 : Int32)), .val (.int (3 : Int32)), .val (.int (33841 : Int32)), .unset] []))
      refine own_via (fun _ k => XS.iconst X9.here hx rfl (hb hby at_60) k) ?_
      show own_Go p e below s _ _ _ (T9.setTop (mkF m 61 #[.val (.int p0), .val (.int p1), .val (.ref b1), .val (.int (1 : Int32)), .val (.int (3 : Int32)), .val (.int (33841 : Int32)), .unset] [(.int (0 : Int32))]))
      refine own_via (fun _ k => XS.istore X9.here hx rfl (hb hby at_61) rfl (l' := #[.val (.int p0), .val (.int p1), .val (.ref b1), .val (.int (1 : Int32)), .val (.int (3 : Int32)), .val (.int (33841 : Int32)), .val (.int (0 : Int32))]) rfl k) ?_
      show own_Go p e below s _ _ _ (T9.setTop (mkF m 63 #[.val (.int p0), .val (.int p1), .val (.ref b1), .val (.int (1 : Int32)), .val (.int (3 : Int32)), .val (.int (33841 : Int32)), .val (.int (0 : Int32))] []))
      refine own_via (fun _ k => XS.aloadN X9.here hx rfl (hb hby at_63) rfl rfl k) ?_
      show own_Go p e below s _ _ _ (T9.setTop (mkF m 64 #[.val (.int p0), .val (.int p1), .val (.ref b1), .val (.int (1 : Int32)), .val (.int (3 : Int32)), .val (.int (33841 : Int32)), .val (.int (0 : Int32))] [(.ref b1)]))
      refine own_via (fun _ k => XS.iloadN X9.here hx rfl (hb hby at_64) rfl k) ?_
      show own_Go p e below s _ _ _ (T9.setTop (mkF m 65 #[.val (.int p0), .val (.int p1), .val (.ref b1), .val (.int (1 : Int32)), .val (.int (3 : Int32)), .val (.int (33841 : Int32)), .val (.int (0 : Int32))] [(.int (1 : Int32)), (.ref b1)]))
      have Vx43 := V_b1
      obtain ⟨cl43, Ar43, q43, S43, N43, H43, G43⟩ := Vx43
      have hin43 : ¬ ((1 : Int32) < 0 ∨ cl43.slots.size ≤ ((1 : Int32)).toNatClampNeg) := inb_of S43 ⟨by decide, by decide⟩
      have hat43 : cl43.slots[((1 : Int32)).toNatClampNeg]? = some (.ref w1) := H43.at hin43 rfl
      refine own_via (fun _ k => X9.aaload hx (j := (1 : Int32)) (v := (.ref w1)) (by rw [e9]; exact Ar43.1) (State.isArrayOf_alike hZ.alike Ar43.2.1) rfl Ar43.2.2 hin43 hat43 (g := (mkF m 65 #[.val (.int p0), .val (.int p1), .val (.ref b1), .val (.int (1 : Int32)), .val (.int (3 : Int32)), .val (.int (33841 : Int32)), .val (.int (0 : Int32))] [(.int (1 : Int32)), (.ref b1)])) rfl rfl (hb hby at_65) _ k) ?_
      show own_Go p e below s _ _ _ (T9.setTop (mkF m 66 #[.val (.int p0), .val (.int p1), .val (.ref b1), .val (.int (1 : Int32)), .val (.int (3 : Int32)), .val (.int (33841 : Int32)), .val (.int (0 : Int32))] [(.ref w1)]))
      refine own_via (fun _ k => XS.aloadN X9.here hx rfl (hb hby at_66) rfl rfl k) ?_
      show own_Go p e below s _ _ _ (T9.setTop (mkF m 67 #[.val (.int p0), .val (.int p1), .val (.ref b1), .val (.int (1 : Int32)), .val (.int (3 : Int32)), .val (.int (33841 : Int32)), .val (.int (0 : Int32))] [(.ref b1), (.ref w1)]))
      refine own_via (fun _ k => XS.iload X9.here hx rfl (hb hby at_67) rfl k) ?_
      show own_Go p e below s _ _ _ (T9.setTop (mkF m 69 #[.val (.int p0), .val (.int p1), .val (.ref b1), .val (.int (1 : Int32)), .val (.int (3 : Int32)), .val (.int (33841 : Int32)), .val (.int (0 : Int32))] [(.int (3 : Int32)), (.ref b1), (.ref w1)]))
      have Vx44 := V_b1
      obtain ⟨cl44, Ar44, q44, S44, N44, H44, G44⟩ := Vx44
      have hin44 : ¬ ((3 : Int32) < 0 ∨ cl44.slots.size ≤ ((3 : Int32)).toNatClampNeg) := inb_of S44 ⟨by decide, by decide⟩
      have hat44 : cl44.slots[((3 : Int32)).toNatClampNeg]? = some (.ref w3) := H44.at hin44 rfl
      refine own_via (fun _ k => X9.aaload hx (j := (3 : Int32)) (v := (.ref w3)) (by rw [e9]; exact Ar44.1) (State.isArrayOf_alike hZ.alike Ar44.2.1) rfl Ar44.2.2 hin44 hat44 (g := (mkF m 69 #[.val (.int p0), .val (.int p1), .val (.ref b1), .val (.int (1 : Int32)), .val (.int (3 : Int32)), .val (.int (33841 : Int32)), .val (.int (0 : Int32))] [(.int (3 : Int32)), (.ref b1), (.ref w1)])) rfl rfl (hb hby at_69) _ k) ?_
      show own_Go p e below s _ _ _ (T9.setTop (mkF m 70 #[.val (.int p0), .val (.int p1), .val (.ref b1), .val (.int (1 : Int32)), .val (.int (3 : Int32)), .val (.int (33841 : Int32)), .val (.int (0 : Int32))] [(.ref w3), (.ref w1)]))
      obtain ⟨cq45, kq45, q45a, q45b, q45c⟩ := isOf hZ e9 (E_w1.ext OL.2)
      obtain ⟨_, _, ⟨T45, L45, k45, n45⟩, -, X45, ⟨Lc45, hQ45, l45, y45, z45⟩, st45⟩ := X9.virtualBack hx (y := (⟨"com/example/mailbox/mailbox/core/Right", "allows", "(Lcom/example/mailbox/mailbox/core/Right;)Z"⟩ : MethodName)) (z := (⟨"com/example/mailbox/mailbox/core/Right", "allows", "(Lcom/example/mailbox/mailbox/core/Right;)Z"⟩ : MethodName)) hown (mvT hZ (hw _ (List.mem_of_getElem? (i := 13) rfl))) (mvT hZ (hw _ (List.mem_of_getElem? (i := 14) rfl))) (notFace_of_selects (args := #[]) (mvT hZ (hw _ (List.mem_of_getElem? (i := 16) rfl)))) (mvT hZ (hw _ (List.mem_of_getElem? (i := 16) rfl))) (mvT hZ (hw _ (List.mem_of_getElem? (i := 15) rfl))) (by decide) (backOf (W := 0) (rm1_0 l Z a0 hw [] w1 w3 w0 w1 w2 w3 h9 n0 Z0 K0 OL) hZ (hw _ (List.mem_of_getElem? (i := 17) rfl)) (hw _ (List.mem_of_getElem? (i := 3) rfl)) (by decide) (by decide)) q45a q45c (g := (mkF m 70 #[.val (.int p0), .val (.int p1), .val (.ref b1), .val (.int (1 : Int32)), .val (.int (3 : Int32)), .val (.int (33841 : Int32)), .val (.int (0 : Int32))] [(.ref w3), (.ref w1)])) rfl (by rw [hml]; rfl) (Steps.refl _) (argsL := [(.ref w3)]) (rest := []) (lenOf pd0 rfl) rfl (by show 2 * 0 + _ ≤ _; exact Nat.le_of_eq rfl) (hb hby at_70) (fun _ _ => ⟨rfl, e9, (by decide : 0 + 1 + 0 ≤ _), (by decide : 0 + 4 + 0 ≤ _)⟩)
      dsimp only [Pt.U, Pt.locs, Pt.cells, Pt.slots] at X45 l45 y45 z45 st45 hQ45
      subst l45 y45 z45
      obtain ⟨rfl, e45, hO45⟩ := hQ45
      rcases hO45 with ⟨hr45_0_0, rfl⟩ | ⟨hr45_1_0, hr45_1_1, hr45_1_2, rfl⟩ | ⟨hr45_2_0, hr45_2_1, hr45_2_2, rfl⟩ | ⟨hr45_3_0, hr45_3_1, rfl⟩
      · exact absurd hr45_0_0 (fun q => n_w1_w3 q.symm)
      · exact absurd hr45_1_2 (fun q => n_w0_w3 q.symm)
      · refine own_tr st45 ?_
        show own_Go p e below s _ _ _ (T45.setTop (mkF m 73 #[.val (.int p0), .val (.int p1), .val (.ref b1), .val (.int (1 : Int32)), .val (.int (3 : Int32)), .val (.int (33841 : Int32)), .val (.int (0 : Int32))] [(.int (0 : Int32))]))
        refine own_via (fun _ k => XS.iload X45.here hx rfl (hb hby at_73) rfl k) ?_
        show own_Go p e below s _ _ _ (T45.setTop (mkF m 75 #[.val (.int p0), .val (.int p1), .val (.ref b1), .val (.int (1 : Int32)), .val (.int (3 : Int32)), .val (.int (33841 : Int32)), .val (.int (0 : Int32))] [(.int (0 : Int32)), (.int (0 : Int32))]))
        refine own_via (fun _ k => XS.icmpNo X45.here hx rfl (hb hby at_75) rfl (teq (by decide : (0 : Int32) = (0 : Int32))).2 k) ?_
        show own_Go p e below s _ _ _ (T45.setTop (mkF m 78 #[.val (.int p0), .val (.int p1), .val (.ref b1), .val (.int (1 : Int32)), .val (.int (3 : Int32)), .val (.int (33841 : Int32)), .val (.int (0 : Int32))] []))
        refine own_via (fun _ k => XS.iconst X45.here hx rfl (hb hby at_78) k) ?_
        show own_Go p e below s _ _ _ (T45.setTop (mkF m 79 #[.val (.int p0), .val (.int p1), .val (.ref b1), .val (.int (1 : Int32)), .val (.int (3 : Int32)), .val (.int (33841 : Int32)), .val (.int (0 : Int32))] [(.int (1 : Int32))]))
        refine own_via (fun _ k => XS.goto X45.here hx rfl (pc0 := 79) (pc' := 83) rfl (hb hby at_79) (by decide) (by decide) k) ?_
        show own_Go p e below s _ _ _ (T45.setTop (mkF m 83 #[.val (.int p0), .val (.int p1), .val (.ref b1), .val (.int (1 : Int32)), .val (.int (3 : Int32)), .val (.int (33841 : Int32)), .val (.int (0 : Int32))] [(.int (1 : Int32))]))
        exact own_retZ X45 hx hlk (t := .boolean) Bd.returns (by simp) (hb hby at_83) (z' := (1 : Int32)) (by first | rfl | decide) ⟨rfl, (Fr.app N9 (Fr.nil n0))⟩ (by decide) (by decide)
      · exact absurd rfl hr45_3_1
  · rw [hk12]
    show own_Go p e below s _ _ _ (T9.setTop (mkF m 32 #[.val (.int p0), .val (.int p1), .val (.ref b1), .unset, .unset, .unset, .unset] [(.int (2 : Int32))]))
    refine own_via (fun _ k => XS.istoreN X9.here hx rfl (hb hby at_32) rfl (l' := #[.val (.int p0), .val (.int p1), .val (.ref b1), .val (.int (2 : Int32)), .unset, .unset, .unset]) rfl k) ?_
    show own_Go p e below s _ _ _ (T9.setTop (mkF m 33 #[.val (.int p0), .val (.int p1), .val (.ref b1), .val (.int (2 : Int32)), .unset, .unset, .unset] []))
    refine own_via (fun _ k => XS.iloadN X9.here hx rfl (hb hby at_33) rfl k) ?_
    show own_Go p e below s _ _ _ (T9.setTop (mkF m 34 #[.val (.int p0), .val (.int p1), .val (.ref b1), .val (.int (2 : Int32)), .unset, .unset, .unset] [(.int p1)]))
    refine own_via (fun _ k => XS.iconst X9.here hx rfl (hb hby at_34) k) ?_
    show own_Go p e below s _ _ _ (T9.setTop (mkF m 35 #[.val (.int p0), .val (.int p1), .val (.ref b1), .val (.int (2 : Int32)), .unset, .unset, .unset] [(.int (3 : Int32)), (.int p1)]))
    refine own_via (fun _ k => XS.iand X9.here hx rfl (hb hby at_35) rfl k) ?_
    rcases (own_and3 _ : (p1 &&& (3 : Int32)) = (0 : Int32) ∨ (p1 &&& (3 : Int32)) = (1 : Int32) ∨ (p1 &&& (3 : Int32)) = (2 : Int32) ∨ (p1 &&& (3 : Int32)) = (3 : Int32)) with hk46 | hk47 | hk48 | hk49
    · rw [hk46]
      show own_Go p e below s _ _ _ (T9.setTop (mkF m 36 #[.val (.int p0), .val (.int p1), .val (.ref b1), .val (.int (2 : Int32)), .unset, .unset, .unset] [(.int (0 : Int32))]))
      refine own_via (fun _ k => XS.istore X9.here hx rfl (hb hby at_36) rfl (l' := #[.val (.int p0), .val (.int p1), .val (.ref b1), .val (.int (2 : Int32)), .val (.int (0 : Int32)), .unset, .unset]) rfl k) ?_
      show own_Go p e below s _ _ _ (T9.setTop (mkF m 38 #[.val (.int p0), .val (.int p1), .val (.ref b1), .val (.int (2 : Int32)), .val (.int (0 : Int32)), .unset, .unset] []))
      refine own_via (fun _ k => X9.ldcInt hx hown (mvT hZ (hw _ (List.mem_of_getElem? (i := 12) rfl))) (g := (mkF m 38 #[.val (.int p0), .val (.int p1), .val (.ref b1), .val (.int (2 : Int32)), .val (.int (0 : Int32)), .unset, .unset] [])) rfl (hb hby at_38) _ k) ?_
      show own_Go p e below s _ _ _ (T9.setTop (mkF m 40 #[.val (.int p0), .val (.int p1), .val (.ref b1), .val (.int (2 : Int32)), .val (.int (0 : Int32)), .unset, .unset] [(.int (33841 : Int32))]))
      refine own_via (fun _ k => XS.istore X9.here hx rfl (hb hby at_40) rfl (l' := #[.val (.int p0), .val (.int p1), .val (.ref b1), .val (.int (2 : Int32)), .val (.int (0 : Int32)), .val (.int (33841 : Int32)), .unset]) rfl k) ?_
      show own_Go p e below s _ _ _ (T9.setTop (mkF m 42 #[.val (.int p0), .val (.int p1), .val (.ref b1), .val (.int (2 : Int32)), .val (.int (0 : Int32)), .val (.int (33841 : Int32)), .unset] []))
      refine own_via (fun _ k => XS.iload X9.here hx rfl (hb hby at_42) rfl k) ?_
      show own_Go p e below s _ _ _ (T9.setTop (mkF m 44 #[.val (.int p0), .val (.int p1), .val (.ref b1), .val (.int (2 : Int32)), .val (.int (0 : Int32)), .val (.int (33841 : Int32)), .unset] [(.int (33841 : Int32))]))
      refine own_via (fun _ k => XS.iloadN X9.here hx rfl (hb hby at_44) rfl k) ?_
      show own_Go p e below s _ _ _ (T9.setTop (mkF m 45 #[.val (.int p0), .val (.int p1), .val (.ref b1), .val (.int (2 : Int32)), .val (.int (0 : Int32)), .val (.int (33841 : Int32)), .unset] [(.int (2 : Int32)), (.int (33841 : Int32))]))
      refine own_via (fun _ k => XS.iconst X9.here hx rfl (hb hby at_45) k) ?_
      show own_Go p e below s _ _ _ (T9.setTop (mkF m 46 #[.val (.int p0), .val (.int p1), .val (.ref b1), .val (.int (2 : Int32)), .val (.int (0 : Int32)), .val (.int (33841 : Int32)), .unset] [(.int (4 : Int32)), (.int (2 : Int32)), (.int (33841 : Int32))]))
      refine own_via (fun _ k => XS.imul X9.here hx rfl (hb hby at_46) rfl k) ?_
      show own_Go p e below s _ _ _ (T9.setTop (mkF m 47 #[.val (.int p0), .val (.int p1), .val (.ref b1), .val (.int (2 : Int32)), .val (.int (0 : Int32)), .val (.int (33841 : Int32)), .unset] [(.int ((2 : Int32) * (4 : Int32))), (.int (33841 : Int32))]))
      refine own_via (fun _ k => XS.iload X9.here hx rfl (hb hby at_47) rfl k) ?_
      show own_Go p e below s _ _ _ (T9.setTop (mkF m 49 #[.val (.int p0), .val (.int p1), .val (.ref b1), .val (.int (2 : Int32)), .val (.int (0 : Int32)), .val (.int (33841 : Int32)), .unset] [(.int (0 : Int32)), (.int ((2 : Int32) * (4 : Int32))), (.int (33841 : Int32))]))
      refine own_via (fun _ k => XS.iadd X9.here hx rfl (hb hby at_49) rfl k) ?_
      show own_Go p e below s _ _ _ (T9.setTop (mkF m 50 #[.val (.int p0), .val (.int p1), .val (.ref b1), .val (.int (2 : Int32)), .val (.int (0 : Int32)), .val (.int (33841 : Int32)), .unset] [(.int (((2 : Int32) * (4 : Int32)) + (0 : Int32))), (.int (33841 : Int32))]))
      refine own_via (fun _ k => XS.ishr X9.here hx rfl (hb hby at_50) rfl k) ?_
      show own_Go p e below s _ _ _ (T9.setTop (mkF m 51 #[.val (.int p0), .val (.int p1), .val (.ref b1), .val (.int (2 : Int32)), .val (.int (0 : Int32)), .val (.int (33841 : Int32)), .unset] [(.int ((33841 : Int32) >>> ((((2 : Int32) * (4 : Int32)) + (0 : Int32)) &&& 31)))]))
      refine own_via (fun _ k => XS.iconst X9.here hx rfl (hb hby at_51) k) ?_
      show own_Go p e below s _ _ _ (T9.setTop (mkF m 52 #[.val (.int p0), .val (.int p1), .val (.ref b1), .val (.int (2 : Int32)), .val (.int (0 : Int32)), .val (.int (33841 : Int32)), .unset] [(.int (1 : Int32)), (.int ((33841 : Int32) >>> ((((2 : Int32) * (4 : Int32)) + (0 : Int32)) &&& 31)))]))
      refine own_via (fun _ k => XS.iand X9.here hx rfl (hb hby at_52) rfl k) ?_
      show own_Go p e below s _ _ _ (T9.setTop (mkF m 53 #[.val (.int p0), .val (.int p1), .val (.ref b1), .val (.int (2 : Int32)), .val (.int (0 : Int32)), .val (.int (33841 : Int32)), .unset] [(.int (((33841 : Int32) >>> ((((2 : Int32) * (4 : Int32)) + (0 : Int32)) &&& 31)) &&& (1 : Int32)))]))
      refine own_via (fun _ k => XS.ifYes X9.here hx rfl (pc0 := 53) (pc' := 60) rfl (hb hby at_53) rfl ((if0 _ _).trans (teq (by decide : (((33841 : Int32) >>> ((((2 : Int32) * (4 : Int32)) + (0 : Int32)) &&& 31)) &&& (1 : Int32)) = (0 : Int32))).1) (by decide) (by decide) k) ?_
      show own_Go p e below s _ _ _ (T9.setTop (mkF m 60 #[.val (.int p0), .val (.int p1), .val (.ref b1), .val (.int (2 : Int32)), .val (.int (0 : Int32)), .val (.int (33841 : Int32)), .unset] []))
      refine own_via (fun _ k => XS.iconst X9.here hx rfl (hb hby at_60) k) ?_
      show own_Go p e below s _ _ _ (T9.setTop (mkF m 61 #[.val (.int p0), .val (.int p1), .val (.ref b1), .val (.int (2 : Int32)), .val (.int (0 : Int32)), .val (.int (33841 : Int32)), .unset] [(.int (0 : Int32))]))
      refine own_via (fun _ k => XS.istore X9.here hx rfl (hb hby at_61) rfl (l' := #[.val (.int p0), .val (.int p1), .val (.ref b1), .val (.int (2 : Int32)), .val (.int (0 : Int32)), .val (.int (33841 : Int32)), .val (.int (0 : Int32))]) rfl k) ?_
      show own_Go p e below s _ _ _ (T9.setTop (mkF m 63 #[.val (.int p0), .val (.int p1), .val (.ref b1), .val (.int (2 : Int32)), .val (.int (0 : Int32)), .val (.int (33841 : Int32)), .val (.int (0 : Int32))] []))
      refine own_via (fun _ k => XS.aloadN X9.here hx rfl (hb hby at_63) rfl rfl k) ?_
      show own_Go p e below s _ _ _ (T9.setTop (mkF m 64 #[.val (.int p0), .val (.int p1), .val (.ref b1), .val (.int (2 : Int32)), .val (.int (0 : Int32)), .val (.int (33841 : Int32)), .val (.int (0 : Int32))] [(.ref b1)]))
      refine own_via (fun _ k => XS.iloadN X9.here hx rfl (hb hby at_64) rfl k) ?_
      show own_Go p e below s _ _ _ (T9.setTop (mkF m 65 #[.val (.int p0), .val (.int p1), .val (.ref b1), .val (.int (2 : Int32)), .val (.int (0 : Int32)), .val (.int (33841 : Int32)), .val (.int (0 : Int32))] [(.int (2 : Int32)), (.ref b1)]))
      have Vx50 := V_b1
      obtain ⟨cl50, Ar50, q50, S50, N50, H50, G50⟩ := Vx50
      have hin50 : ¬ ((2 : Int32) < 0 ∨ cl50.slots.size ≤ ((2 : Int32)).toNatClampNeg) := inb_of S50 ⟨by decide, by decide⟩
      have hat50 : cl50.slots[((2 : Int32)).toNatClampNeg]? = some (.ref w2) := H50.at hin50 rfl
      refine own_via (fun _ k => X9.aaload hx (j := (2 : Int32)) (v := (.ref w2)) (by rw [e9]; exact Ar50.1) (State.isArrayOf_alike hZ.alike Ar50.2.1) rfl Ar50.2.2 hin50 hat50 (g := (mkF m 65 #[.val (.int p0), .val (.int p1), .val (.ref b1), .val (.int (2 : Int32)), .val (.int (0 : Int32)), .val (.int (33841 : Int32)), .val (.int (0 : Int32))] [(.int (2 : Int32)), (.ref b1)])) rfl rfl (hb hby at_65) _ k) ?_
      show own_Go p e below s _ _ _ (T9.setTop (mkF m 66 #[.val (.int p0), .val (.int p1), .val (.ref b1), .val (.int (2 : Int32)), .val (.int (0 : Int32)), .val (.int (33841 : Int32)), .val (.int (0 : Int32))] [(.ref w2)]))
      refine own_via (fun _ k => XS.aloadN X9.here hx rfl (hb hby at_66) rfl rfl k) ?_
      show own_Go p e below s _ _ _ (T9.setTop (mkF m 67 #[.val (.int p0), .val (.int p1), .val (.ref b1), .val (.int (2 : Int32)), .val (.int (0 : Int32)), .val (.int (33841 : Int32)), .val (.int (0 : Int32))] [(.ref b1), (.ref w2)]))
      refine own_via (fun _ k => XS.iload X9.here hx rfl (hb hby at_67) rfl k) ?_
      show own_Go p e below s _ _ _ (T9.setTop (mkF m 69 #[.val (.int p0), .val (.int p1), .val (.ref b1), .val (.int (2 : Int32)), .val (.int (0 : Int32)), .val (.int (33841 : Int32)), .val (.int (0 : Int32))] [(.int (0 : Int32)), (.ref b1), (.ref w2)]))
      have Vx51 := V_b1
      obtain ⟨cl51, Ar51, q51, S51, N51, H51, G51⟩ := Vx51
      have hin51 : ¬ ((0 : Int32) < 0 ∨ cl51.slots.size ≤ ((0 : Int32)).toNatClampNeg) := inb_of S51 ⟨by decide, by decide⟩
      have hat51 : cl51.slots[((0 : Int32)).toNatClampNeg]? = some (.ref w0) := H51.at hin51 rfl
      refine own_via (fun _ k => X9.aaload hx (j := (0 : Int32)) (v := (.ref w0)) (by rw [e9]; exact Ar51.1) (State.isArrayOf_alike hZ.alike Ar51.2.1) rfl Ar51.2.2 hin51 hat51 (g := (mkF m 69 #[.val (.int p0), .val (.int p1), .val (.ref b1), .val (.int (2 : Int32)), .val (.int (0 : Int32)), .val (.int (33841 : Int32)), .val (.int (0 : Int32))] [(.int (0 : Int32)), (.ref b1), (.ref w2)])) rfl rfl (hb hby at_69) _ k) ?_
      show own_Go p e below s _ _ _ (T9.setTop (mkF m 70 #[.val (.int p0), .val (.int p1), .val (.ref b1), .val (.int (2 : Int32)), .val (.int (0 : Int32)), .val (.int (33841 : Int32)), .val (.int (0 : Int32))] [(.ref w0), (.ref w2)]))
      obtain ⟨cq52, kq52, q52a, q52b, q52c⟩ := isOf hZ e9 (E_w2.ext OL.2)
      obtain ⟨_, _, ⟨T52, L52, k52, n52⟩, -, X52, ⟨Lc52, hQ52, l52, y52, z52⟩, st52⟩ := X9.virtualBack hx (y := (⟨"com/example/mailbox/mailbox/core/Right", "allows", "(Lcom/example/mailbox/mailbox/core/Right;)Z"⟩ : MethodName)) (z := (⟨"com/example/mailbox/mailbox/core/Right", "allows", "(Lcom/example/mailbox/mailbox/core/Right;)Z"⟩ : MethodName)) hown (mvT hZ (hw _ (List.mem_of_getElem? (i := 13) rfl))) (mvT hZ (hw _ (List.mem_of_getElem? (i := 14) rfl))) (notFace_of_selects (args := #[]) (mvT hZ (hw _ (List.mem_of_getElem? (i := 16) rfl)))) (mvT hZ (hw _ (List.mem_of_getElem? (i := 16) rfl))) (mvT hZ (hw _ (List.mem_of_getElem? (i := 15) rfl))) (by decide) (backOf (W := 0) (rm1_0 l Z a0 hw [] w2 w0 w0 w1 w2 w3 h9 n0 Z0 K0 OL) hZ (hw _ (List.mem_of_getElem? (i := 17) rfl)) (hw _ (List.mem_of_getElem? (i := 3) rfl)) (by decide) (by decide)) q52a q52c (g := (mkF m 70 #[.val (.int p0), .val (.int p1), .val (.ref b1), .val (.int (2 : Int32)), .val (.int (0 : Int32)), .val (.int (33841 : Int32)), .val (.int (0 : Int32))] [(.ref w0), (.ref w2)])) rfl (by rw [hml]; rfl) (Steps.refl _) (argsL := [(.ref w0)]) (rest := []) (lenOf pd0 rfl) rfl (by show 2 * 0 + _ ≤ _; exact Nat.le_of_eq rfl) (hb hby at_70) (fun _ _ => ⟨rfl, e9, (by decide : 0 + 1 + 0 ≤ _), (by decide : 0 + 4 + 0 ≤ _)⟩)
      dsimp only [Pt.U, Pt.locs, Pt.cells, Pt.slots] at X52 l52 y52 z52 st52 hQ52
      subst l52 y52 z52
      obtain ⟨rfl, e52, hO52⟩ := hQ52
      rcases hO52 with ⟨hr52_0_0, rfl⟩ | ⟨hr52_1_0, hr52_1_1, hr52_1_2, rfl⟩ | ⟨hr52_2_0, hr52_2_1, hr52_2_2, rfl⟩ | ⟨hr52_3_0, hr52_3_1, rfl⟩
      · exact absurd hr52_0_0 n_w0_w2
      · exact absurd hr52_1_1 (fun q => n_w1_w2 q.symm)
      · exact absurd hr52_2_1 (fun q => n_w1_w2 q.symm)
      · refine own_tr st52 ?_
        show own_Go p e below s _ _ _ (T52.setTop (mkF m 73 #[.val (.int p0), .val (.int p1), .val (.ref b1), .val (.int (2 : Int32)), .val (.int (0 : Int32)), .val (.int (33841 : Int32)), .val (.int (0 : Int32))] [(.int (0 : Int32))]))
        refine own_via (fun _ k => XS.iload X52.here hx rfl (hb hby at_73) rfl k) ?_
        show own_Go p e below s _ _ _ (T52.setTop (mkF m 75 #[.val (.int p0), .val (.int p1), .val (.ref b1), .val (.int (2 : Int32)), .val (.int (0 : Int32)), .val (.int (33841 : Int32)), .val (.int (0 : Int32))] [(.int (0 : Int32)), (.int (0 : Int32))]))
        refine own_via (fun _ k => XS.icmpNo X52.here hx rfl (hb hby at_75) rfl (teq (by decide : (0 : Int32) = (0 : Int32))).2 k) ?_
        show own_Go p e below s _ _ _ (T52.setTop (mkF m 78 #[.val (.int p0), .val (.int p1), .val (.ref b1), .val (.int (2 : Int32)), .val (.int (0 : Int32)), .val (.int (33841 : Int32)), .val (.int (0 : Int32))] []))
        refine own_via (fun _ k => XS.iconst X52.here hx rfl (hb hby at_78) k) ?_
        show own_Go p e below s _ _ _ (T52.setTop (mkF m 79 #[.val (.int p0), .val (.int p1), .val (.ref b1), .val (.int (2 : Int32)), .val (.int (0 : Int32)), .val (.int (33841 : Int32)), .val (.int (0 : Int32))] [(.int (1 : Int32))]))
        refine own_via (fun _ k => XS.goto X52.here hx rfl (pc0 := 79) (pc' := 83) rfl (hb hby at_79) (by decide) (by decide) k) ?_
        show own_Go p e below s _ _ _ (T52.setTop (mkF m 83 #[.val (.int p0), .val (.int p1), .val (.ref b1), .val (.int (2 : Int32)), .val (.int (0 : Int32)), .val (.int (33841 : Int32)), .val (.int (0 : Int32))] [(.int (1 : Int32))]))
        exact own_retZ X52 hx hlk (t := .boolean) Bd.returns (by simp) (hb hby at_83) (z' := (1 : Int32)) (by first | rfl | decide) ⟨rfl, (Fr.app N9 (Fr.nil n0))⟩ (by decide) (by decide)
    · rw [hk47]
      show own_Go p e below s _ _ _ (T9.setTop (mkF m 36 #[.val (.int p0), .val (.int p1), .val (.ref b1), .val (.int (2 : Int32)), .unset, .unset, .unset] [(.int (1 : Int32))]))
      refine own_via (fun _ k => XS.istore X9.here hx rfl (hb hby at_36) rfl (l' := #[.val (.int p0), .val (.int p1), .val (.ref b1), .val (.int (2 : Int32)), .val (.int (1 : Int32)), .unset, .unset]) rfl k) ?_
      show own_Go p e below s _ _ _ (T9.setTop (mkF m 38 #[.val (.int p0), .val (.int p1), .val (.ref b1), .val (.int (2 : Int32)), .val (.int (1 : Int32)), .unset, .unset] []))
      refine own_via (fun _ k => X9.ldcInt hx hown (mvT hZ (hw _ (List.mem_of_getElem? (i := 12) rfl))) (g := (mkF m 38 #[.val (.int p0), .val (.int p1), .val (.ref b1), .val (.int (2 : Int32)), .val (.int (1 : Int32)), .unset, .unset] [])) rfl (hb hby at_38) _ k) ?_
      show own_Go p e below s _ _ _ (T9.setTop (mkF m 40 #[.val (.int p0), .val (.int p1), .val (.ref b1), .val (.int (2 : Int32)), .val (.int (1 : Int32)), .unset, .unset] [(.int (33841 : Int32))]))
      refine own_via (fun _ k => XS.istore X9.here hx rfl (hb hby at_40) rfl (l' := #[.val (.int p0), .val (.int p1), .val (.ref b1), .val (.int (2 : Int32)), .val (.int (1 : Int32)), .val (.int (33841 : Int32)), .unset]) rfl k) ?_
      show own_Go p e below s _ _ _ (T9.setTop (mkF m 42 #[.val (.int p0), .val (.int p1), .val (.ref b1), .val (.int (2 : Int32)), .val (.int (1 : Int32)), .val (.int (33841 : Int32)), .unset] []))
      refine own_via (fun _ k => XS.iload X9.here hx rfl (hb hby at_42) rfl k) ?_
      show own_Go p e below s _ _ _ (T9.setTop (mkF m 44 #[.val (.int p0), .val (.int p1), .val (.ref b1), .val (.int (2 : Int32)), .val (.int (1 : Int32)), .val (.int (33841 : Int32)), .unset] [(.int (33841 : Int32))]))
      refine own_via (fun _ k => XS.iloadN X9.here hx rfl (hb hby at_44) rfl k) ?_
      show own_Go p e below s _ _ _ (T9.setTop (mkF m 45 #[.val (.int p0), .val (.int p1), .val (.ref b1), .val (.int (2 : Int32)), .val (.int (1 : Int32)), .val (.int (33841 : Int32)), .unset] [(.int (2 : Int32)), (.int (33841 : Int32))]))
      refine own_via (fun _ k => XS.iconst X9.here hx rfl (hb hby at_45) k) ?_
      show own_Go p e below s _ _ _ (T9.setTop (mkF m 46 #[.val (.int p0), .val (.int p1), .val (.ref b1), .val (.int (2 : Int32)), .val (.int (1 : Int32)), .val (.int (33841 : Int32)), .unset] [(.int (4 : Int32)), (.int (2 : Int32)), (.int (33841 : Int32))]))
      refine own_via (fun _ k => XS.imul X9.here hx rfl (hb hby at_46) rfl k) ?_
      show own_Go p e below s _ _ _ (T9.setTop (mkF m 47 #[.val (.int p0), .val (.int p1), .val (.ref b1), .val (.int (2 : Int32)), .val (.int (1 : Int32)), .val (.int (33841 : Int32)), .unset] [(.int ((2 : Int32) * (4 : Int32))), (.int (33841 : Int32))]))
      refine own_via (fun _ k => XS.iload X9.here hx rfl (hb hby at_47) rfl k) ?_
      show own_Go p e below s _ _ _ (T9.setTop (mkF m 49 #[.val (.int p0), .val (.int p1), .val (.ref b1), .val (.int (2 : Int32)), .val (.int (1 : Int32)), .val (.int (33841 : Int32)), .unset] [(.int (1 : Int32)), (.int ((2 : Int32) * (4 : Int32))), (.int (33841 : Int32))]))
      refine own_via (fun _ k => XS.iadd X9.here hx rfl (hb hby at_49) rfl k) ?_
      show own_Go p e below s _ _ _ (T9.setTop (mkF m 50 #[.val (.int p0), .val (.int p1), .val (.ref b1), .val (.int (2 : Int32)), .val (.int (1 : Int32)), .val (.int (33841 : Int32)), .unset] [(.int (((2 : Int32) * (4 : Int32)) + (1 : Int32))), (.int (33841 : Int32))]))
      refine own_via (fun _ k => XS.ishr X9.here hx rfl (hb hby at_50) rfl k) ?_
      show own_Go p e below s _ _ _ (T9.setTop (mkF m 51 #[.val (.int p0), .val (.int p1), .val (.ref b1), .val (.int (2 : Int32)), .val (.int (1 : Int32)), .val (.int (33841 : Int32)), .unset] [(.int ((33841 : Int32) >>> ((((2 : Int32) * (4 : Int32)) + (1 : Int32)) &&& 31)))]))
      refine own_via (fun _ k => XS.iconst X9.here hx rfl (hb hby at_51) k) ?_
      show own_Go p e below s _ _ _ (T9.setTop (mkF m 52 #[.val (.int p0), .val (.int p1), .val (.ref b1), .val (.int (2 : Int32)), .val (.int (1 : Int32)), .val (.int (33841 : Int32)), .unset] [(.int (1 : Int32)), (.int ((33841 : Int32) >>> ((((2 : Int32) * (4 : Int32)) + (1 : Int32)) &&& 31)))]))
      refine own_via (fun _ k => XS.iand X9.here hx rfl (hb hby at_52) rfl k) ?_
      show own_Go p e below s _ _ _ (T9.setTop (mkF m 53 #[.val (.int p0), .val (.int p1), .val (.ref b1), .val (.int (2 : Int32)), .val (.int (1 : Int32)), .val (.int (33841 : Int32)), .unset] [(.int (((33841 : Int32) >>> ((((2 : Int32) * (4 : Int32)) + (1 : Int32)) &&& 31)) &&& (1 : Int32)))]))
      refine own_via (fun _ k => XS.ifYes X9.here hx rfl (pc0 := 53) (pc' := 60) rfl (hb hby at_53) rfl ((if0 _ _).trans (teq (by decide : (((33841 : Int32) >>> ((((2 : Int32) * (4 : Int32)) + (1 : Int32)) &&& 31)) &&& (1 : Int32)) = (0 : Int32))).1) (by decide) (by decide) k) ?_
      show own_Go p e below s _ _ _ (T9.setTop (mkF m 60 #[.val (.int p0), .val (.int p1), .val (.ref b1), .val (.int (2 : Int32)), .val (.int (1 : Int32)), .val (.int (33841 : Int32)), .unset] []))
      refine own_via (fun _ k => XS.iconst X9.here hx rfl (hb hby at_60) k) ?_
      show own_Go p e below s _ _ _ (T9.setTop (mkF m 61 #[.val (.int p0), .val (.int p1), .val (.ref b1), .val (.int (2 : Int32)), .val (.int (1 : Int32)), .val (.int (33841 : Int32)), .unset] [(.int (0 : Int32))]))
      refine own_via (fun _ k => XS.istore X9.here hx rfl (hb hby at_61) rfl (l' := #[.val (.int p0), .val (.int p1), .val (.ref b1), .val (.int (2 : Int32)), .val (.int (1 : Int32)), .val (.int (33841 : Int32)), .val (.int (0 : Int32))]) rfl k) ?_
      show own_Go p e below s _ _ _ (T9.setTop (mkF m 63 #[.val (.int p0), .val (.int p1), .val (.ref b1), .val (.int (2 : Int32)), .val (.int (1 : Int32)), .val (.int (33841 : Int32)), .val (.int (0 : Int32))] []))
      refine own_via (fun _ k => XS.aloadN X9.here hx rfl (hb hby at_63) rfl rfl k) ?_
      show own_Go p e below s _ _ _ (T9.setTop (mkF m 64 #[.val (.int p0), .val (.int p1), .val (.ref b1), .val (.int (2 : Int32)), .val (.int (1 : Int32)), .val (.int (33841 : Int32)), .val (.int (0 : Int32))] [(.ref b1)]))
      refine own_via (fun _ k => XS.iloadN X9.here hx rfl (hb hby at_64) rfl k) ?_
      show own_Go p e below s _ _ _ (T9.setTop (mkF m 65 #[.val (.int p0), .val (.int p1), .val (.ref b1), .val (.int (2 : Int32)), .val (.int (1 : Int32)), .val (.int (33841 : Int32)), .val (.int (0 : Int32))] [(.int (2 : Int32)), (.ref b1)]))
      have Vx53 := V_b1
      obtain ⟨cl53, Ar53, q53, S53, N53, H53, G53⟩ := Vx53
      have hin53 : ¬ ((2 : Int32) < 0 ∨ cl53.slots.size ≤ ((2 : Int32)).toNatClampNeg) := inb_of S53 ⟨by decide, by decide⟩
      have hat53 : cl53.slots[((2 : Int32)).toNatClampNeg]? = some (.ref w2) := H53.at hin53 rfl
      refine own_via (fun _ k => X9.aaload hx (j := (2 : Int32)) (v := (.ref w2)) (by rw [e9]; exact Ar53.1) (State.isArrayOf_alike hZ.alike Ar53.2.1) rfl Ar53.2.2 hin53 hat53 (g := (mkF m 65 #[.val (.int p0), .val (.int p1), .val (.ref b1), .val (.int (2 : Int32)), .val (.int (1 : Int32)), .val (.int (33841 : Int32)), .val (.int (0 : Int32))] [(.int (2 : Int32)), (.ref b1)])) rfl rfl (hb hby at_65) _ k) ?_
      show own_Go p e below s _ _ _ (T9.setTop (mkF m 66 #[.val (.int p0), .val (.int p1), .val (.ref b1), .val (.int (2 : Int32)), .val (.int (1 : Int32)), .val (.int (33841 : Int32)), .val (.int (0 : Int32))] [(.ref w2)]))
      refine own_via (fun _ k => XS.aloadN X9.here hx rfl (hb hby at_66) rfl rfl k) ?_
      show own_Go p e below s _ _ _ (T9.setTop (mkF m 67 #[.val (.int p0), .val (.int p1), .val (.ref b1), .val (.int (2 : Int32)), .val (.int (1 : Int32)), .val (.int (33841 : Int32)), .val (.int (0 : Int32))] [(.ref b1), (.ref w2)]))
      refine own_via (fun _ k => XS.iload X9.here hx rfl (hb hby at_67) rfl k) ?_
      show own_Go p e below s _ _ _ (T9.setTop (mkF m 69 #[.val (.int p0), .val (.int p1), .val (.ref b1), .val (.int (2 : Int32)), .val (.int (1 : Int32)), .val (.int (33841 : Int32)), .val (.int (0 : Int32))] [(.int (1 : Int32)), (.ref b1), (.ref w2)]))
      have Vx54 := V_b1
      obtain ⟨cl54, Ar54, q54, S54, N54, H54, G54⟩ := Vx54
      have hin54 : ¬ ((1 : Int32) < 0 ∨ cl54.slots.size ≤ ((1 : Int32)).toNatClampNeg) := inb_of S54 ⟨by decide, by decide⟩
      have hat54 : cl54.slots[((1 : Int32)).toNatClampNeg]? = some (.ref w1) := H54.at hin54 rfl
      refine own_via (fun _ k => X9.aaload hx (j := (1 : Int32)) (v := (.ref w1)) (by rw [e9]; exact Ar54.1) (State.isArrayOf_alike hZ.alike Ar54.2.1) rfl Ar54.2.2 hin54 hat54 (g := (mkF m 69 #[.val (.int p0), .val (.int p1), .val (.ref b1), .val (.int (2 : Int32)), .val (.int (1 : Int32)), .val (.int (33841 : Int32)), .val (.int (0 : Int32))] [(.int (1 : Int32)), (.ref b1), (.ref w2)])) rfl rfl (hb hby at_69) _ k) ?_
      show own_Go p e below s _ _ _ (T9.setTop (mkF m 70 #[.val (.int p0), .val (.int p1), .val (.ref b1), .val (.int (2 : Int32)), .val (.int (1 : Int32)), .val (.int (33841 : Int32)), .val (.int (0 : Int32))] [(.ref w1), (.ref w2)]))
      obtain ⟨cq55, kq55, q55a, q55b, q55c⟩ := isOf hZ e9 (E_w2.ext OL.2)
      obtain ⟨_, _, ⟨T55, L55, k55, n55⟩, -, X55, ⟨Lc55, hQ55, l55, y55, z55⟩, st55⟩ := X9.virtualBack hx (y := (⟨"com/example/mailbox/mailbox/core/Right", "allows", "(Lcom/example/mailbox/mailbox/core/Right;)Z"⟩ : MethodName)) (z := (⟨"com/example/mailbox/mailbox/core/Right", "allows", "(Lcom/example/mailbox/mailbox/core/Right;)Z"⟩ : MethodName)) hown (mvT hZ (hw _ (List.mem_of_getElem? (i := 13) rfl))) (mvT hZ (hw _ (List.mem_of_getElem? (i := 14) rfl))) (notFace_of_selects (args := #[]) (mvT hZ (hw _ (List.mem_of_getElem? (i := 16) rfl)))) (mvT hZ (hw _ (List.mem_of_getElem? (i := 16) rfl))) (mvT hZ (hw _ (List.mem_of_getElem? (i := 15) rfl))) (by decide) (backOf (W := 0) (rm1_0 l Z a0 hw [] w2 w1 w0 w1 w2 w3 h9 n0 Z0 K0 OL) hZ (hw _ (List.mem_of_getElem? (i := 17) rfl)) (hw _ (List.mem_of_getElem? (i := 3) rfl)) (by decide) (by decide)) q55a q55c (g := (mkF m 70 #[.val (.int p0), .val (.int p1), .val (.ref b1), .val (.int (2 : Int32)), .val (.int (1 : Int32)), .val (.int (33841 : Int32)), .val (.int (0 : Int32))] [(.ref w1), (.ref w2)])) rfl (by rw [hml]; rfl) (Steps.refl _) (argsL := [(.ref w1)]) (rest := []) (lenOf pd0 rfl) rfl (by show 2 * 0 + _ ≤ _; exact Nat.le_of_eq rfl) (hb hby at_70) (fun _ _ => ⟨rfl, e9, (by decide : 0 + 1 + 0 ≤ _), (by decide : 0 + 4 + 0 ≤ _)⟩)
      dsimp only [Pt.U, Pt.locs, Pt.cells, Pt.slots] at X55 l55 y55 z55 st55 hQ55
      subst l55 y55 z55
      obtain ⟨rfl, e55, hO55⟩ := hQ55
      rcases hO55 with ⟨hr55_0_0, rfl⟩ | ⟨hr55_1_0, hr55_1_1, hr55_1_2, rfl⟩ | ⟨hr55_2_0, hr55_2_1, hr55_2_2, rfl⟩ | ⟨hr55_3_0, hr55_3_1, rfl⟩
      · exact absurd hr55_0_0 n_w1_w2
      · exact absurd hr55_1_1 (fun q => n_w1_w2 q.symm)
      · exact absurd hr55_2_1 (fun q => n_w1_w2 q.symm)
      · refine own_tr st55 ?_
        show own_Go p e below s _ _ _ (T55.setTop (mkF m 73 #[.val (.int p0), .val (.int p1), .val (.ref b1), .val (.int (2 : Int32)), .val (.int (1 : Int32)), .val (.int (33841 : Int32)), .val (.int (0 : Int32))] [(.int (0 : Int32))]))
        refine own_via (fun _ k => XS.iload X55.here hx rfl (hb hby at_73) rfl k) ?_
        show own_Go p e below s _ _ _ (T55.setTop (mkF m 75 #[.val (.int p0), .val (.int p1), .val (.ref b1), .val (.int (2 : Int32)), .val (.int (1 : Int32)), .val (.int (33841 : Int32)), .val (.int (0 : Int32))] [(.int (0 : Int32)), (.int (0 : Int32))]))
        refine own_via (fun _ k => XS.icmpNo X55.here hx rfl (hb hby at_75) rfl (teq (by decide : (0 : Int32) = (0 : Int32))).2 k) ?_
        show own_Go p e below s _ _ _ (T55.setTop (mkF m 78 #[.val (.int p0), .val (.int p1), .val (.ref b1), .val (.int (2 : Int32)), .val (.int (1 : Int32)), .val (.int (33841 : Int32)), .val (.int (0 : Int32))] []))
        refine own_via (fun _ k => XS.iconst X55.here hx rfl (hb hby at_78) k) ?_
        show own_Go p e below s _ _ _ (T55.setTop (mkF m 79 #[.val (.int p0), .val (.int p1), .val (.ref b1), .val (.int (2 : Int32)), .val (.int (1 : Int32)), .val (.int (33841 : Int32)), .val (.int (0 : Int32))] [(.int (1 : Int32))]))
        refine own_via (fun _ k => XS.goto X55.here hx rfl (pc0 := 79) (pc' := 83) rfl (hb hby at_79) (by decide) (by decide) k) ?_
        show own_Go p e below s _ _ _ (T55.setTop (mkF m 83 #[.val (.int p0), .val (.int p1), .val (.ref b1), .val (.int (2 : Int32)), .val (.int (1 : Int32)), .val (.int (33841 : Int32)), .val (.int (0 : Int32))] [(.int (1 : Int32))]))
        exact own_retZ X55 hx hlk (t := .boolean) Bd.returns (by simp) (hb hby at_83) (z' := (1 : Int32)) (by first | rfl | decide) ⟨rfl, (Fr.app N9 (Fr.nil n0))⟩ (by decide) (by decide)
    · rw [hk48]
      show own_Go p e below s _ _ _ (T9.setTop (mkF m 36 #[.val (.int p0), .val (.int p1), .val (.ref b1), .val (.int (2 : Int32)), .unset, .unset, .unset] [(.int (2 : Int32))]))
      refine own_via (fun _ k => XS.istore X9.here hx rfl (hb hby at_36) rfl (l' := #[.val (.int p0), .val (.int p1), .val (.ref b1), .val (.int (2 : Int32)), .val (.int (2 : Int32)), .unset, .unset]) rfl k) ?_
      show own_Go p e below s _ _ _ (T9.setTop (mkF m 38 #[.val (.int p0), .val (.int p1), .val (.ref b1), .val (.int (2 : Int32)), .val (.int (2 : Int32)), .unset, .unset] []))
      refine own_via (fun _ k => X9.ldcInt hx hown (mvT hZ (hw _ (List.mem_of_getElem? (i := 12) rfl))) (g := (mkF m 38 #[.val (.int p0), .val (.int p1), .val (.ref b1), .val (.int (2 : Int32)), .val (.int (2 : Int32)), .unset, .unset] [])) rfl (hb hby at_38) _ k) ?_
      show own_Go p e below s _ _ _ (T9.setTop (mkF m 40 #[.val (.int p0), .val (.int p1), .val (.ref b1), .val (.int (2 : Int32)), .val (.int (2 : Int32)), .unset, .unset] [(.int (33841 : Int32))]))
      refine own_via (fun _ k => XS.istore X9.here hx rfl (hb hby at_40) rfl (l' := #[.val (.int p0), .val (.int p1), .val (.ref b1), .val (.int (2 : Int32)), .val (.int (2 : Int32)), .val (.int (33841 : Int32)), .unset]) rfl k) ?_
      show own_Go p e below s _ _ _ (T9.setTop (mkF m 42 #[.val (.int p0), .val (.int p1), .val (.ref b1), .val (.int (2 : Int32)), .val (.int (2 : Int32)), .val (.int (33841 : Int32)), .unset] []))
      refine own_via (fun _ k => XS.iload X9.here hx rfl (hb hby at_42) rfl k) ?_
      show own_Go p e below s _ _ _ (T9.setTop (mkF m 44 #[.val (.int p0), .val (.int p1), .val (.ref b1), .val (.int (2 : Int32)), .val (.int (2 : Int32)), .val (.int (33841 : Int32)), .unset] [(.int (33841 : Int32))]))
      refine own_via (fun _ k => XS.iloadN X9.here hx rfl (hb hby at_44) rfl k) ?_
      show own_Go p e below s _ _ _ (T9.setTop (mkF m 45 #[.val (.int p0), .val (.int p1), .val (.ref b1), .val (.int (2 : Int32)), .val (.int (2 : Int32)), .val (.int (33841 : Int32)), .unset] [(.int (2 : Int32)), (.int (33841 : Int32))]))
      refine own_via (fun _ k => XS.iconst X9.here hx rfl (hb hby at_45) k) ?_
      show own_Go p e below s _ _ _ (T9.setTop (mkF m 46 #[.val (.int p0), .val (.int p1), .val (.ref b1), .val (.int (2 : Int32)), .val (.int (2 : Int32)), .val (.int (33841 : Int32)), .unset] [(.int (4 : Int32)), (.int (2 : Int32)), (.int (33841 : Int32))]))
      refine own_via (fun _ k => XS.imul X9.here hx rfl (hb hby at_46) rfl k) ?_
      show own_Go p e below s _ _ _ (T9.setTop (mkF m 47 #[.val (.int p0), .val (.int p1), .val (.ref b1), .val (.int (2 : Int32)), .val (.int (2 : Int32)), .val (.int (33841 : Int32)), .unset] [(.int ((2 : Int32) * (4 : Int32))), (.int (33841 : Int32))]))
      refine own_via (fun _ k => XS.iload X9.here hx rfl (hb hby at_47) rfl k) ?_
      show own_Go p e below s _ _ _ (T9.setTop (mkF m 49 #[.val (.int p0), .val (.int p1), .val (.ref b1), .val (.int (2 : Int32)), .val (.int (2 : Int32)), .val (.int (33841 : Int32)), .unset] [(.int (2 : Int32)), (.int ((2 : Int32) * (4 : Int32))), (.int (33841 : Int32))]))
      refine own_via (fun _ k => XS.iadd X9.here hx rfl (hb hby at_49) rfl k) ?_
      show own_Go p e below s _ _ _ (T9.setTop (mkF m 50 #[.val (.int p0), .val (.int p1), .val (.ref b1), .val (.int (2 : Int32)), .val (.int (2 : Int32)), .val (.int (33841 : Int32)), .unset] [(.int (((2 : Int32) * (4 : Int32)) + (2 : Int32))), (.int (33841 : Int32))]))
      refine own_via (fun _ k => XS.ishr X9.here hx rfl (hb hby at_50) rfl k) ?_
      show own_Go p e below s _ _ _ (T9.setTop (mkF m 51 #[.val (.int p0), .val (.int p1), .val (.ref b1), .val (.int (2 : Int32)), .val (.int (2 : Int32)), .val (.int (33841 : Int32)), .unset] [(.int ((33841 : Int32) >>> ((((2 : Int32) * (4 : Int32)) + (2 : Int32)) &&& 31)))]))
      refine own_via (fun _ k => XS.iconst X9.here hx rfl (hb hby at_51) k) ?_
      show own_Go p e below s _ _ _ (T9.setTop (mkF m 52 #[.val (.int p0), .val (.int p1), .val (.ref b1), .val (.int (2 : Int32)), .val (.int (2 : Int32)), .val (.int (33841 : Int32)), .unset] [(.int (1 : Int32)), (.int ((33841 : Int32) >>> ((((2 : Int32) * (4 : Int32)) + (2 : Int32)) &&& 31)))]))
      refine own_via (fun _ k => XS.iand X9.here hx rfl (hb hby at_52) rfl k) ?_
      show own_Go p e below s _ _ _ (T9.setTop (mkF m 53 #[.val (.int p0), .val (.int p1), .val (.ref b1), .val (.int (2 : Int32)), .val (.int (2 : Int32)), .val (.int (33841 : Int32)), .unset] [(.int (((33841 : Int32) >>> ((((2 : Int32) * (4 : Int32)) + (2 : Int32)) &&& 31)) &&& (1 : Int32)))]))
      refine own_via (fun _ k => XS.ifNo X9.here hx rfl (hb hby at_53) rfl ((if0 _ _).trans (feq (by decide : ¬ ((((33841 : Int32) >>> ((((2 : Int32) * (4 : Int32)) + (2 : Int32)) &&& 31)) &&& (1 : Int32)) = (0 : Int32)))).1) k) ?_
      show own_Go p e below s _ _ _ (T9.setTop (mkF m 56 #[.val (.int p0), .val (.int p1), .val (.ref b1), .val (.int (2 : Int32)), .val (.int (2 : Int32)), .val (.int (33841 : Int32)), .unset] []))
      refine own_via (fun _ k => XS.iconst X9.here hx rfl (hb hby at_56) k) ?_
      show own_Go p e below s _ _ _ (T9.setTop (mkF m 57 #[.val (.int p0), .val (.int p1), .val (.ref b1), .val (.int (2 : Int32)), .val (.int (2 : Int32)), .val (.int (33841 : Int32)), .unset] [(.int (1 : Int32))]))
      refine own_via (fun _ k => XS.goto X9.here hx rfl (pc0 := 57) (pc' := 61) rfl (hb hby at_57) (by decide) (by decide) k) ?_
      show own_Go p e below s _ _ _ (T9.setTop (mkF m 61 #[.val (.int p0), .val (.int p1), .val (.ref b1), .val (.int (2 : Int32)), .val (.int (2 : Int32)), .val (.int (33841 : Int32)), .unset] [(.int (1 : Int32))]))
      refine own_via (fun _ k => XS.istore X9.here hx rfl (hb hby at_61) rfl (l' := #[.val (.int p0), .val (.int p1), .val (.ref b1), .val (.int (2 : Int32)), .val (.int (2 : Int32)), .val (.int (33841 : Int32)), .val (.int (1 : Int32))]) rfl k) ?_
      show own_Go p e below s _ _ _ (T9.setTop (mkF m 63 #[.val (.int p0), .val (.int p1), .val (.ref b1), .val (.int (2 : Int32)), .val (.int (2 : Int32)), .val (.int (33841 : Int32)), .val (.int (1 : Int32))] []))
      refine own_via (fun _ k => XS.aloadN X9.here hx rfl (hb hby at_63) rfl rfl k) ?_
      show own_Go p e below s _ _ _ (T9.setTop (mkF m 64 #[.val (.int p0), .val (.int p1), .val (.ref b1), .val (.int (2 : Int32)), .val (.int (2 : Int32)), .val (.int (33841 : Int32)), .val (.int (1 : Int32))] [(.ref b1)]))
      refine own_via (fun _ k => XS.iloadN X9.here hx rfl (hb hby at_64) rfl k) ?_
      show own_Go p e below s _ _ _ (T9.setTop (mkF m 65 #[.val (.int p0), .val (.int p1), .val (.ref b1), .val (.int (2 : Int32)), .val (.int (2 : Int32)), .val (.int (33841 : Int32)), .val (.int (1 : Int32))] [(.int (2 : Int32)), (.ref b1)]))
      have Vx56 := V_b1
      obtain ⟨cl56, Ar56, q56, S56, N56, H56, G56⟩ := Vx56
      have hin56 : ¬ ((2 : Int32) < 0 ∨ cl56.slots.size ≤ ((2 : Int32)).toNatClampNeg) := inb_of S56 ⟨by decide, by decide⟩
      have hat56 : cl56.slots[((2 : Int32)).toNatClampNeg]? = some (.ref w2) := H56.at hin56 rfl
      refine own_via (fun _ k => X9.aaload hx (j := (2 : Int32)) (v := (.ref w2)) (by rw [e9]; exact Ar56.1) (State.isArrayOf_alike hZ.alike Ar56.2.1) rfl Ar56.2.2 hin56 hat56 (g := (mkF m 65 #[.val (.int p0), .val (.int p1), .val (.ref b1), .val (.int (2 : Int32)), .val (.int (2 : Int32)), .val (.int (33841 : Int32)), .val (.int (1 : Int32))] [(.int (2 : Int32)), (.ref b1)])) rfl rfl (hb hby at_65) _ k) ?_
      show own_Go p e below s _ _ _ (T9.setTop (mkF m 66 #[.val (.int p0), .val (.int p1), .val (.ref b1), .val (.int (2 : Int32)), .val (.int (2 : Int32)), .val (.int (33841 : Int32)), .val (.int (1 : Int32))] [(.ref w2)]))
      refine own_via (fun _ k => XS.aloadN X9.here hx rfl (hb hby at_66) rfl rfl k) ?_
      show own_Go p e below s _ _ _ (T9.setTop (mkF m 67 #[.val (.int p0), .val (.int p1), .val (.ref b1), .val (.int (2 : Int32)), .val (.int (2 : Int32)), .val (.int (33841 : Int32)), .val (.int (1 : Int32))] [(.ref b1), (.ref w2)]))
      refine own_via (fun _ k => XS.iload X9.here hx rfl (hb hby at_67) rfl k) ?_
      show own_Go p e below s _ _ _ (T9.setTop (mkF m 69 #[.val (.int p0), .val (.int p1), .val (.ref b1), .val (.int (2 : Int32)), .val (.int (2 : Int32)), .val (.int (33841 : Int32)), .val (.int (1 : Int32))] [(.int (2 : Int32)), (.ref b1), (.ref w2)]))
      have Vx57 := V_b1
      obtain ⟨cl57, Ar57, q57, S57, N57, H57, G57⟩ := Vx57
      have hin57 : ¬ ((2 : Int32) < 0 ∨ cl57.slots.size ≤ ((2 : Int32)).toNatClampNeg) := inb_of S57 ⟨by decide, by decide⟩
      have hat57 : cl57.slots[((2 : Int32)).toNatClampNeg]? = some (.ref w2) := H57.at hin57 rfl
      refine own_via (fun _ k => X9.aaload hx (j := (2 : Int32)) (v := (.ref w2)) (by rw [e9]; exact Ar57.1) (State.isArrayOf_alike hZ.alike Ar57.2.1) rfl Ar57.2.2 hin57 hat57 (g := (mkF m 69 #[.val (.int p0), .val (.int p1), .val (.ref b1), .val (.int (2 : Int32)), .val (.int (2 : Int32)), .val (.int (33841 : Int32)), .val (.int (1 : Int32))] [(.int (2 : Int32)), (.ref b1), (.ref w2)])) rfl rfl (hb hby at_69) _ k) ?_
      show own_Go p e below s _ _ _ (T9.setTop (mkF m 70 #[.val (.int p0), .val (.int p1), .val (.ref b1), .val (.int (2 : Int32)), .val (.int (2 : Int32)), .val (.int (33841 : Int32)), .val (.int (1 : Int32))] [(.ref w2), (.ref w2)]))
      obtain ⟨cq58, kq58, q58a, q58b, q58c⟩ := isOf hZ e9 (E_w2.ext OL.2)
      obtain ⟨_, _, ⟨T58, L58, k58, n58⟩, -, X58, ⟨Lc58, hQ58, l58, y58, z58⟩, st58⟩ := X9.virtualBack hx (y := (⟨"com/example/mailbox/mailbox/core/Right", "allows", "(Lcom/example/mailbox/mailbox/core/Right;)Z"⟩ : MethodName)) (z := (⟨"com/example/mailbox/mailbox/core/Right", "allows", "(Lcom/example/mailbox/mailbox/core/Right;)Z"⟩ : MethodName)) hown (mvT hZ (hw _ (List.mem_of_getElem? (i := 13) rfl))) (mvT hZ (hw _ (List.mem_of_getElem? (i := 14) rfl))) (notFace_of_selects (args := #[]) (mvT hZ (hw _ (List.mem_of_getElem? (i := 16) rfl)))) (mvT hZ (hw _ (List.mem_of_getElem? (i := 16) rfl))) (mvT hZ (hw _ (List.mem_of_getElem? (i := 15) rfl))) (by decide) (backOf (W := 0) (rm1_0 l Z a0 hw [] w2 w2 w0 w1 w2 w3 h9 n0 Z0 K0 OL) hZ (hw _ (List.mem_of_getElem? (i := 17) rfl)) (hw _ (List.mem_of_getElem? (i := 3) rfl)) (by decide) (by decide)) q58a q58c (g := (mkF m 70 #[.val (.int p0), .val (.int p1), .val (.ref b1), .val (.int (2 : Int32)), .val (.int (2 : Int32)), .val (.int (33841 : Int32)), .val (.int (1 : Int32))] [(.ref w2), (.ref w2)])) rfl (by rw [hml]; rfl) (Steps.refl _) (argsL := [(.ref w2)]) (rest := []) (lenOf pd0 rfl) rfl (by show 2 * 0 + _ ≤ _; exact Nat.le_of_eq rfl) (hb hby at_70) (fun _ _ => ⟨rfl, e9, (by decide : 0 + 1 + 0 ≤ _), (by decide : 0 + 4 + 0 ≤ _)⟩)
      dsimp only [Pt.U, Pt.locs, Pt.cells, Pt.slots] at X58 l58 y58 z58 st58 hQ58
      subst l58 y58 z58
      obtain ⟨rfl, e58, hO58⟩ := hQ58
      rcases hO58 with ⟨hr58_0_0, rfl⟩ | ⟨hr58_1_0, hr58_1_1, hr58_1_2, rfl⟩ | ⟨hr58_2_0, hr58_2_1, hr58_2_2, rfl⟩ | ⟨hr58_3_0, hr58_3_1, rfl⟩
      · refine own_tr st58 ?_
        show own_Go p e below s _ _ _ (T58.setTop (mkF m 73 #[.val (.int p0), .val (.int p1), .val (.ref b1), .val (.int (2 : Int32)), .val (.int (2 : Int32)), .val (.int (33841 : Int32)), .val (.int (1 : Int32))] [(.int (1 : Int32))]))
        refine own_via (fun _ k => XS.iload X58.here hx rfl (hb hby at_73) rfl k) ?_
        show own_Go p e below s _ _ _ (T58.setTop (mkF m 75 #[.val (.int p0), .val (.int p1), .val (.ref b1), .val (.int (2 : Int32)), .val (.int (2 : Int32)), .val (.int (33841 : Int32)), .val (.int (1 : Int32))] [(.int (1 : Int32)), (.int (1 : Int32))]))
        refine own_via (fun _ k => XS.icmpNo X58.here hx rfl (hb hby at_75) rfl (teq (by decide : (1 : Int32) = (1 : Int32))).2 k) ?_
        show own_Go p e below s _ _ _ (T58.setTop (mkF m 78 #[.val (.int p0), .val (.int p1), .val (.ref b1), .val (.int (2 : Int32)), .val (.int (2 : Int32)), .val (.int (33841 : Int32)), .val (.int (1 : Int32))] []))
        refine own_via (fun _ k => XS.iconst X58.here hx rfl (hb hby at_78) k) ?_
        show own_Go p e below s _ _ _ (T58.setTop (mkF m 79 #[.val (.int p0), .val (.int p1), .val (.ref b1), .val (.int (2 : Int32)), .val (.int (2 : Int32)), .val (.int (33841 : Int32)), .val (.int (1 : Int32))] [(.int (1 : Int32))]))
        refine own_via (fun _ k => XS.goto X58.here hx rfl (pc0 := 79) (pc' := 83) rfl (hb hby at_79) (by decide) (by decide) k) ?_
        show own_Go p e below s _ _ _ (T58.setTop (mkF m 83 #[.val (.int p0), .val (.int p1), .val (.ref b1), .val (.int (2 : Int32)), .val (.int (2 : Int32)), .val (.int (33841 : Int32)), .val (.int (1 : Int32))] [(.int (1 : Int32))]))
        exact own_retZ X58 hx hlk (t := .boolean) Bd.returns (by simp) (hb hby at_83) (z' := (1 : Int32)) (by first | rfl | decide) ⟨rfl, (Fr.app N9 (Fr.nil n0))⟩ (by decide) (by decide)
      · exact absurd rfl hr58_1_0
      · exact absurd rfl hr58_2_0
      · exact absurd rfl hr58_3_0
    · rw [hk49]
      show own_Go p e below s _ _ _ (T9.setTop (mkF m 36 #[.val (.int p0), .val (.int p1), .val (.ref b1), .val (.int (2 : Int32)), .unset, .unset, .unset] [(.int (3 : Int32))]))
      refine own_via (fun _ k => XS.istore X9.here hx rfl (hb hby at_36) rfl (l' := #[.val (.int p0), .val (.int p1), .val (.ref b1), .val (.int (2 : Int32)), .val (.int (3 : Int32)), .unset, .unset]) rfl k) ?_
      show own_Go p e below s _ _ _ (T9.setTop (mkF m 38 #[.val (.int p0), .val (.int p1), .val (.ref b1), .val (.int (2 : Int32)), .val (.int (3 : Int32)), .unset, .unset] []))
      refine own_via (fun _ k => X9.ldcInt hx hown (mvT hZ (hw _ (List.mem_of_getElem? (i := 12) rfl))) (g := (mkF m 38 #[.val (.int p0), .val (.int p1), .val (.ref b1), .val (.int (2 : Int32)), .val (.int (3 : Int32)), .unset, .unset] [])) rfl (hb hby at_38) _ k) ?_
      show own_Go p e below s _ _ _ (T9.setTop (mkF m 40 #[.val (.int p0), .val (.int p1), .val (.ref b1), .val (.int (2 : Int32)), .val (.int (3 : Int32)), .unset, .unset] [(.int (33841 : Int32))]))
      refine own_via (fun _ k => XS.istore X9.here hx rfl (hb hby at_40) rfl (l' := #[.val (.int p0), .val (.int p1), .val (.ref b1), .val (.int (2 : Int32)), .val (.int (3 : Int32)), .val (.int (33841 : Int32)), .unset]) rfl k) ?_
      show own_Go p e below s _ _ _ (T9.setTop (mkF m 42 #[.val (.int p0), .val (.int p1), .val (.ref b1), .val (.int (2 : Int32)), .val (.int (3 : Int32)), .val (.int (33841 : Int32)), .unset] []))
      refine own_via (fun _ k => XS.iload X9.here hx rfl (hb hby at_42) rfl k) ?_
      show own_Go p e below s _ _ _ (T9.setTop (mkF m 44 #[.val (.int p0), .val (.int p1), .val (.ref b1), .val (.int (2 : Int32)), .val (.int (3 : Int32)), .val (.int (33841 : Int32)), .unset] [(.int (33841 : Int32))]))
      refine own_via (fun _ k => XS.iloadN X9.here hx rfl (hb hby at_44) rfl k) ?_
      show own_Go p e below s _ _ _ (T9.setTop (mkF m 45 #[.val (.int p0), .val (.int p1), .val (.ref b1), .val (.int (2 : Int32)), .val (.int (3 : Int32)), .val (.int (33841 : Int32)), .unset] [(.int (2 : Int32)), (.int (33841 : Int32))]))
      refine own_via (fun _ k => XS.iconst X9.here hx rfl (hb hby at_45) k) ?_
      show own_Go p e below s _ _ _ (T9.setTop (mkF m 46 #[.val (.int p0), .val (.int p1), .val (.ref b1), .val (.int (2 : Int32)), .val (.int (3 : Int32)), .val (.int (33841 : Int32)), .unset] [(.int (4 : Int32)), (.int (2 : Int32)), (.int (33841 : Int32))]))
      refine own_via (fun _ k => XS.imul X9.here hx rfl (hb hby at_46) rfl k) ?_
      show own_Go p e below s _ _ _ (T9.setTop (mkF m 47 #[.val (.int p0), .val (.int p1), .val (.ref b1), .val (.int (2 : Int32)), .val (.int (3 : Int32)), .val (.int (33841 : Int32)), .unset] [(.int ((2 : Int32) * (4 : Int32))), (.int (33841 : Int32))]))
      refine own_via (fun _ k => XS.iload X9.here hx rfl (hb hby at_47) rfl k) ?_
      show own_Go p e below s _ _ _ (T9.setTop (mkF m 49 #[.val (.int p0), .val (.int p1), .val (.ref b1), .val (.int (2 : Int32)), .val (.int (3 : Int32)), .val (.int (33841 : Int32)), .unset] [(.int (3 : Int32)), (.int ((2 : Int32) * (4 : Int32))), (.int (33841 : Int32))]))
      refine own_via (fun _ k => XS.iadd X9.here hx rfl (hb hby at_49) rfl k) ?_
      show own_Go p e below s _ _ _ (T9.setTop (mkF m 50 #[.val (.int p0), .val (.int p1), .val (.ref b1), .val (.int (2 : Int32)), .val (.int (3 : Int32)), .val (.int (33841 : Int32)), .unset] [(.int (((2 : Int32) * (4 : Int32)) + (3 : Int32))), (.int (33841 : Int32))]))
      refine own_via (fun _ k => XS.ishr X9.here hx rfl (hb hby at_50) rfl k) ?_
      show own_Go p e below s _ _ _ (T9.setTop (mkF m 51 #[.val (.int p0), .val (.int p1), .val (.ref b1), .val (.int (2 : Int32)), .val (.int (3 : Int32)), .val (.int (33841 : Int32)), .unset] [(.int ((33841 : Int32) >>> ((((2 : Int32) * (4 : Int32)) + (3 : Int32)) &&& 31)))]))
      refine own_via (fun _ k => XS.iconst X9.here hx rfl (hb hby at_51) k) ?_
      show own_Go p e below s _ _ _ (T9.setTop (mkF m 52 #[.val (.int p0), .val (.int p1), .val (.ref b1), .val (.int (2 : Int32)), .val (.int (3 : Int32)), .val (.int (33841 : Int32)), .unset] [(.int (1 : Int32)), (.int ((33841 : Int32) >>> ((((2 : Int32) * (4 : Int32)) + (3 : Int32)) &&& 31)))]))
      refine own_via (fun _ k => XS.iand X9.here hx rfl (hb hby at_52) rfl k) ?_
      show own_Go p e below s _ _ _ (T9.setTop (mkF m 53 #[.val (.int p0), .val (.int p1), .val (.ref b1), .val (.int (2 : Int32)), .val (.int (3 : Int32)), .val (.int (33841 : Int32)), .unset] [(.int (((33841 : Int32) >>> ((((2 : Int32) * (4 : Int32)) + (3 : Int32)) &&& 31)) &&& (1 : Int32)))]))
      refine own_via (fun _ k => XS.ifYes X9.here hx rfl (pc0 := 53) (pc' := 60) rfl (hb hby at_53) rfl ((if0 _ _).trans (teq (by decide : (((33841 : Int32) >>> ((((2 : Int32) * (4 : Int32)) + (3 : Int32)) &&& 31)) &&& (1 : Int32)) = (0 : Int32))).1) (by decide) (by decide) k) ?_
      show own_Go p e below s _ _ _ (T9.setTop (mkF m 60 #[.val (.int p0), .val (.int p1), .val (.ref b1), .val (.int (2 : Int32)), .val (.int (3 : Int32)), .val (.int (33841 : Int32)), .unset] []))
      refine own_via (fun _ k => XS.iconst X9.here hx rfl (hb hby at_60) k) ?_
      show own_Go p e below s _ _ _ (T9.setTop (mkF m 61 #[.val (.int p0), .val (.int p1), .val (.ref b1), .val (.int (2 : Int32)), .val (.int (3 : Int32)), .val (.int (33841 : Int32)), .unset] [(.int (0 : Int32))]))
      refine own_via (fun _ k => XS.istore X9.here hx rfl (hb hby at_61) rfl (l' := #[.val (.int p0), .val (.int p1), .val (.ref b1), .val (.int (2 : Int32)), .val (.int (3 : Int32)), .val (.int (33841 : Int32)), .val (.int (0 : Int32))]) rfl k) ?_
      show own_Go p e below s _ _ _ (T9.setTop (mkF m 63 #[.val (.int p0), .val (.int p1), .val (.ref b1), .val (.int (2 : Int32)), .val (.int (3 : Int32)), .val (.int (33841 : Int32)), .val (.int (0 : Int32))] []))
      refine own_via (fun _ k => XS.aloadN X9.here hx rfl (hb hby at_63) rfl rfl k) ?_
      show own_Go p e below s _ _ _ (T9.setTop (mkF m 64 #[.val (.int p0), .val (.int p1), .val (.ref b1), .val (.int (2 : Int32)), .val (.int (3 : Int32)), .val (.int (33841 : Int32)), .val (.int (0 : Int32))] [(.ref b1)]))
      refine own_via (fun _ k => XS.iloadN X9.here hx rfl (hb hby at_64) rfl k) ?_
      show own_Go p e below s _ _ _ (T9.setTop (mkF m 65 #[.val (.int p0), .val (.int p1), .val (.ref b1), .val (.int (2 : Int32)), .val (.int (3 : Int32)), .val (.int (33841 : Int32)), .val (.int (0 : Int32))] [(.int (2 : Int32)), (.ref b1)]))
      have Vx59 := V_b1
      obtain ⟨cl59, Ar59, q59, S59, N59, H59, G59⟩ := Vx59
      have hin59 : ¬ ((2 : Int32) < 0 ∨ cl59.slots.size ≤ ((2 : Int32)).toNatClampNeg) := inb_of S59 ⟨by decide, by decide⟩
      have hat59 : cl59.slots[((2 : Int32)).toNatClampNeg]? = some (.ref w2) := H59.at hin59 rfl
      refine own_via (fun _ k => X9.aaload hx (j := (2 : Int32)) (v := (.ref w2)) (by rw [e9]; exact Ar59.1) (State.isArrayOf_alike hZ.alike Ar59.2.1) rfl Ar59.2.2 hin59 hat59 (g := (mkF m 65 #[.val (.int p0), .val (.int p1), .val (.ref b1), .val (.int (2 : Int32)), .val (.int (3 : Int32)), .val (.int (33841 : Int32)), .val (.int (0 : Int32))] [(.int (2 : Int32)), (.ref b1)])) rfl rfl (hb hby at_65) _ k) ?_
      show own_Go p e below s _ _ _ (T9.setTop (mkF m 66 #[.val (.int p0), .val (.int p1), .val (.ref b1), .val (.int (2 : Int32)), .val (.int (3 : Int32)), .val (.int (33841 : Int32)), .val (.int (0 : Int32))] [(.ref w2)]))
      refine own_via (fun _ k => XS.aloadN X9.here hx rfl (hb hby at_66) rfl rfl k) ?_
      show own_Go p e below s _ _ _ (T9.setTop (mkF m 67 #[.val (.int p0), .val (.int p1), .val (.ref b1), .val (.int (2 : Int32)), .val (.int (3 : Int32)), .val (.int (33841 : Int32)), .val (.int (0 : Int32))] [(.ref b1), (.ref w2)]))
      refine own_via (fun _ k => XS.iload X9.here hx rfl (hb hby at_67) rfl k) ?_
      show own_Go p e below s _ _ _ (T9.setTop (mkF m 69 #[.val (.int p0), .val (.int p1), .val (.ref b1), .val (.int (2 : Int32)), .val (.int (3 : Int32)), .val (.int (33841 : Int32)), .val (.int (0 : Int32))] [(.int (3 : Int32)), (.ref b1), (.ref w2)]))
      have Vx60 := V_b1
      obtain ⟨cl60, Ar60, q60, S60, N60, H60, G60⟩ := Vx60
      have hin60 : ¬ ((3 : Int32) < 0 ∨ cl60.slots.size ≤ ((3 : Int32)).toNatClampNeg) := inb_of S60 ⟨by decide, by decide⟩
      have hat60 : cl60.slots[((3 : Int32)).toNatClampNeg]? = some (.ref w3) := H60.at hin60 rfl
      refine own_via (fun _ k => X9.aaload hx (j := (3 : Int32)) (v := (.ref w3)) (by rw [e9]; exact Ar60.1) (State.isArrayOf_alike hZ.alike Ar60.2.1) rfl Ar60.2.2 hin60 hat60 (g := (mkF m 69 #[.val (.int p0), .val (.int p1), .val (.ref b1), .val (.int (2 : Int32)), .val (.int (3 : Int32)), .val (.int (33841 : Int32)), .val (.int (0 : Int32))] [(.int (3 : Int32)), (.ref b1), (.ref w2)])) rfl rfl (hb hby at_69) _ k) ?_
      show own_Go p e below s _ _ _ (T9.setTop (mkF m 70 #[.val (.int p0), .val (.int p1), .val (.ref b1), .val (.int (2 : Int32)), .val (.int (3 : Int32)), .val (.int (33841 : Int32)), .val (.int (0 : Int32))] [(.ref w3), (.ref w2)]))
      obtain ⟨cq61, kq61, q61a, q61b, q61c⟩ := isOf hZ e9 (E_w2.ext OL.2)
      obtain ⟨_, _, ⟨T61, L61, k61, n61⟩, -, X61, ⟨Lc61, hQ61, l61, y61, z61⟩, st61⟩ := X9.virtualBack hx (y := (⟨"com/example/mailbox/mailbox/core/Right", "allows", "(Lcom/example/mailbox/mailbox/core/Right;)Z"⟩ : MethodName)) (z := (⟨"com/example/mailbox/mailbox/core/Right", "allows", "(Lcom/example/mailbox/mailbox/core/Right;)Z"⟩ : MethodName)) hown (mvT hZ (hw _ (List.mem_of_getElem? (i := 13) rfl))) (mvT hZ (hw _ (List.mem_of_getElem? (i := 14) rfl))) (notFace_of_selects (args := #[]) (mvT hZ (hw _ (List.mem_of_getElem? (i := 16) rfl)))) (mvT hZ (hw _ (List.mem_of_getElem? (i := 16) rfl))) (mvT hZ (hw _ (List.mem_of_getElem? (i := 15) rfl))) (by decide) (backOf (W := 0) (rm1_0 l Z a0 hw [] w2 w3 w0 w1 w2 w3 h9 n0 Z0 K0 OL) hZ (hw _ (List.mem_of_getElem? (i := 17) rfl)) (hw _ (List.mem_of_getElem? (i := 3) rfl)) (by decide) (by decide)) q61a q61c (g := (mkF m 70 #[.val (.int p0), .val (.int p1), .val (.ref b1), .val (.int (2 : Int32)), .val (.int (3 : Int32)), .val (.int (33841 : Int32)), .val (.int (0 : Int32))] [(.ref w3), (.ref w2)])) rfl (by rw [hml]; rfl) (Steps.refl _) (argsL := [(.ref w3)]) (rest := []) (lenOf pd0 rfl) rfl (by show 2 * 0 + _ ≤ _; exact Nat.le_of_eq rfl) (hb hby at_70) (fun _ _ => ⟨rfl, e9, (by decide : 0 + 1 + 0 ≤ _), (by decide : 0 + 4 + 0 ≤ _)⟩)
      dsimp only [Pt.U, Pt.locs, Pt.cells, Pt.slots] at X61 l61 y61 z61 st61 hQ61
      subst l61 y61 z61
      obtain ⟨rfl, e61, hO61⟩ := hQ61
      rcases hO61 with ⟨hr61_0_0, rfl⟩ | ⟨hr61_1_0, hr61_1_1, hr61_1_2, rfl⟩ | ⟨hr61_2_0, hr61_2_1, hr61_2_2, rfl⟩ | ⟨hr61_3_0, hr61_3_1, rfl⟩
      · exact absurd hr61_0_0 (fun q => n_w2_w3 q.symm)
      · exact absurd hr61_1_1 (fun q => n_w1_w2 q.symm)
      · exact absurd hr61_2_1 (fun q => n_w1_w2 q.symm)
      · refine own_tr st61 ?_
        show own_Go p e below s _ _ _ (T61.setTop (mkF m 73 #[.val (.int p0), .val (.int p1), .val (.ref b1), .val (.int (2 : Int32)), .val (.int (3 : Int32)), .val (.int (33841 : Int32)), .val (.int (0 : Int32))] [(.int (0 : Int32))]))
        refine own_via (fun _ k => XS.iload X61.here hx rfl (hb hby at_73) rfl k) ?_
        show own_Go p e below s _ _ _ (T61.setTop (mkF m 75 #[.val (.int p0), .val (.int p1), .val (.ref b1), .val (.int (2 : Int32)), .val (.int (3 : Int32)), .val (.int (33841 : Int32)), .val (.int (0 : Int32))] [(.int (0 : Int32)), (.int (0 : Int32))]))
        refine own_via (fun _ k => XS.icmpNo X61.here hx rfl (hb hby at_75) rfl (teq (by decide : (0 : Int32) = (0 : Int32))).2 k) ?_
        show own_Go p e below s _ _ _ (T61.setTop (mkF m 78 #[.val (.int p0), .val (.int p1), .val (.ref b1), .val (.int (2 : Int32)), .val (.int (3 : Int32)), .val (.int (33841 : Int32)), .val (.int (0 : Int32))] []))
        refine own_via (fun _ k => XS.iconst X61.here hx rfl (hb hby at_78) k) ?_
        show own_Go p e below s _ _ _ (T61.setTop (mkF m 79 #[.val (.int p0), .val (.int p1), .val (.ref b1), .val (.int (2 : Int32)), .val (.int (3 : Int32)), .val (.int (33841 : Int32)), .val (.int (0 : Int32))] [(.int (1 : Int32))]))
        refine own_via (fun _ k => XS.goto X61.here hx rfl (pc0 := 79) (pc' := 83) rfl (hb hby at_79) (by decide) (by decide) k) ?_
        show own_Go p e below s _ _ _ (T61.setTop (mkF m 83 #[.val (.int p0), .val (.int p1), .val (.ref b1), .val (.int (2 : Int32)), .val (.int (3 : Int32)), .val (.int (33841 : Int32)), .val (.int (0 : Int32))] [(.int (1 : Int32))]))
        exact own_retZ X61 hx hlk (t := .boolean) Bd.returns (by simp) (hb hby at_83) (z' := (1 : Int32)) (by first | rfl | decide) ⟨rfl, (Fr.app N9 (Fr.nil n0))⟩ (by decide) (by decide)
  · rw [hk13]
    show own_Go p e below s _ _ _ (T9.setTop (mkF m 32 #[.val (.int p0), .val (.int p1), .val (.ref b1), .unset, .unset, .unset, .unset] [(.int (3 : Int32))]))
    refine own_via (fun _ k => XS.istoreN X9.here hx rfl (hb hby at_32) rfl (l' := #[.val (.int p0), .val (.int p1), .val (.ref b1), .val (.int (3 : Int32)), .unset, .unset, .unset]) rfl k) ?_
    show own_Go p e below s _ _ _ (T9.setTop (mkF m 33 #[.val (.int p0), .val (.int p1), .val (.ref b1), .val (.int (3 : Int32)), .unset, .unset, .unset] []))
    refine own_via (fun _ k => XS.iloadN X9.here hx rfl (hb hby at_33) rfl k) ?_
    show own_Go p e below s _ _ _ (T9.setTop (mkF m 34 #[.val (.int p0), .val (.int p1), .val (.ref b1), .val (.int (3 : Int32)), .unset, .unset, .unset] [(.int p1)]))
    refine own_via (fun _ k => XS.iconst X9.here hx rfl (hb hby at_34) k) ?_
    show own_Go p e below s _ _ _ (T9.setTop (mkF m 35 #[.val (.int p0), .val (.int p1), .val (.ref b1), .val (.int (3 : Int32)), .unset, .unset, .unset] [(.int (3 : Int32)), (.int p1)]))
    refine own_via (fun _ k => XS.iand X9.here hx rfl (hb hby at_35) rfl k) ?_
    rcases (own_and3 _ : (p1 &&& (3 : Int32)) = (0 : Int32) ∨ (p1 &&& (3 : Int32)) = (1 : Int32) ∨ (p1 &&& (3 : Int32)) = (2 : Int32) ∨ (p1 &&& (3 : Int32)) = (3 : Int32)) with hk62 | hk63 | hk64 | hk65
    · rw [hk62]
      show own_Go p e below s _ _ _ (T9.setTop (mkF m 36 #[.val (.int p0), .val (.int p1), .val (.ref b1), .val (.int (3 : Int32)), .unset, .unset, .unset] [(.int (0 : Int32))]))
      refine own_via (fun _ k => XS.istore X9.here hx rfl (hb hby at_36) rfl (l' := #[.val (.int p0), .val (.int p1), .val (.ref b1), .val (.int (3 : Int32)), .val (.int (0 : Int32)), .unset, .unset]) rfl k) ?_
      show own_Go p e below s _ _ _ (T9.setTop (mkF m 38 #[.val (.int p0), .val (.int p1), .val (.ref b1), .val (.int (3 : Int32)), .val (.int (0 : Int32)), .unset, .unset] []))
      refine own_via (fun _ k => X9.ldcInt hx hown (mvT hZ (hw _ (List.mem_of_getElem? (i := 12) rfl))) (g := (mkF m 38 #[.val (.int p0), .val (.int p1), .val (.ref b1), .val (.int (3 : Int32)), .val (.int (0 : Int32)), .unset, .unset] [])) rfl (hb hby at_38) _ k) ?_
      show own_Go p e below s _ _ _ (T9.setTop (mkF m 40 #[.val (.int p0), .val (.int p1), .val (.ref b1), .val (.int (3 : Int32)), .val (.int (0 : Int32)), .unset, .unset] [(.int (33841 : Int32))]))
      refine own_via (fun _ k => XS.istore X9.here hx rfl (hb hby at_40) rfl (l' := #[.val (.int p0), .val (.int p1), .val (.ref b1), .val (.int (3 : Int32)), .val (.int (0 : Int32)), .val (.int (33841 : Int32)), .unset]) rfl k) ?_
      show own_Go p e below s _ _ _ (T9.setTop (mkF m 42 #[.val (.int p0), .val (.int p1), .val (.ref b1), .val (.int (3 : Int32)), .val (.int (0 : Int32)), .val (.int (33841 : Int32)), .unset] []))
      refine own_via (fun _ k => XS.iload X9.here hx rfl (hb hby at_42) rfl k) ?_
      show own_Go p e below s _ _ _ (T9.setTop (mkF m 44 #[.val (.int p0), .val (.int p1), .val (.ref b1), .val (.int (3 : Int32)), .val (.int (0 : Int32)), .val (.int (33841 : Int32)), .unset] [(.int (33841 : Int32))]))
      refine own_via (fun _ k => XS.iloadN X9.here hx rfl (hb hby at_44) rfl k) ?_
      show own_Go p e below s _ _ _ (T9.setTop (mkF m 45 #[.val (.int p0), .val (.int p1), .val (.ref b1), .val (.int (3 : Int32)), .val (.int (0 : Int32)), .val (.int (33841 : Int32)), .unset] [(.int (3 : Int32)), (.int (33841 : Int32))]))
      refine own_via (fun _ k => XS.iconst X9.here hx rfl (hb hby at_45) k) ?_
      show own_Go p e below s _ _ _ (T9.setTop (mkF m 46 #[.val (.int p0), .val (.int p1), .val (.ref b1), .val (.int (3 : Int32)), .val (.int (0 : Int32)), .val (.int (33841 : Int32)), .unset] [(.int (4 : Int32)), (.int (3 : Int32)), (.int (33841 : Int32))]))
      refine own_via (fun _ k => XS.imul X9.here hx rfl (hb hby at_46) rfl k) ?_
      show own_Go p e below s _ _ _ (T9.setTop (mkF m 47 #[.val (.int p0), .val (.int p1), .val (.ref b1), .val (.int (3 : Int32)), .val (.int (0 : Int32)), .val (.int (33841 : Int32)), .unset] [(.int ((3 : Int32) * (4 : Int32))), (.int (33841 : Int32))]))
      refine own_via (fun _ k => XS.iload X9.here hx rfl (hb hby at_47) rfl k) ?_
      show own_Go p e below s _ _ _ (T9.setTop (mkF m 49 #[.val (.int p0), .val (.int p1), .val (.ref b1), .val (.int (3 : Int32)), .val (.int (0 : Int32)), .val (.int (33841 : Int32)), .unset] [(.int (0 : Int32)), (.int ((3 : Int32) * (4 : Int32))), (.int (33841 : Int32))]))
      refine own_via (fun _ k => XS.iadd X9.here hx rfl (hb hby at_49) rfl k) ?_
      show own_Go p e below s _ _ _ (T9.setTop (mkF m 50 #[.val (.int p0), .val (.int p1), .val (.ref b1), .val (.int (3 : Int32)), .val (.int (0 : Int32)), .val (.int (33841 : Int32)), .unset] [(.int (((3 : Int32) * (4 : Int32)) + (0 : Int32))), (.int (33841 : Int32))]))
      refine own_via (fun _ k => XS.ishr X9.here hx rfl (hb hby at_50) rfl k) ?_
      show own_Go p e below s _ _ _ (T9.setTop (mkF m 51 #[.val (.int p0), .val (.int p1), .val (.ref b1), .val (.int (3 : Int32)), .val (.int (0 : Int32)), .val (.int (33841 : Int32)), .unset] [(.int ((33841 : Int32) >>> ((((3 : Int32) * (4 : Int32)) + (0 : Int32)) &&& 31)))]))
      refine own_via (fun _ k => XS.iconst X9.here hx rfl (hb hby at_51) k) ?_
      show own_Go p e below s _ _ _ (T9.setTop (mkF m 52 #[.val (.int p0), .val (.int p1), .val (.ref b1), .val (.int (3 : Int32)), .val (.int (0 : Int32)), .val (.int (33841 : Int32)), .unset] [(.int (1 : Int32)), (.int ((33841 : Int32) >>> ((((3 : Int32) * (4 : Int32)) + (0 : Int32)) &&& 31)))]))
      refine own_via (fun _ k => XS.iand X9.here hx rfl (hb hby at_52) rfl k) ?_
      show own_Go p e below s _ _ _ (T9.setTop (mkF m 53 #[.val (.int p0), .val (.int p1), .val (.ref b1), .val (.int (3 : Int32)), .val (.int (0 : Int32)), .val (.int (33841 : Int32)), .unset] [(.int (((33841 : Int32) >>> ((((3 : Int32) * (4 : Int32)) + (0 : Int32)) &&& 31)) &&& (1 : Int32)))]))
      refine own_via (fun _ k => XS.ifYes X9.here hx rfl (pc0 := 53) (pc' := 60) rfl (hb hby at_53) rfl ((if0 _ _).trans (teq (by decide : (((33841 : Int32) >>> ((((3 : Int32) * (4 : Int32)) + (0 : Int32)) &&& 31)) &&& (1 : Int32)) = (0 : Int32))).1) (by decide) (by decide) k) ?_
      show own_Go p e below s _ _ _ (T9.setTop (mkF m 60 #[.val (.int p0), .val (.int p1), .val (.ref b1), .val (.int (3 : Int32)), .val (.int (0 : Int32)), .val (.int (33841 : Int32)), .unset] []))
      refine own_via (fun _ k => XS.iconst X9.here hx rfl (hb hby at_60) k) ?_
      show own_Go p e below s _ _ _ (T9.setTop (mkF m 61 #[.val (.int p0), .val (.int p1), .val (.ref b1), .val (.int (3 : Int32)), .val (.int (0 : Int32)), .val (.int (33841 : Int32)), .unset] [(.int (0 : Int32))]))
      refine own_via (fun _ k => XS.istore X9.here hx rfl (hb hby at_61) rfl (l' := #[.val (.int p0), .val (.int p1), .val (.ref b1), .val (.int (3 : Int32)), .val (.int (0 : Int32)), .val (.int (33841 : Int32)), .val (.int (0 : Int32))]) rfl k) ?_
      show own_Go p e below s _ _ _ (T9.setTop (mkF m 63 #[.val (.int p0), .val (.int p1), .val (.ref b1), .val (.int (3 : Int32)), .val (.int (0 : Int32)), .val (.int (33841 : Int32)), .val (.int (0 : Int32))] []))
      refine own_via (fun _ k => XS.aloadN X9.here hx rfl (hb hby at_63) rfl rfl k) ?_
      show own_Go p e below s _ _ _ (T9.setTop (mkF m 64 #[.val (.int p0), .val (.int p1), .val (.ref b1), .val (.int (3 : Int32)), .val (.int (0 : Int32)), .val (.int (33841 : Int32)), .val (.int (0 : Int32))] [(.ref b1)]))
      refine own_via (fun _ k => XS.iloadN X9.here hx rfl (hb hby at_64) rfl k) ?_
      show own_Go p e below s _ _ _ (T9.setTop (mkF m 65 #[.val (.int p0), .val (.int p1), .val (.ref b1), .val (.int (3 : Int32)), .val (.int (0 : Int32)), .val (.int (33841 : Int32)), .val (.int (0 : Int32))] [(.int (3 : Int32)), (.ref b1)]))
      have Vx66 := V_b1
      obtain ⟨cl66, Ar66, q66, S66, N66, H66, G66⟩ := Vx66
      have hin66 : ¬ ((3 : Int32) < 0 ∨ cl66.slots.size ≤ ((3 : Int32)).toNatClampNeg) := inb_of S66 ⟨by decide, by decide⟩
      have hat66 : cl66.slots[((3 : Int32)).toNatClampNeg]? = some (.ref w3) := H66.at hin66 rfl
      refine own_via (fun _ k => X9.aaload hx (j := (3 : Int32)) (v := (.ref w3)) (by rw [e9]; exact Ar66.1) (State.isArrayOf_alike hZ.alike Ar66.2.1) rfl Ar66.2.2 hin66 hat66 (g := (mkF m 65 #[.val (.int p0), .val (.int p1), .val (.ref b1), .val (.int (3 : Int32)), .val (.int (0 : Int32)), .val (.int (33841 : Int32)), .val (.int (0 : Int32))] [(.int (3 : Int32)), (.ref b1)])) rfl rfl (hb hby at_65) _ k) ?_
      show own_Go p e below s _ _ _ (T9.setTop (mkF m 66 #[.val (.int p0), .val (.int p1), .val (.ref b1), .val (.int (3 : Int32)), .val (.int (0 : Int32)), .val (.int (33841 : Int32)), .val (.int (0 : Int32))] [(.ref w3)]))
      refine own_via (fun _ k => XS.aloadN X9.here hx rfl (hb hby at_66) rfl rfl k) ?_
      show own_Go p e below s _ _ _ (T9.setTop (mkF m 67 #[.val (.int p0), .val (.int p1), .val (.ref b1), .val (.int (3 : Int32)), .val (.int (0 : Int32)), .val (.int (33841 : Int32)), .val (.int (0 : Int32))] [(.ref b1), (.ref w3)]))
      refine own_via (fun _ k => XS.iload X9.here hx rfl (hb hby at_67) rfl k) ?_
      show own_Go p e below s _ _ _ (T9.setTop (mkF m 69 #[.val (.int p0), .val (.int p1), .val (.ref b1), .val (.int (3 : Int32)), .val (.int (0 : Int32)), .val (.int (33841 : Int32)), .val (.int (0 : Int32))] [(.int (0 : Int32)), (.ref b1), (.ref w3)]))
      have Vx67 := V_b1
      obtain ⟨cl67, Ar67, q67, S67, N67, H67, G67⟩ := Vx67
      have hin67 : ¬ ((0 : Int32) < 0 ∨ cl67.slots.size ≤ ((0 : Int32)).toNatClampNeg) := inb_of S67 ⟨by decide, by decide⟩
      have hat67 : cl67.slots[((0 : Int32)).toNatClampNeg]? = some (.ref w0) := H67.at hin67 rfl
      refine own_via (fun _ k => X9.aaload hx (j := (0 : Int32)) (v := (.ref w0)) (by rw [e9]; exact Ar67.1) (State.isArrayOf_alike hZ.alike Ar67.2.1) rfl Ar67.2.2 hin67 hat67 (g := (mkF m 69 #[.val (.int p0), .val (.int p1), .val (.ref b1), .val (.int (3 : Int32)), .val (.int (0 : Int32)), .val (.int (33841 : Int32)), .val (.int (0 : Int32))] [(.int (0 : Int32)), (.ref b1), (.ref w3)])) rfl rfl (hb hby at_69) _ k) ?_
      show own_Go p e below s _ _ _ (T9.setTop (mkF m 70 #[.val (.int p0), .val (.int p1), .val (.ref b1), .val (.int (3 : Int32)), .val (.int (0 : Int32)), .val (.int (33841 : Int32)), .val (.int (0 : Int32))] [(.ref w0), (.ref w3)]))
      obtain ⟨cq68, kq68, q68a, q68b, q68c⟩ := isOf hZ e9 (E_w3.ext OL.2)
      obtain ⟨_, _, ⟨T68, L68, k68, n68⟩, -, X68, ⟨Lc68, hQ68, l68, y68, z68⟩, st68⟩ := X9.virtualBack hx (y := (⟨"com/example/mailbox/mailbox/core/Right", "allows", "(Lcom/example/mailbox/mailbox/core/Right;)Z"⟩ : MethodName)) (z := (⟨"com/example/mailbox/mailbox/core/Right", "allows", "(Lcom/example/mailbox/mailbox/core/Right;)Z"⟩ : MethodName)) hown (mvT hZ (hw _ (List.mem_of_getElem? (i := 13) rfl))) (mvT hZ (hw _ (List.mem_of_getElem? (i := 14) rfl))) (notFace_of_selects (args := #[]) (mvT hZ (hw _ (List.mem_of_getElem? (i := 16) rfl)))) (mvT hZ (hw _ (List.mem_of_getElem? (i := 16) rfl))) (mvT hZ (hw _ (List.mem_of_getElem? (i := 15) rfl))) (by decide) (backOf (W := 0) (rm1_0 l Z a0 hw [] w3 w0 w0 w1 w2 w3 h9 n0 Z0 K0 OL) hZ (hw _ (List.mem_of_getElem? (i := 17) rfl)) (hw _ (List.mem_of_getElem? (i := 3) rfl)) (by decide) (by decide)) q68a q68c (g := (mkF m 70 #[.val (.int p0), .val (.int p1), .val (.ref b1), .val (.int (3 : Int32)), .val (.int (0 : Int32)), .val (.int (33841 : Int32)), .val (.int (0 : Int32))] [(.ref w0), (.ref w3)])) rfl (by rw [hml]; rfl) (Steps.refl _) (argsL := [(.ref w0)]) (rest := []) (lenOf pd0 rfl) rfl (by show 2 * 0 + _ ≤ _; exact Nat.le_of_eq rfl) (hb hby at_70) (fun _ _ => ⟨rfl, e9, (by decide : 0 + 1 + 0 ≤ _), (by decide : 0 + 4 + 0 ≤ _)⟩)
      dsimp only [Pt.U, Pt.locs, Pt.cells, Pt.slots] at X68 l68 y68 z68 st68 hQ68
      subst l68 y68 z68
      obtain ⟨rfl, e68, hO68⟩ := hQ68
      rcases hO68 with ⟨hr68_0_0, rfl⟩ | ⟨hr68_1_0, hr68_1_1, hr68_1_2, rfl⟩ | ⟨hr68_2_0, hr68_2_1, hr68_2_2, rfl⟩ | ⟨hr68_3_0, hr68_3_1, rfl⟩
      · exact absurd hr68_0_0 n_w0_w3
      · exact absurd hr68_1_1 (fun q => n_w1_w3 q.symm)
      · exact absurd hr68_2_1 (fun q => n_w1_w3 q.symm)
      · refine own_tr st68 ?_
        show own_Go p e below s _ _ _ (T68.setTop (mkF m 73 #[.val (.int p0), .val (.int p1), .val (.ref b1), .val (.int (3 : Int32)), .val (.int (0 : Int32)), .val (.int (33841 : Int32)), .val (.int (0 : Int32))] [(.int (0 : Int32))]))
        refine own_via (fun _ k => XS.iload X68.here hx rfl (hb hby at_73) rfl k) ?_
        show own_Go p e below s _ _ _ (T68.setTop (mkF m 75 #[.val (.int p0), .val (.int p1), .val (.ref b1), .val (.int (3 : Int32)), .val (.int (0 : Int32)), .val (.int (33841 : Int32)), .val (.int (0 : Int32))] [(.int (0 : Int32)), (.int (0 : Int32))]))
        refine own_via (fun _ k => XS.icmpNo X68.here hx rfl (hb hby at_75) rfl (teq (by decide : (0 : Int32) = (0 : Int32))).2 k) ?_
        show own_Go p e below s _ _ _ (T68.setTop (mkF m 78 #[.val (.int p0), .val (.int p1), .val (.ref b1), .val (.int (3 : Int32)), .val (.int (0 : Int32)), .val (.int (33841 : Int32)), .val (.int (0 : Int32))] []))
        refine own_via (fun _ k => XS.iconst X68.here hx rfl (hb hby at_78) k) ?_
        show own_Go p e below s _ _ _ (T68.setTop (mkF m 79 #[.val (.int p0), .val (.int p1), .val (.ref b1), .val (.int (3 : Int32)), .val (.int (0 : Int32)), .val (.int (33841 : Int32)), .val (.int (0 : Int32))] [(.int (1 : Int32))]))
        refine own_via (fun _ k => XS.goto X68.here hx rfl (pc0 := 79) (pc' := 83) rfl (hb hby at_79) (by decide) (by decide) k) ?_
        show own_Go p e below s _ _ _ (T68.setTop (mkF m 83 #[.val (.int p0), .val (.int p1), .val (.ref b1), .val (.int (3 : Int32)), .val (.int (0 : Int32)), .val (.int (33841 : Int32)), .val (.int (0 : Int32))] [(.int (1 : Int32))]))
        exact own_retZ X68 hx hlk (t := .boolean) Bd.returns (by simp) (hb hby at_83) (z' := (1 : Int32)) (by first | rfl | decide) ⟨rfl, (Fr.app N9 (Fr.nil n0))⟩ (by decide) (by decide)
    · rw [hk63]
      show own_Go p e below s _ _ _ (T9.setTop (mkF m 36 #[.val (.int p0), .val (.int p1), .val (.ref b1), .val (.int (3 : Int32)), .unset, .unset, .unset] [(.int (1 : Int32))]))
      refine own_via (fun _ k => XS.istore X9.here hx rfl (hb hby at_36) rfl (l' := #[.val (.int p0), .val (.int p1), .val (.ref b1), .val (.int (3 : Int32)), .val (.int (1 : Int32)), .unset, .unset]) rfl k) ?_
      show own_Go p e below s _ _ _ (T9.setTop (mkF m 38 #[.val (.int p0), .val (.int p1), .val (.ref b1), .val (.int (3 : Int32)), .val (.int (1 : Int32)), .unset, .unset] []))
      refine own_via (fun _ k => X9.ldcInt hx hown (mvT hZ (hw _ (List.mem_of_getElem? (i := 12) rfl))) (g := (mkF m 38 #[.val (.int p0), .val (.int p1), .val (.ref b1), .val (.int (3 : Int32)), .val (.int (1 : Int32)), .unset, .unset] [])) rfl (hb hby at_38) _ k) ?_
      show own_Go p e below s _ _ _ (T9.setTop (mkF m 40 #[.val (.int p0), .val (.int p1), .val (.ref b1), .val (.int (3 : Int32)), .val (.int (1 : Int32)), .unset, .unset] [(.int (33841 : Int32))]))
      refine own_via (fun _ k => XS.istore X9.here hx rfl (hb hby at_40) rfl (l' := #[.val (.int p0), .val (.int p1), .val (.ref b1), .val (.int (3 : Int32)), .val (.int (1 : Int32)), .val (.int (33841 : Int32)), .unset]) rfl k) ?_
      show own_Go p e below s _ _ _ (T9.setTop (mkF m 42 #[.val (.int p0), .val (.int p1), .val (.ref b1), .val (.int (3 : Int32)), .val (.int (1 : Int32)), .val (.int (33841 : Int32)), .unset] []))
      refine own_via (fun _ k => XS.iload X9.here hx rfl (hb hby at_42) rfl k) ?_
      show own_Go p e below s _ _ _ (T9.setTop (mkF m 44 #[.val (.int p0), .val (.int p1), .val (.ref b1), .val (.int (3 : Int32)), .val (.int (1 : Int32)), .val (.int (33841 : Int32)), .unset] [(.int (33841 : Int32))]))
      refine own_via (fun _ k => XS.iloadN X9.here hx rfl (hb hby at_44) rfl k) ?_
      show own_Go p e below s _ _ _ (T9.setTop (mkF m 45 #[.val (.int p0), .val (.int p1), .val (.ref b1), .val (.int (3 : Int32)), .val (.int (1 : Int32)), .val (.int (33841 : Int32)), .unset] [(.int (3 : Int32)), (.int (33841 : Int32))]))
      refine own_via (fun _ k => XS.iconst X9.here hx rfl (hb hby at_45) k) ?_
      show own_Go p e below s _ _ _ (T9.setTop (mkF m 46 #[.val (.int p0), .val (.int p1), .val (.ref b1), .val (.int (3 : Int32)), .val (.int (1 : Int32)), .val (.int (33841 : Int32)), .unset] [(.int (4 : Int32)), (.int (3 : Int32)), (.int (33841 : Int32))]))
      refine own_via (fun _ k => XS.imul X9.here hx rfl (hb hby at_46) rfl k) ?_
      show own_Go p e below s _ _ _ (T9.setTop (mkF m 47 #[.val (.int p0), .val (.int p1), .val (.ref b1), .val (.int (3 : Int32)), .val (.int (1 : Int32)), .val (.int (33841 : Int32)), .unset] [(.int ((3 : Int32) * (4 : Int32))), (.int (33841 : Int32))]))
      refine own_via (fun _ k => XS.iload X9.here hx rfl (hb hby at_47) rfl k) ?_
      show own_Go p e below s _ _ _ (T9.setTop (mkF m 49 #[.val (.int p0), .val (.int p1), .val (.ref b1), .val (.int (3 : Int32)), .val (.int (1 : Int32)), .val (.int (33841 : Int32)), .unset] [(.int (1 : Int32)), (.int ((3 : Int32) * (4 : Int32))), (.int (33841 : Int32))]))
      refine own_via (fun _ k => XS.iadd X9.here hx rfl (hb hby at_49) rfl k) ?_
      show own_Go p e below s _ _ _ (T9.setTop (mkF m 50 #[.val (.int p0), .val (.int p1), .val (.ref b1), .val (.int (3 : Int32)), .val (.int (1 : Int32)), .val (.int (33841 : Int32)), .unset] [(.int (((3 : Int32) * (4 : Int32)) + (1 : Int32))), (.int (33841 : Int32))]))
      refine own_via (fun _ k => XS.ishr X9.here hx rfl (hb hby at_50) rfl k) ?_
      show own_Go p e below s _ _ _ (T9.setTop (mkF m 51 #[.val (.int p0), .val (.int p1), .val (.ref b1), .val (.int (3 : Int32)), .val (.int (1 : Int32)), .val (.int (33841 : Int32)), .unset] [(.int ((33841 : Int32) >>> ((((3 : Int32) * (4 : Int32)) + (1 : Int32)) &&& 31)))]))
      refine own_via (fun _ k => XS.iconst X9.here hx rfl (hb hby at_51) k) ?_
      show own_Go p e below s _ _ _ (T9.setTop (mkF m 52 #[.val (.int p0), .val (.int p1), .val (.ref b1), .val (.int (3 : Int32)), .val (.int (1 : Int32)), .val (.int (33841 : Int32)), .unset] [(.int (1 : Int32)), (.int ((33841 : Int32) >>> ((((3 : Int32) * (4 : Int32)) + (1 : Int32)) &&& 31)))]))
      refine own_via (fun _ k => XS.iand X9.here hx rfl (hb hby at_52) rfl k) ?_
      show own_Go p e below s _ _ _ (T9.setTop (mkF m 53 #[.val (.int p0), .val (.int p1), .val (.ref b1), .val (.int (3 : Int32)), .val (.int (1 : Int32)), .val (.int (33841 : Int32)), .unset] [(.int (((33841 : Int32) >>> ((((3 : Int32) * (4 : Int32)) + (1 : Int32)) &&& 31)) &&& (1 : Int32)))]))
      refine own_via (fun _ k => XS.ifYes X9.here hx rfl (pc0 := 53) (pc' := 60) rfl (hb hby at_53) rfl ((if0 _ _).trans (teq (by decide : (((33841 : Int32) >>> ((((3 : Int32) * (4 : Int32)) + (1 : Int32)) &&& 31)) &&& (1 : Int32)) = (0 : Int32))).1) (by decide) (by decide) k) ?_
      show own_Go p e below s _ _ _ (T9.setTop (mkF m 60 #[.val (.int p0), .val (.int p1), .val (.ref b1), .val (.int (3 : Int32)), .val (.int (1 : Int32)), .val (.int (33841 : Int32)), .unset] []))
      refine own_via (fun _ k => XS.iconst X9.here hx rfl (hb hby at_60) k) ?_
      show own_Go p e below s _ _ _ (T9.setTop (mkF m 61 #[.val (.int p0), .val (.int p1), .val (.ref b1), .val (.int (3 : Int32)), .val (.int (1 : Int32)), .val (.int (33841 : Int32)), .unset] [(.int (0 : Int32))]))
      refine own_via (fun _ k => XS.istore X9.here hx rfl (hb hby at_61) rfl (l' := #[.val (.int p0), .val (.int p1), .val (.ref b1), .val (.int (3 : Int32)), .val (.int (1 : Int32)), .val (.int (33841 : Int32)), .val (.int (0 : Int32))]) rfl k) ?_
      show own_Go p e below s _ _ _ (T9.setTop (mkF m 63 #[.val (.int p0), .val (.int p1), .val (.ref b1), .val (.int (3 : Int32)), .val (.int (1 : Int32)), .val (.int (33841 : Int32)), .val (.int (0 : Int32))] []))
      refine own_via (fun _ k => XS.aloadN X9.here hx rfl (hb hby at_63) rfl rfl k) ?_
      show own_Go p e below s _ _ _ (T9.setTop (mkF m 64 #[.val (.int p0), .val (.int p1), .val (.ref b1), .val (.int (3 : Int32)), .val (.int (1 : Int32)), .val (.int (33841 : Int32)), .val (.int (0 : Int32))] [(.ref b1)]))
      refine own_via (fun _ k => XS.iloadN X9.here hx rfl (hb hby at_64) rfl k) ?_
      show own_Go p e below s _ _ _ (T9.setTop (mkF m 65 #[.val (.int p0), .val (.int p1), .val (.ref b1), .val (.int (3 : Int32)), .val (.int (1 : Int32)), .val (.int (33841 : Int32)), .val (.int (0 : Int32))] [(.int (3 : Int32)), (.ref b1)]))
      have Vx69 := V_b1
      obtain ⟨cl69, Ar69, q69, S69, N69, H69, G69⟩ := Vx69
      have hin69 : ¬ ((3 : Int32) < 0 ∨ cl69.slots.size ≤ ((3 : Int32)).toNatClampNeg) := inb_of S69 ⟨by decide, by decide⟩
      have hat69 : cl69.slots[((3 : Int32)).toNatClampNeg]? = some (.ref w3) := H69.at hin69 rfl
      refine own_via (fun _ k => X9.aaload hx (j := (3 : Int32)) (v := (.ref w3)) (by rw [e9]; exact Ar69.1) (State.isArrayOf_alike hZ.alike Ar69.2.1) rfl Ar69.2.2 hin69 hat69 (g := (mkF m 65 #[.val (.int p0), .val (.int p1), .val (.ref b1), .val (.int (3 : Int32)), .val (.int (1 : Int32)), .val (.int (33841 : Int32)), .val (.int (0 : Int32))] [(.int (3 : Int32)), (.ref b1)])) rfl rfl (hb hby at_65) _ k) ?_
      show own_Go p e below s _ _ _ (T9.setTop (mkF m 66 #[.val (.int p0), .val (.int p1), .val (.ref b1), .val (.int (3 : Int32)), .val (.int (1 : Int32)), .val (.int (33841 : Int32)), .val (.int (0 : Int32))] [(.ref w3)]))
      refine own_via (fun _ k => XS.aloadN X9.here hx rfl (hb hby at_66) rfl rfl k) ?_
      show own_Go p e below s _ _ _ (T9.setTop (mkF m 67 #[.val (.int p0), .val (.int p1), .val (.ref b1), .val (.int (3 : Int32)), .val (.int (1 : Int32)), .val (.int (33841 : Int32)), .val (.int (0 : Int32))] [(.ref b1), (.ref w3)]))
      refine own_via (fun _ k => XS.iload X9.here hx rfl (hb hby at_67) rfl k) ?_
      show own_Go p e below s _ _ _ (T9.setTop (mkF m 69 #[.val (.int p0), .val (.int p1), .val (.ref b1), .val (.int (3 : Int32)), .val (.int (1 : Int32)), .val (.int (33841 : Int32)), .val (.int (0 : Int32))] [(.int (1 : Int32)), (.ref b1), (.ref w3)]))
      have Vx70 := V_b1
      obtain ⟨cl70, Ar70, q70, S70, N70, H70, G70⟩ := Vx70
      have hin70 : ¬ ((1 : Int32) < 0 ∨ cl70.slots.size ≤ ((1 : Int32)).toNatClampNeg) := inb_of S70 ⟨by decide, by decide⟩
      have hat70 : cl70.slots[((1 : Int32)).toNatClampNeg]? = some (.ref w1) := H70.at hin70 rfl
      refine own_via (fun _ k => X9.aaload hx (j := (1 : Int32)) (v := (.ref w1)) (by rw [e9]; exact Ar70.1) (State.isArrayOf_alike hZ.alike Ar70.2.1) rfl Ar70.2.2 hin70 hat70 (g := (mkF m 69 #[.val (.int p0), .val (.int p1), .val (.ref b1), .val (.int (3 : Int32)), .val (.int (1 : Int32)), .val (.int (33841 : Int32)), .val (.int (0 : Int32))] [(.int (1 : Int32)), (.ref b1), (.ref w3)])) rfl rfl (hb hby at_69) _ k) ?_
      show own_Go p e below s _ _ _ (T9.setTop (mkF m 70 #[.val (.int p0), .val (.int p1), .val (.ref b1), .val (.int (3 : Int32)), .val (.int (1 : Int32)), .val (.int (33841 : Int32)), .val (.int (0 : Int32))] [(.ref w1), (.ref w3)]))
      obtain ⟨cq71, kq71, q71a, q71b, q71c⟩ := isOf hZ e9 (E_w3.ext OL.2)
      obtain ⟨_, _, ⟨T71, L71, k71, n71⟩, -, X71, ⟨Lc71, hQ71, l71, y71, z71⟩, st71⟩ := X9.virtualBack hx (y := (⟨"com/example/mailbox/mailbox/core/Right", "allows", "(Lcom/example/mailbox/mailbox/core/Right;)Z"⟩ : MethodName)) (z := (⟨"com/example/mailbox/mailbox/core/Right", "allows", "(Lcom/example/mailbox/mailbox/core/Right;)Z"⟩ : MethodName)) hown (mvT hZ (hw _ (List.mem_of_getElem? (i := 13) rfl))) (mvT hZ (hw _ (List.mem_of_getElem? (i := 14) rfl))) (notFace_of_selects (args := #[]) (mvT hZ (hw _ (List.mem_of_getElem? (i := 16) rfl)))) (mvT hZ (hw _ (List.mem_of_getElem? (i := 16) rfl))) (mvT hZ (hw _ (List.mem_of_getElem? (i := 15) rfl))) (by decide) (backOf (W := 0) (rm1_0 l Z a0 hw [] w3 w1 w0 w1 w2 w3 h9 n0 Z0 K0 OL) hZ (hw _ (List.mem_of_getElem? (i := 17) rfl)) (hw _ (List.mem_of_getElem? (i := 3) rfl)) (by decide) (by decide)) q71a q71c (g := (mkF m 70 #[.val (.int p0), .val (.int p1), .val (.ref b1), .val (.int (3 : Int32)), .val (.int (1 : Int32)), .val (.int (33841 : Int32)), .val (.int (0 : Int32))] [(.ref w1), (.ref w3)])) rfl (by rw [hml]; rfl) (Steps.refl _) (argsL := [(.ref w1)]) (rest := []) (lenOf pd0 rfl) rfl (by show 2 * 0 + _ ≤ _; exact Nat.le_of_eq rfl) (hb hby at_70) (fun _ _ => ⟨rfl, e9, (by decide : 0 + 1 + 0 ≤ _), (by decide : 0 + 4 + 0 ≤ _)⟩)
      dsimp only [Pt.U, Pt.locs, Pt.cells, Pt.slots] at X71 l71 y71 z71 st71 hQ71
      subst l71 y71 z71
      obtain ⟨rfl, e71, hO71⟩ := hQ71
      rcases hO71 with ⟨hr71_0_0, rfl⟩ | ⟨hr71_1_0, hr71_1_1, hr71_1_2, rfl⟩ | ⟨hr71_2_0, hr71_2_1, hr71_2_2, rfl⟩ | ⟨hr71_3_0, hr71_3_1, rfl⟩
      · exact absurd hr71_0_0 n_w1_w3
      · exact absurd hr71_1_1 (fun q => n_w1_w3 q.symm)
      · exact absurd hr71_2_1 (fun q => n_w1_w3 q.symm)
      · refine own_tr st71 ?_
        show own_Go p e below s _ _ _ (T71.setTop (mkF m 73 #[.val (.int p0), .val (.int p1), .val (.ref b1), .val (.int (3 : Int32)), .val (.int (1 : Int32)), .val (.int (33841 : Int32)), .val (.int (0 : Int32))] [(.int (0 : Int32))]))
        refine own_via (fun _ k => XS.iload X71.here hx rfl (hb hby at_73) rfl k) ?_
        show own_Go p e below s _ _ _ (T71.setTop (mkF m 75 #[.val (.int p0), .val (.int p1), .val (.ref b1), .val (.int (3 : Int32)), .val (.int (1 : Int32)), .val (.int (33841 : Int32)), .val (.int (0 : Int32))] [(.int (0 : Int32)), (.int (0 : Int32))]))
        refine own_via (fun _ k => XS.icmpNo X71.here hx rfl (hb hby at_75) rfl (teq (by decide : (0 : Int32) = (0 : Int32))).2 k) ?_
        show own_Go p e below s _ _ _ (T71.setTop (mkF m 78 #[.val (.int p0), .val (.int p1), .val (.ref b1), .val (.int (3 : Int32)), .val (.int (1 : Int32)), .val (.int (33841 : Int32)), .val (.int (0 : Int32))] []))
        refine own_via (fun _ k => XS.iconst X71.here hx rfl (hb hby at_78) k) ?_
        show own_Go p e below s _ _ _ (T71.setTop (mkF m 79 #[.val (.int p0), .val (.int p1), .val (.ref b1), .val (.int (3 : Int32)), .val (.int (1 : Int32)), .val (.int (33841 : Int32)), .val (.int (0 : Int32))] [(.int (1 : Int32))]))
        refine own_via (fun _ k => XS.goto X71.here hx rfl (pc0 := 79) (pc' := 83) rfl (hb hby at_79) (by decide) (by decide) k) ?_
        show own_Go p e below s _ _ _ (T71.setTop (mkF m 83 #[.val (.int p0), .val (.int p1), .val (.ref b1), .val (.int (3 : Int32)), .val (.int (1 : Int32)), .val (.int (33841 : Int32)), .val (.int (0 : Int32))] [(.int (1 : Int32))]))
        exact own_retZ X71 hx hlk (t := .boolean) Bd.returns (by simp) (hb hby at_83) (z' := (1 : Int32)) (by first | rfl | decide) ⟨rfl, (Fr.app N9 (Fr.nil n0))⟩ (by decide) (by decide)
    · rw [hk64]
      show own_Go p e below s _ _ _ (T9.setTop (mkF m 36 #[.val (.int p0), .val (.int p1), .val (.ref b1), .val (.int (3 : Int32)), .unset, .unset, .unset] [(.int (2 : Int32))]))
      refine own_via (fun _ k => XS.istore X9.here hx rfl (hb hby at_36) rfl (l' := #[.val (.int p0), .val (.int p1), .val (.ref b1), .val (.int (3 : Int32)), .val (.int (2 : Int32)), .unset, .unset]) rfl k) ?_
      show own_Go p e below s _ _ _ (T9.setTop (mkF m 38 #[.val (.int p0), .val (.int p1), .val (.ref b1), .val (.int (3 : Int32)), .val (.int (2 : Int32)), .unset, .unset] []))
      refine own_via (fun _ k => X9.ldcInt hx hown (mvT hZ (hw _ (List.mem_of_getElem? (i := 12) rfl))) (g := (mkF m 38 #[.val (.int p0), .val (.int p1), .val (.ref b1), .val (.int (3 : Int32)), .val (.int (2 : Int32)), .unset, .unset] [])) rfl (hb hby at_38) _ k) ?_
      show own_Go p e below s _ _ _ (T9.setTop (mkF m 40 #[.val (.int p0), .val (.int p1), .val (.ref b1), .val (.int (3 : Int32)), .val (.int (2 : Int32)), .unset, .unset] [(.int (33841 : Int32))]))
      refine own_via (fun _ k => XS.istore X9.here hx rfl (hb hby at_40) rfl (l' := #[.val (.int p0), .val (.int p1), .val (.ref b1), .val (.int (3 : Int32)), .val (.int (2 : Int32)), .val (.int (33841 : Int32)), .unset]) rfl k) ?_
      show own_Go p e below s _ _ _ (T9.setTop (mkF m 42 #[.val (.int p0), .val (.int p1), .val (.ref b1), .val (.int (3 : Int32)), .val (.int (2 : Int32)), .val (.int (33841 : Int32)), .unset] []))
      refine own_via (fun _ k => XS.iload X9.here hx rfl (hb hby at_42) rfl k) ?_
      show own_Go p e below s _ _ _ (T9.setTop (mkF m 44 #[.val (.int p0), .val (.int p1), .val (.ref b1), .val (.int (3 : Int32)), .val (.int (2 : Int32)), .val (.int (33841 : Int32)), .unset] [(.int (33841 : Int32))]))
      refine own_via (fun _ k => XS.iloadN X9.here hx rfl (hb hby at_44) rfl k) ?_
      show own_Go p e below s _ _ _ (T9.setTop (mkF m 45 #[.val (.int p0), .val (.int p1), .val (.ref b1), .val (.int (3 : Int32)), .val (.int (2 : Int32)), .val (.int (33841 : Int32)), .unset] [(.int (3 : Int32)), (.int (33841 : Int32))]))
      refine own_via (fun _ k => XS.iconst X9.here hx rfl (hb hby at_45) k) ?_
      show own_Go p e below s _ _ _ (T9.setTop (mkF m 46 #[.val (.int p0), .val (.int p1), .val (.ref b1), .val (.int (3 : Int32)), .val (.int (2 : Int32)), .val (.int (33841 : Int32)), .unset] [(.int (4 : Int32)), (.int (3 : Int32)), (.int (33841 : Int32))]))
      refine own_via (fun _ k => XS.imul X9.here hx rfl (hb hby at_46) rfl k) ?_
      show own_Go p e below s _ _ _ (T9.setTop (mkF m 47 #[.val (.int p0), .val (.int p1), .val (.ref b1), .val (.int (3 : Int32)), .val (.int (2 : Int32)), .val (.int (33841 : Int32)), .unset] [(.int ((3 : Int32) * (4 : Int32))), (.int (33841 : Int32))]))
      refine own_via (fun _ k => XS.iload X9.here hx rfl (hb hby at_47) rfl k) ?_
      show own_Go p e below s _ _ _ (T9.setTop (mkF m 49 #[.val (.int p0), .val (.int p1), .val (.ref b1), .val (.int (3 : Int32)), .val (.int (2 : Int32)), .val (.int (33841 : Int32)), .unset] [(.int (2 : Int32)), (.int ((3 : Int32) * (4 : Int32))), (.int (33841 : Int32))]))
      refine own_via (fun _ k => XS.iadd X9.here hx rfl (hb hby at_49) rfl k) ?_
      show own_Go p e below s _ _ _ (T9.setTop (mkF m 50 #[.val (.int p0), .val (.int p1), .val (.ref b1), .val (.int (3 : Int32)), .val (.int (2 : Int32)), .val (.int (33841 : Int32)), .unset] [(.int (((3 : Int32) * (4 : Int32)) + (2 : Int32))), (.int (33841 : Int32))]))
      refine own_via (fun _ k => XS.ishr X9.here hx rfl (hb hby at_50) rfl k) ?_
      show own_Go p e below s _ _ _ (T9.setTop (mkF m 51 #[.val (.int p0), .val (.int p1), .val (.ref b1), .val (.int (3 : Int32)), .val (.int (2 : Int32)), .val (.int (33841 : Int32)), .unset] [(.int ((33841 : Int32) >>> ((((3 : Int32) * (4 : Int32)) + (2 : Int32)) &&& 31)))]))
      refine own_via (fun _ k => XS.iconst X9.here hx rfl (hb hby at_51) k) ?_
      show own_Go p e below s _ _ _ (T9.setTop (mkF m 52 #[.val (.int p0), .val (.int p1), .val (.ref b1), .val (.int (3 : Int32)), .val (.int (2 : Int32)), .val (.int (33841 : Int32)), .unset] [(.int (1 : Int32)), (.int ((33841 : Int32) >>> ((((3 : Int32) * (4 : Int32)) + (2 : Int32)) &&& 31)))]))
      refine own_via (fun _ k => XS.iand X9.here hx rfl (hb hby at_52) rfl k) ?_
      show own_Go p e below s _ _ _ (T9.setTop (mkF m 53 #[.val (.int p0), .val (.int p1), .val (.ref b1), .val (.int (3 : Int32)), .val (.int (2 : Int32)), .val (.int (33841 : Int32)), .unset] [(.int (((33841 : Int32) >>> ((((3 : Int32) * (4 : Int32)) + (2 : Int32)) &&& 31)) &&& (1 : Int32)))]))
      refine own_via (fun _ k => XS.ifYes X9.here hx rfl (pc0 := 53) (pc' := 60) rfl (hb hby at_53) rfl ((if0 _ _).trans (teq (by decide : (((33841 : Int32) >>> ((((3 : Int32) * (4 : Int32)) + (2 : Int32)) &&& 31)) &&& (1 : Int32)) = (0 : Int32))).1) (by decide) (by decide) k) ?_
      show own_Go p e below s _ _ _ (T9.setTop (mkF m 60 #[.val (.int p0), .val (.int p1), .val (.ref b1), .val (.int (3 : Int32)), .val (.int (2 : Int32)), .val (.int (33841 : Int32)), .unset] []))
      refine own_via (fun _ k => XS.iconst X9.here hx rfl (hb hby at_60) k) ?_
      show own_Go p e below s _ _ _ (T9.setTop (mkF m 61 #[.val (.int p0), .val (.int p1), .val (.ref b1), .val (.int (3 : Int32)), .val (.int (2 : Int32)), .val (.int (33841 : Int32)), .unset] [(.int (0 : Int32))]))
      refine own_via (fun _ k => XS.istore X9.here hx rfl (hb hby at_61) rfl (l' := #[.val (.int p0), .val (.int p1), .val (.ref b1), .val (.int (3 : Int32)), .val (.int (2 : Int32)), .val (.int (33841 : Int32)), .val (.int (0 : Int32))]) rfl k) ?_
      show own_Go p e below s _ _ _ (T9.setTop (mkF m 63 #[.val (.int p0), .val (.int p1), .val (.ref b1), .val (.int (3 : Int32)), .val (.int (2 : Int32)), .val (.int (33841 : Int32)), .val (.int (0 : Int32))] []))
      refine own_via (fun _ k => XS.aloadN X9.here hx rfl (hb hby at_63) rfl rfl k) ?_
      show own_Go p e below s _ _ _ (T9.setTop (mkF m 64 #[.val (.int p0), .val (.int p1), .val (.ref b1), .val (.int (3 : Int32)), .val (.int (2 : Int32)), .val (.int (33841 : Int32)), .val (.int (0 : Int32))] [(.ref b1)]))
      refine own_via (fun _ k => XS.iloadN X9.here hx rfl (hb hby at_64) rfl k) ?_
      show own_Go p e below s _ _ _ (T9.setTop (mkF m 65 #[.val (.int p0), .val (.int p1), .val (.ref b1), .val (.int (3 : Int32)), .val (.int (2 : Int32)), .val (.int (33841 : Int32)), .val (.int (0 : Int32))] [(.int (3 : Int32)), (.ref b1)]))
      have Vx72 := V_b1
      obtain ⟨cl72, Ar72, q72, S72, N72, H72, G72⟩ := Vx72
      have hin72 : ¬ ((3 : Int32) < 0 ∨ cl72.slots.size ≤ ((3 : Int32)).toNatClampNeg) := inb_of S72 ⟨by decide, by decide⟩
      have hat72 : cl72.slots[((3 : Int32)).toNatClampNeg]? = some (.ref w3) := H72.at hin72 rfl
      refine own_via (fun _ k => X9.aaload hx (j := (3 : Int32)) (v := (.ref w3)) (by rw [e9]; exact Ar72.1) (State.isArrayOf_alike hZ.alike Ar72.2.1) rfl Ar72.2.2 hin72 hat72 (g := (mkF m 65 #[.val (.int p0), .val (.int p1), .val (.ref b1), .val (.int (3 : Int32)), .val (.int (2 : Int32)), .val (.int (33841 : Int32)), .val (.int (0 : Int32))] [(.int (3 : Int32)), (.ref b1)])) rfl rfl (hb hby at_65) _ k) ?_
      show own_Go p e below s _ _ _ (T9.setTop (mkF m 66 #[.val (.int p0), .val (.int p1), .val (.ref b1), .val (.int (3 : Int32)), .val (.int (2 : Int32)), .val (.int (33841 : Int32)), .val (.int (0 : Int32))] [(.ref w3)]))
      refine own_via (fun _ k => XS.aloadN X9.here hx rfl (hb hby at_66) rfl rfl k) ?_
      show own_Go p e below s _ _ _ (T9.setTop (mkF m 67 #[.val (.int p0), .val (.int p1), .val (.ref b1), .val (.int (3 : Int32)), .val (.int (2 : Int32)), .val (.int (33841 : Int32)), .val (.int (0 : Int32))] [(.ref b1), (.ref w3)]))
      refine own_via (fun _ k => XS.iload X9.here hx rfl (hb hby at_67) rfl k) ?_
      show own_Go p e below s _ _ _ (T9.setTop (mkF m 69 #[.val (.int p0), .val (.int p1), .val (.ref b1), .val (.int (3 : Int32)), .val (.int (2 : Int32)), .val (.int (33841 : Int32)), .val (.int (0 : Int32))] [(.int (2 : Int32)), (.ref b1), (.ref w3)]))
      have Vx73 := V_b1
      obtain ⟨cl73, Ar73, q73, S73, N73, H73, G73⟩ := Vx73
      have hin73 : ¬ ((2 : Int32) < 0 ∨ cl73.slots.size ≤ ((2 : Int32)).toNatClampNeg) := inb_of S73 ⟨by decide, by decide⟩
      have hat73 : cl73.slots[((2 : Int32)).toNatClampNeg]? = some (.ref w2) := H73.at hin73 rfl
      refine own_via (fun _ k => X9.aaload hx (j := (2 : Int32)) (v := (.ref w2)) (by rw [e9]; exact Ar73.1) (State.isArrayOf_alike hZ.alike Ar73.2.1) rfl Ar73.2.2 hin73 hat73 (g := (mkF m 69 #[.val (.int p0), .val (.int p1), .val (.ref b1), .val (.int (3 : Int32)), .val (.int (2 : Int32)), .val (.int (33841 : Int32)), .val (.int (0 : Int32))] [(.int (2 : Int32)), (.ref b1), (.ref w3)])) rfl rfl (hb hby at_69) _ k) ?_
      show own_Go p e below s _ _ _ (T9.setTop (mkF m 70 #[.val (.int p0), .val (.int p1), .val (.ref b1), .val (.int (3 : Int32)), .val (.int (2 : Int32)), .val (.int (33841 : Int32)), .val (.int (0 : Int32))] [(.ref w2), (.ref w3)]))
      obtain ⟨cq74, kq74, q74a, q74b, q74c⟩ := isOf hZ e9 (E_w3.ext OL.2)
      obtain ⟨_, _, ⟨T74, L74, k74, n74⟩, -, X74, ⟨Lc74, hQ74, l74, y74, z74⟩, st74⟩ := X9.virtualBack hx (y := (⟨"com/example/mailbox/mailbox/core/Right", "allows", "(Lcom/example/mailbox/mailbox/core/Right;)Z"⟩ : MethodName)) (z := (⟨"com/example/mailbox/mailbox/core/Right", "allows", "(Lcom/example/mailbox/mailbox/core/Right;)Z"⟩ : MethodName)) hown (mvT hZ (hw _ (List.mem_of_getElem? (i := 13) rfl))) (mvT hZ (hw _ (List.mem_of_getElem? (i := 14) rfl))) (notFace_of_selects (args := #[]) (mvT hZ (hw _ (List.mem_of_getElem? (i := 16) rfl)))) (mvT hZ (hw _ (List.mem_of_getElem? (i := 16) rfl))) (mvT hZ (hw _ (List.mem_of_getElem? (i := 15) rfl))) (by decide) (backOf (W := 0) (rm1_0 l Z a0 hw [] w3 w2 w0 w1 w2 w3 h9 n0 Z0 K0 OL) hZ (hw _ (List.mem_of_getElem? (i := 17) rfl)) (hw _ (List.mem_of_getElem? (i := 3) rfl)) (by decide) (by decide)) q74a q74c (g := (mkF m 70 #[.val (.int p0), .val (.int p1), .val (.ref b1), .val (.int (3 : Int32)), .val (.int (2 : Int32)), .val (.int (33841 : Int32)), .val (.int (0 : Int32))] [(.ref w2), (.ref w3)])) rfl (by rw [hml]; rfl) (Steps.refl _) (argsL := [(.ref w2)]) (rest := []) (lenOf pd0 rfl) rfl (by show 2 * 0 + _ ≤ _; exact Nat.le_of_eq rfl) (hb hby at_70) (fun _ _ => ⟨rfl, e9, (by decide : 0 + 1 + 0 ≤ _), (by decide : 0 + 4 + 0 ≤ _)⟩)
      dsimp only [Pt.U, Pt.locs, Pt.cells, Pt.slots] at X74 l74 y74 z74 st74 hQ74
      subst l74 y74 z74
      obtain ⟨rfl, e74, hO74⟩ := hQ74
      rcases hO74 with ⟨hr74_0_0, rfl⟩ | ⟨hr74_1_0, hr74_1_1, hr74_1_2, rfl⟩ | ⟨hr74_2_0, hr74_2_1, hr74_2_2, rfl⟩ | ⟨hr74_3_0, hr74_3_1, rfl⟩
      · exact absurd hr74_0_0 n_w2_w3
      · exact absurd hr74_1_1 (fun q => n_w1_w3 q.symm)
      · exact absurd hr74_2_1 (fun q => n_w1_w3 q.symm)
      · refine own_tr st74 ?_
        show own_Go p e below s _ _ _ (T74.setTop (mkF m 73 #[.val (.int p0), .val (.int p1), .val (.ref b1), .val (.int (3 : Int32)), .val (.int (2 : Int32)), .val (.int (33841 : Int32)), .val (.int (0 : Int32))] [(.int (0 : Int32))]))
        refine own_via (fun _ k => XS.iload X74.here hx rfl (hb hby at_73) rfl k) ?_
        show own_Go p e below s _ _ _ (T74.setTop (mkF m 75 #[.val (.int p0), .val (.int p1), .val (.ref b1), .val (.int (3 : Int32)), .val (.int (2 : Int32)), .val (.int (33841 : Int32)), .val (.int (0 : Int32))] [(.int (0 : Int32)), (.int (0 : Int32))]))
        refine own_via (fun _ k => XS.icmpNo X74.here hx rfl (hb hby at_75) rfl (teq (by decide : (0 : Int32) = (0 : Int32))).2 k) ?_
        show own_Go p e below s _ _ _ (T74.setTop (mkF m 78 #[.val (.int p0), .val (.int p1), .val (.ref b1), .val (.int (3 : Int32)), .val (.int (2 : Int32)), .val (.int (33841 : Int32)), .val (.int (0 : Int32))] []))
        refine own_via (fun _ k => XS.iconst X74.here hx rfl (hb hby at_78) k) ?_
        show own_Go p e below s _ _ _ (T74.setTop (mkF m 79 #[.val (.int p0), .val (.int p1), .val (.ref b1), .val (.int (3 : Int32)), .val (.int (2 : Int32)), .val (.int (33841 : Int32)), .val (.int (0 : Int32))] [(.int (1 : Int32))]))
        refine own_via (fun _ k => XS.goto X74.here hx rfl (pc0 := 79) (pc' := 83) rfl (hb hby at_79) (by decide) (by decide) k) ?_
        show own_Go p e below s _ _ _ (T74.setTop (mkF m 83 #[.val (.int p0), .val (.int p1), .val (.ref b1), .val (.int (3 : Int32)), .val (.int (2 : Int32)), .val (.int (33841 : Int32)), .val (.int (0 : Int32))] [(.int (1 : Int32))]))
        exact own_retZ X74 hx hlk (t := .boolean) Bd.returns (by simp) (hb hby at_83) (z' := (1 : Int32)) (by first | rfl | decide) ⟨rfl, (Fr.app N9 (Fr.nil n0))⟩ (by decide) (by decide)
    · rw [hk65]
      show own_Go p e below s _ _ _ (T9.setTop (mkF m 36 #[.val (.int p0), .val (.int p1), .val (.ref b1), .val (.int (3 : Int32)), .unset, .unset, .unset] [(.int (3 : Int32))]))
      refine own_via (fun _ k => XS.istore X9.here hx rfl (hb hby at_36) rfl (l' := #[.val (.int p0), .val (.int p1), .val (.ref b1), .val (.int (3 : Int32)), .val (.int (3 : Int32)), .unset, .unset]) rfl k) ?_
      show own_Go p e below s _ _ _ (T9.setTop (mkF m 38 #[.val (.int p0), .val (.int p1), .val (.ref b1), .val (.int (3 : Int32)), .val (.int (3 : Int32)), .unset, .unset] []))
      refine own_via (fun _ k => X9.ldcInt hx hown (mvT hZ (hw _ (List.mem_of_getElem? (i := 12) rfl))) (g := (mkF m 38 #[.val (.int p0), .val (.int p1), .val (.ref b1), .val (.int (3 : Int32)), .val (.int (3 : Int32)), .unset, .unset] [])) rfl (hb hby at_38) _ k) ?_
      show own_Go p e below s _ _ _ (T9.setTop (mkF m 40 #[.val (.int p0), .val (.int p1), .val (.ref b1), .val (.int (3 : Int32)), .val (.int (3 : Int32)), .unset, .unset] [(.int (33841 : Int32))]))
      refine own_via (fun _ k => XS.istore X9.here hx rfl (hb hby at_40) rfl (l' := #[.val (.int p0), .val (.int p1), .val (.ref b1), .val (.int (3 : Int32)), .val (.int (3 : Int32)), .val (.int (33841 : Int32)), .unset]) rfl k) ?_
      show own_Go p e below s _ _ _ (T9.setTop (mkF m 42 #[.val (.int p0), .val (.int p1), .val (.ref b1), .val (.int (3 : Int32)), .val (.int (3 : Int32)), .val (.int (33841 : Int32)), .unset] []))
      refine own_via (fun _ k => XS.iload X9.here hx rfl (hb hby at_42) rfl k) ?_
      show own_Go p e below s _ _ _ (T9.setTop (mkF m 44 #[.val (.int p0), .val (.int p1), .val (.ref b1), .val (.int (3 : Int32)), .val (.int (3 : Int32)), .val (.int (33841 : Int32)), .unset] [(.int (33841 : Int32))]))
      refine own_via (fun _ k => XS.iloadN X9.here hx rfl (hb hby at_44) rfl k) ?_
      show own_Go p e below s _ _ _ (T9.setTop (mkF m 45 #[.val (.int p0), .val (.int p1), .val (.ref b1), .val (.int (3 : Int32)), .val (.int (3 : Int32)), .val (.int (33841 : Int32)), .unset] [(.int (3 : Int32)), (.int (33841 : Int32))]))
      refine own_via (fun _ k => XS.iconst X9.here hx rfl (hb hby at_45) k) ?_
      show own_Go p e below s _ _ _ (T9.setTop (mkF m 46 #[.val (.int p0), .val (.int p1), .val (.ref b1), .val (.int (3 : Int32)), .val (.int (3 : Int32)), .val (.int (33841 : Int32)), .unset] [(.int (4 : Int32)), (.int (3 : Int32)), (.int (33841 : Int32))]))
      refine own_via (fun _ k => XS.imul X9.here hx rfl (hb hby at_46) rfl k) ?_
      show own_Go p e below s _ _ _ (T9.setTop (mkF m 47 #[.val (.int p0), .val (.int p1), .val (.ref b1), .val (.int (3 : Int32)), .val (.int (3 : Int32)), .val (.int (33841 : Int32)), .unset] [(.int ((3 : Int32) * (4 : Int32))), (.int (33841 : Int32))]))
      refine own_via (fun _ k => XS.iload X9.here hx rfl (hb hby at_47) rfl k) ?_
      show own_Go p e below s _ _ _ (T9.setTop (mkF m 49 #[.val (.int p0), .val (.int p1), .val (.ref b1), .val (.int (3 : Int32)), .val (.int (3 : Int32)), .val (.int (33841 : Int32)), .unset] [(.int (3 : Int32)), (.int ((3 : Int32) * (4 : Int32))), (.int (33841 : Int32))]))
      refine own_via (fun _ k => XS.iadd X9.here hx rfl (hb hby at_49) rfl k) ?_
      show own_Go p e below s _ _ _ (T9.setTop (mkF m 50 #[.val (.int p0), .val (.int p1), .val (.ref b1), .val (.int (3 : Int32)), .val (.int (3 : Int32)), .val (.int (33841 : Int32)), .unset] [(.int (((3 : Int32) * (4 : Int32)) + (3 : Int32))), (.int (33841 : Int32))]))
      refine own_via (fun _ k => XS.ishr X9.here hx rfl (hb hby at_50) rfl k) ?_
      show own_Go p e below s _ _ _ (T9.setTop (mkF m 51 #[.val (.int p0), .val (.int p1), .val (.ref b1), .val (.int (3 : Int32)), .val (.int (3 : Int32)), .val (.int (33841 : Int32)), .unset] [(.int ((33841 : Int32) >>> ((((3 : Int32) * (4 : Int32)) + (3 : Int32)) &&& 31)))]))
      refine own_via (fun _ k => XS.iconst X9.here hx rfl (hb hby at_51) k) ?_
      show own_Go p e below s _ _ _ (T9.setTop (mkF m 52 #[.val (.int p0), .val (.int p1), .val (.ref b1), .val (.int (3 : Int32)), .val (.int (3 : Int32)), .val (.int (33841 : Int32)), .unset] [(.int (1 : Int32)), (.int ((33841 : Int32) >>> ((((3 : Int32) * (4 : Int32)) + (3 : Int32)) &&& 31)))]))
      refine own_via (fun _ k => XS.iand X9.here hx rfl (hb hby at_52) rfl k) ?_
      show own_Go p e below s _ _ _ (T9.setTop (mkF m 53 #[.val (.int p0), .val (.int p1), .val (.ref b1), .val (.int (3 : Int32)), .val (.int (3 : Int32)), .val (.int (33841 : Int32)), .unset] [(.int (((33841 : Int32) >>> ((((3 : Int32) * (4 : Int32)) + (3 : Int32)) &&& 31)) &&& (1 : Int32)))]))
      refine own_via (fun _ k => XS.ifNo X9.here hx rfl (hb hby at_53) rfl ((if0 _ _).trans (feq (by decide : ¬ ((((33841 : Int32) >>> ((((3 : Int32) * (4 : Int32)) + (3 : Int32)) &&& 31)) &&& (1 : Int32)) = (0 : Int32)))).1) k) ?_
      show own_Go p e below s _ _ _ (T9.setTop (mkF m 56 #[.val (.int p0), .val (.int p1), .val (.ref b1), .val (.int (3 : Int32)), .val (.int (3 : Int32)), .val (.int (33841 : Int32)), .unset] []))
      refine own_via (fun _ k => XS.iconst X9.here hx rfl (hb hby at_56) k) ?_
      show own_Go p e below s _ _ _ (T9.setTop (mkF m 57 #[.val (.int p0), .val (.int p1), .val (.ref b1), .val (.int (3 : Int32)), .val (.int (3 : Int32)), .val (.int (33841 : Int32)), .unset] [(.int (1 : Int32))]))
      refine own_via (fun _ k => XS.goto X9.here hx rfl (pc0 := 57) (pc' := 61) rfl (hb hby at_57) (by decide) (by decide) k) ?_
      show own_Go p e below s _ _ _ (T9.setTop (mkF m 61 #[.val (.int p0), .val (.int p1), .val (.ref b1), .val (.int (3 : Int32)), .val (.int (3 : Int32)), .val (.int (33841 : Int32)), .unset] [(.int (1 : Int32))]))
      refine own_via (fun _ k => XS.istore X9.here hx rfl (hb hby at_61) rfl (l' := #[.val (.int p0), .val (.int p1), .val (.ref b1), .val (.int (3 : Int32)), .val (.int (3 : Int32)), .val (.int (33841 : Int32)), .val (.int (1 : Int32))]) rfl k) ?_
      show own_Go p e below s _ _ _ (T9.setTop (mkF m 63 #[.val (.int p0), .val (.int p1), .val (.ref b1), .val (.int (3 : Int32)), .val (.int (3 : Int32)), .val (.int (33841 : Int32)), .val (.int (1 : Int32))] []))
      refine own_via (fun _ k => XS.aloadN X9.here hx rfl (hb hby at_63) rfl rfl k) ?_
      show own_Go p e below s _ _ _ (T9.setTop (mkF m 64 #[.val (.int p0), .val (.int p1), .val (.ref b1), .val (.int (3 : Int32)), .val (.int (3 : Int32)), .val (.int (33841 : Int32)), .val (.int (1 : Int32))] [(.ref b1)]))
      refine own_via (fun _ k => XS.iloadN X9.here hx rfl (hb hby at_64) rfl k) ?_
      show own_Go p e below s _ _ _ (T9.setTop (mkF m 65 #[.val (.int p0), .val (.int p1), .val (.ref b1), .val (.int (3 : Int32)), .val (.int (3 : Int32)), .val (.int (33841 : Int32)), .val (.int (1 : Int32))] [(.int (3 : Int32)), (.ref b1)]))
      have Vx75 := V_b1
      obtain ⟨cl75, Ar75, q75, S75, N75, H75, G75⟩ := Vx75
      have hin75 : ¬ ((3 : Int32) < 0 ∨ cl75.slots.size ≤ ((3 : Int32)).toNatClampNeg) := inb_of S75 ⟨by decide, by decide⟩
      have hat75 : cl75.slots[((3 : Int32)).toNatClampNeg]? = some (.ref w3) := H75.at hin75 rfl
      refine own_via (fun _ k => X9.aaload hx (j := (3 : Int32)) (v := (.ref w3)) (by rw [e9]; exact Ar75.1) (State.isArrayOf_alike hZ.alike Ar75.2.1) rfl Ar75.2.2 hin75 hat75 (g := (mkF m 65 #[.val (.int p0), .val (.int p1), .val (.ref b1), .val (.int (3 : Int32)), .val (.int (3 : Int32)), .val (.int (33841 : Int32)), .val (.int (1 : Int32))] [(.int (3 : Int32)), (.ref b1)])) rfl rfl (hb hby at_65) _ k) ?_
      show own_Go p e below s _ _ _ (T9.setTop (mkF m 66 #[.val (.int p0), .val (.int p1), .val (.ref b1), .val (.int (3 : Int32)), .val (.int (3 : Int32)), .val (.int (33841 : Int32)), .val (.int (1 : Int32))] [(.ref w3)]))
      refine own_via (fun _ k => XS.aloadN X9.here hx rfl (hb hby at_66) rfl rfl k) ?_
      show own_Go p e below s _ _ _ (T9.setTop (mkF m 67 #[.val (.int p0), .val (.int p1), .val (.ref b1), .val (.int (3 : Int32)), .val (.int (3 : Int32)), .val (.int (33841 : Int32)), .val (.int (1 : Int32))] [(.ref b1), (.ref w3)]))
      refine own_via (fun _ k => XS.iload X9.here hx rfl (hb hby at_67) rfl k) ?_
      show own_Go p e below s _ _ _ (T9.setTop (mkF m 69 #[.val (.int p0), .val (.int p1), .val (.ref b1), .val (.int (3 : Int32)), .val (.int (3 : Int32)), .val (.int (33841 : Int32)), .val (.int (1 : Int32))] [(.int (3 : Int32)), (.ref b1), (.ref w3)]))
      have Vx76 := V_b1
      obtain ⟨cl76, Ar76, q76, S76, N76, H76, G76⟩ := Vx76
      have hin76 : ¬ ((3 : Int32) < 0 ∨ cl76.slots.size ≤ ((3 : Int32)).toNatClampNeg) := inb_of S76 ⟨by decide, by decide⟩
      have hat76 : cl76.slots[((3 : Int32)).toNatClampNeg]? = some (.ref w3) := H76.at hin76 rfl
      refine own_via (fun _ k => X9.aaload hx (j := (3 : Int32)) (v := (.ref w3)) (by rw [e9]; exact Ar76.1) (State.isArrayOf_alike hZ.alike Ar76.2.1) rfl Ar76.2.2 hin76 hat76 (g := (mkF m 69 #[.val (.int p0), .val (.int p1), .val (.ref b1), .val (.int (3 : Int32)), .val (.int (3 : Int32)), .val (.int (33841 : Int32)), .val (.int (1 : Int32))] [(.int (3 : Int32)), (.ref b1), (.ref w3)])) rfl rfl (hb hby at_69) _ k) ?_
      show own_Go p e below s _ _ _ (T9.setTop (mkF m 70 #[.val (.int p0), .val (.int p1), .val (.ref b1), .val (.int (3 : Int32)), .val (.int (3 : Int32)), .val (.int (33841 : Int32)), .val (.int (1 : Int32))] [(.ref w3), (.ref w3)]))
      obtain ⟨cq77, kq77, q77a, q77b, q77c⟩ := isOf hZ e9 (E_w3.ext OL.2)
      obtain ⟨_, _, ⟨T77, L77, k77, n77⟩, -, X77, ⟨Lc77, hQ77, l77, y77, z77⟩, st77⟩ := X9.virtualBack hx (y := (⟨"com/example/mailbox/mailbox/core/Right", "allows", "(Lcom/example/mailbox/mailbox/core/Right;)Z"⟩ : MethodName)) (z := (⟨"com/example/mailbox/mailbox/core/Right", "allows", "(Lcom/example/mailbox/mailbox/core/Right;)Z"⟩ : MethodName)) hown (mvT hZ (hw _ (List.mem_of_getElem? (i := 13) rfl))) (mvT hZ (hw _ (List.mem_of_getElem? (i := 14) rfl))) (notFace_of_selects (args := #[]) (mvT hZ (hw _ (List.mem_of_getElem? (i := 16) rfl)))) (mvT hZ (hw _ (List.mem_of_getElem? (i := 16) rfl))) (mvT hZ (hw _ (List.mem_of_getElem? (i := 15) rfl))) (by decide) (backOf (W := 0) (rm1_0 l Z a0 hw [] w3 w3 w0 w1 w2 w3 h9 n0 Z0 K0 OL) hZ (hw _ (List.mem_of_getElem? (i := 17) rfl)) (hw _ (List.mem_of_getElem? (i := 3) rfl)) (by decide) (by decide)) q77a q77c (g := (mkF m 70 #[.val (.int p0), .val (.int p1), .val (.ref b1), .val (.int (3 : Int32)), .val (.int (3 : Int32)), .val (.int (33841 : Int32)), .val (.int (1 : Int32))] [(.ref w3), (.ref w3)])) rfl (by rw [hml]; rfl) (Steps.refl _) (argsL := [(.ref w3)]) (rest := []) (lenOf pd0 rfl) rfl (by show 2 * 0 + _ ≤ _; exact Nat.le_of_eq rfl) (hb hby at_70) (fun _ _ => ⟨rfl, e9, (by decide : 0 + 1 + 0 ≤ _), (by decide : 0 + 4 + 0 ≤ _)⟩)
      dsimp only [Pt.U, Pt.locs, Pt.cells, Pt.slots] at X77 l77 y77 z77 st77 hQ77
      subst l77 y77 z77
      obtain ⟨rfl, e77, hO77⟩ := hQ77
      rcases hO77 with ⟨hr77_0_0, rfl⟩ | ⟨hr77_1_0, hr77_1_1, hr77_1_2, rfl⟩ | ⟨hr77_2_0, hr77_2_1, hr77_2_2, rfl⟩ | ⟨hr77_3_0, hr77_3_1, rfl⟩
      · refine own_tr st77 ?_
        show own_Go p e below s _ _ _ (T77.setTop (mkF m 73 #[.val (.int p0), .val (.int p1), .val (.ref b1), .val (.int (3 : Int32)), .val (.int (3 : Int32)), .val (.int (33841 : Int32)), .val (.int (1 : Int32))] [(.int (1 : Int32))]))
        refine own_via (fun _ k => XS.iload X77.here hx rfl (hb hby at_73) rfl k) ?_
        show own_Go p e below s _ _ _ (T77.setTop (mkF m 75 #[.val (.int p0), .val (.int p1), .val (.ref b1), .val (.int (3 : Int32)), .val (.int (3 : Int32)), .val (.int (33841 : Int32)), .val (.int (1 : Int32))] [(.int (1 : Int32)), (.int (1 : Int32))]))
        refine own_via (fun _ k => XS.icmpNo X77.here hx rfl (hb hby at_75) rfl (teq (by decide : (1 : Int32) = (1 : Int32))).2 k) ?_
        show own_Go p e below s _ _ _ (T77.setTop (mkF m 78 #[.val (.int p0), .val (.int p1), .val (.ref b1), .val (.int (3 : Int32)), .val (.int (3 : Int32)), .val (.int (33841 : Int32)), .val (.int (1 : Int32))] []))
        refine own_via (fun _ k => XS.iconst X77.here hx rfl (hb hby at_78) k) ?_
        show own_Go p e below s _ _ _ (T77.setTop (mkF m 79 #[.val (.int p0), .val (.int p1), .val (.ref b1), .val (.int (3 : Int32)), .val (.int (3 : Int32)), .val (.int (33841 : Int32)), .val (.int (1 : Int32))] [(.int (1 : Int32))]))
        refine own_via (fun _ k => XS.goto X77.here hx rfl (pc0 := 79) (pc' := 83) rfl (hb hby at_79) (by decide) (by decide) k) ?_
        show own_Go p e below s _ _ _ (T77.setTop (mkF m 83 #[.val (.int p0), .val (.int p1), .val (.ref b1), .val (.int (3 : Int32)), .val (.int (3 : Int32)), .val (.int (33841 : Int32)), .val (.int (1 : Int32))] [(.int (1 : Int32))]))
        exact own_retZ X77 hx hlk (t := .boolean) Bd.returns (by simp) (hb hby at_83) (z' := (1 : Int32)) (by first | rfl | decide) ⟨rfl, (Fr.app N9 (Fr.nil n0))⟩ (by decide) (by decide)
      · exact absurd rfl hr77_1_0
      · exact absurd rfl hr77_2_0
      · exact absurd rfl hr77_3_0
set_option maxRecDepth 65536 in
set_option maxHeartbeats 40000000 in
theorem comes_1 {Post : Tables → Env → Array Value → State → Outcome → State → Prop} (hpost : ∀ tb e args s v u, (limb_1_1.after args s (.returned v) u = true ∧ limb_1_2.after args s (.returned v) u = true ∧ True) → FrameEnd s (.returned v) u (Jvm.fieldLocs frame_1_writes args s ++ Jvm.arrayLocs frame_1_arrays args s ++ Jvm.staticLocs frame_1_statics s) 16 128 → Post tb e args s (.returned v) u) :
    ArmFor flags0 classFile x code maxLocals ret World_1 tables_1 room_1 Calls_1 rest_1 Pre_1 Post := by
  intro l hfl _ _ p e ha hc hk s m args below hf hA hF happ hP
  obtain ⟨hcalls, hrest, hpre⟩ := hP
  obtain ⟨-, -, -, hnamed, -, -, -, hat⟩ := (Spec.applies_iff hf).mp happ
  obtain ⟨hg, hn⟩ := and_e (Cond.before_iff.mp (show (Jvm.Cond.and given_1 narrow_1).before args s = true from hpre))
  obtain ⟨g0, hg0⟩ := and_e hg
  obtain ⟨g1, hg1⟩ := and_e hg0
  obtain ⟨u0, u1, rfl⟩ : ∃ u0 u1 : Value, args = #[u0, u1] := by
    have hs : args.size = 2 := by simpa [Cond.value, given_1] using g0
    obtain ⟨L⟩ := args
    match L, hs with
    | [u0, u1], _ => exact ⟨u0, u1, rfl⟩
  have hw := fun d (hd : d ∈ tables_1) => atoms_spec (ws := Jvm.Cond.code x code maxLocals ret :: tables_1) hat d (List.mem_cons_of_mem _ hd)
  obtain ⟨i0, ei0⟩ := is_v g1
  obtain rfl : u0 = (.int i0) := Option.some.inj ei0
  obtain ⟨i1, ei1⟩ := is_v hg1
  obtain rfl : u1 = (.int i1) := Option.some.inj ei1
  obtain ⟨t0, hn0⟩ := and_e hn
  obtain ⟨t1, hn1⟩ := and_e hn0
  obtain ⟨t2, hn2⟩ := and_e hn1
  obtain ⟨t3, hn3⟩ := and_e hn2
  obtain ⟨t4, hn4⟩ := and_e hn3
  obtain ⟨t5, hn5⟩ := and_e hn4
  obtain ⟨t6, hn6⟩ := and_e hn5
  obtain ⟨w0, v_w0⟩ := exa_v t0
  have E_w0 := Exa.start v_w0 t0
  have S_w0 := Sta.start v_w0 (Or.inr ⟨(hw _ (List.mem_of_getElem? (i := 3) rfl)), (hw _ (List.mem_of_getElem? (i := 4) rfl))⟩)
  obtain ⟨w1, v_w1⟩ := exa_v t1
  have E_w1 := Exa.start v_w1 t1
  have S_w1 := Sta.start v_w1 (Or.inr ⟨(hw _ (List.mem_of_getElem? (i := 3) rfl)), (hw _ (List.mem_of_getElem? (i := 7) rfl))⟩)
  obtain ⟨w2, v_w2⟩ := exa_v t2
  have E_w2 := Exa.start v_w2 t2
  have S_w2 := Sta.start v_w2 (Or.inr ⟨(hw _ (List.mem_of_getElem? (i := 3) rfl)), (hw _ (List.mem_of_getElem? (i := 9) rfl))⟩)
  obtain ⟨w3, v_w3⟩ := exa_v t3
  have E_w3 := Exa.start v_w3 t3
  have S_w3 := Sta.start v_w3 (Or.inr ⟨(hw _ (List.mem_of_getElem? (i := 3) rfl)), (hw _ (List.mem_of_getElem? (i := 11) rfl))⟩)
  have F_w3_ordinal := own_fld v_w3 t4
  have F_w0_ordinal := own_fld v_w0 t5
  have F_w1_ordinal := own_fld v_w1 t6
  have F_w2_ordinal := own_fld v_w2 hn6
  have n_w0_w1 : ¬ (w0 = w1) := Fld.ne F_w0_ordinal F_w1_ordinal (by decide)
  have n_w0_w2 : ¬ (w0 = w2) := Fld.ne F_w0_ordinal F_w2_ordinal (by decide)
  have n_w0_w3 : ¬ (w0 = w3) := Fld.ne F_w0_ordinal F_w3_ordinal (by decide)
  have n_w1_w2 : ¬ (w1 = w2) := Fld.ne F_w1_ordinal F_w2_ordinal (by decide)
  have n_w1_w3 : ¬ (w1 = w3) := Fld.ne F_w1_ordinal F_w3_ordinal (by decide)
  have n_w2_w3 : ¬ (w2 = w3) := Fld.ne F_w2_ordinal F_w3_ordinal (by decide)
  obtain ⟨n, o, h1, h2, h3, _, L, rfl, ⟨rfl, N⟩, hq⟩ := rm0 l s _ hw tables_1 i0 i1 w0 w1 w2 w3 s.heap s.heap.size (Nat.le_refl _) ⟨S_w0, S_w1, S_w2, S_w3, E_w0, E_w1, E_w2, E_w3, F_w3_ordinal, F_w0_ordinal, F_w1_ordinal, F_w2_ordinal, n_w0_w1, n_w0_w2, n_w0_w3, n_w1_w2, n_w1_w3, n_w2_w3⟩ (Old.start s) p e ha hc hk s m _ below hf ((Spec.applies_iff_loose hf).mp happ).1 ⟨rfl, State.Warmed39.refl s, rfl⟩ trivial
  refine ⟨n, _, h1, h2, h3, hpost _ _ _ _ _ _ ⟨Cond.after_iff.mpr rfl, Cond.after_iff.mpr (eq_i res_at (Term.int_eval (1)) rfl), trivial⟩ ⟨hq.1, hq.2.1, (hq.2.2.sift fun y hy => Or.inr (N y hy)).mono (by decide) (by decide)⟩⟩
theorem main_1_1 : Claimed_1_1 := comes_1 fun _ _ _ _ _ _ h hF => ⟨h.1, hF⟩
theorem main_1_2 : Claimed_1_2 := comes_1 fun _ _ _ _ _ _ h hF => ⟨h.2.1, hF⟩
end Jvm.Pilot.@@N@@
namespace Jvm.Pilot.@@N@@
open Jvm Jvm.ClassFile Sem Op Lib Jvm.Free Jvm.Stand Jvm.Pilot.@@N@@.Jvm.D
/-! MADE BY PROGRAM (witnessworld.py) out of the Statement's table words and the real class files: 13 classes; the members and pool entries that the words name. The judged class is class 1, her method 1. -/
namespace start1
open Jvm.ClassFile
def u (s : String) : CpInfo := .utf8 (stringToUtf16 s)
/-- a pool by its gaps: so many unusable entries, then the entry; so many at the end -/
def gap : Nat → List CpInfo → List CpInfo
  | 0, r => r
  | n + 1, r => .unusable :: gap n r
def poolList (es : List (Nat × CpInfo)) (last : Nat) : List CpInfo := es.foldr (fun e r => gap e.1 (e.2 :: r)) (gap last [])
def pool (es : List (Nat × CpInfo)) (last : Nat) : Array CpInfo := ⟨poolList es last⟩
def fileOf (pool : Array CpInfo) (this : Nat) (attrs : Array Attribute := #[]) (ms : Array MethodInfo := #[]) (fl : Nat := 33) (sup : Nat := 0) (ifs : Array Nat := #[]) (fds : Array FieldInfo := #[]) : ClassFile where
  minorVersion := 0
  majorVersion := 65
  constantPool := pool
  accessFlags := fl
  thisClass := this
  superClass := sup
  interfaces := ifs
  fields := fds
  methods := ms
  attributes := attrs
def plain (name : String) (sup : Option ClassId) : Class where
  name := name
  kind := .ordinary
  loader := none
  accessFlags := 33
  super := sup
  interfaces := #[]
  cf := none
  fields := #[]
  methods := #[]
  instanceTypes := #[]
  staticTypes := #[]
  resolved := #[]
  callSites := []
  init := .initialized
  statics := none
  mirror := none

def pool0 : Array CpInfo := pool [(5, u "<init>"), (0, u "()V"), (1, .class_ 10), (1, u "java/lang/Object")] 113

def k0m0 : Method := { name := "<init>", desc := "()V", sig := { parameters := [], returnType := none }, accessFlags := 1, code := none }
/-- java/lang/Object -/
def k0 : Class := { plain "java/lang/Object" none with
  accessFlags := 33
  interfaces := #[]
  cf := some (fileOf pool0 8 #[] #[{ accessFlags := 1, nameIndex := 5, descriptorIndex := 6, attributes := #[] }] 33 0 #[] #[])
  fields := #[]
  methods := #[k0m0]
  instanceTypes := #[]
  staticTypes := #[]
  resolved := Array.replicate 124 none
  statics := none }

def pool1 : Array CpInfo := pool [(2, .class_ 4), (1, u "java/lang/Object"), (0, u "<init>"), (0, u "()V"), (0, .class_ 8), (0, u "com/example/mailbox/mailbox/core/Right"), (0, .fieldref 7 10), (0, .nameAndType 11 12), (0, u "REGISTRY_READ"), (0, u "Lcom/example/mailbox/mailbox/core/Right;"), (0, .fieldref 7 14), (0, .nameAndType 15 12), (0, u "REGISTRY_READ_WRITE"), (0, .fieldref 7 17), (0, .nameAndType 18 12), (0, u "SERVICE_CONNECT"), (0, .fieldref 7 20), (0, .nameAndType 21 12), (0, u "DEVICE_CONNECT"), (0, .integer 33841), (0, .methodref 7 24), (0, .nameAndType 25 26), (0, u "allows"), (0, u "(Lcom/example/mailbox/mailbox/core/Right;)Z"), (0, .class_ 28), (0, u "com/example/mailbox/mailbox/core/RightAllowsPinLaw"), (2, u "law"), (0, u "(II)Z")] 5

def k1m0 : Method := { name := "<init>", desc := "()V", sig := { parameters := [], returnType := none }, accessFlags := 1, code := none }
def k1c1 : Code := { maxStack := 4, maxLocals := 7, code := code, exceptionTable := #[], attributes := #[] }
def k1m1 : Method := { name := "law", desc := "(II)Z", sig := { parameters := [.int, .int], returnType := some .boolean }, accessFlags := 9, code := some k1c1 }
/-- com/example/mailbox/mailbox/core/RightAllowsPinLaw -/
def k1 : Class := { plain "com/example/mailbox/mailbox/core/RightAllowsPinLaw" (some 0) with
  accessFlags := 49
  interfaces := #[]
  cf := some (fileOf pool1 27 #[] #[{ accessFlags := 1, nameIndex := 5, descriptorIndex := 6, attributes := #[] }, { accessFlags := 9, nameIndex := 31, descriptorIndex := 32, attributes := #[] }] 49 2 #[] #[])
  fields := #[]
  methods := #[k1m0, k1m1]
  instanceTypes := #[]
  staticTypes := #[]
  resolved := Array.replicate 38 none
  statics := none }

def pool2 : Array CpInfo := pool [(1, .class_ 2), (0, u "java/lang/constant/Constable"), (0, .class_ 4), (0, u "java/lang/Object")] 6

/-- java/lang/constant/Constable -/
def k2 : Class := { plain "java/lang/constant/Constable" (some 0) with
  accessFlags := 1537
  interfaces := #[]
  cf := some (fileOf pool2 1 #[] #[] 1537 3 #[] #[])
  fields := #[]
  methods := #[]
  instanceTypes := #[]
  staticTypes := #[]
  resolved := Array.replicate 11 none
  statics := none }

def pool3 : Array CpInfo := pool [(1, .class_ 2), (0, u "java/lang/Comparable"), (0, .class_ 4), (0, u "java/lang/Object")] 7

/-- java/lang/Comparable -/
def k3 : Class := { plain "java/lang/Comparable" (some 0) with
  accessFlags := 1537
  interfaces := #[]
  cf := some (fileOf pool3 1 #[] #[] 1537 3 #[] #[])
  fields := #[]
  methods := #[]
  instanceTypes := #[]
  staticTypes := #[]
  resolved := Array.replicate 12 none
  statics := none }

def pool4 : Array CpInfo := pool [(1, .class_ 2), (0, u "java/io/Serializable"), (0, .class_ 4), (0, u "java/lang/Object")] 2

/-- java/io/Serializable -/
def k4 : Class := { plain "java/io/Serializable" (some 0) with
  accessFlags := 1537
  interfaces := #[]
  cf := some (fileOf pool4 1 #[] #[] 1537 3 #[] #[])
  fields := #[]
  methods := #[]
  instanceTypes := #[]
  staticTypes := #[]
  resolved := Array.replicate 7 none
  statics := none }

def pool5 : Array CpInfo := pool [(2, .class_ 4), (1, u "java/lang/Enum"), (0, u "name"), (0, u "Ljava/lang/String;"), (2, u "ordinal"), (0, u "I"), (1, .class_ 14), (1, u "java/lang/Object"), (4, u "hash"), (86, .class_ 108), (1, u "java/lang/Enum$EnumDesc"), (2, .class_ 112), (0, u "java/lang/constant/Constable"), (0, .class_ 114), (0, u "java/lang/Comparable"), (0, .class_ 116), (0, u "java/io/Serializable")] 87

/-- java/lang/Enum -/
def k5 : Class := { plain "java/lang/Enum" (some 0) with
  accessFlags := 1057
  interfaces := #[2, 3, 4]
  cf := some (fileOf pool5 2 #[.nestMembers #[106]] #[] 1057 12 #[111, 113, 115] #[{ accessFlags := 18, nameIndex := 5, descriptorIndex := 6, attributes := #[] }, { accessFlags := 18, nameIndex := 9, descriptorIndex := 10, attributes := #[] }, { accessFlags := 2, nameIndex := 19, descriptorIndex := 10, attributes := #[] }])
  fields := #[{ name := "name", type := (.object "java/lang/String"), accessFlags := 18, slot := 0, constantValue := 0 }, { name := "ordinal", type := .int, accessFlags := 18, slot := 1, constantValue := 0 }, { name := "hash", type := .int, accessFlags := 2, slot := 2, constantValue := 0 }]
  methods := #[]
  instanceTypes := #[(.object "java/lang/String"), .int, .int]
  staticTypes := #[]
  resolved := Array.replicate 204 none
  statics := none }

def pool6 : Array CpInfo := pool [(1, .class_ 2), (0, u "com/example/mailbox/mailbox/core/Right"), (0, .fieldref 1 4), (0, .nameAndType 5 6), (0, u "REGISTRY_READ"), (0, u "Lcom/example/mailbox/mailbox/core/Right;"), (0, .fieldref 1 8), (0, .nameAndType 9 6), (0, u "REGISTRY_READ_WRITE"), (2, u "SERVICE_CONNECT"), (2, u "DEVICE_CONNECT"), (2, u "$VALUES"), (0, u "[Lcom/example/mailbox/mailbox/core/Right;"), (6, .class_ 28), (1, u "java/lang/Enum"), (8, u "value"), (0, u "Ljava/lang/String;"), (48, u "allows"), (0, u "(Lcom/example/mailbox/mailbox/core/Right;)Z")] 5

def k6c0 : Code := { maxStack := 2, maxLocals := 2, code := prog_91_method_6_code, exceptionTable := #[], attributes := #[] }
def k6m0 : Method := { name := "allows", desc := "(Lcom/example/mailbox/mailbox/core/Right;)Z", sig := { parameters := [(.object "com/example/mailbox/mailbox/core/Right")], returnType := some .boolean }, accessFlags := 1, code := some k6c0 }
/-- com/example/mailbox/mailbox/core/Right -/
def k6 : Class := { plain "com/example/mailbox/mailbox/core/Right" (some 5) with
  accessFlags := 16433
  interfaces := #[]
  cf := some (fileOf pool6 1 #[] #[{ accessFlags := 1, nameIndex := 87, descriptorIndex := 88, attributes := #[] }] 16433 26 #[] #[{ accessFlags := 16409, nameIndex := 5, descriptorIndex := 6, attributes := #[] }, { accessFlags := 16409, nameIndex := 9, descriptorIndex := 6, attributes := #[] }, { accessFlags := 16409, nameIndex := 12, descriptorIndex := 6, attributes := #[] }, { accessFlags := 16409, nameIndex := 15, descriptorIndex := 6, attributes := #[] }, { accessFlags := 18, nameIndex := 37, descriptorIndex := 38, attributes := #[] }, { accessFlags := 4122, nameIndex := 18, descriptorIndex := 19, attributes := #[] }])
  fields := #[{ name := "REGISTRY_READ", type := (.object "com/example/mailbox/mailbox/core/Right"), accessFlags := 16409, slot := 0, constantValue := 0 }, { name := "REGISTRY_READ_WRITE", type := (.object "com/example/mailbox/mailbox/core/Right"), accessFlags := 16409, slot := 1, constantValue := 0 }, { name := "SERVICE_CONNECT", type := (.object "com/example/mailbox/mailbox/core/Right"), accessFlags := 16409, slot := 2, constantValue := 0 }, { name := "DEVICE_CONNECT", type := (.object "com/example/mailbox/mailbox/core/Right"), accessFlags := 16409, slot := 3, constantValue := 0 }, { name := "value", type := (.object "java/lang/String"), accessFlags := 18, slot := 3, constantValue := 0 }, { name := "$VALUES", type := (.array (.object "com/example/mailbox/mailbox/core/Right")), accessFlags := 4122, slot := 4, constantValue := 0 }]
  methods := #[k6m0]
  instanceTypes := #[(.object "java/lang/String"), .int, .int, (.object "java/lang/String")]
  staticTypes := #[(.object "com/example/mailbox/mailbox/core/Right"), (.object "com/example/mailbox/mailbox/core/Right"), (.object "com/example/mailbox/mailbox/core/Right"), (.object "com/example/mailbox/mailbox/core/Right"), (.array (.object "com/example/mailbox/mailbox/core/Right"))]
  resolved := Array.replicate 94 none
  statics := some 0 }

def pool7 : Array CpInfo := pool [(1, u "java/lang/Cloneable"), (0, .class_ 1), (0, u "java/lang/Object"), (0, .class_ 3)] 3

/-- java/lang/Cloneable -/
def k7 : Class := { plain "java/lang/Cloneable" (some 0) with
  accessFlags := 1537
  interfaces := #[]
  cf := some (fileOf pool7 2 #[] #[] 1537 4 #[] #[])
  fields := #[]
  methods := #[]
  instanceTypes := #[]
  staticTypes := #[]
  resolved := Array.replicate 8 none
  statics := none }

/-- the primitive byte -/
def k8 : Class := { plain "byte" none with kind := .primitive 'B', accessFlags := 0x411 }
/-- [B -/
def k9 : Class := { plain "[B" (some 0) with kind := .array 8 .byte, interfaces := #[7, 4], accessFlags := 1041 }

/-- the primitive int -/
def k10 : Class := { plain "int" none with kind := .primitive 'I', accessFlags := 0x411 }
/-- [I -/
def k11 : Class := { plain "[I" (some 0) with kind := .array 10 .int, interfaces := #[7, 4], accessFlags := 1041 }

/-- [Lcom/example/mailbox/mailbox/core/Right; -/
def k12 : Class := { plain "[Lcom/example/mailbox/mailbox/core/Right;" (some 0) with kind := .array 6 (.object "com/example/mailbox/mailbox/core/Right"), interfaces := #[7, 4], accessFlags := 1041 }

def heap : Heap := #[{ cls := 6, slots := #[.ref 1, .ref 2, .ref 3, .ref 4, .null], vm := .statics 6 },
  { cls := 6, slots := #[.null, .int 0, .int 0, .null], vm := .none },
  { cls := 6, slots := #[.null, .int 1, .int 0, .null], vm := .none },
  { cls := 6, slots := #[.null, .int 2, .int 0, .null], vm := .none },
  { cls := 6, slots := #[.null, .int 3, .int 0, .null], vm := .none }]
def classes : Array Class := #[k0, k1, k2, k3, k4, k5, k6, k7, k8, k9, k10, k11, k12]
def interned : List (Array UInt16 × Addr) := []
def slotsUsed : Nat := 21
def theMethod : MethodId := ⟨1, 1⟩
def args0 : Array Value := #[.int 5, .int 5]
def aboutOver (below : List Frame) : State where
  vm := { classes := classes, interned := interned.toArray }
  heap := heap
  slotsUsed := slotsUsed
  threads := #[{ frames := .invoking theMethod args0 :: below }]
def below0 : List Frame := [.native { method := ⟨0, 0⟩, args := #[] }]
def about1 : State := aboutOver below0
def p0 : Program := .bare "" "" ""
def e0 : Env := launch0.env 0 0 0
theorem w_frames : about1.frames = Frame.invoking theMethod args0 :: below0 := rfl
set_option maxRecDepth 65536 in
theorem w_args : argsFit about1.vm theMethod args0 = true := by decide +kernel
set_option maxRecDepth 65536 in
theorem w_heap : heapFits about1 = true := by decide +kernel
set_option maxRecDepth 65536 in
theorem w_runnable : about1.curStatus? = some .runnable := by decide +kernel
set_option maxRecDepth 65536 in
theorem w_alone : about1.alone = true := by decide +kernel
set_option maxRecDepth 65536 in
theorem w_named : about1.methodNamed? x = some theMethod := by decide +kernel
set_option maxRecDepth 65536 in
theorem w_hears : about1.hears theMethod below0 = true := by decide +kernel
set_option maxRecDepth 65536 in
theorem w_ripe : about1.ripe theMethod args0 below0 = true := by decide +kernel
theorem w_running : about1.status = .running := rfl
set_option maxRecDepth 65536 in
theorem w_room : about1.hasRoom e0.platform room_1 = true :=
  launch0.hasRoom_least _ room_1 (by decide +kernel) (by decide +kernel) (by decide +kernel) (by decide +kernel) (by decide +kernel) (by decide +kernel)
theorem allAtoms_all (ts : List Jvm.Cond) (a : Array Jvm.Value) (st : Jvm.State) : (allAtoms ts).before a st = ts.all (fun c => c.before a st) := by
  induction ts with
  | nil => rfl
  | cons c t ih =>
    show (Jvm.Cond.and c (allAtoms t)).before a st = _
    rw [Jvm.Cond.before_and, ih, List.all_cons]
def words1 : List Jvm.Cond := Jvm.Cond.code x code maxLocals ret :: tables_1
/-- a 'code' word, met by the world's own term for the bytes: nothing is compared byte by byte -/
theorem code_word {y : MethodName} {bytes : ByteArray} {mx : Nat} {rt : Option FieldType} {a : Array Value} {s : State} {m : MethodId} {meth : Method} {c : Code} (h1 : s.methodNamed? y = some m) (h2 : s.vm.method? m = some meth) (h3 : meth.code = some c) (h4 : c.code = bytes)
    (h5 : (c.maxLocals == mx && c.exceptionTable.isEmpty && decide (c.maxStack ≤ mostOperands) && decide (meth.sig.returnType = rt) && !meth.locks && decide (parseMethodDescriptor y.desc = some meth.sig)) = true) : (Jvm.Cond.code y bytes mx rt).before a s = true := by
  simp only [Bool.and_eq_true, beq_iff_eq, Bool.not_eq_true', decide_eq_true_eq] at h5
  obtain ⟨⟨⟨⟨⟨g1, g2⟩, g3⟩, g4⟩, g5⟩, g6⟩ := h5
  simp [Cond.before, Cond.holds, Cond.value, h1, h2, h3, h4, g1, g2, g3, g4, g5, g6]
def isCode : Jvm.Cond → Bool
  | .code _ _ _ _ => true
  | _ => false
theorem all_split {L : List Jvm.Cond} {P : Jvm.Cond → Bool} (h1 : L.all (fun c => isCode c || P c) = true) (h2 : ∀ c ∈ L.filter isCode, P c = true) : L.all P = true := by
  refine List.all_eq_true.mpr fun c hc => ?_
  have h := List.all_eq_true.mp h1 c hc
  rcases Bool.eq_false_or_eq_true (isCode c) with hi | hi
  · exact h2 c (List.mem_filter.mpr ⟨hc, hi⟩)
  · simpa [hi] using h
set_option maxRecDepth 65536 in
theorem w_c0 : (Jvm.Cond.code x code maxLocals ret).before args0 about1 = true := code_word (m := ⟨1, 1⟩) (meth := k1m1) (c := k1c1) (by decide +kernel) rfl rfl rfl (by decide +kernel)
set_option maxRecDepth 65536 in
theorem w_c1 : (Jvm.Cond.code ({ cls := "com/example/mailbox/mailbox/core/Right", name := "allows", desc := "(Lcom/example/mailbox/mailbox/core/Right;)Z" } : Jvm.MethodName) prog_91_method_6_code (2 : Nat) (Option.some Jvm.ClassFile.FieldType.boolean)).before args0 about1 = true := code_word (m := ⟨6, 0⟩) (meth := k6m0) (c := k6c0) (by decide +kernel) rfl rfl rfl (by decide +kernel)
def codes1 : List Jvm.Cond := [Jvm.Cond.code x code maxLocals ret, Jvm.Cond.code ({ cls := "com/example/mailbox/mailbox/core/Right", name := "allows", desc := "(Lcom/example/mailbox/mailbox/core/Right;)Z" } : Jvm.MethodName) prog_91_method_6_code (2 : Nat) (Option.some Jvm.ClassFile.FieldType.boolean)]
set_option maxRecDepth 65536 in
theorem codes_eq : words1.filter isCode = codes1 := rfl
theorem w_codes : ∀ c ∈ words1.filter isCode, c.before args0 about1 = true := by
  rw [codes_eq]
  intro c hc
  simp only [codes1, List.mem_cons, List.not_mem_nil, or_false] at hc
  rcases hc with rfl | rfl
  · exact w_c0
  · exact w_c1
set_option maxRecDepth 65536 in
theorem w_t1 : words1.all (fun c => isCode c || c.before args0 about1) = true := by decide +kernel
theorem w_tables : (allAtoms (Jvm.Cond.code x code maxLocals ret :: tables_1)).before args0 about1 = true := by
  rw [allAtoms_all]
  show words1.all (fun c => c.before args0 about1) = true
  refine all_split ?_ w_codes
  rw [w_t1]
set_option maxRecDepth 65536 in
theorem w_case : (Jvm.Cond.and given_1 narrow_1).before args0 about1 = true := by decide +kernel
theorem w_applies : (headSpec (Jvm.Cond.code x code maxLocals ret :: tables_1) room_1).applies x e0.platform about1 = true :=
  (Spec.applies_iff w_frames).mpr ⟨w_running, w_runnable, w_alone, w_named, w_hears, w_ripe, w_room, w_tables⟩
theorem atStart : AtStart classFile x code maxLocals ret World_1 tables_1 room_1 Calls_1 rest_1 Pre_1 launch0 p0 e0 about1 theMethod args0 below0 :=
  ⟨lists_1, trivial, launch0.admits_env _ _ _, launch0.least_env, fairChoices_fair.cas, fairChoices_fair.clock, w_frames, w_args, w_heap, w_applies, trivial, trivial, w_case⟩
end start1
theorem witness_1 : WitnessClaimed_1 := ⟨start1.p0, start1.e0, start1.about1, start1.theMethod, start1.args0, start1.below0, start1.atStart⟩
end Jvm.Pilot.@@N@@
