import JvmDerived
import JvmDerived.Pilot.@@N@@Statement
import JvmDerived.Pilot.@@N@@Code
set_option linter.unusedVariables false
set_option linter.unusedSimpArgs false
namespace Jvm.Pilot.@@N@@
open Jvm Jvm.ClassFile Sem Op Lib Jvm.Free Jvm.Stand Jvm.LawKit Jvm.RoadKit Bundle Jvm.Pilot.@@N@@.Jvm.D
def own_Go (p : Program) (e : Env) (below : List Frame) (s : State) (Q : Option Value → Heap → List Loc → Prop) (kc ks : Nat) (A : State) : Prop :=
  ∃ s₂ o, Steps p.tables e below A s₂ ∧ s₂.status = .running ∧ Ended s₂ below o ∧ ∃ v L, o = .returned v ∧ Q v s₂.heap L ∧ FrameEnd s o s₂ L kc ks
section OwnLayer
variable {p : Program} {l : Launch} {e : Env} {R : Room} {s : State} {m : MethodId} {args : Array Value} {below : List Frame} {meth : Method} {c : Code} {T : State} {locs : List Loc} {cells slots : Nat}
variable {Q : Option Value → Heap → List Loc → Prop} {kc ks : Nat} {A B : State}
theorem own_via (h : ∀ t, Steps p.tables e below B t → Steps p.tables e below A t) (g : own_Go p e below s Q kc ks B) : own_Go p e below s Q kc ks A := by
  obtain ⟨t, o, h1, r⟩ := g
  exact ⟨t, o, h _ h1, r⟩
theorem own_tr (h : Steps p.tables e below A B) (g : own_Go p e below s Q kc ks B) : own_Go p e below s Q kc ks A := by
  obtain ⟨t, o, h1, r⟩ := g
  exact ⟨t, o, h.trans h1, r⟩
theorem own_end (X : Stand p l e R s m args below meth c T locs cells slots) (hlk : meth.locks = false) {v : Option Value} (hv : meth.sig.returnType = none → v = none) {A : State}
    (hstep : ∀ fs, (∀ (f : JFrame) (acts : List Action), f.method = m → f.locked = none → f.entered = [] → (doReturn e (T.setTop f) acts v).1 = T.setFrames fs) → Steps p.tables e below A (T.setFrames fs))
    (hQ : Q v T.heap locs) (hc : cells ≤ kc) (hs : slots ≤ ks) : own_Go p e below s Q kc ks A := by
  obtain ⟨fs, hr, hrun, hended, hW, hsame⟩ := X.leave (v := v) hv hlk
  exact ⟨_, _, hstep fs hr, hrun, hended, _, _, rfl, hQ, ⟨_, rfl⟩, hW, hsame.mono hc hs⟩
theorem own_retZ (X : Stand p l e R s m args below meth c T locs cells slots) (hx : p.tables.exec = Jvm.exec) (hlk : meth.locks = false) {pc : Nat} {Ls : Array Slot} {z z' : Int32} {t : FieldType} {rest : List Value} (hret : meth.sig.returnType = some t) (ht : t = .boolean ∨ t = .byte ∨ t = .char ∨ t = .short)
    (hd : decode c.code pc = .ok (.ireturn, 1)) (hz : nar t z = z') (hQ : Q (some (.int z')) T.heap locs) (hc : cells ≤ kc) (hs : slots ≤ ks) : own_Go p e below s Q kc ks (T.setTop (mkF m pc Ls (.int z :: rest))) := by
  subst hz
  exact own_end X hlk (fun h => by rw [hret] at h; cases h) (fun fs hr => retN X hx hret ht hd hr) hQ hc hs
theorem own_retO (X : Stand p l e R s m args below meth c T locs cells slots) (hx : p.tables.exec = Jvm.exec) (hlk : meth.locks = false) {pc : Nat} {Ls : Array Slot} {w : Value} {t : FieldType} {i : Instr} {rest : List Value} (hret : meth.sig.returnType = some t) (hn : narrow t w = w)
    (hi : (i = .ireturn ∧ (t = .int ∨ t = .boolean ∨ t = .byte ∨ t = .char ∨ t = .short) ∧ ∃ z, w = .int z) ∨ (i = .lreturn ∧ t = .long ∧ ∃ z, w = .long z) ∨ (i = .dreturn ∧ t = .double ∧ ∃ z, w = .double z) ∨ (i = .freturn ∧ t = .float ∧ ∃ z, w = .float z) ∨ (i = .areturn ∧ t.isReference = true ∧ w.isRef = true))
    (hd : decode c.code pc = .ok (i, 1)) (hQ : Q (some w) T.heap locs) (hc : cells ≤ kc) (hs : slots ≤ ks) : own_Go p e below s Q kc ks (T.setTop (mkF m pc Ls (w :: rest))) :=
  own_end X hlk (fun h => by rw [hret] at h; cases h) (fun fs hr => retOut X hx hret hn hi hd hr) hQ hc hs
theorem own_retI (X : Stand p l e R s m args below meth c T locs cells slots) (hx : p.tables.exec = Jvm.exec) (hlk : meth.locks = false) {pc : Nat} {Ls : Array Slot} {z : Int32} {rest : List Value} (hret : meth.sig.returnType = some .int)
    (hd : decode c.code pc = .ok (.ireturn, 1)) (hQ : Q (some (.int z)) T.heap locs) (hc : cells ≤ kc) (hs : slots ≤ ks) : own_Go p e below s Q kc ks (T.setTop (mkF m pc Ls (.int z :: rest))) :=
  own_retO X hx hlk hret rfl (Or.inl ⟨rfl, Or.inl rfl, _, rfl⟩) hd hQ hc hs
theorem own_retJ (X : Stand p l e R s m args below meth c T locs cells slots) (hx : p.tables.exec = Jvm.exec) (hlk : meth.locks = false) {pc : Nat} {Ls : Array Slot} {z : Int64} {rest : List Value} (hret : meth.sig.returnType = some .long)
    (hd : decode c.code pc = .ok (.lreturn, 1)) (hQ : Q (some (.long z)) T.heap locs) (hc : cells ≤ kc) (hs : slots ≤ ks) : own_Go p e below s Q kc ks (T.setTop (mkF m pc Ls (.long z :: rest))) :=
  own_retO X hx hlk hret rfl (Or.inr (Or.inl ⟨rfl, rfl, _, rfl⟩)) hd hQ hc hs
theorem own_retR (X : Stand p l e R s m args below meth c T locs cells slots) (hx : p.tables.exec = Jvm.exec) (hlk : meth.locks = false) {pc : Nat} {Ls : Array Slot} {w : Value} {t : FieldType} {rest : List Value} (hret : meth.sig.returnType = some t) (ht : t.isReference = true) (hw : w.isRef = true)
    (hd : decode c.code pc = .ok (.areturn, 1)) (hQ : Q (some w) T.heap locs) (hc : cells ≤ kc) (hs : slots ≤ ks) : own_Go p e below s Q kc ks (T.setTop (mkF m pc Ls (w :: rest))) :=
  own_retO X hx hlk hret (by cases t <;> first | (cases ht; done) | rfl) (Or.inr (Or.inr (Or.inr (Or.inr ⟨rfl, ht, hw⟩)))) hd hQ hc hs
theorem own_retV (X : Stand p l e R s m args below meth c T locs cells slots) (hx : p.tables.exec = Jvm.exec) (hlk : meth.locks = false) {pc : Nat} {Ls : Array Slot} (hret : meth.sig.returnType = none)
    (hd : decode c.code pc = .ok (.return_, 1)) (hQ : Q none T.heap locs) (hc : cells ≤ kc) (hs : slots ≤ ks) : own_Go p e below s Q kc ks (T.setTop (mkF m pc Ls [])) :=
  own_end X hlk (fun _ => rfl) (fun fs hr => X.returnOut hx hret hd hr) hQ hc hs
end OwnLayer
theorem own_eqv {args : Array Value} {Z : State} {t : Term} {k : Int32} (h : (Jvm.Cond.eq t (Term.int k)).value args Z none Z [] = some true) : t.eval args Z none [] Z = some (.int k) := by
  simp only [Jvm.Cond.value, Term.eval] at h
  cases ht : t.eval args Z none [] Z with
  | none => simp [ht] at h
  | some x => cases x <;> simp [ht] at h ⊢; exact h
theorem own_eqvL {args : Array Value} {Z : State} {t : Term} {k : Int64} (h : (Jvm.Cond.eq t (Term.long k)).value args Z none Z [] = some true) : t.eval args Z none [] Z = some (.long k) := by
  simp only [Jvm.Cond.value, Term.eval] at h
  cases ht : t.eval args Z none [] Z with
  | none => simp [ht] at h
  | some x => cases x <;> simp [ht] at h ⊢; exact h
theorem own_fld {args : Array Value} {Z : State} {t : Term} {C n d : String} {a : Addr} {k : Int32} (ev : t.eval args Z none [] Z = some (.ref a)) (h : (Jvm.Cond.eq (Term.field t C n d) (Term.int k)).value args Z none Z [] = some true) : Fld Z Z.heap a C n d (.int k) :=
  Fld.start ((fld_at ev).symm.trans (own_eqv h))
theorem own_fldL {args : Array Value} {Z : State} {t : Term} {C n d : String} {a : Addr} {k : Int64} (ev : t.eval args Z none [] Z = some (.ref a)) (h : (Jvm.Cond.eq (Term.field t C n d) (Term.long k)).value args Z none Z [] = some true) : Fld Z Z.heap a C n d (.long k) :=
  Fld.start ((fld_at ev).symm.trans (own_eqvL h))
theorem own_mod (x : Int32) (n : Int32) (k : Int) (hn : n.toInt = k) (hk : 0 < k) : 0 ≤ ((x &&& 2147483647) % n).toInt ∧ ((x &&& 2147483647) % n).toInt < k := by
  have h := (c_and x 2147483647 (by decide)).1
  rw [Int32.toInt_mod, hn, Int.tmod_eq_emod_of_nonneg h]
  exact ⟨Int.emod_nonneg _ (by omega), Int.emod_lt_of_pos _ hk⟩
theorem own_z {x y : Int32} (h : x.toInt = y.toInt) : x = y := Int32.toInt_inj.mp h
theorem own_mod3 (x : Int32) : (x &&& 2147483647) % 3 = 0 ∨ (x &&& 2147483647) % 3 = 1 ∨ (x &&& 2147483647) % 3 = 2 := by
  have h := own_mod x 3 3 rfl (by decide)
  simp only [← Int32.toInt_inj, show (0 : Int32).toInt = 0 from rfl, show (1 : Int32).toInt = 1 from rfl, show (2 : Int32).toInt = 2 from rfl]
  omega
theorem own_mod5 (x : Int32) : (x &&& 2147483647) % 5 = 0 ∨ (x &&& 2147483647) % 5 = 1 ∨ (x &&& 2147483647) % 5 = 2 ∨ (x &&& 2147483647) % 5 = 3 ∨ (x &&& 2147483647) % 5 = 4 := by
  have h := own_mod x 5 5 rfl (by decide)
  simp only [← Int32.toInt_inj, show (0 : Int32).toInt = 0 from rfl, show (1 : Int32).toInt = 1 from rfl, show (2 : Int32).toInt = 2 from rfl, show (3 : Int32).toInt = 3 from rfl, show (4 : Int32).toInt = 4 from rfl]
  omega
theorem own_mod6 (x : Int32) : (x &&& 2147483647) % 6 = 0 ∨ (x &&& 2147483647) % 6 = 1 ∨ (x &&& 2147483647) % 6 = 2 ∨ (x &&& 2147483647) % 6 = 3 ∨ (x &&& 2147483647) % 6 = 4 ∨ (x &&& 2147483647) % 6 = 5 := by
  have h := own_mod x 6 6 rfl (by decide)
  simp only [← Int32.toInt_inj, show (0 : Int32).toInt = 0 from rfl, show (1 : Int32).toInt = 1 from rfl, show (2 : Int32).toInt = 2 from rfl, show (3 : Int32).toInt = 3 from rfl, show (4 : Int32).toInt = 4 from rfl, show (5 : Int32).toInt = 5 from rfl]
  omega
theorem own_and1 (x : Int32) : x &&& 1 = 0 ∨ x &&& 1 = 1 := by
  have h := c_and x 1 (by decide)
  simp only [← Int32.toInt_inj, show (0 : Int32).toInt = 0 from rfl, show (1 : Int32).toInt = 1 from rfl] at *
  omega
theorem own_and3 (x : Int32) : x &&& 3 = 0 ∨ x &&& 3 = 1 ∨ x &&& 3 = 2 ∨ x &&& 3 = 3 := by
  have h := c_and x 3 (by decide)
  simp only [← Int32.toInt_inj, show (0 : Int32).toInt = 0 from rfl, show (1 : Int32).toInt = 1 from rfl, show (2 : Int32).toInt = 2 from rfl, show (3 : Int32).toInt = 3 from rfl] at *
  omega
def own_K (Z : State) (h0 : Heap) (w0 : Addr) (w1 : Addr) (w2 : Addr) (w3 : Addr) : Prop :=
  Sta Z h0 "com/example/bericht/bericht/selector/ValueType" "NUMBER" "Lcom/example/bericht/bericht/selector/ValueType;" (.ref w0) ∧
  Sta Z h0 "com/example/bericht/bericht/selector/ValueType" "ANY" "Lcom/example/bericht/bericht/selector/ValueType;" (.ref w1) ∧
  Sta Z h0 "com/example/bericht/bericht/selector/ValueType" "BOOLEAN" "Lcom/example/bericht/bericht/selector/ValueType;" (.ref w2) ∧
  Sta Z h0 "com/example/bericht/bericht/selector/ValueType" "STRING" "Lcom/example/bericht/bericht/selector/ValueType;" (.ref w3) ∧
  Exa Z h0 w0 "com/example/bericht/bericht/selector/ValueType" ∧
  Exa Z h0 w1 "com/example/bericht/bericht/selector/ValueType" ∧
  Exa Z h0 w2 "com/example/bericht/bericht/selector/ValueType" ∧
  Exa Z h0 w3 "com/example/bericht/bericht/selector/ValueType" ∧
  Fld Z h0 w0 "java/lang/Enum" "ordinal" "I" (.int (0 : Int32)) ∧
  Fld Z h0 w1 "java/lang/Enum" "ordinal" "I" (.int (3 : Int32)) ∧
  Fld Z h0 w2 "java/lang/Enum" "ordinal" "I" (.int (2 : Int32)) ∧
  Fld Z h0 w3 "java/lang/Enum" "ordinal" "I" (.int (1 : Int32)) ∧
  ¬ (w0 = w1) ∧
  ¬ (w0 = w2) ∧
  ¬ (w0 = w3) ∧
  ¬ (w1 = w2) ∧
  ¬ (w1 = w3) ∧
  ¬ (w2 = w3)
theorem pn0 : plainName "com/example/bericht/bericht/selector/ValueTypeAdmitsPinLaw" = true := by first | (simp [plainName, overriddenIn]; done) | decide +kernel
theorem pn1 : plainName "com/example/bericht/bericht/selector/ValueType" = true := by first | (simp [plainName, overriddenIn]; done) | decide +kernel
theorem pd0 : parseMethodDescriptor "(I)Lcom/example/bericht/bericht/selector/ValueType;" = some ⟨[.int], some (.object "com/example/bericht/bericht/selector/ValueType")⟩ := by decide +kernel
theorem pd1 : parseMethodDescriptor "(Lcom/example/bericht/bericht/selector/ValueType;)Z" = some ⟨[(.object "com/example/bericht/bericht/selector/ValueType")], some .boolean⟩ := by decide +kernel
theorem pd2 : parseMethodDescriptor "(II)Z" = some ⟨[.int, .int], some .boolean⟩ := by decide +kernel
theorem d1_0 : decode method_2_code 0 = .ok (.iload_n 0, 1) := by decide +kernel
theorem d1_1 : decode method_2_code 1 = .ok (.ifCond .ne 7, 3) := by decide +kernel
theorem d1_4 : decode method_2_code 4 = .ok (.getstatic 7, 3) := by decide +kernel
theorem d1_7 : decode method_2_code 7 = .ok (.areturn, 1) := by decide +kernel
theorem d1_8 : decode method_2_code 8 = .ok (.iload_n 0, 1) := by decide +kernel
theorem d1_9 : decode method_2_code 9 = .ok (.iconst 1, 1) := by decide +kernel
theorem d1_10 : decode method_2_code 10 = .ok (.if_icmp .ne 7, 3) := by decide +kernel
theorem d1_13 : decode method_2_code 13 = .ok (.getstatic 13, 3) := by decide +kernel
theorem d1_16 : decode method_2_code 16 = .ok (.areturn, 1) := by decide +kernel
theorem d1_17 : decode method_2_code 17 = .ok (.iload_n 0, 1) := by decide +kernel
theorem d1_18 : decode method_2_code 18 = .ok (.iconst 2, 1) := by decide +kernel
theorem d1_19 : decode method_2_code 19 = .ok (.if_icmp .ne 7, 3) := by decide +kernel
theorem d1_22 : decode method_2_code 22 = .ok (.getstatic 16, 3) := by decide +kernel
theorem d1_25 : decode method_2_code 25 = .ok (.areturn, 1) := by decide +kernel
theorem d1_26 : decode method_2_code 26 = .ok (.getstatic 19, 3) := by decide +kernel
theorem d1_29 : decode method_2_code 29 = .ok (.areturn, 1) := by decide +kernel
theorem d2_0 : decode prog_94_method_5_code 0 = .ok (.aload_n 0, 1) := by decide +kernel
theorem d2_1 : decode prog_94_method_5_code 1 = .ok (.getstatic 13, 3) := by decide +kernel
theorem d2_4 : decode prog_94_method_5_code 4 = .ok (.if_acmp .eq 15, 3) := by decide +kernel
theorem d2_7 : decode prog_94_method_5_code 7 = .ok (.aload_n 1, 1) := by decide +kernel
theorem d2_8 : decode prog_94_method_5_code 8 = .ok (.getstatic 13, 3) := by decide +kernel
theorem d2_11 : decode prog_94_method_5_code 11 = .ok (.if_acmp .eq 8, 3) := by decide +kernel
theorem d2_14 : decode prog_94_method_5_code 14 = .ok (.aload_n 0, 1) := by decide +kernel
theorem d2_15 : decode prog_94_method_5_code 15 = .ok (.aload_n 1, 1) := by decide +kernel
theorem d2_16 : decode prog_94_method_5_code 16 = .ok (.if_acmp .ne 7, 3) := by decide +kernel
theorem d2_19 : decode prog_94_method_5_code 19 = .ok (.iconst 1, 1) := by decide +kernel
theorem d2_20 : decode prog_94_method_5_code 20 = .ok (.goto 4, 3) := by decide +kernel
theorem d2_23 : decode prog_94_method_5_code 23 = .ok (.iconst 0, 1) := by decide +kernel
theorem d2_24 : decode prog_94_method_5_code 24 = .ok (.ireturn, 1) := by decide +kernel
theorem d3_0 : decode method_3_code 0 = .ok (.iload_n 0, 1) := by decide +kernel
theorem d3_1 : decode method_3_code 1 = .ok (.iconst 3, 1) := by decide +kernel
theorem d3_2 : decode method_3_code 2 = .ok (.if_icmp .ne 5, 3) := by decide +kernel
theorem d3_5 : decode method_3_code 5 = .ok (.iconst 1, 1) := by decide +kernel
theorem d3_6 : decode method_3_code 6 = .ok (.ireturn, 1) := by decide +kernel
theorem d3_7 : decode method_3_code 7 = .ok (.iload_n 1, 1) := by decide +kernel
theorem d3_8 : decode method_3_code 8 = .ok (.iconst 3, 1) := by decide +kernel
theorem d3_9 : decode method_3_code 9 = .ok (.if_icmp .ne 5, 3) := by decide +kernel
theorem d3_12 : decode method_3_code 12 = .ok (.iconst 1, 1) := by decide +kernel
theorem d3_13 : decode method_3_code 13 = .ok (.ireturn, 1) := by decide +kernel
theorem d3_14 : decode method_3_code 14 = .ok (.iload_n 0, 1) := by decide +kernel
theorem d3_15 : decode method_3_code 15 = .ok (.iload_n 1, 1) := by decide +kernel
theorem d3_16 : decode method_3_code 16 = .ok (.if_icmp .ne 7, 3) := by decide +kernel
theorem d3_19 : decode method_3_code 19 = .ok (.iconst 1, 1) := by decide +kernel
theorem d3_20 : decode method_3_code 20 = .ok (.goto 4, 3) := by decide +kernel
theorem d3_23 : decode method_3_code 23 = .ok (.iconst 0, 1) := by decide +kernel
theorem d3_24 : decode method_3_code 24 = .ok (.ireturn, 1) := by decide +kernel
def Q1_0 (w0 : Addr) (w1 : Addr) (w2 : Addr) (w3 : Addr) (h0 : Heap) (v : Option Value) (h : Heap) (L : List Loc) : Prop := L = [] ∧ h = h0 ∧ ((v = some (.ref w0)))
set_option maxRecDepth 65536 in
set_option maxHeartbeats 40000000 in
theorem rm1_0 (l : Launch) (Z : State) (a0 : Array Value) (hw : ∀ d ∈ tables_1, d.before a0 Z = true) (ws : List Jvm.Cond) (w0 : Addr) (w1 : Addr) (w2 : Addr) (w3 : Addr) (h0 : Heap) (n0 : Nat) (Z0 : n0 ≤ h0.size) (K : own_K Z h0 w0 w1 w2 w3) :
    MetFree l (⟨"com/example/bericht/bericht/selector/ValueTypeAdmitsPinLaw", "pick", "(I)Lcom/example/bericht/bericht/selector/ValueType;"⟩ : MethodName) (head1 (Jvm.Cond.code (⟨"com/example/bericht/bericht/selector/ValueTypeAdmitsPinLaw", "pick", "(I)Lcom/example/bericht/bericht/selector/ValueType;"⟩ : MethodName) method_2_code 1 (some (.object "com/example/bericht/bericht/selector/ValueType")) :: ws) ({ frames := 0, cells := 0, slots := 0, locals := 0 } : Room)) (fun a U => a = #[(.int (0 : Int32))] ∧ Z.Warmed39 U.vm ∧ U.heap = h0) (fun _ _ _ _ _ => True) (fun _ U o U' => ∃ v L, o = .returned v ∧ Q1_0 w0 w1 w2 w3 h0 v U'.heap L ∧ FrameEnd U o U' L ({ frames := 0, cells := 0, slots := 0, locals := 0 } : Room).cells ({ frames := 0, cells := 0, slots := 0, locals := 0 } : Room).slots) := by
  refine MetFree.of_bodySF (plainFor_of_name pn0) hisR ?_
  intro p e s m args below meth c s₁ Bd hml0 hP hK
  obtain ⟨rfl, hZ, hh⟩ := hP
  have hx := Bd.exec
  have hby := Bd.bytes
  have hml : c.maxLocals = 1 := hml0
  have hown : s.vm.findClass "com/example/bericht/bericht/selector/ValueTypeAdmitsPinLaw" = some m.cls := findClass_of_methodNamed Bd.named
  have hnm := (name_of_methodNamed Bd.named Bd.method).1
  have hlk := Bd.notSynchronized
  have X0 : Stand p l e ({ frames := 0, cells := 0, slots := 0, locals := 0 } : Room) s m #[(.int (0 : Int32))] below meth c s₁ [] 0 0 := Stand.of_body Bd
  have e0 : s₁.heap = h0 := by rw [← hh, Bd.state]; rfl
  have K0 := K
  obtain ⟨S_w0, S_w1, S_w2, S_w3, E_w0, E_w1, E_w2, E_w3, F_w0_ordinal, F_w1_ordinal, F_w2_ordinal, F_w3_ordinal, n_w0_w1, n_w0_w2, n_w0_w3, n_w1_w2, n_w1_w3, n_w2_w3⟩ := K
  show own_Go p e below s (Q1_0 w0 w1 w2 w3 h0) 0 0 (s₁.setTop (entryFrame m #[(.int (0 : Int32))] 1))
  rw [show entryFrame m #[(.int (0 : Int32))] 1 = mkF m 0 #[.val (.int (0 : Int32))] [] from by first | (simp [entryFrame, mkF, argsToLocals, Value.category]; done) | rfl]
  show own_Go p e below s _ _ _ (s₁.setTop (mkF m 0 #[.val (.int (0 : Int32))] []))
  refine own_via (fun _ k => XS.iloadN X0.here hx rfl (hb hby d1_0) rfl k) ?_
  show own_Go p e below s _ _ _ (s₁.setTop (mkF m 1 #[.val (.int (0 : Int32))] [(.int (0 : Int32))]))
  refine own_via (fun _ k => XS.ifNo X0.here hx rfl (hb hby d1_1) rfl ((if0 _ _).trans (teq (by decide : (0 : Int32) = (0 : Int32))).2) k) ?_
  show own_Go p e below s _ _ _ (s₁.setTop (mkF m 4 #[.val (.int (0 : Int32))] []))
  obtain ⟨T1, X1, e1, st1⟩ := getS2 X0 hx hZ hown (host := "") (Or.inl (hw _ (List.mem_of_getElem? (i := 4) rfl))) Via.refl e0 S_w0 (g := (mkF m 4 #[.val (.int (0 : Int32))] [])) rfl (hb hby d1_4)
  refine own_via st1 ?_
  show own_Go p e below s _ _ _ (T1.setTop (mkF m 7 #[.val (.int (0 : Int32))] [(.ref w0)]))
  exact own_retR X1 hx hlk Bd.returns rfl rfl (hb hby d1_7) ⟨rfl, e1, rfl⟩ (by decide) (by decide)
def Q2_0 (w0 : Addr) (w1 : Addr) (w2 : Addr) (w3 : Addr) (h0 : Heap) (v : Option Value) (h : Heap) (L : List Loc) : Prop := L = [] ∧ h = h0 ∧ ((v = some (.int (1 : Int32))))
set_option maxRecDepth 65536 in
set_option maxHeartbeats 40000000 in
theorem rm2_0 (l : Launch) (Z : State) (a0 : Array Value) (hw : ∀ d ∈ tables_1, d.before a0 Z = true) (ws : List Jvm.Cond) (w0 : Addr) (w1 : Addr) (w2 : Addr) (w3 : Addr) (h0 : Heap) (n0 : Nat) (Z0 : n0 ≤ h0.size) (K : own_K Z h0 w0 w1 w2 w3) :
    MetFree l (⟨"com/example/bericht/bericht/selector/ValueType", "admits", "(Lcom/example/bericht/bericht/selector/ValueType;)Z"⟩ : MethodName) (head1 (Jvm.Cond.code (⟨"com/example/bericht/bericht/selector/ValueType", "admits", "(Lcom/example/bericht/bericht/selector/ValueType;)Z"⟩ : MethodName) prog_94_method_5_code 2 (some .boolean) :: ws) ({ frames := 0, cells := 0, slots := 0, locals := 0 } : Room)) (fun a U => a = #[(.ref w0), (.ref w0)] ∧ Z.Warmed39 U.vm ∧ U.heap = h0) (fun _ _ _ _ _ => True) (fun _ U o U' => ∃ v L, o = .returned v ∧ Q2_0 w0 w1 w2 w3 h0 v U'.heap L ∧ FrameEnd U o U' L ({ frames := 0, cells := 0, slots := 0, locals := 0 } : Room).cells ({ frames := 0, cells := 0, slots := 0, locals := 0 } : Room).slots) := by
  refine MetFree.of_bodySF (plainFor_of_name pn1) hisR ?_
  intro p e s m args below meth c s₁ Bd hml0 hP hK
  obtain ⟨rfl, hZ, hh⟩ := hP
  have hx := Bd.exec
  have hby := Bd.bytes
  have hml : c.maxLocals = 2 := hml0
  have hown : s.vm.findClass "com/example/bericht/bericht/selector/ValueType" = some m.cls := findClass_of_methodNamed Bd.named
  have hnm := (name_of_methodNamed Bd.named Bd.method).1
  have hlk := Bd.notSynchronized
  have X0 : Stand p l e ({ frames := 0, cells := 0, slots := 0, locals := 0 } : Room) s m #[(.ref w0), (.ref w0)] below meth c s₁ [] 0 0 := Stand.of_body Bd
  have e0 : s₁.heap = h0 := by rw [← hh, Bd.state]; rfl
  have K0 := K
  obtain ⟨S_w0, S_w1, S_w2, S_w3, E_w0, E_w1, E_w2, E_w3, F_w0_ordinal, F_w1_ordinal, F_w2_ordinal, F_w3_ordinal, n_w0_w1, n_w0_w2, n_w0_w3, n_w1_w2, n_w1_w3, n_w2_w3⟩ := K
  show own_Go p e below s (Q2_0 w0 w1 w2 w3 h0) 0 0 (s₁.setTop (entryFrame m #[(.ref w0), (.ref w0)] 2))
  rw [show entryFrame m #[(.ref w0), (.ref w0)] 2 = mkF m 0 #[.val (.ref w0), .val (.ref w0)] [] from by first | (simp [entryFrame, mkF, argsToLocals, Value.category]; done) | rfl]
  show own_Go p e below s _ _ _ (s₁.setTop (mkF m 0 #[.val (.ref w0), .val (.ref w0)] []))
  refine own_via (fun _ k => XS.aloadN X0.here hx rfl (hb hby d2_0) rfl rfl k) ?_
  show own_Go p e below s _ _ _ (s₁.setTop (mkF m 1 #[.val (.ref w0), .val (.ref w0)] [(.ref w0)]))
  obtain ⟨T1, X1, e1, st1⟩ := getS2 X0 hx hZ hown (host := "") (Or.inl (hw _ (List.mem_of_getElem? (i := 14) rfl))) Via.refl e0 S_w1 (g := (mkF m 1 #[.val (.ref w0), .val (.ref w0)] [(.ref w0)])) rfl (hb hby d2_1)
  refine own_via st1 ?_
  show own_Go p e below s _ _ _ (T1.setTop (mkF m 4 #[.val (.ref w0), .val (.ref w0)] [(.ref w1), (.ref w0)]))
  refine own_via (fun _ k => Jvm.RoadKit.acmp (g := (mkF m 4 #[.val (.ref w0), .val (.ref w0)] [(.ref w1), (.ref w0)])) X1 hx rfl rfl rfl (pc0 := 4) (pc' := 7) (same := false) rfl (hb hby d2_4) rfl (decide_eq_false fun q => n_w0_w1 (Value.ref.inj q)) (by decide) (by decide) k) ?_
  show own_Go p e below s _ _ _ (T1.setTop (mkF m 7 #[.val (.ref w0), .val (.ref w0)] []))
  refine own_via (fun _ k => XS.aloadN X1.here hx rfl (hb hby d2_7) rfl rfl k) ?_
  show own_Go p e below s _ _ _ (T1.setTop (mkF m 8 #[.val (.ref w0), .val (.ref w0)] [(.ref w0)]))
  obtain ⟨T2, X2, e2, st2⟩ := getS2 X1 hx hZ hown (host := "") (Or.inl (hw _ (List.mem_of_getElem? (i := 14) rfl))) Via.refl e1 S_w1 (g := (mkF m 8 #[.val (.ref w0), .val (.ref w0)] [(.ref w0)])) rfl (hb hby d2_8)
  refine own_via st2 ?_
  show own_Go p e below s _ _ _ (T2.setTop (mkF m 11 #[.val (.ref w0), .val (.ref w0)] [(.ref w1), (.ref w0)]))
  refine own_via (fun _ k => Jvm.RoadKit.acmp (g := (mkF m 11 #[.val (.ref w0), .val (.ref w0)] [(.ref w1), (.ref w0)])) X2 hx rfl rfl rfl (pc0 := 11) (pc' := 14) (same := false) rfl (hb hby d2_11) rfl (decide_eq_false fun q => n_w0_w1 (Value.ref.inj q)) (by decide) (by decide) k) ?_
  show own_Go p e below s _ _ _ (T2.setTop (mkF m 14 #[.val (.ref w0), .val (.ref w0)] []))
  refine own_via (fun _ k => XS.aloadN X2.here hx rfl (hb hby d2_14) rfl rfl k) ?_
  show own_Go p e below s _ _ _ (T2.setTop (mkF m 15 #[.val (.ref w0), .val (.ref w0)] [(.ref w0)]))
  refine own_via (fun _ k => XS.aloadN X2.here hx rfl (hb hby d2_15) rfl rfl k) ?_
  show own_Go p e below s _ _ _ (T2.setTop (mkF m 16 #[.val (.ref w0), .val (.ref w0)] [(.ref w0), (.ref w0)]))
  refine own_via (fun _ k => Jvm.RoadKit.acmp (g := (mkF m 16 #[.val (.ref w0), .val (.ref w0)] [(.ref w0), (.ref w0)])) X2 hx rfl rfl rfl (pc0 := 16) (pc' := 19) (same := true) rfl (hb hby d2_16) rfl (decide_eq_true rfl) (by decide) (by decide) k) ?_
  show own_Go p e below s _ _ _ (T2.setTop (mkF m 19 #[.val (.ref w0), .val (.ref w0)] []))
  refine own_via (fun _ k => XS.iconst X2.here hx rfl (hb hby d2_19) k) ?_
  show own_Go p e below s _ _ _ (T2.setTop (mkF m 20 #[.val (.ref w0), .val (.ref w0)] [(.int (1 : Int32))]))
  refine own_via (fun _ k => XS.goto X2.here hx rfl (pc0 := 20) (pc' := 24) rfl (hb hby d2_20) (by decide) (by decide) k) ?_
  show own_Go p e below s _ _ _ (T2.setTop (mkF m 24 #[.val (.ref w0), .val (.ref w0)] [(.int (1 : Int32))]))
  exact own_retZ X2 hx hlk (t := .boolean) Bd.returns (by simp) (hb hby d2_24) (z' := (1 : Int32)) (by first | rfl | decide) ⟨rfl, e2, rfl⟩ (by decide) (by decide)
def Q3_0 (w0 : Addr) (w1 : Addr) (w2 : Addr) (w3 : Addr) (h0 : Heap) (v : Option Value) (h : Heap) (L : List Loc) : Prop := L = [] ∧ h = h0 ∧ ((v = some (.int (1 : Int32))))
set_option maxRecDepth 65536 in
set_option maxHeartbeats 40000000 in
theorem rm3_0 (l : Launch) (Z : State) (a0 : Array Value) (hw : ∀ d ∈ tables_1, d.before a0 Z = true) (ws : List Jvm.Cond) (w0 : Addr) (w1 : Addr) (w2 : Addr) (w3 : Addr) (h0 : Heap) (n0 : Nat) (Z0 : n0 ≤ h0.size) (K : own_K Z h0 w0 w1 w2 w3) :
    MetFree l (⟨"com/example/bericht/bericht/selector/ValueTypeAdmitsPinLaw", "expected", "(II)Z"⟩ : MethodName) (head1 (Jvm.Cond.code (⟨"com/example/bericht/bericht/selector/ValueTypeAdmitsPinLaw", "expected", "(II)Z"⟩ : MethodName) method_3_code 2 (some .boolean) :: ws) ({ frames := 0, cells := 0, slots := 0, locals := 0 } : Room)) (fun a U => a = #[(.int (0 : Int32)), (.int (0 : Int32))] ∧ Z.Warmed39 U.vm ∧ U.heap = h0) (fun _ _ _ _ _ => True) (fun _ U o U' => ∃ v L, o = .returned v ∧ Q3_0 w0 w1 w2 w3 h0 v U'.heap L ∧ FrameEnd U o U' L ({ frames := 0, cells := 0, slots := 0, locals := 0 } : Room).cells ({ frames := 0, cells := 0, slots := 0, locals := 0 } : Room).slots) := by
  refine MetFree.of_bodySF (plainFor_of_name pn0) hisR ?_
  intro p e s m args below meth c s₁ Bd hml0 hP hK
  obtain ⟨rfl, hZ, hh⟩ := hP
  have hx := Bd.exec
  have hby := Bd.bytes
  have hml : c.maxLocals = 2 := hml0
  have hown : s.vm.findClass "com/example/bericht/bericht/selector/ValueTypeAdmitsPinLaw" = some m.cls := findClass_of_methodNamed Bd.named
  have hnm := (name_of_methodNamed Bd.named Bd.method).1
  have hlk := Bd.notSynchronized
  have X0 : Stand p l e ({ frames := 0, cells := 0, slots := 0, locals := 0 } : Room) s m #[(.int (0 : Int32)), (.int (0 : Int32))] below meth c s₁ [] 0 0 := Stand.of_body Bd
  have e0 : s₁.heap = h0 := by rw [← hh, Bd.state]; rfl
  have K0 := K
  obtain ⟨S_w0, S_w1, S_w2, S_w3, E_w0, E_w1, E_w2, E_w3, F_w0_ordinal, F_w1_ordinal, F_w2_ordinal, F_w3_ordinal, n_w0_w1, n_w0_w2, n_w0_w3, n_w1_w2, n_w1_w3, n_w2_w3⟩ := K
  show own_Go p e below s (Q3_0 w0 w1 w2 w3 h0) 0 0 (s₁.setTop (entryFrame m #[(.int (0 : Int32)), (.int (0 : Int32))] 2))
  rw [show entryFrame m #[(.int (0 : Int32)), (.int (0 : Int32))] 2 = mkF m 0 #[.val (.int (0 : Int32)), .val (.int (0 : Int32))] [] from by first | (simp [entryFrame, mkF, argsToLocals, Value.category]; done) | rfl]
  show own_Go p e below s _ _ _ (s₁.setTop (mkF m 0 #[.val (.int (0 : Int32)), .val (.int (0 : Int32))] []))
  refine own_via (fun _ k => XS.iloadN X0.here hx rfl (hb hby d3_0) rfl k) ?_
  show own_Go p e below s _ _ _ (s₁.setTop (mkF m 1 #[.val (.int (0 : Int32)), .val (.int (0 : Int32))] [(.int (0 : Int32))]))
  refine own_via (fun _ k => XS.iconst X0.here hx rfl (hb hby d3_1) k) ?_
  show own_Go p e below s _ _ _ (s₁.setTop (mkF m 2 #[.val (.int (0 : Int32)), .val (.int (0 : Int32))] [(.int (3 : Int32)), (.int (0 : Int32))]))
  refine own_via (fun _ k => XS.icmpYes X0.here hx rfl (pc0 := 2) (pc' := 7) rfl (hb hby d3_2) rfl (feq (by decide : ¬ ((0 : Int32) = (3 : Int32)))).2 (by decide) (by decide) k) ?_
  show own_Go p e below s _ _ _ (s₁.setTop (mkF m 7 #[.val (.int (0 : Int32)), .val (.int (0 : Int32))] []))
  refine own_via (fun _ k => XS.iloadN X0.here hx rfl (hb hby d3_7) rfl k) ?_
  show own_Go p e below s _ _ _ (s₁.setTop (mkF m 8 #[.val (.int (0 : Int32)), .val (.int (0 : Int32))] [(.int (0 : Int32))]))
  refine own_via (fun _ k => XS.iconst X0.here hx rfl (hb hby d3_8) k) ?_
  show own_Go p e below s _ _ _ (s₁.setTop (mkF m 9 #[.val (.int (0 : Int32)), .val (.int (0 : Int32))] [(.int (3 : Int32)), (.int (0 : Int32))]))
  refine own_via (fun _ k => XS.icmpYes X0.here hx rfl (pc0 := 9) (pc' := 14) rfl (hb hby d3_9) rfl (feq (by decide : ¬ ((0 : Int32) = (3 : Int32)))).2 (by decide) (by decide) k) ?_
  show own_Go p e below s _ _ _ (s₁.setTop (mkF m 14 #[.val (.int (0 : Int32)), .val (.int (0 : Int32))] []))
  refine own_via (fun _ k => XS.iloadN X0.here hx rfl (hb hby d3_14) rfl k) ?_
  show own_Go p e below s _ _ _ (s₁.setTop (mkF m 15 #[.val (.int (0 : Int32)), .val (.int (0 : Int32))] [(.int (0 : Int32))]))
  refine own_via (fun _ k => XS.iloadN X0.here hx rfl (hb hby d3_15) rfl k) ?_
  show own_Go p e below s _ _ _ (s₁.setTop (mkF m 16 #[.val (.int (0 : Int32)), .val (.int (0 : Int32))] [(.int (0 : Int32)), (.int (0 : Int32))]))
  refine own_via (fun _ k => XS.icmpNo X0.here hx rfl (hb hby d3_16) rfl (teq (by decide : (0 : Int32) = (0 : Int32))).2 k) ?_
  show own_Go p e below s _ _ _ (s₁.setTop (mkF m 19 #[.val (.int (0 : Int32)), .val (.int (0 : Int32))] []))
  refine own_via (fun _ k => XS.iconst X0.here hx rfl (hb hby d3_19) k) ?_
  show own_Go p e below s _ _ _ (s₁.setTop (mkF m 20 #[.val (.int (0 : Int32)), .val (.int (0 : Int32))] [(.int (1 : Int32))]))
  refine own_via (fun _ k => XS.goto X0.here hx rfl (pc0 := 20) (pc' := 24) rfl (hb hby d3_20) (by decide) (by decide) k) ?_
  show own_Go p e below s _ _ _ (s₁.setTop (mkF m 24 #[.val (.int (0 : Int32)), .val (.int (0 : Int32))] [(.int (1 : Int32))]))
  exact own_retZ X0 hx hlk (t := .boolean) Bd.returns (by simp) (hb hby d3_24) (z' := (1 : Int32)) (by first | rfl | decide) ⟨rfl, e0, rfl⟩ (by decide) (by decide)
def Q1_1 (w0 : Addr) (w1 : Addr) (w2 : Addr) (w3 : Addr) (h0 : Heap) (v : Option Value) (h : Heap) (L : List Loc) : Prop := L = [] ∧ h = h0 ∧ ((v = some (.ref w3)))
set_option maxRecDepth 65536 in
set_option maxHeartbeats 40000000 in
theorem rm1_1 (l : Launch) (Z : State) (a0 : Array Value) (hw : ∀ d ∈ tables_1, d.before a0 Z = true) (ws : List Jvm.Cond) (w0 : Addr) (w1 : Addr) (w2 : Addr) (w3 : Addr) (h0 : Heap) (n0 : Nat) (Z0 : n0 ≤ h0.size) (K : own_K Z h0 w0 w1 w2 w3) :
    MetFree l (⟨"com/example/bericht/bericht/selector/ValueTypeAdmitsPinLaw", "pick", "(I)Lcom/example/bericht/bericht/selector/ValueType;"⟩ : MethodName) (head1 (Jvm.Cond.code (⟨"com/example/bericht/bericht/selector/ValueTypeAdmitsPinLaw", "pick", "(I)Lcom/example/bericht/bericht/selector/ValueType;"⟩ : MethodName) method_2_code 1 (some (.object "com/example/bericht/bericht/selector/ValueType")) :: ws) ({ frames := 0, cells := 0, slots := 0, locals := 0 } : Room)) (fun a U => a = #[(.int (1 : Int32))] ∧ Z.Warmed39 U.vm ∧ U.heap = h0) (fun _ _ _ _ _ => True) (fun _ U o U' => ∃ v L, o = .returned v ∧ Q1_1 w0 w1 w2 w3 h0 v U'.heap L ∧ FrameEnd U o U' L ({ frames := 0, cells := 0, slots := 0, locals := 0 } : Room).cells ({ frames := 0, cells := 0, slots := 0, locals := 0 } : Room).slots) := by
  refine MetFree.of_bodySF (plainFor_of_name pn0) hisR ?_
  intro p e s m args below meth c s₁ Bd hml0 hP hK
  obtain ⟨rfl, hZ, hh⟩ := hP
  have hx := Bd.exec
  have hby := Bd.bytes
  have hml : c.maxLocals = 1 := hml0
  have hown : s.vm.findClass "com/example/bericht/bericht/selector/ValueTypeAdmitsPinLaw" = some m.cls := findClass_of_methodNamed Bd.named
  have hnm := (name_of_methodNamed Bd.named Bd.method).1
  have hlk := Bd.notSynchronized
  have X0 : Stand p l e ({ frames := 0, cells := 0, slots := 0, locals := 0 } : Room) s m #[(.int (1 : Int32))] below meth c s₁ [] 0 0 := Stand.of_body Bd
  have e0 : s₁.heap = h0 := by rw [← hh, Bd.state]; rfl
  have K0 := K
  obtain ⟨S_w0, S_w1, S_w2, S_w3, E_w0, E_w1, E_w2, E_w3, F_w0_ordinal, F_w1_ordinal, F_w2_ordinal, F_w3_ordinal, n_w0_w1, n_w0_w2, n_w0_w3, n_w1_w2, n_w1_w3, n_w2_w3⟩ := K
  show own_Go p e below s (Q1_1 w0 w1 w2 w3 h0) 0 0 (s₁.setTop (entryFrame m #[(.int (1 : Int32))] 1))
  rw [show entryFrame m #[(.int (1 : Int32))] 1 = mkF m 0 #[.val (.int (1 : Int32))] [] from by first | (simp [entryFrame, mkF, argsToLocals, Value.category]; done) | rfl]
  show own_Go p e below s _ _ _ (s₁.setTop (mkF m 0 #[.val (.int (1 : Int32))] []))
  refine own_via (fun _ k => XS.iloadN X0.here hx rfl (hb hby d1_0) rfl k) ?_
  show own_Go p e below s _ _ _ (s₁.setTop (mkF m 1 #[.val (.int (1 : Int32))] [(.int (1 : Int32))]))
  refine own_via (fun _ k => XS.ifYes X0.here hx rfl (pc0 := 1) (pc' := 8) rfl (hb hby d1_1) rfl ((if0 _ _).trans (feq (by decide : ¬ ((1 : Int32) = (0 : Int32)))).2) (by decide) (by decide) k) ?_
  show own_Go p e below s _ _ _ (s₁.setTop (mkF m 8 #[.val (.int (1 : Int32))] []))
  refine own_via (fun _ k => XS.iloadN X0.here hx rfl (hb hby d1_8) rfl k) ?_
  show own_Go p e below s _ _ _ (s₁.setTop (mkF m 9 #[.val (.int (1 : Int32))] [(.int (1 : Int32))]))
  refine own_via (fun _ k => XS.iconst X0.here hx rfl (hb hby d1_9) k) ?_
  show own_Go p e below s _ _ _ (s₁.setTop (mkF m 10 #[.val (.int (1 : Int32))] [(.int (1 : Int32)), (.int (1 : Int32))]))
  refine own_via (fun _ k => XS.icmpNo X0.here hx rfl (hb hby d1_10) rfl (teq (by decide : (1 : Int32) = (1 : Int32))).2 k) ?_
  show own_Go p e below s _ _ _ (s₁.setTop (mkF m 13 #[.val (.int (1 : Int32))] []))
  obtain ⟨T1, X1, e1, st1⟩ := getS2 X0 hx hZ hown (host := "") (Or.inl (hw _ (List.mem_of_getElem? (i := 20) rfl))) Via.refl e0 S_w3 (g := (mkF m 13 #[.val (.int (1 : Int32))] [])) rfl (hb hby d1_13)
  refine own_via st1 ?_
  show own_Go p e below s _ _ _ (T1.setTop (mkF m 16 #[.val (.int (1 : Int32))] [(.ref w3)]))
  exact own_retR X1 hx hlk Bd.returns rfl rfl (hb hby d1_16) ⟨rfl, e1, rfl⟩ (by decide) (by decide)
def Q2_1 (w0 : Addr) (w1 : Addr) (w2 : Addr) (w3 : Addr) (h0 : Heap) (v : Option Value) (h : Heap) (L : List Loc) : Prop := L = [] ∧ h = h0 ∧ ((v = some (.int (0 : Int32))))
set_option maxRecDepth 65536 in
set_option maxHeartbeats 40000000 in
theorem rm2_1 (l : Launch) (Z : State) (a0 : Array Value) (hw : ∀ d ∈ tables_1, d.before a0 Z = true) (ws : List Jvm.Cond) (w0 : Addr) (w1 : Addr) (w2 : Addr) (w3 : Addr) (h0 : Heap) (n0 : Nat) (Z0 : n0 ≤ h0.size) (K : own_K Z h0 w0 w1 w2 w3) :
    MetFree l (⟨"com/example/bericht/bericht/selector/ValueType", "admits", "(Lcom/example/bericht/bericht/selector/ValueType;)Z"⟩ : MethodName) (head1 (Jvm.Cond.code (⟨"com/example/bericht/bericht/selector/ValueType", "admits", "(Lcom/example/bericht/bericht/selector/ValueType;)Z"⟩ : MethodName) prog_94_method_5_code 2 (some .boolean) :: ws) ({ frames := 0, cells := 0, slots := 0, locals := 0 } : Room)) (fun a U => a = #[(.ref w0), (.ref w3)] ∧ Z.Warmed39 U.vm ∧ U.heap = h0) (fun _ _ _ _ _ => True) (fun _ U o U' => ∃ v L, o = .returned v ∧ Q2_1 w0 w1 w2 w3 h0 v U'.heap L ∧ FrameEnd U o U' L ({ frames := 0, cells := 0, slots := 0, locals := 0 } : Room).cells ({ frames := 0, cells := 0, slots := 0, locals := 0 } : Room).slots) := by
  refine MetFree.of_bodySF (plainFor_of_name pn1) hisR ?_
  intro p e s m args below meth c s₁ Bd hml0 hP hK
  obtain ⟨rfl, hZ, hh⟩ := hP
  have hx := Bd.exec
  have hby := Bd.bytes
  have hml : c.maxLocals = 2 := hml0
  have hown : s.vm.findClass "com/example/bericht/bericht/selector/ValueType" = some m.cls := findClass_of_methodNamed Bd.named
  have hnm := (name_of_methodNamed Bd.named Bd.method).1
  have hlk := Bd.notSynchronized
  have X0 : Stand p l e ({ frames := 0, cells := 0, slots := 0, locals := 0 } : Room) s m #[(.ref w0), (.ref w3)] below meth c s₁ [] 0 0 := Stand.of_body Bd
  have e0 : s₁.heap = h0 := by rw [← hh, Bd.state]; rfl
  have K0 := K
  obtain ⟨S_w0, S_w1, S_w2, S_w3, E_w0, E_w1, E_w2, E_w3, F_w0_ordinal, F_w1_ordinal, F_w2_ordinal, F_w3_ordinal, n_w0_w1, n_w0_w2, n_w0_w3, n_w1_w2, n_w1_w3, n_w2_w3⟩ := K
  show own_Go p e below s (Q2_1 w0 w1 w2 w3 h0) 0 0 (s₁.setTop (entryFrame m #[(.ref w0), (.ref w3)] 2))
  rw [show entryFrame m #[(.ref w0), (.ref w3)] 2 = mkF m 0 #[.val (.ref w0), .val (.ref w3)] [] from by first | (simp [entryFrame, mkF, argsToLocals, Value.category]; done) | rfl]
  show own_Go p e below s _ _ _ (s₁.setTop (mkF m 0 #[.val (.ref w0), .val (.ref w3)] []))
  refine own_via (fun _ k => XS.aloadN X0.here hx rfl (hb hby d2_0) rfl rfl k) ?_
  show own_Go p e below s _ _ _ (s₁.setTop (mkF m 1 #[.val (.ref w0), .val (.ref w3)] [(.ref w0)]))
  obtain ⟨T1, X1, e1, st1⟩ := getS2 X0 hx hZ hown (host := "") (Or.inl (hw _ (List.mem_of_getElem? (i := 14) rfl))) Via.refl e0 S_w1 (g := (mkF m 1 #[.val (.ref w0), .val (.ref w3)] [(.ref w0)])) rfl (hb hby d2_1)
  refine own_via st1 ?_
  show own_Go p e below s _ _ _ (T1.setTop (mkF m 4 #[.val (.ref w0), .val (.ref w3)] [(.ref w1), (.ref w0)]))
  refine own_via (fun _ k => Jvm.RoadKit.acmp (g := (mkF m 4 #[.val (.ref w0), .val (.ref w3)] [(.ref w1), (.ref w0)])) X1 hx rfl rfl rfl (pc0 := 4) (pc' := 7) (same := false) rfl (hb hby d2_4) rfl (decide_eq_false fun q => n_w0_w1 (Value.ref.inj q)) (by decide) (by decide) k) ?_
  show own_Go p e below s _ _ _ (T1.setTop (mkF m 7 #[.val (.ref w0), .val (.ref w3)] []))
  refine own_via (fun _ k => XS.aloadN X1.here hx rfl (hb hby d2_7) rfl rfl k) ?_
  show own_Go p e below s _ _ _ (T1.setTop (mkF m 8 #[.val (.ref w0), .val (.ref w3)] [(.ref w3)]))
  obtain ⟨T2, X2, e2, st2⟩ := getS2 X1 hx hZ hown (host := "") (Or.inl (hw _ (List.mem_of_getElem? (i := 14) rfl))) Via.refl e1 S_w1 (g := (mkF m 8 #[.val (.ref w0), .val (.ref w3)] [(.ref w3)])) rfl (hb hby d2_8)
  refine own_via st2 ?_
  show own_Go p e below s _ _ _ (T2.setTop (mkF m 11 #[.val (.ref w0), .val (.ref w3)] [(.ref w1), (.ref w3)]))
  refine own_via (fun _ k => Jvm.RoadKit.acmp (g := (mkF m 11 #[.val (.ref w0), .val (.ref w3)] [(.ref w1), (.ref w3)])) X2 hx rfl rfl rfl (pc0 := 11) (pc' := 14) (same := false) rfl (hb hby d2_11) rfl (decide_eq_false fun q => (fun q => n_w1_w3 q.symm) (Value.ref.inj q)) (by decide) (by decide) k) ?_
  show own_Go p e below s _ _ _ (T2.setTop (mkF m 14 #[.val (.ref w0), .val (.ref w3)] []))
  refine own_via (fun _ k => XS.aloadN X2.here hx rfl (hb hby d2_14) rfl rfl k) ?_
  show own_Go p e below s _ _ _ (T2.setTop (mkF m 15 #[.val (.ref w0), .val (.ref w3)] [(.ref w0)]))
  refine own_via (fun _ k => XS.aloadN X2.here hx rfl (hb hby d2_15) rfl rfl k) ?_
  show own_Go p e below s _ _ _ (T2.setTop (mkF m 16 #[.val (.ref w0), .val (.ref w3)] [(.ref w3), (.ref w0)]))
  refine own_via (fun _ k => Jvm.RoadKit.acmp (g := (mkF m 16 #[.val (.ref w0), .val (.ref w3)] [(.ref w3), (.ref w0)])) X2 hx rfl rfl rfl (pc0 := 16) (pc' := 23) (same := false) rfl (hb hby d2_16) rfl (decide_eq_false fun q => n_w0_w3 (Value.ref.inj q)) (by decide) (by decide) k) ?_
  show own_Go p e below s _ _ _ (T2.setTop (mkF m 23 #[.val (.ref w0), .val (.ref w3)] []))
  refine own_via (fun _ k => XS.iconst X2.here hx rfl (hb hby d2_23) k) ?_
  show own_Go p e below s _ _ _ (T2.setTop (mkF m 24 #[.val (.ref w0), .val (.ref w3)] [(.int (0 : Int32))]))
  exact own_retZ X2 hx hlk (t := .boolean) Bd.returns (by simp) (hb hby d2_24) (z' := (0 : Int32)) (by first | rfl | decide) ⟨rfl, e2, rfl⟩ (by decide) (by decide)
def Q2_2 (w0 : Addr) (w1 : Addr) (w2 : Addr) (w3 : Addr) (h0 : Heap) (v : Option Value) (h : Heap) (L : List Loc) : Prop := L = [] ∧ h = h0 ∧ ((v = some (.int (0 : Int32))))
set_option maxRecDepth 65536 in
set_option maxHeartbeats 40000000 in
theorem rm2_2 (l : Launch) (Z : State) (a0 : Array Value) (hw : ∀ d ∈ tables_1, d.before a0 Z = true) (ws : List Jvm.Cond) (w0 : Addr) (w1 : Addr) (w2 : Addr) (w3 : Addr) (h0 : Heap) (n0 : Nat) (Z0 : n0 ≤ h0.size) (K : own_K Z h0 w0 w1 w2 w3) :
    MetFree l (⟨"com/example/bericht/bericht/selector/ValueType", "admits", "(Lcom/example/bericht/bericht/selector/ValueType;)Z"⟩ : MethodName) (head1 (Jvm.Cond.code (⟨"com/example/bericht/bericht/selector/ValueType", "admits", "(Lcom/example/bericht/bericht/selector/ValueType;)Z"⟩ : MethodName) prog_94_method_5_code 2 (some .boolean) :: ws) ({ frames := 0, cells := 0, slots := 0, locals := 0 } : Room)) (fun a U => a = #[(.ref w3), (.ref w0)] ∧ Z.Warmed39 U.vm ∧ U.heap = h0) (fun _ _ _ _ _ => True) (fun _ U o U' => ∃ v L, o = .returned v ∧ Q2_2 w0 w1 w2 w3 h0 v U'.heap L ∧ FrameEnd U o U' L ({ frames := 0, cells := 0, slots := 0, locals := 0 } : Room).cells ({ frames := 0, cells := 0, slots := 0, locals := 0 } : Room).slots) := by
  refine MetFree.of_bodySF (plainFor_of_name pn1) hisR ?_
  intro p e s m args below meth c s₁ Bd hml0 hP hK
  obtain ⟨rfl, hZ, hh⟩ := hP
  have hx := Bd.exec
  have hby := Bd.bytes
  have hml : c.maxLocals = 2 := hml0
  have hown : s.vm.findClass "com/example/bericht/bericht/selector/ValueType" = some m.cls := findClass_of_methodNamed Bd.named
  have hnm := (name_of_methodNamed Bd.named Bd.method).1
  have hlk := Bd.notSynchronized
  have X0 : Stand p l e ({ frames := 0, cells := 0, slots := 0, locals := 0 } : Room) s m #[(.ref w3), (.ref w0)] below meth c s₁ [] 0 0 := Stand.of_body Bd
  have e0 : s₁.heap = h0 := by rw [← hh, Bd.state]; rfl
  have K0 := K
  obtain ⟨S_w0, S_w1, S_w2, S_w3, E_w0, E_w1, E_w2, E_w3, F_w0_ordinal, F_w1_ordinal, F_w2_ordinal, F_w3_ordinal, n_w0_w1, n_w0_w2, n_w0_w3, n_w1_w2, n_w1_w3, n_w2_w3⟩ := K
  show own_Go p e below s (Q2_2 w0 w1 w2 w3 h0) 0 0 (s₁.setTop (entryFrame m #[(.ref w3), (.ref w0)] 2))
  rw [show entryFrame m #[(.ref w3), (.ref w0)] 2 = mkF m 0 #[.val (.ref w3), .val (.ref w0)] [] from by first | (simp [entryFrame, mkF, argsToLocals, Value.category]; done) | rfl]
  show own_Go p e below s _ _ _ (s₁.setTop (mkF m 0 #[.val (.ref w3), .val (.ref w0)] []))
  refine own_via (fun _ k => XS.aloadN X0.here hx rfl (hb hby d2_0) rfl rfl k) ?_
  show own_Go p e below s _ _ _ (s₁.setTop (mkF m 1 #[.val (.ref w3), .val (.ref w0)] [(.ref w3)]))
  obtain ⟨T1, X1, e1, st1⟩ := getS2 X0 hx hZ hown (host := "") (Or.inl (hw _ (List.mem_of_getElem? (i := 14) rfl))) Via.refl e0 S_w1 (g := (mkF m 1 #[.val (.ref w3), .val (.ref w0)] [(.ref w3)])) rfl (hb hby d2_1)
  refine own_via st1 ?_
  show own_Go p e below s _ _ _ (T1.setTop (mkF m 4 #[.val (.ref w3), .val (.ref w0)] [(.ref w1), (.ref w3)]))
  refine own_via (fun _ k => Jvm.RoadKit.acmp (g := (mkF m 4 #[.val (.ref w3), .val (.ref w0)] [(.ref w1), (.ref w3)])) X1 hx rfl rfl rfl (pc0 := 4) (pc' := 7) (same := false) rfl (hb hby d2_4) rfl (decide_eq_false fun q => (fun q => n_w1_w3 q.symm) (Value.ref.inj q)) (by decide) (by decide) k) ?_
  show own_Go p e below s _ _ _ (T1.setTop (mkF m 7 #[.val (.ref w3), .val (.ref w0)] []))
  refine own_via (fun _ k => XS.aloadN X1.here hx rfl (hb hby d2_7) rfl rfl k) ?_
  show own_Go p e below s _ _ _ (T1.setTop (mkF m 8 #[.val (.ref w3), .val (.ref w0)] [(.ref w0)]))
  obtain ⟨T2, X2, e2, st2⟩ := getS2 X1 hx hZ hown (host := "") (Or.inl (hw _ (List.mem_of_getElem? (i := 14) rfl))) Via.refl e1 S_w1 (g := (mkF m 8 #[.val (.ref w3), .val (.ref w0)] [(.ref w0)])) rfl (hb hby d2_8)
  refine own_via st2 ?_
  show own_Go p e below s _ _ _ (T2.setTop (mkF m 11 #[.val (.ref w3), .val (.ref w0)] [(.ref w1), (.ref w0)]))
  refine own_via (fun _ k => Jvm.RoadKit.acmp (g := (mkF m 11 #[.val (.ref w3), .val (.ref w0)] [(.ref w1), (.ref w0)])) X2 hx rfl rfl rfl (pc0 := 11) (pc' := 14) (same := false) rfl (hb hby d2_11) rfl (decide_eq_false fun q => n_w0_w1 (Value.ref.inj q)) (by decide) (by decide) k) ?_
  show own_Go p e below s _ _ _ (T2.setTop (mkF m 14 #[.val (.ref w3), .val (.ref w0)] []))
  refine own_via (fun _ k => XS.aloadN X2.here hx rfl (hb hby d2_14) rfl rfl k) ?_
  show own_Go p e below s _ _ _ (T2.setTop (mkF m 15 #[.val (.ref w3), .val (.ref w0)] [(.ref w3)]))
  refine own_via (fun _ k => XS.aloadN X2.here hx rfl (hb hby d2_15) rfl rfl k) ?_
  show own_Go p e below s _ _ _ (T2.setTop (mkF m 16 #[.val (.ref w3), .val (.ref w0)] [(.ref w0), (.ref w3)]))
  refine own_via (fun _ k => Jvm.RoadKit.acmp (g := (mkF m 16 #[.val (.ref w3), .val (.ref w0)] [(.ref w0), (.ref w3)])) X2 hx rfl rfl rfl (pc0 := 16) (pc' := 23) (same := false) rfl (hb hby d2_16) rfl (decide_eq_false fun q => (fun q => n_w0_w3 q.symm) (Value.ref.inj q)) (by decide) (by decide) k) ?_
  show own_Go p e below s _ _ _ (T2.setTop (mkF m 23 #[.val (.ref w3), .val (.ref w0)] []))
  refine own_via (fun _ k => XS.iconst X2.here hx rfl (hb hby d2_23) k) ?_
  show own_Go p e below s _ _ _ (T2.setTop (mkF m 24 #[.val (.ref w3), .val (.ref w0)] [(.int (0 : Int32))]))
  exact own_retZ X2 hx hlk (t := .boolean) Bd.returns (by simp) (hb hby d2_24) (z' := (0 : Int32)) (by first | rfl | decide) ⟨rfl, e2, rfl⟩ (by decide) (by decide)
def Q3_1 (w0 : Addr) (w1 : Addr) (w2 : Addr) (w3 : Addr) (h0 : Heap) (v : Option Value) (h : Heap) (L : List Loc) : Prop := L = [] ∧ h = h0 ∧ ((v = some (.int (0 : Int32))))
set_option maxRecDepth 65536 in
set_option maxHeartbeats 40000000 in
theorem rm3_1 (l : Launch) (Z : State) (a0 : Array Value) (hw : ∀ d ∈ tables_1, d.before a0 Z = true) (ws : List Jvm.Cond) (w0 : Addr) (w1 : Addr) (w2 : Addr) (w3 : Addr) (h0 : Heap) (n0 : Nat) (Z0 : n0 ≤ h0.size) (K : own_K Z h0 w0 w1 w2 w3) :
    MetFree l (⟨"com/example/bericht/bericht/selector/ValueTypeAdmitsPinLaw", "expected", "(II)Z"⟩ : MethodName) (head1 (Jvm.Cond.code (⟨"com/example/bericht/bericht/selector/ValueTypeAdmitsPinLaw", "expected", "(II)Z"⟩ : MethodName) method_3_code 2 (some .boolean) :: ws) ({ frames := 0, cells := 0, slots := 0, locals := 0 } : Room)) (fun a U => a = #[(.int (0 : Int32)), (.int (1 : Int32))] ∧ Z.Warmed39 U.vm ∧ U.heap = h0) (fun _ _ _ _ _ => True) (fun _ U o U' => ∃ v L, o = .returned v ∧ Q3_1 w0 w1 w2 w3 h0 v U'.heap L ∧ FrameEnd U o U' L ({ frames := 0, cells := 0, slots := 0, locals := 0 } : Room).cells ({ frames := 0, cells := 0, slots := 0, locals := 0 } : Room).slots) := by
  refine MetFree.of_bodySF (plainFor_of_name pn0) hisR ?_
  intro p e s m args below meth c s₁ Bd hml0 hP hK
  obtain ⟨rfl, hZ, hh⟩ := hP
  have hx := Bd.exec
  have hby := Bd.bytes
  have hml : c.maxLocals = 2 := hml0
  have hown : s.vm.findClass "com/example/bericht/bericht/selector/ValueTypeAdmitsPinLaw" = some m.cls := findClass_of_methodNamed Bd.named
  have hnm := (name_of_methodNamed Bd.named Bd.method).1
  have hlk := Bd.notSynchronized
  have X0 : Stand p l e ({ frames := 0, cells := 0, slots := 0, locals := 0 } : Room) s m #[(.int (0 : Int32)), (.int (1 : Int32))] below meth c s₁ [] 0 0 := Stand.of_body Bd
  have e0 : s₁.heap = h0 := by rw [← hh, Bd.state]; rfl
  have K0 := K
  obtain ⟨S_w0, S_w1, S_w2, S_w3, E_w0, E_w1, E_w2, E_w3, F_w0_ordinal, F_w1_ordinal, F_w2_ordinal, F_w3_ordinal, n_w0_w1, n_w0_w2, n_w0_w3, n_w1_w2, n_w1_w3, n_w2_w3⟩ := K
  show own_Go p e below s (Q3_1 w0 w1 w2 w3 h0) 0 0 (s₁.setTop (entryFrame m #[(.int (0 : Int32)), (.int (1 : Int32))] 2))
  rw [show entryFrame m #[(.int (0 : Int32)), (.int (1 : Int32))] 2 = mkF m 0 #[.val (.int (0 : Int32)), .val (.int (1 : Int32))] [] from by first | (simp [entryFrame, mkF, argsToLocals, Value.category]; done) | rfl]
  show own_Go p e below s _ _ _ (s₁.setTop (mkF m 0 #[.val (.int (0 : Int32)), .val (.int (1 : Int32))] []))
  refine own_via (fun _ k => XS.iloadN X0.here hx rfl (hb hby d3_0) rfl k) ?_
  show own_Go p e below s _ _ _ (s₁.setTop (mkF m 1 #[.val (.int (0 : Int32)), .val (.int (1 : Int32))] [(.int (0 : Int32))]))
  refine own_via (fun _ k => XS.iconst X0.here hx rfl (hb hby d3_1) k) ?_
  show own_Go p e below s _ _ _ (s₁.setTop (mkF m 2 #[.val (.int (0 : Int32)), .val (.int (1 : Int32))] [(.int (3 : Int32)), (.int (0 : Int32))]))
  refine own_via (fun _ k => XS.icmpYes X0.here hx rfl (pc0 := 2) (pc' := 7) rfl (hb hby d3_2) rfl (feq (by decide : ¬ ((0 : Int32) = (3 : Int32)))).2 (by decide) (by decide) k) ?_
  show own_Go p e below s _ _ _ (s₁.setTop (mkF m 7 #[.val (.int (0 : Int32)), .val (.int (1 : Int32))] []))
  refine own_via (fun _ k => XS.iloadN X0.here hx rfl (hb hby d3_7) rfl k) ?_
  show own_Go p e below s _ _ _ (s₁.setTop (mkF m 8 #[.val (.int (0 : Int32)), .val (.int (1 : Int32))] [(.int (1 : Int32))]))
  refine own_via (fun _ k => XS.iconst X0.here hx rfl (hb hby d3_8) k) ?_
  show own_Go p e below s _ _ _ (s₁.setTop (mkF m 9 #[.val (.int (0 : Int32)), .val (.int (1 : Int32))] [(.int (3 : Int32)), (.int (1 : Int32))]))
  refine own_via (fun _ k => XS.icmpYes X0.here hx rfl (pc0 := 9) (pc' := 14) rfl (hb hby d3_9) rfl (feq (by decide : ¬ ((1 : Int32) = (3 : Int32)))).2 (by decide) (by decide) k) ?_
  show own_Go p e below s _ _ _ (s₁.setTop (mkF m 14 #[.val (.int (0 : Int32)), .val (.int (1 : Int32))] []))
  refine own_via (fun _ k => XS.iloadN X0.here hx rfl (hb hby d3_14) rfl k) ?_
  show own_Go p e below s _ _ _ (s₁.setTop (mkF m 15 #[.val (.int (0 : Int32)), .val (.int (1 : Int32))] [(.int (0 : Int32))]))
  refine own_via (fun _ k => XS.iloadN X0.here hx rfl (hb hby d3_15) rfl k) ?_
  show own_Go p e below s _ _ _ (s₁.setTop (mkF m 16 #[.val (.int (0 : Int32)), .val (.int (1 : Int32))] [(.int (1 : Int32)), (.int (0 : Int32))]))
  refine own_via (fun _ k => XS.icmpYes X0.here hx rfl (pc0 := 16) (pc' := 23) rfl (hb hby d3_16) rfl (feq (by decide : ¬ ((0 : Int32) = (1 : Int32)))).2 (by decide) (by decide) k) ?_
  show own_Go p e below s _ _ _ (s₁.setTop (mkF m 23 #[.val (.int (0 : Int32)), .val (.int (1 : Int32))] []))
  refine own_via (fun _ k => XS.iconst X0.here hx rfl (hb hby d3_23) k) ?_
  show own_Go p e below s _ _ _ (s₁.setTop (mkF m 24 #[.val (.int (0 : Int32)), .val (.int (1 : Int32))] [(.int (0 : Int32))]))
  exact own_retZ X0 hx hlk (t := .boolean) Bd.returns (by simp) (hb hby d3_24) (z' := (0 : Int32)) (by first | rfl | decide) ⟨rfl, e0, rfl⟩ (by decide) (by decide)
def Q1_2 (w0 : Addr) (w1 : Addr) (w2 : Addr) (w3 : Addr) (h0 : Heap) (v : Option Value) (h : Heap) (L : List Loc) : Prop := L = [] ∧ h = h0 ∧ ((v = some (.ref w2)))
set_option maxRecDepth 65536 in
set_option maxHeartbeats 40000000 in
theorem rm1_2 (l : Launch) (Z : State) (a0 : Array Value) (hw : ∀ d ∈ tables_1, d.before a0 Z = true) (ws : List Jvm.Cond) (w0 : Addr) (w1 : Addr) (w2 : Addr) (w3 : Addr) (h0 : Heap) (n0 : Nat) (Z0 : n0 ≤ h0.size) (K : own_K Z h0 w0 w1 w2 w3) :
    MetFree l (⟨"com/example/bericht/bericht/selector/ValueTypeAdmitsPinLaw", "pick", "(I)Lcom/example/bericht/bericht/selector/ValueType;"⟩ : MethodName) (head1 (Jvm.Cond.code (⟨"com/example/bericht/bericht/selector/ValueTypeAdmitsPinLaw", "pick", "(I)Lcom/example/bericht/bericht/selector/ValueType;"⟩ : MethodName) method_2_code 1 (some (.object "com/example/bericht/bericht/selector/ValueType")) :: ws) ({ frames := 0, cells := 0, slots := 0, locals := 0 } : Room)) (fun a U => a = #[(.int (2 : Int32))] ∧ Z.Warmed39 U.vm ∧ U.heap = h0) (fun _ _ _ _ _ => True) (fun _ U o U' => ∃ v L, o = .returned v ∧ Q1_2 w0 w1 w2 w3 h0 v U'.heap L ∧ FrameEnd U o U' L ({ frames := 0, cells := 0, slots := 0, locals := 0 } : Room).cells ({ frames := 0, cells := 0, slots := 0, locals := 0 } : Room).slots) := by
  refine MetFree.of_bodySF (plainFor_of_name pn0) hisR ?_
  intro p e s m args below meth c s₁ Bd hml0 hP hK
  obtain ⟨rfl, hZ, hh⟩ := hP
  have hx := Bd.exec
  have hby := Bd.bytes
  have hml : c.maxLocals = 1 := hml0
  have hown : s.vm.findClass "com/example/bericht/bericht/selector/ValueTypeAdmitsPinLaw" = some m.cls := findClass_of_methodNamed Bd.named
  have hnm := (name_of_methodNamed Bd.named Bd.method).1
  have hlk := Bd.notSynchronized
  have X0 : Stand p l e ({ frames := 0, cells := 0, slots := 0, locals := 0 } : Room) s m #[(.int (2 : Int32))] below meth c s₁ [] 0 0 := Stand.of_body Bd
  have e0 : s₁.heap = h0 := by rw [← hh, Bd.state]; rfl
  have K0 := K
  obtain ⟨S_w0, S_w1, S_w2, S_w3, E_w0, E_w1, E_w2, E_w3, F_w0_ordinal, F_w1_ordinal, F_w2_ordinal, F_w3_ordinal, n_w0_w1, n_w0_w2, n_w0_w3, n_w1_w2, n_w1_w3, n_w2_w3⟩ := K
  show own_Go p e below s (Q1_2 w0 w1 w2 w3 h0) 0 0 (s₁.setTop (entryFrame m #[(.int (2 : Int32))] 1))
  rw [show entryFrame m #[(.int (2 : Int32))] 1 = mkF m 0 #[.val (.int (2 : Int32))] [] from by first | (simp [entryFrame, mkF, argsToLocals, Value.category]; done) | rfl]
  show own_Go p e below s _ _ _ (s₁.setTop (mkF m 0 #[.val (.int (2 : Int32))] []))
  refine own_via (fun _ k => XS.iloadN X0.here hx rfl (hb hby d1_0) rfl k) ?_
  show own_Go p e below s _ _ _ (s₁.setTop (mkF m 1 #[.val (.int (2 : Int32))] [(.int (2 : Int32))]))
  refine own_via (fun _ k => XS.ifYes X0.here hx rfl (pc0 := 1) (pc' := 8) rfl (hb hby d1_1) rfl ((if0 _ _).trans (feq (by decide : ¬ ((2 : Int32) = (0 : Int32)))).2) (by decide) (by decide) k) ?_
  show own_Go p e below s _ _ _ (s₁.setTop (mkF m 8 #[.val (.int (2 : Int32))] []))
  refine own_via (fun _ k => XS.iloadN X0.here hx rfl (hb hby d1_8) rfl k) ?_
  show own_Go p e below s _ _ _ (s₁.setTop (mkF m 9 #[.val (.int (2 : Int32))] [(.int (2 : Int32))]))
  refine own_via (fun _ k => XS.iconst X0.here hx rfl (hb hby d1_9) k) ?_
  show own_Go p e below s _ _ _ (s₁.setTop (mkF m 10 #[.val (.int (2 : Int32))] [(.int (1 : Int32)), (.int (2 : Int32))]))
  refine own_via (fun _ k => XS.icmpYes X0.here hx rfl (pc0 := 10) (pc' := 17) rfl (hb hby d1_10) rfl (feq (by decide : ¬ ((2 : Int32) = (1 : Int32)))).2 (by decide) (by decide) k) ?_
  show own_Go p e below s _ _ _ (s₁.setTop (mkF m 17 #[.val (.int (2 : Int32))] []))
  refine own_via (fun _ k => XS.iloadN X0.here hx rfl (hb hby d1_17) rfl k) ?_
  show own_Go p e below s _ _ _ (s₁.setTop (mkF m 18 #[.val (.int (2 : Int32))] [(.int (2 : Int32))]))
  refine own_via (fun _ k => XS.iconst X0.here hx rfl (hb hby d1_18) k) ?_
  show own_Go p e below s _ _ _ (s₁.setTop (mkF m 19 #[.val (.int (2 : Int32))] [(.int (2 : Int32)), (.int (2 : Int32))]))
  refine own_via (fun _ k => XS.icmpNo X0.here hx rfl (hb hby d1_19) rfl (teq (by decide : (2 : Int32) = (2 : Int32))).2 k) ?_
  show own_Go p e below s _ _ _ (s₁.setTop (mkF m 22 #[.val (.int (2 : Int32))] []))
  obtain ⟨T1, X1, e1, st1⟩ := getS2 X0 hx hZ hown (host := "") (Or.inl (hw _ (List.mem_of_getElem? (i := 18) rfl))) Via.refl e0 S_w2 (g := (mkF m 22 #[.val (.int (2 : Int32))] [])) rfl (hb hby d1_22)
  refine own_via st1 ?_
  show own_Go p e below s _ _ _ (T1.setTop (mkF m 25 #[.val (.int (2 : Int32))] [(.ref w2)]))
  exact own_retR X1 hx hlk Bd.returns rfl rfl (hb hby d1_25) ⟨rfl, e1, rfl⟩ (by decide) (by decide)
def Q2_3 (w0 : Addr) (w1 : Addr) (w2 : Addr) (w3 : Addr) (h0 : Heap) (v : Option Value) (h : Heap) (L : List Loc) : Prop := L = [] ∧ h = h0 ∧ ((v = some (.int (0 : Int32))))
set_option maxRecDepth 65536 in
set_option maxHeartbeats 40000000 in
theorem rm2_3 (l : Launch) (Z : State) (a0 : Array Value) (hw : ∀ d ∈ tables_1, d.before a0 Z = true) (ws : List Jvm.Cond) (w0 : Addr) (w1 : Addr) (w2 : Addr) (w3 : Addr) (h0 : Heap) (n0 : Nat) (Z0 : n0 ≤ h0.size) (K : own_K Z h0 w0 w1 w2 w3) :
    MetFree l (⟨"com/example/bericht/bericht/selector/ValueType", "admits", "(Lcom/example/bericht/bericht/selector/ValueType;)Z"⟩ : MethodName) (head1 (Jvm.Cond.code (⟨"com/example/bericht/bericht/selector/ValueType", "admits", "(Lcom/example/bericht/bericht/selector/ValueType;)Z"⟩ : MethodName) prog_94_method_5_code 2 (some .boolean) :: ws) ({ frames := 0, cells := 0, slots := 0, locals := 0 } : Room)) (fun a U => a = #[(.ref w0), (.ref w2)] ∧ Z.Warmed39 U.vm ∧ U.heap = h0) (fun _ _ _ _ _ => True) (fun _ U o U' => ∃ v L, o = .returned v ∧ Q2_3 w0 w1 w2 w3 h0 v U'.heap L ∧ FrameEnd U o U' L ({ frames := 0, cells := 0, slots := 0, locals := 0 } : Room).cells ({ frames := 0, cells := 0, slots := 0, locals := 0 } : Room).slots) := by
  refine MetFree.of_bodySF (plainFor_of_name pn1) hisR ?_
  intro p e s m args below meth c s₁ Bd hml0 hP hK
  obtain ⟨rfl, hZ, hh⟩ := hP
  have hx := Bd.exec
  have hby := Bd.bytes
  have hml : c.maxLocals = 2 := hml0
  have hown : s.vm.findClass "com/example/bericht/bericht/selector/ValueType" = some m.cls := findClass_of_methodNamed Bd.named
  have hnm := (name_of_methodNamed Bd.named Bd.method).1
  have hlk := Bd.notSynchronized
  have X0 : Stand p l e ({ frames := 0, cells := 0, slots := 0, locals := 0 } : Room) s m #[(.ref w0), (.ref w2)] below meth c s₁ [] 0 0 := Stand.of_body Bd
  have e0 : s₁.heap = h0 := by rw [← hh, Bd.state]; rfl
  have K0 := K
  obtain ⟨S_w0, S_w1, S_w2, S_w3, E_w0, E_w1, E_w2, E_w3, F_w0_ordinal, F_w1_ordinal, F_w2_ordinal, F_w3_ordinal, n_w0_w1, n_w0_w2, n_w0_w3, n_w1_w2, n_w1_w3, n_w2_w3⟩ := K
  show own_Go p e below s (Q2_3 w0 w1 w2 w3 h0) 0 0 (s₁.setTop (entryFrame m #[(.ref w0), (.ref w2)] 2))
  rw [show entryFrame m #[(.ref w0), (.ref w2)] 2 = mkF m 0 #[.val (.ref w0), .val (.ref w2)] [] from by first | (simp [entryFrame, mkF, argsToLocals, Value.category]; done) | rfl]
  show own_Go p e below s _ _ _ (s₁.setTop (mkF m 0 #[.val (.ref w0), .val (.ref w2)] []))
  refine own_via (fun _ k => XS.aloadN X0.here hx rfl (hb hby d2_0) rfl rfl k) ?_
  show own_Go p e below s _ _ _ (s₁.setTop (mkF m 1 #[.val (.ref w0), .val (.ref w2)] [(.ref w0)]))
  obtain ⟨T1, X1, e1, st1⟩ := getS2 X0 hx hZ hown (host := "") (Or.inl (hw _ (List.mem_of_getElem? (i := 14) rfl))) Via.refl e0 S_w1 (g := (mkF m 1 #[.val (.ref w0), .val (.ref w2)] [(.ref w0)])) rfl (hb hby d2_1)
  refine own_via st1 ?_
  show own_Go p e below s _ _ _ (T1.setTop (mkF m 4 #[.val (.ref w0), .val (.ref w2)] [(.ref w1), (.ref w0)]))
  refine own_via (fun _ k => Jvm.RoadKit.acmp (g := (mkF m 4 #[.val (.ref w0), .val (.ref w2)] [(.ref w1), (.ref w0)])) X1 hx rfl rfl rfl (pc0 := 4) (pc' := 7) (same := false) rfl (hb hby d2_4) rfl (decide_eq_false fun q => n_w0_w1 (Value.ref.inj q)) (by decide) (by decide) k) ?_
  show own_Go p e below s _ _ _ (T1.setTop (mkF m 7 #[.val (.ref w0), .val (.ref w2)] []))
  refine own_via (fun _ k => XS.aloadN X1.here hx rfl (hb hby d2_7) rfl rfl k) ?_
  show own_Go p e below s _ _ _ (T1.setTop (mkF m 8 #[.val (.ref w0), .val (.ref w2)] [(.ref w2)]))
  obtain ⟨T2, X2, e2, st2⟩ := getS2 X1 hx hZ hown (host := "") (Or.inl (hw _ (List.mem_of_getElem? (i := 14) rfl))) Via.refl e1 S_w1 (g := (mkF m 8 #[.val (.ref w0), .val (.ref w2)] [(.ref w2)])) rfl (hb hby d2_8)
  refine own_via st2 ?_
  show own_Go p e below s _ _ _ (T2.setTop (mkF m 11 #[.val (.ref w0), .val (.ref w2)] [(.ref w1), (.ref w2)]))
  refine own_via (fun _ k => Jvm.RoadKit.acmp (g := (mkF m 11 #[.val (.ref w0), .val (.ref w2)] [(.ref w1), (.ref w2)])) X2 hx rfl rfl rfl (pc0 := 11) (pc' := 14) (same := false) rfl (hb hby d2_11) rfl (decide_eq_false fun q => (fun q => n_w1_w2 q.symm) (Value.ref.inj q)) (by decide) (by decide) k) ?_
  show own_Go p e below s _ _ _ (T2.setTop (mkF m 14 #[.val (.ref w0), .val (.ref w2)] []))
  refine own_via (fun _ k => XS.aloadN X2.here hx rfl (hb hby d2_14) rfl rfl k) ?_
  show own_Go p e below s _ _ _ (T2.setTop (mkF m 15 #[.val (.ref w0), .val (.ref w2)] [(.ref w0)]))
  refine own_via (fun _ k => XS.aloadN X2.here hx rfl (hb hby d2_15) rfl rfl k) ?_
  show own_Go p e below s _ _ _ (T2.setTop (mkF m 16 #[.val (.ref w0), .val (.ref w2)] [(.ref w2), (.ref w0)]))
  refine own_via (fun _ k => Jvm.RoadKit.acmp (g := (mkF m 16 #[.val (.ref w0), .val (.ref w2)] [(.ref w2), (.ref w0)])) X2 hx rfl rfl rfl (pc0 := 16) (pc' := 23) (same := false) rfl (hb hby d2_16) rfl (decide_eq_false fun q => n_w0_w2 (Value.ref.inj q)) (by decide) (by decide) k) ?_
  show own_Go p e below s _ _ _ (T2.setTop (mkF m 23 #[.val (.ref w0), .val (.ref w2)] []))
  refine own_via (fun _ k => XS.iconst X2.here hx rfl (hb hby d2_23) k) ?_
  show own_Go p e below s _ _ _ (T2.setTop (mkF m 24 #[.val (.ref w0), .val (.ref w2)] [(.int (0 : Int32))]))
  exact own_retZ X2 hx hlk (t := .boolean) Bd.returns (by simp) (hb hby d2_24) (z' := (0 : Int32)) (by first | rfl | decide) ⟨rfl, e2, rfl⟩ (by decide) (by decide)
def Q2_4 (w0 : Addr) (w1 : Addr) (w2 : Addr) (w3 : Addr) (h0 : Heap) (v : Option Value) (h : Heap) (L : List Loc) : Prop := L = [] ∧ h = h0 ∧ ((v = some (.int (0 : Int32))))
set_option maxRecDepth 65536 in
set_option maxHeartbeats 40000000 in
theorem rm2_4 (l : Launch) (Z : State) (a0 : Array Value) (hw : ∀ d ∈ tables_1, d.before a0 Z = true) (ws : List Jvm.Cond) (w0 : Addr) (w1 : Addr) (w2 : Addr) (w3 : Addr) (h0 : Heap) (n0 : Nat) (Z0 : n0 ≤ h0.size) (K : own_K Z h0 w0 w1 w2 w3) :
    MetFree l (⟨"com/example/bericht/bericht/selector/ValueType", "admits", "(Lcom/example/bericht/bericht/selector/ValueType;)Z"⟩ : MethodName) (head1 (Jvm.Cond.code (⟨"com/example/bericht/bericht/selector/ValueType", "admits", "(Lcom/example/bericht/bericht/selector/ValueType;)Z"⟩ : MethodName) prog_94_method_5_code 2 (some .boolean) :: ws) ({ frames := 0, cells := 0, slots := 0, locals := 0 } : Room)) (fun a U => a = #[(.ref w2), (.ref w0)] ∧ Z.Warmed39 U.vm ∧ U.heap = h0) (fun _ _ _ _ _ => True) (fun _ U o U' => ∃ v L, o = .returned v ∧ Q2_4 w0 w1 w2 w3 h0 v U'.heap L ∧ FrameEnd U o U' L ({ frames := 0, cells := 0, slots := 0, locals := 0 } : Room).cells ({ frames := 0, cells := 0, slots := 0, locals := 0 } : Room).slots) := by
  refine MetFree.of_bodySF (plainFor_of_name pn1) hisR ?_
  intro p e s m args below meth c s₁ Bd hml0 hP hK
  obtain ⟨rfl, hZ, hh⟩ := hP
  have hx := Bd.exec
  have hby := Bd.bytes
  have hml : c.maxLocals = 2 := hml0
  have hown : s.vm.findClass "com/example/bericht/bericht/selector/ValueType" = some m.cls := findClass_of_methodNamed Bd.named
  have hnm := (name_of_methodNamed Bd.named Bd.method).1
  have hlk := Bd.notSynchronized
  have X0 : Stand p l e ({ frames := 0, cells := 0, slots := 0, locals := 0 } : Room) s m #[(.ref w2), (.ref w0)] below meth c s₁ [] 0 0 := Stand.of_body Bd
  have e0 : s₁.heap = h0 := by rw [← hh, Bd.state]; rfl
  have K0 := K
  obtain ⟨S_w0, S_w1, S_w2, S_w3, E_w0, E_w1, E_w2, E_w3, F_w0_ordinal, F_w1_ordinal, F_w2_ordinal, F_w3_ordinal, n_w0_w1, n_w0_w2, n_w0_w3, n_w1_w2, n_w1_w3, n_w2_w3⟩ := K
  show own_Go p e below s (Q2_4 w0 w1 w2 w3 h0) 0 0 (s₁.setTop (entryFrame m #[(.ref w2), (.ref w0)] 2))
  rw [show entryFrame m #[(.ref w2), (.ref w0)] 2 = mkF m 0 #[.val (.ref w2), .val (.ref w0)] [] from by first | (simp [entryFrame, mkF, argsToLocals, Value.category]; done) | rfl]
  show own_Go p e below s _ _ _ (s₁.setTop (mkF m 0 #[.val (.ref w2), .val (.ref w0)] []))
  refine own_via (fun _ k => XS.aloadN X0.here hx rfl (hb hby d2_0) rfl rfl k) ?_
  show own_Go p e below s _ _ _ (s₁.setTop (mkF m 1 #[.val (.ref w2), .val (.ref w0)] [(.ref w2)]))
  obtain ⟨T1, X1, e1, st1⟩ := getS2 X0 hx hZ hown (host := "") (Or.inl (hw _ (List.mem_of_getElem? (i := 14) rfl))) Via.refl e0 S_w1 (g := (mkF m 1 #[.val (.ref w2), .val (.ref w0)] [(.ref w2)])) rfl (hb hby d2_1)
  refine own_via st1 ?_
  show own_Go p e below s _ _ _ (T1.setTop (mkF m 4 #[.val (.ref w2), .val (.ref w0)] [(.ref w1), (.ref w2)]))
  refine own_via (fun _ k => Jvm.RoadKit.acmp (g := (mkF m 4 #[.val (.ref w2), .val (.ref w0)] [(.ref w1), (.ref w2)])) X1 hx rfl rfl rfl (pc0 := 4) (pc' := 7) (same := false) rfl (hb hby d2_4) rfl (decide_eq_false fun q => (fun q => n_w1_w2 q.symm) (Value.ref.inj q)) (by decide) (by decide) k) ?_
  show own_Go p e below s _ _ _ (T1.setTop (mkF m 7 #[.val (.ref w2), .val (.ref w0)] []))
  refine own_via (fun _ k => XS.aloadN X1.here hx rfl (hb hby d2_7) rfl rfl k) ?_
  show own_Go p e below s _ _ _ (T1.setTop (mkF m 8 #[.val (.ref w2), .val (.ref w0)] [(.ref w0)]))
  obtain ⟨T2, X2, e2, st2⟩ := getS2 X1 hx hZ hown (host := "") (Or.inl (hw _ (List.mem_of_getElem? (i := 14) rfl))) Via.refl e1 S_w1 (g := (mkF m 8 #[.val (.ref w2), .val (.ref w0)] [(.ref w0)])) rfl (hb hby d2_8)
  refine own_via st2 ?_
  show own_Go p e below s _ _ _ (T2.setTop (mkF m 11 #[.val (.ref w2), .val (.ref w0)] [(.ref w1), (.ref w0)]))
  refine own_via (fun _ k => Jvm.RoadKit.acmp (g := (mkF m 11 #[.val (.ref w2), .val (.ref w0)] [(.ref w1), (.ref w0)])) X2 hx rfl rfl rfl (pc0 := 11) (pc' := 14) (same := false) rfl (hb hby d2_11) rfl (decide_eq_false fun q => n_w0_w1 (Value.ref.inj q)) (by decide) (by decide) k) ?_
  show own_Go p e below s _ _ _ (T2.setTop (mkF m 14 #[.val (.ref w2), .val (.ref w0)] []))
  refine own_via (fun _ k => XS.aloadN X2.here hx rfl (hb hby d2_14) rfl rfl k) ?_
  show own_Go p e below s _ _ _ (T2.setTop (mkF m 15 #[.val (.ref w2), .val (.ref w0)] [(.ref w2)]))
  refine own_via (fun _ k => XS.aloadN X2.here hx rfl (hb hby d2_15) rfl rfl k) ?_
  show own_Go p e below s _ _ _ (T2.setTop (mkF m 16 #[.val (.ref w2), .val (.ref w0)] [(.ref w0), (.ref w2)]))
  refine own_via (fun _ k => Jvm.RoadKit.acmp (g := (mkF m 16 #[.val (.ref w2), .val (.ref w0)] [(.ref w0), (.ref w2)])) X2 hx rfl rfl rfl (pc0 := 16) (pc' := 23) (same := false) rfl (hb hby d2_16) rfl (decide_eq_false fun q => (fun q => n_w0_w2 q.symm) (Value.ref.inj q)) (by decide) (by decide) k) ?_
  show own_Go p e below s _ _ _ (T2.setTop (mkF m 23 #[.val (.ref w2), .val (.ref w0)] []))
  refine own_via (fun _ k => XS.iconst X2.here hx rfl (hb hby d2_23) k) ?_
  show own_Go p e below s _ _ _ (T2.setTop (mkF m 24 #[.val (.ref w2), .val (.ref w0)] [(.int (0 : Int32))]))
  exact own_retZ X2 hx hlk (t := .boolean) Bd.returns (by simp) (hb hby d2_24) (z' := (0 : Int32)) (by first | rfl | decide) ⟨rfl, e2, rfl⟩ (by decide) (by decide)
def Q3_2 (w0 : Addr) (w1 : Addr) (w2 : Addr) (w3 : Addr) (h0 : Heap) (v : Option Value) (h : Heap) (L : List Loc) : Prop := L = [] ∧ h = h0 ∧ ((v = some (.int (0 : Int32))))
set_option maxRecDepth 65536 in
set_option maxHeartbeats 40000000 in
theorem rm3_2 (l : Launch) (Z : State) (a0 : Array Value) (hw : ∀ d ∈ tables_1, d.before a0 Z = true) (ws : List Jvm.Cond) (w0 : Addr) (w1 : Addr) (w2 : Addr) (w3 : Addr) (h0 : Heap) (n0 : Nat) (Z0 : n0 ≤ h0.size) (K : own_K Z h0 w0 w1 w2 w3) :
    MetFree l (⟨"com/example/bericht/bericht/selector/ValueTypeAdmitsPinLaw", "expected", "(II)Z"⟩ : MethodName) (head1 (Jvm.Cond.code (⟨"com/example/bericht/bericht/selector/ValueTypeAdmitsPinLaw", "expected", "(II)Z"⟩ : MethodName) method_3_code 2 (some .boolean) :: ws) ({ frames := 0, cells := 0, slots := 0, locals := 0 } : Room)) (fun a U => a = #[(.int (0 : Int32)), (.int (2 : Int32))] ∧ Z.Warmed39 U.vm ∧ U.heap = h0) (fun _ _ _ _ _ => True) (fun _ U o U' => ∃ v L, o = .returned v ∧ Q3_2 w0 w1 w2 w3 h0 v U'.heap L ∧ FrameEnd U o U' L ({ frames := 0, cells := 0, slots := 0, locals := 0 } : Room).cells ({ frames := 0, cells := 0, slots := 0, locals := 0 } : Room).slots) := by
  refine MetFree.of_bodySF (plainFor_of_name pn0) hisR ?_
  intro p e s m args below meth c s₁ Bd hml0 hP hK
  obtain ⟨rfl, hZ, hh⟩ := hP
  have hx := Bd.exec
  have hby := Bd.bytes
  have hml : c.maxLocals = 2 := hml0
  have hown : s.vm.findClass "com/example/bericht/bericht/selector/ValueTypeAdmitsPinLaw" = some m.cls := findClass_of_methodNamed Bd.named
  have hnm := (name_of_methodNamed Bd.named Bd.method).1
  have hlk := Bd.notSynchronized
  have X0 : Stand p l e ({ frames := 0, cells := 0, slots := 0, locals := 0 } : Room) s m #[(.int (0 : Int32)), (.int (2 : Int32))] below meth c s₁ [] 0 0 := Stand.of_body Bd
  have e0 : s₁.heap = h0 := by rw [← hh, Bd.state]; rfl
  have K0 := K
  obtain ⟨S_w0, S_w1, S_w2, S_w3, E_w0, E_w1, E_w2, E_w3, F_w0_ordinal, F_w1_ordinal, F_w2_ordinal, F_w3_ordinal, n_w0_w1, n_w0_w2, n_w0_w3, n_w1_w2, n_w1_w3, n_w2_w3⟩ := K
  show own_Go p e below s (Q3_2 w0 w1 w2 w3 h0) 0 0 (s₁.setTop (entryFrame m #[(.int (0 : Int32)), (.int (2 : Int32))] 2))
  rw [show entryFrame m #[(.int (0 : Int32)), (.int (2 : Int32))] 2 = mkF m 0 #[.val (.int (0 : Int32)), .val (.int (2 : Int32))] [] from by first | (simp [entryFrame, mkF, argsToLocals, Value.category]; done) | rfl]
  show own_Go p e below s _ _ _ (s₁.setTop (mkF m 0 #[.val (.int (0 : Int32)), .val (.int (2 : Int32))] []))
  refine own_via (fun _ k => XS.iloadN X0.here hx rfl (hb hby d3_0) rfl k) ?_
  show own_Go p e below s _ _ _ (s₁.setTop (mkF m 1 #[.val (.int (0 : Int32)), .val (.int (2 : Int32))] [(.int (0 : Int32))]))
  refine own_via (fun _ k => XS.iconst X0.here hx rfl (hb hby d3_1) k) ?_
  show own_Go p e below s _ _ _ (s₁.setTop (mkF m 2 #[.val (.int (0 : Int32)), .val (.int (2 : Int32))] [(.int (3 : Int32)), (.int (0 : Int32))]))
  refine own_via (fun _ k => XS.icmpYes X0.here hx rfl (pc0 := 2) (pc' := 7) rfl (hb hby d3_2) rfl (feq (by decide : ¬ ((0 : Int32) = (3 : Int32)))).2 (by decide) (by decide) k) ?_
  show own_Go p e below s _ _ _ (s₁.setTop (mkF m 7 #[.val (.int (0 : Int32)), .val (.int (2 : Int32))] []))
  refine own_via (fun _ k => XS.iloadN X0.here hx rfl (hb hby d3_7) rfl k) ?_
  show own_Go p e below s _ _ _ (s₁.setTop (mkF m 8 #[.val (.int (0 : Int32)), .val (.int (2 : Int32))] [(.int (2 : Int32))]))
  refine own_via (fun _ k => XS.iconst X0.here hx rfl (hb hby d3_8) k) ?_
  show own_Go p e below s _ _ _ (s₁.setTop (mkF m 9 #[.val (.int (0 : Int32)), .val (.int (2 : Int32))] [(.int (3 : Int32)), (.int (2 : Int32))]))
  refine own_via (fun _ k => XS.icmpYes X0.here hx rfl (pc0 := 9) (pc' := 14) rfl (hb hby d3_9) rfl (feq (by decide : ¬ ((2 : Int32) = (3 : Int32)))).2 (by decide) (by decide) k) ?_
  show own_Go p e below s _ _ _ (s₁.setTop (mkF m 14 #[.val (.int (0 : Int32)), .val (.int (2 : Int32))] []))
  refine own_via (fun _ k => XS.iloadN X0.here hx rfl (hb hby d3_14) rfl k) ?_
  show own_Go p e below s _ _ _ (s₁.setTop (mkF m 15 #[.val (.int (0 : Int32)), .val (.int (2 : Int32))] [(.int (0 : Int32))]))
  refine own_via (fun _ k => XS.iloadN X0.here hx rfl (hb hby d3_15) rfl k) ?_
  show own_Go p e below s _ _ _ (s₁.setTop (mkF m 16 #[.val (.int (0 : Int32)), .val (.int (2 : Int32))] [(.int (2 : Int32)), (.int (0 : Int32))]))
  refine own_via (fun _ k => XS.icmpYes X0.here hx rfl (pc0 := 16) (pc' := 23) rfl (hb hby d3_16) rfl (feq (by decide : ¬ ((0 : Int32) = (2 : Int32)))).2 (by decide) (by decide) k) ?_
  show own_Go p e below s _ _ _ (s₁.setTop (mkF m 23 #[.val (.int (0 : Int32)), .val (.int (2 : Int32))] []))
  refine own_via (fun _ k => XS.iconst X0.here hx rfl (hb hby d3_23) k) ?_
  show own_Go p e below s _ _ _ (s₁.setTop (mkF m 24 #[.val (.int (0 : Int32)), .val (.int (2 : Int32))] [(.int (0 : Int32))]))
  exact own_retZ X0 hx hlk (t := .boolean) Bd.returns (by simp) (hb hby d3_24) (z' := (0 : Int32)) (by first | rfl | decide) ⟨rfl, e0, rfl⟩ (by decide) (by decide)
def Q1_3 (w0 : Addr) (w1 : Addr) (w2 : Addr) (w3 : Addr) (h0 : Heap) (v : Option Value) (h : Heap) (L : List Loc) : Prop := L = [] ∧ h = h0 ∧ ((v = some (.ref w1)))
set_option maxRecDepth 65536 in
set_option maxHeartbeats 40000000 in
theorem rm1_3 (l : Launch) (Z : State) (a0 : Array Value) (hw : ∀ d ∈ tables_1, d.before a0 Z = true) (ws : List Jvm.Cond) (w0 : Addr) (w1 : Addr) (w2 : Addr) (w3 : Addr) (h0 : Heap) (n0 : Nat) (Z0 : n0 ≤ h0.size) (K : own_K Z h0 w0 w1 w2 w3) :
    MetFree l (⟨"com/example/bericht/bericht/selector/ValueTypeAdmitsPinLaw", "pick", "(I)Lcom/example/bericht/bericht/selector/ValueType;"⟩ : MethodName) (head1 (Jvm.Cond.code (⟨"com/example/bericht/bericht/selector/ValueTypeAdmitsPinLaw", "pick", "(I)Lcom/example/bericht/bericht/selector/ValueType;"⟩ : MethodName) method_2_code 1 (some (.object "com/example/bericht/bericht/selector/ValueType")) :: ws) ({ frames := 0, cells := 0, slots := 0, locals := 0 } : Room)) (fun a U => a = #[(.int (3 : Int32))] ∧ Z.Warmed39 U.vm ∧ U.heap = h0) (fun _ _ _ _ _ => True) (fun _ U o U' => ∃ v L, o = .returned v ∧ Q1_3 w0 w1 w2 w3 h0 v U'.heap L ∧ FrameEnd U o U' L ({ frames := 0, cells := 0, slots := 0, locals := 0 } : Room).cells ({ frames := 0, cells := 0, slots := 0, locals := 0 } : Room).slots) := by
  refine MetFree.of_bodySF (plainFor_of_name pn0) hisR ?_
  intro p e s m args below meth c s₁ Bd hml0 hP hK
  obtain ⟨rfl, hZ, hh⟩ := hP
  have hx := Bd.exec
  have hby := Bd.bytes
  have hml : c.maxLocals = 1 := hml0
  have hown : s.vm.findClass "com/example/bericht/bericht/selector/ValueTypeAdmitsPinLaw" = some m.cls := findClass_of_methodNamed Bd.named
  have hnm := (name_of_methodNamed Bd.named Bd.method).1
  have hlk := Bd.notSynchronized
  have X0 : Stand p l e ({ frames := 0, cells := 0, slots := 0, locals := 0 } : Room) s m #[(.int (3 : Int32))] below meth c s₁ [] 0 0 := Stand.of_body Bd
  have e0 : s₁.heap = h0 := by rw [← hh, Bd.state]; rfl
  have K0 := K
  obtain ⟨S_w0, S_w1, S_w2, S_w3, E_w0, E_w1, E_w2, E_w3, F_w0_ordinal, F_w1_ordinal, F_w2_ordinal, F_w3_ordinal, n_w0_w1, n_w0_w2, n_w0_w3, n_w1_w2, n_w1_w3, n_w2_w3⟩ := K
  show own_Go p e below s (Q1_3 w0 w1 w2 w3 h0) 0 0 (s₁.setTop (entryFrame m #[(.int (3 : Int32))] 1))
  rw [show entryFrame m #[(.int (3 : Int32))] 1 = mkF m 0 #[.val (.int (3 : Int32))] [] from by first | (simp [entryFrame, mkF, argsToLocals, Value.category]; done) | rfl]
  show own_Go p e below s _ _ _ (s₁.setTop (mkF m 0 #[.val (.int (3 : Int32))] []))
  refine own_via (fun _ k => XS.iloadN X0.here hx rfl (hb hby d1_0) rfl k) ?_
  show own_Go p e below s _ _ _ (s₁.setTop (mkF m 1 #[.val (.int (3 : Int32))] [(.int (3 : Int32))]))
  refine own_via (fun _ k => XS.ifYes X0.here hx rfl (pc0 := 1) (pc' := 8) rfl (hb hby d1_1) rfl ((if0 _ _).trans (feq (by decide : ¬ ((3 : Int32) = (0 : Int32)))).2) (by decide) (by decide) k) ?_
  show own_Go p e below s _ _ _ (s₁.setTop (mkF m 8 #[.val (.int (3 : Int32))] []))
  refine own_via (fun _ k => XS.iloadN X0.here hx rfl (hb hby d1_8) rfl k) ?_
  show own_Go p e below s _ _ _ (s₁.setTop (mkF m 9 #[.val (.int (3 : Int32))] [(.int (3 : Int32))]))
  refine own_via (fun _ k => XS.iconst X0.here hx rfl (hb hby d1_9) k) ?_
  show own_Go p e below s _ _ _ (s₁.setTop (mkF m 10 #[.val (.int (3 : Int32))] [(.int (1 : Int32)), (.int (3 : Int32))]))
  refine own_via (fun _ k => XS.icmpYes X0.here hx rfl (pc0 := 10) (pc' := 17) rfl (hb hby d1_10) rfl (feq (by decide : ¬ ((3 : Int32) = (1 : Int32)))).2 (by decide) (by decide) k) ?_
  show own_Go p e below s _ _ _ (s₁.setTop (mkF m 17 #[.val (.int (3 : Int32))] []))
  refine own_via (fun _ k => XS.iloadN X0.here hx rfl (hb hby d1_17) rfl k) ?_
  show own_Go p e below s _ _ _ (s₁.setTop (mkF m 18 #[.val (.int (3 : Int32))] [(.int (3 : Int32))]))
  refine own_via (fun _ k => XS.iconst X0.here hx rfl (hb hby d1_18) k) ?_
  show own_Go p e below s _ _ _ (s₁.setTop (mkF m 19 #[.val (.int (3 : Int32))] [(.int (2 : Int32)), (.int (3 : Int32))]))
  refine own_via (fun _ k => XS.icmpYes X0.here hx rfl (pc0 := 19) (pc' := 26) rfl (hb hby d1_19) rfl (feq (by decide : ¬ ((3 : Int32) = (2 : Int32)))).2 (by decide) (by decide) k) ?_
  show own_Go p e below s _ _ _ (s₁.setTop (mkF m 26 #[.val (.int (3 : Int32))] []))
  obtain ⟨T1, X1, e1, st1⟩ := getS2 X0 hx hZ hown (host := "") (Or.inl (hw _ (List.mem_of_getElem? (i := 7) rfl))) Via.refl e0 S_w1 (g := (mkF m 26 #[.val (.int (3 : Int32))] [])) rfl (hb hby d1_26)
  refine own_via st1 ?_
  show own_Go p e below s _ _ _ (T1.setTop (mkF m 29 #[.val (.int (3 : Int32))] [(.ref w1)]))
  exact own_retR X1 hx hlk Bd.returns rfl rfl (hb hby d1_29) ⟨rfl, e1, rfl⟩ (by decide) (by decide)
def Q2_5 (w0 : Addr) (w1 : Addr) (w2 : Addr) (w3 : Addr) (h0 : Heap) (v : Option Value) (h : Heap) (L : List Loc) : Prop := L = [] ∧ h = h0 ∧ ((v = some (.int (1 : Int32))))
set_option maxRecDepth 65536 in
set_option maxHeartbeats 40000000 in
theorem rm2_5 (l : Launch) (Z : State) (a0 : Array Value) (hw : ∀ d ∈ tables_1, d.before a0 Z = true) (ws : List Jvm.Cond) (w0 : Addr) (w1 : Addr) (w2 : Addr) (w3 : Addr) (h0 : Heap) (n0 : Nat) (Z0 : n0 ≤ h0.size) (K : own_K Z h0 w0 w1 w2 w3) :
    MetFree l (⟨"com/example/bericht/bericht/selector/ValueType", "admits", "(Lcom/example/bericht/bericht/selector/ValueType;)Z"⟩ : MethodName) (head1 (Jvm.Cond.code (⟨"com/example/bericht/bericht/selector/ValueType", "admits", "(Lcom/example/bericht/bericht/selector/ValueType;)Z"⟩ : MethodName) prog_94_method_5_code 2 (some .boolean) :: ws) ({ frames := 0, cells := 0, slots := 0, locals := 0 } : Room)) (fun a U => a = #[(.ref w0), (.ref w1)] ∧ Z.Warmed39 U.vm ∧ U.heap = h0) (fun _ _ _ _ _ => True) (fun _ U o U' => ∃ v L, o = .returned v ∧ Q2_5 w0 w1 w2 w3 h0 v U'.heap L ∧ FrameEnd U o U' L ({ frames := 0, cells := 0, slots := 0, locals := 0 } : Room).cells ({ frames := 0, cells := 0, slots := 0, locals := 0 } : Room).slots) := by
  refine MetFree.of_bodySF (plainFor_of_name pn1) hisR ?_
  intro p e s m args below meth c s₁ Bd hml0 hP hK
  obtain ⟨rfl, hZ, hh⟩ := hP
  have hx := Bd.exec
  have hby := Bd.bytes
  have hml : c.maxLocals = 2 := hml0
  have hown : s.vm.findClass "com/example/bericht/bericht/selector/ValueType" = some m.cls := findClass_of_methodNamed Bd.named
  have hnm := (name_of_methodNamed Bd.named Bd.method).1
  have hlk := Bd.notSynchronized
  have X0 : Stand p l e ({ frames := 0, cells := 0, slots := 0, locals := 0 } : Room) s m #[(.ref w0), (.ref w1)] below meth c s₁ [] 0 0 := Stand.of_body Bd
  have e0 : s₁.heap = h0 := by rw [← hh, Bd.state]; rfl
  have K0 := K
  obtain ⟨S_w0, S_w1, S_w2, S_w3, E_w0, E_w1, E_w2, E_w3, F_w0_ordinal, F_w1_ordinal, F_w2_ordinal, F_w3_ordinal, n_w0_w1, n_w0_w2, n_w0_w3, n_w1_w2, n_w1_w3, n_w2_w3⟩ := K
  show own_Go p e below s (Q2_5 w0 w1 w2 w3 h0) 0 0 (s₁.setTop (entryFrame m #[(.ref w0), (.ref w1)] 2))
  rw [show entryFrame m #[(.ref w0), (.ref w1)] 2 = mkF m 0 #[.val (.ref w0), .val (.ref w1)] [] from by first | (simp [entryFrame, mkF, argsToLocals, Value.category]; done) | rfl]
  show own_Go p e below s _ _ _ (s₁.setTop (mkF m 0 #[.val (.ref w0), .val (.ref w1)] []))
  refine own_via (fun _ k => XS.aloadN X0.here hx rfl (hb hby d2_0) rfl rfl k) ?_
  show own_Go p e below s _ _ _ (s₁.setTop (mkF m 1 #[.val (.ref w0), .val (.ref w1)] [(.ref w0)]))
  obtain ⟨T1, X1, e1, st1⟩ := getS2 X0 hx hZ hown (host := "") (Or.inl (hw _ (List.mem_of_getElem? (i := 14) rfl))) Via.refl e0 S_w1 (g := (mkF m 1 #[.val (.ref w0), .val (.ref w1)] [(.ref w0)])) rfl (hb hby d2_1)
  refine own_via st1 ?_
  show own_Go p e below s _ _ _ (T1.setTop (mkF m 4 #[.val (.ref w0), .val (.ref w1)] [(.ref w1), (.ref w0)]))
  refine own_via (fun _ k => Jvm.RoadKit.acmp (g := (mkF m 4 #[.val (.ref w0), .val (.ref w1)] [(.ref w1), (.ref w0)])) X1 hx rfl rfl rfl (pc0 := 4) (pc' := 7) (same := false) rfl (hb hby d2_4) rfl (decide_eq_false fun q => n_w0_w1 (Value.ref.inj q)) (by decide) (by decide) k) ?_
  show own_Go p e below s _ _ _ (T1.setTop (mkF m 7 #[.val (.ref w0), .val (.ref w1)] []))
  refine own_via (fun _ k => XS.aloadN X1.here hx rfl (hb hby d2_7) rfl rfl k) ?_
  show own_Go p e below s _ _ _ (T1.setTop (mkF m 8 #[.val (.ref w0), .val (.ref w1)] [(.ref w1)]))
  obtain ⟨T2, X2, e2, st2⟩ := getS2 X1 hx hZ hown (host := "") (Or.inl (hw _ (List.mem_of_getElem? (i := 14) rfl))) Via.refl e1 S_w1 (g := (mkF m 8 #[.val (.ref w0), .val (.ref w1)] [(.ref w1)])) rfl (hb hby d2_8)
  refine own_via st2 ?_
  show own_Go p e below s _ _ _ (T2.setTop (mkF m 11 #[.val (.ref w0), .val (.ref w1)] [(.ref w1), (.ref w1)]))
  refine own_via (fun _ k => Jvm.RoadKit.acmp (g := (mkF m 11 #[.val (.ref w0), .val (.ref w1)] [(.ref w1), (.ref w1)])) X2 hx rfl rfl rfl (pc0 := 11) (pc' := 19) (same := true) rfl (hb hby d2_11) rfl (decide_eq_true rfl) (by decide) (by decide) k) ?_
  show own_Go p e below s _ _ _ (T2.setTop (mkF m 19 #[.val (.ref w0), .val (.ref w1)] []))
  refine own_via (fun _ k => XS.iconst X2.here hx rfl (hb hby d2_19) k) ?_
  show own_Go p e below s _ _ _ (T2.setTop (mkF m 20 #[.val (.ref w0), .val (.ref w1)] [(.int (1 : Int32))]))
  refine own_via (fun _ k => XS.goto X2.here hx rfl (pc0 := 20) (pc' := 24) rfl (hb hby d2_20) (by decide) (by decide) k) ?_
  show own_Go p e below s _ _ _ (T2.setTop (mkF m 24 #[.val (.ref w0), .val (.ref w1)] [(.int (1 : Int32))]))
  exact own_retZ X2 hx hlk (t := .boolean) Bd.returns (by simp) (hb hby d2_24) (z' := (1 : Int32)) (by first | rfl | decide) ⟨rfl, e2, rfl⟩ (by decide) (by decide)
def Q2_6 (w0 : Addr) (w1 : Addr) (w2 : Addr) (w3 : Addr) (h0 : Heap) (v : Option Value) (h : Heap) (L : List Loc) : Prop := L = [] ∧ h = h0 ∧ ((v = some (.int (1 : Int32))))
set_option maxRecDepth 65536 in
set_option maxHeartbeats 40000000 in
theorem rm2_6 (l : Launch) (Z : State) (a0 : Array Value) (hw : ∀ d ∈ tables_1, d.before a0 Z = true) (ws : List Jvm.Cond) (w0 : Addr) (w1 : Addr) (w2 : Addr) (w3 : Addr) (h0 : Heap) (n0 : Nat) (Z0 : n0 ≤ h0.size) (K : own_K Z h0 w0 w1 w2 w3) :
    MetFree l (⟨"com/example/bericht/bericht/selector/ValueType", "admits", "(Lcom/example/bericht/bericht/selector/ValueType;)Z"⟩ : MethodName) (head1 (Jvm.Cond.code (⟨"com/example/bericht/bericht/selector/ValueType", "admits", "(Lcom/example/bericht/bericht/selector/ValueType;)Z"⟩ : MethodName) prog_94_method_5_code 2 (some .boolean) :: ws) ({ frames := 0, cells := 0, slots := 0, locals := 0 } : Room)) (fun a U => a = #[(.ref w1), (.ref w0)] ∧ Z.Warmed39 U.vm ∧ U.heap = h0) (fun _ _ _ _ _ => True) (fun _ U o U' => ∃ v L, o = .returned v ∧ Q2_6 w0 w1 w2 w3 h0 v U'.heap L ∧ FrameEnd U o U' L ({ frames := 0, cells := 0, slots := 0, locals := 0 } : Room).cells ({ frames := 0, cells := 0, slots := 0, locals := 0 } : Room).slots) := by
  refine MetFree.of_bodySF (plainFor_of_name pn1) hisR ?_
  intro p e s m args below meth c s₁ Bd hml0 hP hK
  obtain ⟨rfl, hZ, hh⟩ := hP
  have hx := Bd.exec
  have hby := Bd.bytes
  have hml : c.maxLocals = 2 := hml0
  have hown : s.vm.findClass "com/example/bericht/bericht/selector/ValueType" = some m.cls := findClass_of_methodNamed Bd.named
  have hnm := (name_of_methodNamed Bd.named Bd.method).1
  have hlk := Bd.notSynchronized
  have X0 : Stand p l e ({ frames := 0, cells := 0, slots := 0, locals := 0 } : Room) s m #[(.ref w1), (.ref w0)] below meth c s₁ [] 0 0 := Stand.of_body Bd
  have e0 : s₁.heap = h0 := by rw [← hh, Bd.state]; rfl
  have K0 := K
  obtain ⟨S_w0, S_w1, S_w2, S_w3, E_w0, E_w1, E_w2, E_w3, F_w0_ordinal, F_w1_ordinal, F_w2_ordinal, F_w3_ordinal, n_w0_w1, n_w0_w2, n_w0_w3, n_w1_w2, n_w1_w3, n_w2_w3⟩ := K
  show own_Go p e below s (Q2_6 w0 w1 w2 w3 h0) 0 0 (s₁.setTop (entryFrame m #[(.ref w1), (.ref w0)] 2))
  rw [show entryFrame m #[(.ref w1), (.ref w0)] 2 = mkF m 0 #[.val (.ref w1), .val (.ref w0)] [] from by first | (simp [entryFrame, mkF, argsToLocals, Value.category]; done) | rfl]
  show own_Go p e below s _ _ _ (s₁.setTop (mkF m 0 #[.val (.ref w1), .val (.ref w0)] []))
  refine own_via (fun _ k => XS.aloadN X0.here hx rfl (hb hby d2_0) rfl rfl k) ?_
  show own_Go p e below s _ _ _ (s₁.setTop (mkF m 1 #[.val (.ref w1), .val (.ref w0)] [(.ref w1)]))
  obtain ⟨T1, X1, e1, st1⟩ := getS2 X0 hx hZ hown (host := "") (Or.inl (hw _ (List.mem_of_getElem? (i := 14) rfl))) Via.refl e0 S_w1 (g := (mkF m 1 #[.val (.ref w1), .val (.ref w0)] [(.ref w1)])) rfl (hb hby d2_1)
  refine own_via st1 ?_
  show own_Go p e below s _ _ _ (T1.setTop (mkF m 4 #[.val (.ref w1), .val (.ref w0)] [(.ref w1), (.ref w1)]))
  refine own_via (fun _ k => Jvm.RoadKit.acmp (g := (mkF m 4 #[.val (.ref w1), .val (.ref w0)] [(.ref w1), (.ref w1)])) X1 hx rfl rfl rfl (pc0 := 4) (pc' := 19) (same := true) rfl (hb hby d2_4) rfl (decide_eq_true rfl) (by decide) (by decide) k) ?_
  show own_Go p e below s _ _ _ (T1.setTop (mkF m 19 #[.val (.ref w1), .val (.ref w0)] []))
  refine own_via (fun _ k => XS.iconst X1.here hx rfl (hb hby d2_19) k) ?_
  show own_Go p e below s _ _ _ (T1.setTop (mkF m 20 #[.val (.ref w1), .val (.ref w0)] [(.int (1 : Int32))]))
  refine own_via (fun _ k => XS.goto X1.here hx rfl (pc0 := 20) (pc' := 24) rfl (hb hby d2_20) (by decide) (by decide) k) ?_
  show own_Go p e below s _ _ _ (T1.setTop (mkF m 24 #[.val (.ref w1), .val (.ref w0)] [(.int (1 : Int32))]))
  exact own_retZ X1 hx hlk (t := .boolean) Bd.returns (by simp) (hb hby d2_24) (z' := (1 : Int32)) (by first | rfl | decide) ⟨rfl, e1, rfl⟩ (by decide) (by decide)
def Q3_3 (w0 : Addr) (w1 : Addr) (w2 : Addr) (w3 : Addr) (h0 : Heap) (v : Option Value) (h : Heap) (L : List Loc) : Prop := L = [] ∧ h = h0 ∧ ((v = some (.int (1 : Int32))))
set_option maxRecDepth 65536 in
set_option maxHeartbeats 40000000 in
theorem rm3_3 (l : Launch) (Z : State) (a0 : Array Value) (hw : ∀ d ∈ tables_1, d.before a0 Z = true) (ws : List Jvm.Cond) (w0 : Addr) (w1 : Addr) (w2 : Addr) (w3 : Addr) (h0 : Heap) (n0 : Nat) (Z0 : n0 ≤ h0.size) (K : own_K Z h0 w0 w1 w2 w3) :
    MetFree l (⟨"com/example/bericht/bericht/selector/ValueTypeAdmitsPinLaw", "expected", "(II)Z"⟩ : MethodName) (head1 (Jvm.Cond.code (⟨"com/example/bericht/bericht/selector/ValueTypeAdmitsPinLaw", "expected", "(II)Z"⟩ : MethodName) method_3_code 2 (some .boolean) :: ws) ({ frames := 0, cells := 0, slots := 0, locals := 0 } : Room)) (fun a U => a = #[(.int (0 : Int32)), (.int (3 : Int32))] ∧ Z.Warmed39 U.vm ∧ U.heap = h0) (fun _ _ _ _ _ => True) (fun _ U o U' => ∃ v L, o = .returned v ∧ Q3_3 w0 w1 w2 w3 h0 v U'.heap L ∧ FrameEnd U o U' L ({ frames := 0, cells := 0, slots := 0, locals := 0 } : Room).cells ({ frames := 0, cells := 0, slots := 0, locals := 0 } : Room).slots) := by
  refine MetFree.of_bodySF (plainFor_of_name pn0) hisR ?_
  intro p e s m args below meth c s₁ Bd hml0 hP hK
  obtain ⟨rfl, hZ, hh⟩ := hP
  have hx := Bd.exec
  have hby := Bd.bytes
  have hml : c.maxLocals = 2 := hml0
  have hown : s.vm.findClass "com/example/bericht/bericht/selector/ValueTypeAdmitsPinLaw" = some m.cls := findClass_of_methodNamed Bd.named
  have hnm := (name_of_methodNamed Bd.named Bd.method).1
  have hlk := Bd.notSynchronized
  have X0 : Stand p l e ({ frames := 0, cells := 0, slots := 0, locals := 0 } : Room) s m #[(.int (0 : Int32)), (.int (3 : Int32))] below meth c s₁ [] 0 0 := Stand.of_body Bd
  have e0 : s₁.heap = h0 := by rw [← hh, Bd.state]; rfl
  have K0 := K
  obtain ⟨S_w0, S_w1, S_w2, S_w3, E_w0, E_w1, E_w2, E_w3, F_w0_ordinal, F_w1_ordinal, F_w2_ordinal, F_w3_ordinal, n_w0_w1, n_w0_w2, n_w0_w3, n_w1_w2, n_w1_w3, n_w2_w3⟩ := K
  show own_Go p e below s (Q3_3 w0 w1 w2 w3 h0) 0 0 (s₁.setTop (entryFrame m #[(.int (0 : Int32)), (.int (3 : Int32))] 2))
  rw [show entryFrame m #[(.int (0 : Int32)), (.int (3 : Int32))] 2 = mkF m 0 #[.val (.int (0 : Int32)), .val (.int (3 : Int32))] [] from by first | (simp [entryFrame, mkF, argsToLocals, Value.category]; done) | rfl]
  show own_Go p e below s _ _ _ (s₁.setTop (mkF m 0 #[.val (.int (0 : Int32)), .val (.int (3 : Int32))] []))
  refine own_via (fun _ k => XS.iloadN X0.here hx rfl (hb hby d3_0) rfl k) ?_
  show own_Go p e below s _ _ _ (s₁.setTop (mkF m 1 #[.val (.int (0 : Int32)), .val (.int (3 : Int32))] [(.int (0 : Int32))]))
  refine own_via (fun _ k => XS.iconst X0.here hx rfl (hb hby d3_1) k) ?_
  show own_Go p e below s _ _ _ (s₁.setTop (mkF m 2 #[.val (.int (0 : Int32)), .val (.int (3 : Int32))] [(.int (3 : Int32)), (.int (0 : Int32))]))
  refine own_via (fun _ k => XS.icmpYes X0.here hx rfl (pc0 := 2) (pc' := 7) rfl (hb hby d3_2) rfl (feq (by decide : ¬ ((0 : Int32) = (3 : Int32)))).2 (by decide) (by decide) k) ?_
  show own_Go p e below s _ _ _ (s₁.setTop (mkF m 7 #[.val (.int (0 : Int32)), .val (.int (3 : Int32))] []))
  refine own_via (fun _ k => XS.iloadN X0.here hx rfl (hb hby d3_7) rfl k) ?_
  show own_Go p e below s _ _ _ (s₁.setTop (mkF m 8 #[.val (.int (0 : Int32)), .val (.int (3 : Int32))] [(.int (3 : Int32))]))
  refine own_via (fun _ k => XS.iconst X0.here hx rfl (hb hby d3_8) k) ?_
  show own_Go p e below s _ _ _ (s₁.setTop (mkF m 9 #[.val (.int (0 : Int32)), .val (.int (3 : Int32))] [(.int (3 : Int32)), (.int (3 : Int32))]))
  refine own_via (fun _ k => XS.icmpNo X0.here hx rfl (hb hby d3_9) rfl (teq (by decide : (3 : Int32) = (3 : Int32))).2 k) ?_
  show own_Go p e below s _ _ _ (s₁.setTop (mkF m 12 #[.val (.int (0 : Int32)), .val (.int (3 : Int32))] []))
  refine own_via (fun _ k => XS.iconst X0.here hx rfl (hb hby d3_12) k) ?_
  show own_Go p e below s _ _ _ (s₁.setTop (mkF m 13 #[.val (.int (0 : Int32)), .val (.int (3 : Int32))] [(.int (1 : Int32))]))
  exact own_retZ X0 hx hlk (t := .boolean) Bd.returns (by simp) (hb hby d3_13) (z' := (1 : Int32)) (by first | rfl | decide) ⟨rfl, e0, rfl⟩ (by decide) (by decide)
def Q3_4 (w0 : Addr) (w1 : Addr) (w2 : Addr) (w3 : Addr) (h0 : Heap) (v : Option Value) (h : Heap) (L : List Loc) : Prop := L = [] ∧ h = h0 ∧ ((v = some (.int (0 : Int32))))
set_option maxRecDepth 65536 in
set_option maxHeartbeats 40000000 in
theorem rm3_4 (l : Launch) (Z : State) (a0 : Array Value) (hw : ∀ d ∈ tables_1, d.before a0 Z = true) (ws : List Jvm.Cond) (w0 : Addr) (w1 : Addr) (w2 : Addr) (w3 : Addr) (h0 : Heap) (n0 : Nat) (Z0 : n0 ≤ h0.size) (K : own_K Z h0 w0 w1 w2 w3) :
    MetFree l (⟨"com/example/bericht/bericht/selector/ValueTypeAdmitsPinLaw", "expected", "(II)Z"⟩ : MethodName) (head1 (Jvm.Cond.code (⟨"com/example/bericht/bericht/selector/ValueTypeAdmitsPinLaw", "expected", "(II)Z"⟩ : MethodName) method_3_code 2 (some .boolean) :: ws) ({ frames := 0, cells := 0, slots := 0, locals := 0 } : Room)) (fun a U => a = #[(.int (1 : Int32)), (.int (0 : Int32))] ∧ Z.Warmed39 U.vm ∧ U.heap = h0) (fun _ _ _ _ _ => True) (fun _ U o U' => ∃ v L, o = .returned v ∧ Q3_4 w0 w1 w2 w3 h0 v U'.heap L ∧ FrameEnd U o U' L ({ frames := 0, cells := 0, slots := 0, locals := 0 } : Room).cells ({ frames := 0, cells := 0, slots := 0, locals := 0 } : Room).slots) := by
  refine MetFree.of_bodySF (plainFor_of_name pn0) hisR ?_
  intro p e s m args below meth c s₁ Bd hml0 hP hK
  obtain ⟨rfl, hZ, hh⟩ := hP
  have hx := Bd.exec
  have hby := Bd.bytes
  have hml : c.maxLocals = 2 := hml0
  have hown : s.vm.findClass "com/example/bericht/bericht/selector/ValueTypeAdmitsPinLaw" = some m.cls := findClass_of_methodNamed Bd.named
  have hnm := (name_of_methodNamed Bd.named Bd.method).1
  have hlk := Bd.notSynchronized
  have X0 : Stand p l e ({ frames := 0, cells := 0, slots := 0, locals := 0 } : Room) s m #[(.int (1 : Int32)), (.int (0 : Int32))] below meth c s₁ [] 0 0 := Stand.of_body Bd
  have e0 : s₁.heap = h0 := by rw [← hh, Bd.state]; rfl
  have K0 := K
  obtain ⟨S_w0, S_w1, S_w2, S_w3, E_w0, E_w1, E_w2, E_w3, F_w0_ordinal, F_w1_ordinal, F_w2_ordinal, F_w3_ordinal, n_w0_w1, n_w0_w2, n_w0_w3, n_w1_w2, n_w1_w3, n_w2_w3⟩ := K
  show own_Go p e below s (Q3_4 w0 w1 w2 w3 h0) 0 0 (s₁.setTop (entryFrame m #[(.int (1 : Int32)), (.int (0 : Int32))] 2))
  rw [show entryFrame m #[(.int (1 : Int32)), (.int (0 : Int32))] 2 = mkF m 0 #[.val (.int (1 : Int32)), .val (.int (0 : Int32))] [] from by first | (simp [entryFrame, mkF, argsToLocals, Value.category]; done) | rfl]
  show own_Go p e below s _ _ _ (s₁.setTop (mkF m 0 #[.val (.int (1 : Int32)), .val (.int (0 : Int32))] []))
  refine own_via (fun _ k => XS.iloadN X0.here hx rfl (hb hby d3_0) rfl k) ?_
  show own_Go p e below s _ _ _ (s₁.setTop (mkF m 1 #[.val (.int (1 : Int32)), .val (.int (0 : Int32))] [(.int (1 : Int32))]))
  refine own_via (fun _ k => XS.iconst X0.here hx rfl (hb hby d3_1) k) ?_
  show own_Go p e below s _ _ _ (s₁.setTop (mkF m 2 #[.val (.int (1 : Int32)), .val (.int (0 : Int32))] [(.int (3 : Int32)), (.int (1 : Int32))]))
  refine own_via (fun _ k => XS.icmpYes X0.here hx rfl (pc0 := 2) (pc' := 7) rfl (hb hby d3_2) rfl (feq (by decide : ¬ ((1 : Int32) = (3 : Int32)))).2 (by decide) (by decide) k) ?_
  show own_Go p e below s _ _ _ (s₁.setTop (mkF m 7 #[.val (.int (1 : Int32)), .val (.int (0 : Int32))] []))
  refine own_via (fun _ k => XS.iloadN X0.here hx rfl (hb hby d3_7) rfl k) ?_
  show own_Go p e below s _ _ _ (s₁.setTop (mkF m 8 #[.val (.int (1 : Int32)), .val (.int (0 : Int32))] [(.int (0 : Int32))]))
  refine own_via (fun _ k => XS.iconst X0.here hx rfl (hb hby d3_8) k) ?_
  show own_Go p e below s _ _ _ (s₁.setTop (mkF m 9 #[.val (.int (1 : Int32)), .val (.int (0 : Int32))] [(.int (3 : Int32)), (.int (0 : Int32))]))
  refine own_via (fun _ k => XS.icmpYes X0.here hx rfl (pc0 := 9) (pc' := 14) rfl (hb hby d3_9) rfl (feq (by decide : ¬ ((0 : Int32) = (3 : Int32)))).2 (by decide) (by decide) k) ?_
  show own_Go p e below s _ _ _ (s₁.setTop (mkF m 14 #[.val (.int (1 : Int32)), .val (.int (0 : Int32))] []))
  refine own_via (fun _ k => XS.iloadN X0.here hx rfl (hb hby d3_14) rfl k) ?_
  show own_Go p e below s _ _ _ (s₁.setTop (mkF m 15 #[.val (.int (1 : Int32)), .val (.int (0 : Int32))] [(.int (1 : Int32))]))
  refine own_via (fun _ k => XS.iloadN X0.here hx rfl (hb hby d3_15) rfl k) ?_
  show own_Go p e below s _ _ _ (s₁.setTop (mkF m 16 #[.val (.int (1 : Int32)), .val (.int (0 : Int32))] [(.int (0 : Int32)), (.int (1 : Int32))]))
  refine own_via (fun _ k => XS.icmpYes X0.here hx rfl (pc0 := 16) (pc' := 23) rfl (hb hby d3_16) rfl (feq (by decide : ¬ ((1 : Int32) = (0 : Int32)))).2 (by decide) (by decide) k) ?_
  show own_Go p e below s _ _ _ (s₁.setTop (mkF m 23 #[.val (.int (1 : Int32)), .val (.int (0 : Int32))] []))
  refine own_via (fun _ k => XS.iconst X0.here hx rfl (hb hby d3_23) k) ?_
  show own_Go p e below s _ _ _ (s₁.setTop (mkF m 24 #[.val (.int (1 : Int32)), .val (.int (0 : Int32))] [(.int (0 : Int32))]))
  exact own_retZ X0 hx hlk (t := .boolean) Bd.returns (by simp) (hb hby d3_24) (z' := (0 : Int32)) (by first | rfl | decide) ⟨rfl, e0, rfl⟩ (by decide) (by decide)
def Q2_7 (w0 : Addr) (w1 : Addr) (w2 : Addr) (w3 : Addr) (h0 : Heap) (v : Option Value) (h : Heap) (L : List Loc) : Prop := L = [] ∧ h = h0 ∧ ((v = some (.int (1 : Int32))))
set_option maxRecDepth 65536 in
set_option maxHeartbeats 40000000 in
theorem rm2_7 (l : Launch) (Z : State) (a0 : Array Value) (hw : ∀ d ∈ tables_1, d.before a0 Z = true) (ws : List Jvm.Cond) (w0 : Addr) (w1 : Addr) (w2 : Addr) (w3 : Addr) (h0 : Heap) (n0 : Nat) (Z0 : n0 ≤ h0.size) (K : own_K Z h0 w0 w1 w2 w3) :
    MetFree l (⟨"com/example/bericht/bericht/selector/ValueType", "admits", "(Lcom/example/bericht/bericht/selector/ValueType;)Z"⟩ : MethodName) (head1 (Jvm.Cond.code (⟨"com/example/bericht/bericht/selector/ValueType", "admits", "(Lcom/example/bericht/bericht/selector/ValueType;)Z"⟩ : MethodName) prog_94_method_5_code 2 (some .boolean) :: ws) ({ frames := 0, cells := 0, slots := 0, locals := 0 } : Room)) (fun a U => a = #[(.ref w3), (.ref w3)] ∧ Z.Warmed39 U.vm ∧ U.heap = h0) (fun _ _ _ _ _ => True) (fun _ U o U' => ∃ v L, o = .returned v ∧ Q2_7 w0 w1 w2 w3 h0 v U'.heap L ∧ FrameEnd U o U' L ({ frames := 0, cells := 0, slots := 0, locals := 0 } : Room).cells ({ frames := 0, cells := 0, slots := 0, locals := 0 } : Room).slots) := by
  refine MetFree.of_bodySF (plainFor_of_name pn1) hisR ?_
  intro p e s m args below meth c s₁ Bd hml0 hP hK
  obtain ⟨rfl, hZ, hh⟩ := hP
  have hx := Bd.exec
  have hby := Bd.bytes
  have hml : c.maxLocals = 2 := hml0
  have hown : s.vm.findClass "com/example/bericht/bericht/selector/ValueType" = some m.cls := findClass_of_methodNamed Bd.named
  have hnm := (name_of_methodNamed Bd.named Bd.method).1
  have hlk := Bd.notSynchronized
  have X0 : Stand p l e ({ frames := 0, cells := 0, slots := 0, locals := 0 } : Room) s m #[(.ref w3), (.ref w3)] below meth c s₁ [] 0 0 := Stand.of_body Bd
  have e0 : s₁.heap = h0 := by rw [← hh, Bd.state]; rfl
  have K0 := K
  obtain ⟨S_w0, S_w1, S_w2, S_w3, E_w0, E_w1, E_w2, E_w3, F_w0_ordinal, F_w1_ordinal, F_w2_ordinal, F_w3_ordinal, n_w0_w1, n_w0_w2, n_w0_w3, n_w1_w2, n_w1_w3, n_w2_w3⟩ := K
  show own_Go p e below s (Q2_7 w0 w1 w2 w3 h0) 0 0 (s₁.setTop (entryFrame m #[(.ref w3), (.ref w3)] 2))
  rw [show entryFrame m #[(.ref w3), (.ref w3)] 2 = mkF m 0 #[.val (.ref w3), .val (.ref w3)] [] from by first | (simp [entryFrame, mkF, argsToLocals, Value.category]; done) | rfl]
  show own_Go p e below s _ _ _ (s₁.setTop (mkF m 0 #[.val (.ref w3), .val (.ref w3)] []))
  refine own_via (fun _ k => XS.aloadN X0.here hx rfl (hb hby d2_0) rfl rfl k) ?_
  show own_Go p e below s _ _ _ (s₁.setTop (mkF m 1 #[.val (.ref w3), .val (.ref w3)] [(.ref w3)]))
  obtain ⟨T1, X1, e1, st1⟩ := getS2 X0 hx hZ hown (host := "") (Or.inl (hw _ (List.mem_of_getElem? (i := 14) rfl))) Via.refl e0 S_w1 (g := (mkF m 1 #[.val (.ref w3), .val (.ref w3)] [(.ref w3)])) rfl (hb hby d2_1)
  refine own_via st1 ?_
  show own_Go p e below s _ _ _ (T1.setTop (mkF m 4 #[.val (.ref w3), .val (.ref w3)] [(.ref w1), (.ref w3)]))
  refine own_via (fun _ k => Jvm.RoadKit.acmp (g := (mkF m 4 #[.val (.ref w3), .val (.ref w3)] [(.ref w1), (.ref w3)])) X1 hx rfl rfl rfl (pc0 := 4) (pc' := 7) (same := false) rfl (hb hby d2_4) rfl (decide_eq_false fun q => (fun q => n_w1_w3 q.symm) (Value.ref.inj q)) (by decide) (by decide) k) ?_
  show own_Go p e below s _ _ _ (T1.setTop (mkF m 7 #[.val (.ref w3), .val (.ref w3)] []))
  refine own_via (fun _ k => XS.aloadN X1.here hx rfl (hb hby d2_7) rfl rfl k) ?_
  show own_Go p e below s _ _ _ (T1.setTop (mkF m 8 #[.val (.ref w3), .val (.ref w3)] [(.ref w3)]))
  obtain ⟨T2, X2, e2, st2⟩ := getS2 X1 hx hZ hown (host := "") (Or.inl (hw _ (List.mem_of_getElem? (i := 14) rfl))) Via.refl e1 S_w1 (g := (mkF m 8 #[.val (.ref w3), .val (.ref w3)] [(.ref w3)])) rfl (hb hby d2_8)
  refine own_via st2 ?_
  show own_Go p e below s _ _ _ (T2.setTop (mkF m 11 #[.val (.ref w3), .val (.ref w3)] [(.ref w1), (.ref w3)]))
  refine own_via (fun _ k => Jvm.RoadKit.acmp (g := (mkF m 11 #[.val (.ref w3), .val (.ref w3)] [(.ref w1), (.ref w3)])) X2 hx rfl rfl rfl (pc0 := 11) (pc' := 14) (same := false) rfl (hb hby d2_11) rfl (decide_eq_false fun q => (fun q => n_w1_w3 q.symm) (Value.ref.inj q)) (by decide) (by decide) k) ?_
  show own_Go p e below s _ _ _ (T2.setTop (mkF m 14 #[.val (.ref w3), .val (.ref w3)] []))
  refine own_via (fun _ k => XS.aloadN X2.here hx rfl (hb hby d2_14) rfl rfl k) ?_
  show own_Go p e below s _ _ _ (T2.setTop (mkF m 15 #[.val (.ref w3), .val (.ref w3)] [(.ref w3)]))
  refine own_via (fun _ k => XS.aloadN X2.here hx rfl (hb hby d2_15) rfl rfl k) ?_
  show own_Go p e below s _ _ _ (T2.setTop (mkF m 16 #[.val (.ref w3), .val (.ref w3)] [(.ref w3), (.ref w3)]))
  refine own_via (fun _ k => Jvm.RoadKit.acmp (g := (mkF m 16 #[.val (.ref w3), .val (.ref w3)] [(.ref w3), (.ref w3)])) X2 hx rfl rfl rfl (pc0 := 16) (pc' := 19) (same := true) rfl (hb hby d2_16) rfl (decide_eq_true rfl) (by decide) (by decide) k) ?_
  show own_Go p e below s _ _ _ (T2.setTop (mkF m 19 #[.val (.ref w3), .val (.ref w3)] []))
  refine own_via (fun _ k => XS.iconst X2.here hx rfl (hb hby d2_19) k) ?_
  show own_Go p e below s _ _ _ (T2.setTop (mkF m 20 #[.val (.ref w3), .val (.ref w3)] [(.int (1 : Int32))]))
  refine own_via (fun _ k => XS.goto X2.here hx rfl (pc0 := 20) (pc' := 24) rfl (hb hby d2_20) (by decide) (by decide) k) ?_
  show own_Go p e below s _ _ _ (T2.setTop (mkF m 24 #[.val (.ref w3), .val (.ref w3)] [(.int (1 : Int32))]))
  exact own_retZ X2 hx hlk (t := .boolean) Bd.returns (by simp) (hb hby d2_24) (z' := (1 : Int32)) (by first | rfl | decide) ⟨rfl, e2, rfl⟩ (by decide) (by decide)
def Q3_5 (w0 : Addr) (w1 : Addr) (w2 : Addr) (w3 : Addr) (h0 : Heap) (v : Option Value) (h : Heap) (L : List Loc) : Prop := L = [] ∧ h = h0 ∧ ((v = some (.int (1 : Int32))))
set_option maxRecDepth 65536 in
set_option maxHeartbeats 40000000 in
theorem rm3_5 (l : Launch) (Z : State) (a0 : Array Value) (hw : ∀ d ∈ tables_1, d.before a0 Z = true) (ws : List Jvm.Cond) (w0 : Addr) (w1 : Addr) (w2 : Addr) (w3 : Addr) (h0 : Heap) (n0 : Nat) (Z0 : n0 ≤ h0.size) (K : own_K Z h0 w0 w1 w2 w3) :
    MetFree l (⟨"com/example/bericht/bericht/selector/ValueTypeAdmitsPinLaw", "expected", "(II)Z"⟩ : MethodName) (head1 (Jvm.Cond.code (⟨"com/example/bericht/bericht/selector/ValueTypeAdmitsPinLaw", "expected", "(II)Z"⟩ : MethodName) method_3_code 2 (some .boolean) :: ws) ({ frames := 0, cells := 0, slots := 0, locals := 0 } : Room)) (fun a U => a = #[(.int (1 : Int32)), (.int (1 : Int32))] ∧ Z.Warmed39 U.vm ∧ U.heap = h0) (fun _ _ _ _ _ => True) (fun _ U o U' => ∃ v L, o = .returned v ∧ Q3_5 w0 w1 w2 w3 h0 v U'.heap L ∧ FrameEnd U o U' L ({ frames := 0, cells := 0, slots := 0, locals := 0 } : Room).cells ({ frames := 0, cells := 0, slots := 0, locals := 0 } : Room).slots) := by
  refine MetFree.of_bodySF (plainFor_of_name pn0) hisR ?_
  intro p e s m args below meth c s₁ Bd hml0 hP hK
  obtain ⟨rfl, hZ, hh⟩ := hP
  have hx := Bd.exec
  have hby := Bd.bytes
  have hml : c.maxLocals = 2 := hml0
  have hown : s.vm.findClass "com/example/bericht/bericht/selector/ValueTypeAdmitsPinLaw" = some m.cls := findClass_of_methodNamed Bd.named
  have hnm := (name_of_methodNamed Bd.named Bd.method).1
  have hlk := Bd.notSynchronized
  have X0 : Stand p l e ({ frames := 0, cells := 0, slots := 0, locals := 0 } : Room) s m #[(.int (1 : Int32)), (.int (1 : Int32))] below meth c s₁ [] 0 0 := Stand.of_body Bd
  have e0 : s₁.heap = h0 := by rw [← hh, Bd.state]; rfl
  have K0 := K
  obtain ⟨S_w0, S_w1, S_w2, S_w3, E_w0, E_w1, E_w2, E_w3, F_w0_ordinal, F_w1_ordinal, F_w2_ordinal, F_w3_ordinal, n_w0_w1, n_w0_w2, n_w0_w3, n_w1_w2, n_w1_w3, n_w2_w3⟩ := K
  show own_Go p e below s (Q3_5 w0 w1 w2 w3 h0) 0 0 (s₁.setTop (entryFrame m #[(.int (1 : Int32)), (.int (1 : Int32))] 2))
  rw [show entryFrame m #[(.int (1 : Int32)), (.int (1 : Int32))] 2 = mkF m 0 #[.val (.int (1 : Int32)), .val (.int (1 : Int32))] [] from by first | (simp [entryFrame, mkF, argsToLocals, Value.category]; done) | rfl]
  show own_Go p e below s _ _ _ (s₁.setTop (mkF m 0 #[.val (.int (1 : Int32)), .val (.int (1 : Int32))] []))
  refine own_via (fun _ k => XS.iloadN X0.here hx rfl (hb hby d3_0) rfl k) ?_
  show own_Go p e below s _ _ _ (s₁.setTop (mkF m 1 #[.val (.int (1 : Int32)), .val (.int (1 : Int32))] [(.int (1 : Int32))]))
  refine own_via (fun _ k => XS.iconst X0.here hx rfl (hb hby d3_1) k) ?_
  show own_Go p e below s _ _ _ (s₁.setTop (mkF m 2 #[.val (.int (1 : Int32)), .val (.int (1 : Int32))] [(.int (3 : Int32)), (.int (1 : Int32))]))
  refine own_via (fun _ k => XS.icmpYes X0.here hx rfl (pc0 := 2) (pc' := 7) rfl (hb hby d3_2) rfl (feq (by decide : ¬ ((1 : Int32) = (3 : Int32)))).2 (by decide) (by decide) k) ?_
  show own_Go p e below s _ _ _ (s₁.setTop (mkF m 7 #[.val (.int (1 : Int32)), .val (.int (1 : Int32))] []))
  refine own_via (fun _ k => XS.iloadN X0.here hx rfl (hb hby d3_7) rfl k) ?_
  show own_Go p e below s _ _ _ (s₁.setTop (mkF m 8 #[.val (.int (1 : Int32)), .val (.int (1 : Int32))] [(.int (1 : Int32))]))
  refine own_via (fun _ k => XS.iconst X0.here hx rfl (hb hby d3_8) k) ?_
  show own_Go p e below s _ _ _ (s₁.setTop (mkF m 9 #[.val (.int (1 : Int32)), .val (.int (1 : Int32))] [(.int (3 : Int32)), (.int (1 : Int32))]))
  refine own_via (fun _ k => XS.icmpYes X0.here hx rfl (pc0 := 9) (pc' := 14) rfl (hb hby d3_9) rfl (feq (by decide : ¬ ((1 : Int32) = (3 : Int32)))).2 (by decide) (by decide) k) ?_
  show own_Go p e below s _ _ _ (s₁.setTop (mkF m 14 #[.val (.int (1 : Int32)), .val (.int (1 : Int32))] []))
  refine own_via (fun _ k => XS.iloadN X0.here hx rfl (hb hby d3_14) rfl k) ?_
  show own_Go p e below s _ _ _ (s₁.setTop (mkF m 15 #[.val (.int (1 : Int32)), .val (.int (1 : Int32))] [(.int (1 : Int32))]))
  refine own_via (fun _ k => XS.iloadN X0.here hx rfl (hb hby d3_15) rfl k) ?_
  show own_Go p e below s _ _ _ (s₁.setTop (mkF m 16 #[.val (.int (1 : Int32)), .val (.int (1 : Int32))] [(.int (1 : Int32)), (.int (1 : Int32))]))
  refine own_via (fun _ k => XS.icmpNo X0.here hx rfl (hb hby d3_16) rfl (teq (by decide : (1 : Int32) = (1 : Int32))).2 k) ?_
  show own_Go p e below s _ _ _ (s₁.setTop (mkF m 19 #[.val (.int (1 : Int32)), .val (.int (1 : Int32))] []))
  refine own_via (fun _ k => XS.iconst X0.here hx rfl (hb hby d3_19) k) ?_
  show own_Go p e below s _ _ _ (s₁.setTop (mkF m 20 #[.val (.int (1 : Int32)), .val (.int (1 : Int32))] [(.int (1 : Int32))]))
  refine own_via (fun _ k => XS.goto X0.here hx rfl (pc0 := 20) (pc' := 24) rfl (hb hby d3_20) (by decide) (by decide) k) ?_
  show own_Go p e below s _ _ _ (s₁.setTop (mkF m 24 #[.val (.int (1 : Int32)), .val (.int (1 : Int32))] [(.int (1 : Int32))]))
  exact own_retZ X0 hx hlk (t := .boolean) Bd.returns (by simp) (hb hby d3_24) (z' := (1 : Int32)) (by first | rfl | decide) ⟨rfl, e0, rfl⟩ (by decide) (by decide)
def Q2_8 (w0 : Addr) (w1 : Addr) (w2 : Addr) (w3 : Addr) (h0 : Heap) (v : Option Value) (h : Heap) (L : List Loc) : Prop := L = [] ∧ h = h0 ∧ ((v = some (.int (0 : Int32))))
set_option maxRecDepth 65536 in
set_option maxHeartbeats 40000000 in
theorem rm2_8 (l : Launch) (Z : State) (a0 : Array Value) (hw : ∀ d ∈ tables_1, d.before a0 Z = true) (ws : List Jvm.Cond) (w0 : Addr) (w1 : Addr) (w2 : Addr) (w3 : Addr) (h0 : Heap) (n0 : Nat) (Z0 : n0 ≤ h0.size) (K : own_K Z h0 w0 w1 w2 w3) :
    MetFree l (⟨"com/example/bericht/bericht/selector/ValueType", "admits", "(Lcom/example/bericht/bericht/selector/ValueType;)Z"⟩ : MethodName) (head1 (Jvm.Cond.code (⟨"com/example/bericht/bericht/selector/ValueType", "admits", "(Lcom/example/bericht/bericht/selector/ValueType;)Z"⟩ : MethodName) prog_94_method_5_code 2 (some .boolean) :: ws) ({ frames := 0, cells := 0, slots := 0, locals := 0 } : Room)) (fun a U => a = #[(.ref w3), (.ref w2)] ∧ Z.Warmed39 U.vm ∧ U.heap = h0) (fun _ _ _ _ _ => True) (fun _ U o U' => ∃ v L, o = .returned v ∧ Q2_8 w0 w1 w2 w3 h0 v U'.heap L ∧ FrameEnd U o U' L ({ frames := 0, cells := 0, slots := 0, locals := 0 } : Room).cells ({ frames := 0, cells := 0, slots := 0, locals := 0 } : Room).slots) := by
  refine MetFree.of_bodySF (plainFor_of_name pn1) hisR ?_
  intro p e s m args below meth c s₁ Bd hml0 hP hK
  obtain ⟨rfl, hZ, hh⟩ := hP
  have hx := Bd.exec
  have hby := Bd.bytes
  have hml : c.maxLocals = 2 := hml0
  have hown : s.vm.findClass "com/example/bericht/bericht/selector/ValueType" = some m.cls := findClass_of_methodNamed Bd.named
  have hnm := (name_of_methodNamed Bd.named Bd.method).1
  have hlk := Bd.notSynchronized
  have X0 : Stand p l e ({ frames := 0, cells := 0, slots := 0, locals := 0 } : Room) s m #[(.ref w3), (.ref w2)] below meth c s₁ [] 0 0 := Stand.of_body Bd
  have e0 : s₁.heap = h0 := by rw [← hh, Bd.state]; rfl
  have K0 := K
  obtain ⟨S_w0, S_w1, S_w2, S_w3, E_w0, E_w1, E_w2, E_w3, F_w0_ordinal, F_w1_ordinal, F_w2_ordinal, F_w3_ordinal, n_w0_w1, n_w0_w2, n_w0_w3, n_w1_w2, n_w1_w3, n_w2_w3⟩ := K
  show own_Go p e below s (Q2_8 w0 w1 w2 w3 h0) 0 0 (s₁.setTop (entryFrame m #[(.ref w3), (.ref w2)] 2))
  rw [show entryFrame m #[(.ref w3), (.ref w2)] 2 = mkF m 0 #[.val (.ref w3), .val (.ref w2)] [] from by first | (simp [entryFrame, mkF, argsToLocals, Value.category]; done) | rfl]
  show own_Go p e below s _ _ _ (s₁.setTop (mkF m 0 #[.val (.ref w3), .val (.ref w2)] []))
  refine own_via (fun _ k => XS.aloadN X0.here hx rfl (hb hby d2_0) rfl rfl k) ?_
  show own_Go p e below s _ _ _ (s₁.setTop (mkF m 1 #[.val (.ref w3), .val (.ref w2)] [(.ref w3)]))
  obtain ⟨T1, X1, e1, st1⟩ := getS2 X0 hx hZ hown (host := "") (Or.inl (hw _ (List.mem_of_getElem? (i := 14) rfl))) Via.refl e0 S_w1 (g := (mkF m 1 #[.val (.ref w3), .val (.ref w2)] [(.ref w3)])) rfl (hb hby d2_1)
  refine own_via st1 ?_
  show own_Go p e below s _ _ _ (T1.setTop (mkF m 4 #[.val (.ref w3), .val (.ref w2)] [(.ref w1), (.ref w3)]))
  refine own_via (fun _ k => Jvm.RoadKit.acmp (g := (mkF m 4 #[.val (.ref w3), .val (.ref w2)] [(.ref w1), (.ref w3)])) X1 hx rfl rfl rfl (pc0 := 4) (pc' := 7) (same := false) rfl (hb hby d2_4) rfl (decide_eq_false fun q => (fun q => n_w1_w3 q.symm) (Value.ref.inj q)) (by decide) (by decide) k) ?_
  show own_Go p e below s _ _ _ (T1.setTop (mkF m 7 #[.val (.ref w3), .val (.ref w2)] []))
  refine own_via (fun _ k => XS.aloadN X1.here hx rfl (hb hby d2_7) rfl rfl k) ?_
  show own_Go p e below s _ _ _ (T1.setTop (mkF m 8 #[.val (.ref w3), .val (.ref w2)] [(.ref w2)]))
  obtain ⟨T2, X2, e2, st2⟩ := getS2 X1 hx hZ hown (host := "") (Or.inl (hw _ (List.mem_of_getElem? (i := 14) rfl))) Via.refl e1 S_w1 (g := (mkF m 8 #[.val (.ref w3), .val (.ref w2)] [(.ref w2)])) rfl (hb hby d2_8)
  refine own_via st2 ?_
  show own_Go p e below s _ _ _ (T2.setTop (mkF m 11 #[.val (.ref w3), .val (.ref w2)] [(.ref w1), (.ref w2)]))
  refine own_via (fun _ k => Jvm.RoadKit.acmp (g := (mkF m 11 #[.val (.ref w3), .val (.ref w2)] [(.ref w1), (.ref w2)])) X2 hx rfl rfl rfl (pc0 := 11) (pc' := 14) (same := false) rfl (hb hby d2_11) rfl (decide_eq_false fun q => (fun q => n_w1_w2 q.symm) (Value.ref.inj q)) (by decide) (by decide) k) ?_
  show own_Go p e below s _ _ _ (T2.setTop (mkF m 14 #[.val (.ref w3), .val (.ref w2)] []))
  refine own_via (fun _ k => XS.aloadN X2.here hx rfl (hb hby d2_14) rfl rfl k) ?_
  show own_Go p e below s _ _ _ (T2.setTop (mkF m 15 #[.val (.ref w3), .val (.ref w2)] [(.ref w3)]))
  refine own_via (fun _ k => XS.aloadN X2.here hx rfl (hb hby d2_15) rfl rfl k) ?_
  show own_Go p e below s _ _ _ (T2.setTop (mkF m 16 #[.val (.ref w3), .val (.ref w2)] [(.ref w2), (.ref w3)]))
  refine own_via (fun _ k => Jvm.RoadKit.acmp (g := (mkF m 16 #[.val (.ref w3), .val (.ref w2)] [(.ref w2), (.ref w3)])) X2 hx rfl rfl rfl (pc0 := 16) (pc' := 23) (same := false) rfl (hb hby d2_16) rfl (decide_eq_false fun q => (fun q => n_w2_w3 q.symm) (Value.ref.inj q)) (by decide) (by decide) k) ?_
  show own_Go p e below s _ _ _ (T2.setTop (mkF m 23 #[.val (.ref w3), .val (.ref w2)] []))
  refine own_via (fun _ k => XS.iconst X2.here hx rfl (hb hby d2_23) k) ?_
  show own_Go p e below s _ _ _ (T2.setTop (mkF m 24 #[.val (.ref w3), .val (.ref w2)] [(.int (0 : Int32))]))
  exact own_retZ X2 hx hlk (t := .boolean) Bd.returns (by simp) (hb hby d2_24) (z' := (0 : Int32)) (by first | rfl | decide) ⟨rfl, e2, rfl⟩ (by decide) (by decide)
def Q2_9 (w0 : Addr) (w1 : Addr) (w2 : Addr) (w3 : Addr) (h0 : Heap) (v : Option Value) (h : Heap) (L : List Loc) : Prop := L = [] ∧ h = h0 ∧ ((v = some (.int (0 : Int32))))
set_option maxRecDepth 65536 in
set_option maxHeartbeats 40000000 in
theorem rm2_9 (l : Launch) (Z : State) (a0 : Array Value) (hw : ∀ d ∈ tables_1, d.before a0 Z = true) (ws : List Jvm.Cond) (w0 : Addr) (w1 : Addr) (w2 : Addr) (w3 : Addr) (h0 : Heap) (n0 : Nat) (Z0 : n0 ≤ h0.size) (K : own_K Z h0 w0 w1 w2 w3) :
    MetFree l (⟨"com/example/bericht/bericht/selector/ValueType", "admits", "(Lcom/example/bericht/bericht/selector/ValueType;)Z"⟩ : MethodName) (head1 (Jvm.Cond.code (⟨"com/example/bericht/bericht/selector/ValueType", "admits", "(Lcom/example/bericht/bericht/selector/ValueType;)Z"⟩ : MethodName) prog_94_method_5_code 2 (some .boolean) :: ws) ({ frames := 0, cells := 0, slots := 0, locals := 0 } : Room)) (fun a U => a = #[(.ref w2), (.ref w3)] ∧ Z.Warmed39 U.vm ∧ U.heap = h0) (fun _ _ _ _ _ => True) (fun _ U o U' => ∃ v L, o = .returned v ∧ Q2_9 w0 w1 w2 w3 h0 v U'.heap L ∧ FrameEnd U o U' L ({ frames := 0, cells := 0, slots := 0, locals := 0 } : Room).cells ({ frames := 0, cells := 0, slots := 0, locals := 0 } : Room).slots) := by
  refine MetFree.of_bodySF (plainFor_of_name pn1) hisR ?_
  intro p e s m args below meth c s₁ Bd hml0 hP hK
  obtain ⟨rfl, hZ, hh⟩ := hP
  have hx := Bd.exec
  have hby := Bd.bytes
  have hml : c.maxLocals = 2 := hml0
  have hown : s.vm.findClass "com/example/bericht/bericht/selector/ValueType" = some m.cls := findClass_of_methodNamed Bd.named
  have hnm := (name_of_methodNamed Bd.named Bd.method).1
  have hlk := Bd.notSynchronized
  have X0 : Stand p l e ({ frames := 0, cells := 0, slots := 0, locals := 0 } : Room) s m #[(.ref w2), (.ref w3)] below meth c s₁ [] 0 0 := Stand.of_body Bd
  have e0 : s₁.heap = h0 := by rw [← hh, Bd.state]; rfl
  have K0 := K
  obtain ⟨S_w0, S_w1, S_w2, S_w3, E_w0, E_w1, E_w2, E_w3, F_w0_ordinal, F_w1_ordinal, F_w2_ordinal, F_w3_ordinal, n_w0_w1, n_w0_w2, n_w0_w3, n_w1_w2, n_w1_w3, n_w2_w3⟩ := K
  show own_Go p e below s (Q2_9 w0 w1 w2 w3 h0) 0 0 (s₁.setTop (entryFrame m #[(.ref w2), (.ref w3)] 2))
  rw [show entryFrame m #[(.ref w2), (.ref w3)] 2 = mkF m 0 #[.val (.ref w2), .val (.ref w3)] [] from by first | (simp [entryFrame, mkF, argsToLocals, Value.category]; done) | rfl]
  show own_Go p e below s _ _ _ (s₁.setTop (mkF m 0 #[.val (.ref w2), .val (.ref w3)] []))
  refine own_via (fun _ k => XS.aloadN X0.here hx rfl (hb hby d2_0) rfl rfl k) ?_
  show own_Go p e below s _ _ _ (s₁.setTop (mkF m 1 #[.val (.ref w2), .val (.ref w3)] [(.ref w2)]))
  obtain ⟨T1, X1, e1, st1⟩ := getS2 X0 hx hZ hown (host := "") (Or.inl (hw _ (List.mem_of_getElem? (i := 14) rfl))) Via.refl e0 S_w1 (g := (mkF m 1 #[.val (.ref w2), .val (.ref w3)] [(.ref w2)])) rfl (hb hby d2_1)
  refine own_via st1 ?_
  show own_Go p e below s _ _ _ (T1.setTop (mkF m 4 #[.val (.ref w2), .val (.ref w3)] [(.ref w1), (.ref w2)]))
  refine own_via (fun _ k => Jvm.RoadKit.acmp (g := (mkF m 4 #[.val (.ref w2), .val (.ref w3)] [(.ref w1), (.ref w2)])) X1 hx rfl rfl rfl (pc0 := 4) (pc' := 7) (same := false) rfl (hb hby d2_4) rfl (decide_eq_false fun q => (fun q => n_w1_w2 q.symm) (Value.ref.inj q)) (by decide) (by decide) k) ?_
  show own_Go p e below s _ _ _ (T1.setTop (mkF m 7 #[.val (.ref w2), .val (.ref w3)] []))
  refine own_via (fun _ k => XS.aloadN X1.here hx rfl (hb hby d2_7) rfl rfl k) ?_
  show own_Go p e below s _ _ _ (T1.setTop (mkF m 8 #[.val (.ref w2), .val (.ref w3)] [(.ref w3)]))
  obtain ⟨T2, X2, e2, st2⟩ := getS2 X1 hx hZ hown (host := "") (Or.inl (hw _ (List.mem_of_getElem? (i := 14) rfl))) Via.refl e1 S_w1 (g := (mkF m 8 #[.val (.ref w2), .val (.ref w3)] [(.ref w3)])) rfl (hb hby d2_8)
  refine own_via st2 ?_
  show own_Go p e below s _ _ _ (T2.setTop (mkF m 11 #[.val (.ref w2), .val (.ref w3)] [(.ref w1), (.ref w3)]))
  refine own_via (fun _ k => Jvm.RoadKit.acmp (g := (mkF m 11 #[.val (.ref w2), .val (.ref w3)] [(.ref w1), (.ref w3)])) X2 hx rfl rfl rfl (pc0 := 11) (pc' := 14) (same := false) rfl (hb hby d2_11) rfl (decide_eq_false fun q => (fun q => n_w1_w3 q.symm) (Value.ref.inj q)) (by decide) (by decide) k) ?_
  show own_Go p e below s _ _ _ (T2.setTop (mkF m 14 #[.val (.ref w2), .val (.ref w3)] []))
  refine own_via (fun _ k => XS.aloadN X2.here hx rfl (hb hby d2_14) rfl rfl k) ?_
  show own_Go p e below s _ _ _ (T2.setTop (mkF m 15 #[.val (.ref w2), .val (.ref w3)] [(.ref w2)]))
  refine own_via (fun _ k => XS.aloadN X2.here hx rfl (hb hby d2_15) rfl rfl k) ?_
  show own_Go p e below s _ _ _ (T2.setTop (mkF m 16 #[.val (.ref w2), .val (.ref w3)] [(.ref w3), (.ref w2)]))
  refine own_via (fun _ k => Jvm.RoadKit.acmp (g := (mkF m 16 #[.val (.ref w2), .val (.ref w3)] [(.ref w3), (.ref w2)])) X2 hx rfl rfl rfl (pc0 := 16) (pc' := 23) (same := false) rfl (hb hby d2_16) rfl (decide_eq_false fun q => n_w2_w3 (Value.ref.inj q)) (by decide) (by decide) k) ?_
  show own_Go p e below s _ _ _ (T2.setTop (mkF m 23 #[.val (.ref w2), .val (.ref w3)] []))
  refine own_via (fun _ k => XS.iconst X2.here hx rfl (hb hby d2_23) k) ?_
  show own_Go p e below s _ _ _ (T2.setTop (mkF m 24 #[.val (.ref w2), .val (.ref w3)] [(.int (0 : Int32))]))
  exact own_retZ X2 hx hlk (t := .boolean) Bd.returns (by simp) (hb hby d2_24) (z' := (0 : Int32)) (by first | rfl | decide) ⟨rfl, e2, rfl⟩ (by decide) (by decide)
def Q3_6 (w0 : Addr) (w1 : Addr) (w2 : Addr) (w3 : Addr) (h0 : Heap) (v : Option Value) (h : Heap) (L : List Loc) : Prop := L = [] ∧ h = h0 ∧ ((v = some (.int (0 : Int32))))
set_option maxRecDepth 65536 in
set_option maxHeartbeats 40000000 in
theorem rm3_6 (l : Launch) (Z : State) (a0 : Array Value) (hw : ∀ d ∈ tables_1, d.before a0 Z = true) (ws : List Jvm.Cond) (w0 : Addr) (w1 : Addr) (w2 : Addr) (w3 : Addr) (h0 : Heap) (n0 : Nat) (Z0 : n0 ≤ h0.size) (K : own_K Z h0 w0 w1 w2 w3) :
    MetFree l (⟨"com/example/bericht/bericht/selector/ValueTypeAdmitsPinLaw", "expected", "(II)Z"⟩ : MethodName) (head1 (Jvm.Cond.code (⟨"com/example/bericht/bericht/selector/ValueTypeAdmitsPinLaw", "expected", "(II)Z"⟩ : MethodName) method_3_code 2 (some .boolean) :: ws) ({ frames := 0, cells := 0, slots := 0, locals := 0 } : Room)) (fun a U => a = #[(.int (1 : Int32)), (.int (2 : Int32))] ∧ Z.Warmed39 U.vm ∧ U.heap = h0) (fun _ _ _ _ _ => True) (fun _ U o U' => ∃ v L, o = .returned v ∧ Q3_6 w0 w1 w2 w3 h0 v U'.heap L ∧ FrameEnd U o U' L ({ frames := 0, cells := 0, slots := 0, locals := 0 } : Room).cells ({ frames := 0, cells := 0, slots := 0, locals := 0 } : Room).slots) := by
  refine MetFree.of_bodySF (plainFor_of_name pn0) hisR ?_
  intro p e s m args below meth c s₁ Bd hml0 hP hK
  obtain ⟨rfl, hZ, hh⟩ := hP
  have hx := Bd.exec
  have hby := Bd.bytes
  have hml : c.maxLocals = 2 := hml0
  have hown : s.vm.findClass "com/example/bericht/bericht/selector/ValueTypeAdmitsPinLaw" = some m.cls := findClass_of_methodNamed Bd.named
  have hnm := (name_of_methodNamed Bd.named Bd.method).1
  have hlk := Bd.notSynchronized
  have X0 : Stand p l e ({ frames := 0, cells := 0, slots := 0, locals := 0 } : Room) s m #[(.int (1 : Int32)), (.int (2 : Int32))] below meth c s₁ [] 0 0 := Stand.of_body Bd
  have e0 : s₁.heap = h0 := by rw [← hh, Bd.state]; rfl
  have K0 := K
  obtain ⟨S_w0, S_w1, S_w2, S_w3, E_w0, E_w1, E_w2, E_w3, F_w0_ordinal, F_w1_ordinal, F_w2_ordinal, F_w3_ordinal, n_w0_w1, n_w0_w2, n_w0_w3, n_w1_w2, n_w1_w3, n_w2_w3⟩ := K
  show own_Go p e below s (Q3_6 w0 w1 w2 w3 h0) 0 0 (s₁.setTop (entryFrame m #[(.int (1 : Int32)), (.int (2 : Int32))] 2))
  rw [show entryFrame m #[(.int (1 : Int32)), (.int (2 : Int32))] 2 = mkF m 0 #[.val (.int (1 : Int32)), .val (.int (2 : Int32))] [] from by first | (simp [entryFrame, mkF, argsToLocals, Value.category]; done) | rfl]
  show own_Go p e below s _ _ _ (s₁.setTop (mkF m 0 #[.val (.int (1 : Int32)), .val (.int (2 : Int32))] []))
  refine own_via (fun _ k => XS.iloadN X0.here hx rfl (hb hby d3_0) rfl k) ?_
  show own_Go p e below s _ _ _ (s₁.setTop (mkF m 1 #[.val (.int (1 : Int32)), .val (.int (2 : Int32))] [(.int (1 : Int32))]))
  refine own_via (fun _ k => XS.iconst X0.here hx rfl (hb hby d3_1) k) ?_
  show own_Go p e below s _ _ _ (s₁.setTop (mkF m 2 #[.val (.int (1 : Int32)), .val (.int (2 : Int32))] [(.int (3 : Int32)), (.int (1 : Int32))]))
  refine own_via (fun _ k => XS.icmpYes X0.here hx rfl (pc0 := 2) (pc' := 7) rfl (hb hby d3_2) rfl (feq (by decide : ¬ ((1 : Int32) = (3 : Int32)))).2 (by decide) (by decide) k) ?_
  show own_Go p e below s _ _ _ (s₁.setTop (mkF m 7 #[.val (.int (1 : Int32)), .val (.int (2 : Int32))] []))
  refine own_via (fun _ k => XS.iloadN X0.here hx rfl (hb hby d3_7) rfl k) ?_
  show own_Go p e below s _ _ _ (s₁.setTop (mkF m 8 #[.val (.int (1 : Int32)), .val (.int (2 : Int32))] [(.int (2 : Int32))]))
  refine own_via (fun _ k => XS.iconst X0.here hx rfl (hb hby d3_8) k) ?_
  show own_Go p e below s _ _ _ (s₁.setTop (mkF m 9 #[.val (.int (1 : Int32)), .val (.int (2 : Int32))] [(.int (3 : Int32)), (.int (2 : Int32))]))
  refine own_via (fun _ k => XS.icmpYes X0.here hx rfl (pc0 := 9) (pc' := 14) rfl (hb hby d3_9) rfl (feq (by decide : ¬ ((2 : Int32) = (3 : Int32)))).2 (by decide) (by decide) k) ?_
  show own_Go p e below s _ _ _ (s₁.setTop (mkF m 14 #[.val (.int (1 : Int32)), .val (.int (2 : Int32))] []))
  refine own_via (fun _ k => XS.iloadN X0.here hx rfl (hb hby d3_14) rfl k) ?_
  show own_Go p e below s _ _ _ (s₁.setTop (mkF m 15 #[.val (.int (1 : Int32)), .val (.int (2 : Int32))] [(.int (1 : Int32))]))
  refine own_via (fun _ k => XS.iloadN X0.here hx rfl (hb hby d3_15) rfl k) ?_
  show own_Go p e below s _ _ _ (s₁.setTop (mkF m 16 #[.val (.int (1 : Int32)), .val (.int (2 : Int32))] [(.int (2 : Int32)), (.int (1 : Int32))]))
  refine own_via (fun _ k => XS.icmpYes X0.here hx rfl (pc0 := 16) (pc' := 23) rfl (hb hby d3_16) rfl (feq (by decide : ¬ ((1 : Int32) = (2 : Int32)))).2 (by decide) (by decide) k) ?_
  show own_Go p e below s _ _ _ (s₁.setTop (mkF m 23 #[.val (.int (1 : Int32)), .val (.int (2 : Int32))] []))
  refine own_via (fun _ k => XS.iconst X0.here hx rfl (hb hby d3_23) k) ?_
  show own_Go p e below s _ _ _ (s₁.setTop (mkF m 24 #[.val (.int (1 : Int32)), .val (.int (2 : Int32))] [(.int (0 : Int32))]))
  exact own_retZ X0 hx hlk (t := .boolean) Bd.returns (by simp) (hb hby d3_24) (z' := (0 : Int32)) (by first | rfl | decide) ⟨rfl, e0, rfl⟩ (by decide) (by decide)
def Q2_10 (w0 : Addr) (w1 : Addr) (w2 : Addr) (w3 : Addr) (h0 : Heap) (v : Option Value) (h : Heap) (L : List Loc) : Prop := L = [] ∧ h = h0 ∧ ((v = some (.int (1 : Int32))))
set_option maxRecDepth 65536 in
set_option maxHeartbeats 40000000 in
theorem rm2_10 (l : Launch) (Z : State) (a0 : Array Value) (hw : ∀ d ∈ tables_1, d.before a0 Z = true) (ws : List Jvm.Cond) (w0 : Addr) (w1 : Addr) (w2 : Addr) (w3 : Addr) (h0 : Heap) (n0 : Nat) (Z0 : n0 ≤ h0.size) (K : own_K Z h0 w0 w1 w2 w3) :
    MetFree l (⟨"com/example/bericht/bericht/selector/ValueType", "admits", "(Lcom/example/bericht/bericht/selector/ValueType;)Z"⟩ : MethodName) (head1 (Jvm.Cond.code (⟨"com/example/bericht/bericht/selector/ValueType", "admits", "(Lcom/example/bericht/bericht/selector/ValueType;)Z"⟩ : MethodName) prog_94_method_5_code 2 (some .boolean) :: ws) ({ frames := 0, cells := 0, slots := 0, locals := 0 } : Room)) (fun a U => a = #[(.ref w3), (.ref w1)] ∧ Z.Warmed39 U.vm ∧ U.heap = h0) (fun _ _ _ _ _ => True) (fun _ U o U' => ∃ v L, o = .returned v ∧ Q2_10 w0 w1 w2 w3 h0 v U'.heap L ∧ FrameEnd U o U' L ({ frames := 0, cells := 0, slots := 0, locals := 0 } : Room).cells ({ frames := 0, cells := 0, slots := 0, locals := 0 } : Room).slots) := by
  refine MetFree.of_bodySF (plainFor_of_name pn1) hisR ?_
  intro p e s m args below meth c s₁ Bd hml0 hP hK
  obtain ⟨rfl, hZ, hh⟩ := hP
  have hx := Bd.exec
  have hby := Bd.bytes
  have hml : c.maxLocals = 2 := hml0
  have hown : s.vm.findClass "com/example/bericht/bericht/selector/ValueType" = some m.cls := findClass_of_methodNamed Bd.named
  have hnm := (name_of_methodNamed Bd.named Bd.method).1
  have hlk := Bd.notSynchronized
  have X0 : Stand p l e ({ frames := 0, cells := 0, slots := 0, locals := 0 } : Room) s m #[(.ref w3), (.ref w1)] below meth c s₁ [] 0 0 := Stand.of_body Bd
  have e0 : s₁.heap = h0 := by rw [← hh, Bd.state]; rfl
  have K0 := K
  obtain ⟨S_w0, S_w1, S_w2, S_w3, E_w0, E_w1, E_w2, E_w3, F_w0_ordinal, F_w1_ordinal, F_w2_ordinal, F_w3_ordinal, n_w0_w1, n_w0_w2, n_w0_w3, n_w1_w2, n_w1_w3, n_w2_w3⟩ := K
  show own_Go p e below s (Q2_10 w0 w1 w2 w3 h0) 0 0 (s₁.setTop (entryFrame m #[(.ref w3), (.ref w1)] 2))
  rw [show entryFrame m #[(.ref w3), (.ref w1)] 2 = mkF m 0 #[.val (.ref w3), .val (.ref w1)] [] from by first | (simp [entryFrame, mkF, argsToLocals, Value.category]; done) | rfl]
  show own_Go p e below s _ _ _ (s₁.setTop (mkF m 0 #[.val (.ref w3), .val (.ref w1)] []))
  refine own_via (fun _ k => XS.aloadN X0.here hx rfl (hb hby d2_0) rfl rfl k) ?_
  show own_Go p e below s _ _ _ (s₁.setTop (mkF m 1 #[.val (.ref w3), .val (.ref w1)] [(.ref w3)]))
  obtain ⟨T1, X1, e1, st1⟩ := getS2 X0 hx hZ hown (host := "") (Or.inl (hw _ (List.mem_of_getElem? (i := 14) rfl))) Via.refl e0 S_w1 (g := (mkF m 1 #[.val (.ref w3), .val (.ref w1)] [(.ref w3)])) rfl (hb hby d2_1)
  refine own_via st1 ?_
  show own_Go p e below s _ _ _ (T1.setTop (mkF m 4 #[.val (.ref w3), .val (.ref w1)] [(.ref w1), (.ref w3)]))
  refine own_via (fun _ k => Jvm.RoadKit.acmp (g := (mkF m 4 #[.val (.ref w3), .val (.ref w1)] [(.ref w1), (.ref w3)])) X1 hx rfl rfl rfl (pc0 := 4) (pc' := 7) (same := false) rfl (hb hby d2_4) rfl (decide_eq_false fun q => (fun q => n_w1_w3 q.symm) (Value.ref.inj q)) (by decide) (by decide) k) ?_
  show own_Go p e below s _ _ _ (T1.setTop (mkF m 7 #[.val (.ref w3), .val (.ref w1)] []))
  refine own_via (fun _ k => XS.aloadN X1.here hx rfl (hb hby d2_7) rfl rfl k) ?_
  show own_Go p e below s _ _ _ (T1.setTop (mkF m 8 #[.val (.ref w3), .val (.ref w1)] [(.ref w1)]))
  obtain ⟨T2, X2, e2, st2⟩ := getS2 X1 hx hZ hown (host := "") (Or.inl (hw _ (List.mem_of_getElem? (i := 14) rfl))) Via.refl e1 S_w1 (g := (mkF m 8 #[.val (.ref w3), .val (.ref w1)] [(.ref w1)])) rfl (hb hby d2_8)
  refine own_via st2 ?_
  show own_Go p e below s _ _ _ (T2.setTop (mkF m 11 #[.val (.ref w3), .val (.ref w1)] [(.ref w1), (.ref w1)]))
  refine own_via (fun _ k => Jvm.RoadKit.acmp (g := (mkF m 11 #[.val (.ref w3), .val (.ref w1)] [(.ref w1), (.ref w1)])) X2 hx rfl rfl rfl (pc0 := 11) (pc' := 19) (same := true) rfl (hb hby d2_11) rfl (decide_eq_true rfl) (by decide) (by decide) k) ?_
  show own_Go p e below s _ _ _ (T2.setTop (mkF m 19 #[.val (.ref w3), .val (.ref w1)] []))
  refine own_via (fun _ k => XS.iconst X2.here hx rfl (hb hby d2_19) k) ?_
  show own_Go p e below s _ _ _ (T2.setTop (mkF m 20 #[.val (.ref w3), .val (.ref w1)] [(.int (1 : Int32))]))
  refine own_via (fun _ k => XS.goto X2.here hx rfl (pc0 := 20) (pc' := 24) rfl (hb hby d2_20) (by decide) (by decide) k) ?_
  show own_Go p e below s _ _ _ (T2.setTop (mkF m 24 #[.val (.ref w3), .val (.ref w1)] [(.int (1 : Int32))]))
  exact own_retZ X2 hx hlk (t := .boolean) Bd.returns (by simp) (hb hby d2_24) (z' := (1 : Int32)) (by first | rfl | decide) ⟨rfl, e2, rfl⟩ (by decide) (by decide)
def Q2_11 (w0 : Addr) (w1 : Addr) (w2 : Addr) (w3 : Addr) (h0 : Heap) (v : Option Value) (h : Heap) (L : List Loc) : Prop := L = [] ∧ h = h0 ∧ ((v = some (.int (1 : Int32))))
set_option maxRecDepth 65536 in
set_option maxHeartbeats 40000000 in
theorem rm2_11 (l : Launch) (Z : State) (a0 : Array Value) (hw : ∀ d ∈ tables_1, d.before a0 Z = true) (ws : List Jvm.Cond) (w0 : Addr) (w1 : Addr) (w2 : Addr) (w3 : Addr) (h0 : Heap) (n0 : Nat) (Z0 : n0 ≤ h0.size) (K : own_K Z h0 w0 w1 w2 w3) :
    MetFree l (⟨"com/example/bericht/bericht/selector/ValueType", "admits", "(Lcom/example/bericht/bericht/selector/ValueType;)Z"⟩ : MethodName) (head1 (Jvm.Cond.code (⟨"com/example/bericht/bericht/selector/ValueType", "admits", "(Lcom/example/bericht/bericht/selector/ValueType;)Z"⟩ : MethodName) prog_94_method_5_code 2 (some .boolean) :: ws) ({ frames := 0, cells := 0, slots := 0, locals := 0 } : Room)) (fun a U => a = #[(.ref w1), (.ref w3)] ∧ Z.Warmed39 U.vm ∧ U.heap = h0) (fun _ _ _ _ _ => True) (fun _ U o U' => ∃ v L, o = .returned v ∧ Q2_11 w0 w1 w2 w3 h0 v U'.heap L ∧ FrameEnd U o U' L ({ frames := 0, cells := 0, slots := 0, locals := 0 } : Room).cells ({ frames := 0, cells := 0, slots := 0, locals := 0 } : Room).slots) := by
  refine MetFree.of_bodySF (plainFor_of_name pn1) hisR ?_
  intro p e s m args below meth c s₁ Bd hml0 hP hK
  obtain ⟨rfl, hZ, hh⟩ := hP
  have hx := Bd.exec
  have hby := Bd.bytes
  have hml : c.maxLocals = 2 := hml0
  have hown : s.vm.findClass "com/example/bericht/bericht/selector/ValueType" = some m.cls := findClass_of_methodNamed Bd.named
  have hnm := (name_of_methodNamed Bd.named Bd.method).1
  have hlk := Bd.notSynchronized
  have X0 : Stand p l e ({ frames := 0, cells := 0, slots := 0, locals := 0 } : Room) s m #[(.ref w1), (.ref w3)] below meth c s₁ [] 0 0 := Stand.of_body Bd
  have e0 : s₁.heap = h0 := by rw [← hh, Bd.state]; rfl
  have K0 := K
  obtain ⟨S_w0, S_w1, S_w2, S_w3, E_w0, E_w1, E_w2, E_w3, F_w0_ordinal, F_w1_ordinal, F_w2_ordinal, F_w3_ordinal, n_w0_w1, n_w0_w2, n_w0_w3, n_w1_w2, n_w1_w3, n_w2_w3⟩ := K
  show own_Go p e below s (Q2_11 w0 w1 w2 w3 h0) 0 0 (s₁.setTop (entryFrame m #[(.ref w1), (.ref w3)] 2))
  rw [show entryFrame m #[(.ref w1), (.ref w3)] 2 = mkF m 0 #[.val (.ref w1), .val (.ref w3)] [] from by first | (simp [entryFrame, mkF, argsToLocals, Value.category]; done) | rfl]
  show own_Go p e below s _ _ _ (s₁.setTop (mkF m 0 #[.val (.ref w1), .val (.ref w3)] []))
  refine own_via (fun _ k => XS.aloadN X0.here hx rfl (hb hby d2_0) rfl rfl k) ?_
  show own_Go p e below s _ _ _ (s₁.setTop (mkF m 1 #[.val (.ref w1), .val (.ref w3)] [(.ref w1)]))
  obtain ⟨T1, X1, e1, st1⟩ := getS2 X0 hx hZ hown (host := "") (Or.inl (hw _ (List.mem_of_getElem? (i := 14) rfl))) Via.refl e0 S_w1 (g := (mkF m 1 #[.val (.ref w1), .val (.ref w3)] [(.ref w1)])) rfl (hb hby d2_1)
  refine own_via st1 ?_
  show own_Go p e below s _ _ _ (T1.setTop (mkF m 4 #[.val (.ref w1), .val (.ref w3)] [(.ref w1), (.ref w1)]))
  refine own_via (fun _ k => Jvm.RoadKit.acmp (g := (mkF m 4 #[.val (.ref w1), .val (.ref w3)] [(.ref w1), (.ref w1)])) X1 hx rfl rfl rfl (pc0 := 4) (pc' := 19) (same := true) rfl (hb hby d2_4) rfl (decide_eq_true rfl) (by decide) (by decide) k) ?_
  show own_Go p e below s _ _ _ (T1.setTop (mkF m 19 #[.val (.ref w1), .val (.ref w3)] []))
  refine own_via (fun _ k => XS.iconst X1.here hx rfl (hb hby d2_19) k) ?_
  show own_Go p e below s _ _ _ (T1.setTop (mkF m 20 #[.val (.ref w1), .val (.ref w3)] [(.int (1 : Int32))]))
  refine own_via (fun _ k => XS.goto X1.here hx rfl (pc0 := 20) (pc' := 24) rfl (hb hby d2_20) (by decide) (by decide) k) ?_
  show own_Go p e below s _ _ _ (T1.setTop (mkF m 24 #[.val (.ref w1), .val (.ref w3)] [(.int (1 : Int32))]))
  exact own_retZ X1 hx hlk (t := .boolean) Bd.returns (by simp) (hb hby d2_24) (z' := (1 : Int32)) (by first | rfl | decide) ⟨rfl, e1, rfl⟩ (by decide) (by decide)
def Q3_7 (w0 : Addr) (w1 : Addr) (w2 : Addr) (w3 : Addr) (h0 : Heap) (v : Option Value) (h : Heap) (L : List Loc) : Prop := L = [] ∧ h = h0 ∧ ((v = some (.int (1 : Int32))))
set_option maxRecDepth 65536 in
set_option maxHeartbeats 40000000 in
theorem rm3_7 (l : Launch) (Z : State) (a0 : Array Value) (hw : ∀ d ∈ tables_1, d.before a0 Z = true) (ws : List Jvm.Cond) (w0 : Addr) (w1 : Addr) (w2 : Addr) (w3 : Addr) (h0 : Heap) (n0 : Nat) (Z0 : n0 ≤ h0.size) (K : own_K Z h0 w0 w1 w2 w3) :
    MetFree l (⟨"com/example/bericht/bericht/selector/ValueTypeAdmitsPinLaw", "expected", "(II)Z"⟩ : MethodName) (head1 (Jvm.Cond.code (⟨"com/example/bericht/bericht/selector/ValueTypeAdmitsPinLaw", "expected", "(II)Z"⟩ : MethodName) method_3_code 2 (some .boolean) :: ws) ({ frames := 0, cells := 0, slots := 0, locals := 0 } : Room)) (fun a U => a = #[(.int (1 : Int32)), (.int (3 : Int32))] ∧ Z.Warmed39 U.vm ∧ U.heap = h0) (fun _ _ _ _ _ => True) (fun _ U o U' => ∃ v L, o = .returned v ∧ Q3_7 w0 w1 w2 w3 h0 v U'.heap L ∧ FrameEnd U o U' L ({ frames := 0, cells := 0, slots := 0, locals := 0 } : Room).cells ({ frames := 0, cells := 0, slots := 0, locals := 0 } : Room).slots) := by
  refine MetFree.of_bodySF (plainFor_of_name pn0) hisR ?_
  intro p e s m args below meth c s₁ Bd hml0 hP hK
  obtain ⟨rfl, hZ, hh⟩ := hP
  have hx := Bd.exec
  have hby := Bd.bytes
  have hml : c.maxLocals = 2 := hml0
  have hown : s.vm.findClass "com/example/bericht/bericht/selector/ValueTypeAdmitsPinLaw" = some m.cls := findClass_of_methodNamed Bd.named
  have hnm := (name_of_methodNamed Bd.named Bd.method).1
  have hlk := Bd.notSynchronized
  have X0 : Stand p l e ({ frames := 0, cells := 0, slots := 0, locals := 0 } : Room) s m #[(.int (1 : Int32)), (.int (3 : Int32))] below meth c s₁ [] 0 0 := Stand.of_body Bd
  have e0 : s₁.heap = h0 := by rw [← hh, Bd.state]; rfl
  have K0 := K
  obtain ⟨S_w0, S_w1, S_w2, S_w3, E_w0, E_w1, E_w2, E_w3, F_w0_ordinal, F_w1_ordinal, F_w2_ordinal, F_w3_ordinal, n_w0_w1, n_w0_w2, n_w0_w3, n_w1_w2, n_w1_w3, n_w2_w3⟩ := K
  show own_Go p e below s (Q3_7 w0 w1 w2 w3 h0) 0 0 (s₁.setTop (entryFrame m #[(.int (1 : Int32)), (.int (3 : Int32))] 2))
  rw [show entryFrame m #[(.int (1 : Int32)), (.int (3 : Int32))] 2 = mkF m 0 #[.val (.int (1 : Int32)), .val (.int (3 : Int32))] [] from by first | (simp [entryFrame, mkF, argsToLocals, Value.category]; done) | rfl]
  show own_Go p e below s _ _ _ (s₁.setTop (mkF m 0 #[.val (.int (1 : Int32)), .val (.int (3 : Int32))] []))
  refine own_via (fun _ k => XS.iloadN X0.here hx rfl (hb hby d3_0) rfl k) ?_
  show own_Go p e below s _ _ _ (s₁.setTop (mkF m 1 #[.val (.int (1 : Int32)), .val (.int (3 : Int32))] [(.int (1 : Int32))]))
  refine own_via (fun _ k => XS.iconst X0.here hx rfl (hb hby d3_1) k) ?_
  show own_Go p e below s _ _ _ (s₁.setTop (mkF m 2 #[.val (.int (1 : Int32)), .val (.int (3 : Int32))] [(.int (3 : Int32)), (.int (1 : Int32))]))
  refine own_via (fun _ k => XS.icmpYes X0.here hx rfl (pc0 := 2) (pc' := 7) rfl (hb hby d3_2) rfl (feq (by decide : ¬ ((1 : Int32) = (3 : Int32)))).2 (by decide) (by decide) k) ?_
  show own_Go p e below s _ _ _ (s₁.setTop (mkF m 7 #[.val (.int (1 : Int32)), .val (.int (3 : Int32))] []))
  refine own_via (fun _ k => XS.iloadN X0.here hx rfl (hb hby d3_7) rfl k) ?_
  show own_Go p e below s _ _ _ (s₁.setTop (mkF m 8 #[.val (.int (1 : Int32)), .val (.int (3 : Int32))] [(.int (3 : Int32))]))
  refine own_via (fun _ k => XS.iconst X0.here hx rfl (hb hby d3_8) k) ?_
  show own_Go p e below s _ _ _ (s₁.setTop (mkF m 9 #[.val (.int (1 : Int32)), .val (.int (3 : Int32))] [(.int (3 : Int32)), (.int (3 : Int32))]))
  refine own_via (fun _ k => XS.icmpNo X0.here hx rfl (hb hby d3_9) rfl (teq (by decide : (3 : Int32) = (3 : Int32))).2 k) ?_
  show own_Go p e below s _ _ _ (s₁.setTop (mkF m 12 #[.val (.int (1 : Int32)), .val (.int (3 : Int32))] []))
  refine own_via (fun _ k => XS.iconst X0.here hx rfl (hb hby d3_12) k) ?_
  show own_Go p e below s _ _ _ (s₁.setTop (mkF m 13 #[.val (.int (1 : Int32)), .val (.int (3 : Int32))] [(.int (1 : Int32))]))
  exact own_retZ X0 hx hlk (t := .boolean) Bd.returns (by simp) (hb hby d3_13) (z' := (1 : Int32)) (by first | rfl | decide) ⟨rfl, e0, rfl⟩ (by decide) (by decide)
def Q3_8 (w0 : Addr) (w1 : Addr) (w2 : Addr) (w3 : Addr) (h0 : Heap) (v : Option Value) (h : Heap) (L : List Loc) : Prop := L = [] ∧ h = h0 ∧ ((v = some (.int (0 : Int32))))
set_option maxRecDepth 65536 in
set_option maxHeartbeats 40000000 in
theorem rm3_8 (l : Launch) (Z : State) (a0 : Array Value) (hw : ∀ d ∈ tables_1, d.before a0 Z = true) (ws : List Jvm.Cond) (w0 : Addr) (w1 : Addr) (w2 : Addr) (w3 : Addr) (h0 : Heap) (n0 : Nat) (Z0 : n0 ≤ h0.size) (K : own_K Z h0 w0 w1 w2 w3) :
    MetFree l (⟨"com/example/bericht/bericht/selector/ValueTypeAdmitsPinLaw", "expected", "(II)Z"⟩ : MethodName) (head1 (Jvm.Cond.code (⟨"com/example/bericht/bericht/selector/ValueTypeAdmitsPinLaw", "expected", "(II)Z"⟩ : MethodName) method_3_code 2 (some .boolean) :: ws) ({ frames := 0, cells := 0, slots := 0, locals := 0 } : Room)) (fun a U => a = #[(.int (2 : Int32)), (.int (0 : Int32))] ∧ Z.Warmed39 U.vm ∧ U.heap = h0) (fun _ _ _ _ _ => True) (fun _ U o U' => ∃ v L, o = .returned v ∧ Q3_8 w0 w1 w2 w3 h0 v U'.heap L ∧ FrameEnd U o U' L ({ frames := 0, cells := 0, slots := 0, locals := 0 } : Room).cells ({ frames := 0, cells := 0, slots := 0, locals := 0 } : Room).slots) := by
  refine MetFree.of_bodySF (plainFor_of_name pn0) hisR ?_
  intro p e s m args below meth c s₁ Bd hml0 hP hK
  obtain ⟨rfl, hZ, hh⟩ := hP
  have hx := Bd.exec
  have hby := Bd.bytes
  have hml : c.maxLocals = 2 := hml0
  have hown : s.vm.findClass "com/example/bericht/bericht/selector/ValueTypeAdmitsPinLaw" = some m.cls := findClass_of_methodNamed Bd.named
  have hnm := (name_of_methodNamed Bd.named Bd.method).1
  have hlk := Bd.notSynchronized
  have X0 : Stand p l e ({ frames := 0, cells := 0, slots := 0, locals := 0 } : Room) s m #[(.int (2 : Int32)), (.int (0 : Int32))] below meth c s₁ [] 0 0 := Stand.of_body Bd
  have e0 : s₁.heap = h0 := by rw [← hh, Bd.state]; rfl
  have K0 := K
  obtain ⟨S_w0, S_w1, S_w2, S_w3, E_w0, E_w1, E_w2, E_w3, F_w0_ordinal, F_w1_ordinal, F_w2_ordinal, F_w3_ordinal, n_w0_w1, n_w0_w2, n_w0_w3, n_w1_w2, n_w1_w3, n_w2_w3⟩ := K
  show own_Go p e below s (Q3_8 w0 w1 w2 w3 h0) 0 0 (s₁.setTop (entryFrame m #[(.int (2 : Int32)), (.int (0 : Int32))] 2))
  rw [show entryFrame m #[(.int (2 : Int32)), (.int (0 : Int32))] 2 = mkF m 0 #[.val (.int (2 : Int32)), .val (.int (0 : Int32))] [] from by first | (simp [entryFrame, mkF, argsToLocals, Value.category]; done) | rfl]
  show own_Go p e below s _ _ _ (s₁.setTop (mkF m 0 #[.val (.int (2 : Int32)), .val (.int (0 : Int32))] []))
  refine own_via (fun _ k => XS.iloadN X0.here hx rfl (hb hby d3_0) rfl k) ?_
  show own_Go p e below s _ _ _ (s₁.setTop (mkF m 1 #[.val (.int (2 : Int32)), .val (.int (0 : Int32))] [(.int (2 : Int32))]))
  refine own_via (fun _ k => XS.iconst X0.here hx rfl (hb hby d3_1) k) ?_
  show own_Go p e below s _ _ _ (s₁.setTop (mkF m 2 #[.val (.int (2 : Int32)), .val (.int (0 : Int32))] [(.int (3 : Int32)), (.int (2 : Int32))]))
  refine own_via (fun _ k => XS.icmpYes X0.here hx rfl (pc0 := 2) (pc' := 7) rfl (hb hby d3_2) rfl (feq (by decide : ¬ ((2 : Int32) = (3 : Int32)))).2 (by decide) (by decide) k) ?_
  show own_Go p e below s _ _ _ (s₁.setTop (mkF m 7 #[.val (.int (2 : Int32)), .val (.int (0 : Int32))] []))
  refine own_via (fun _ k => XS.iloadN X0.here hx rfl (hb hby d3_7) rfl k) ?_
  show own_Go p e below s _ _ _ (s₁.setTop (mkF m 8 #[.val (.int (2 : Int32)), .val (.int (0 : Int32))] [(.int (0 : Int32))]))
  refine own_via (fun _ k => XS.iconst X0.here hx rfl (hb hby d3_8) k) ?_
  show own_Go p e below s _ _ _ (s₁.setTop (mkF m 9 #[.val (.int (2 : Int32)), .val (.int (0 : Int32))] [(.int (3 : Int32)), (.int (0 : Int32))]))
  refine own_via (fun _ k => XS.icmpYes X0.here hx rfl (pc0 := 9) (pc' := 14) rfl (hb hby d3_9) rfl (feq (by decide : ¬ ((0 : Int32) = (3 : Int32)))).2 (by decide) (by decide) k) ?_
  show own_Go p e below s _ _ _ (s₁.setTop (mkF m 14 #[.val (.int (2 : Int32)), .val (.int (0 : Int32))] []))
  refine own_via (fun _ k => XS.iloadN X0.here hx rfl (hb hby d3_14) rfl k) ?_
  show own_Go p e below s _ _ _ (s₁.setTop (mkF m 15 #[.val (.int (2 : Int32)), .val (.int (0 : Int32))] [(.int (2 : Int32))]))
  refine own_via (fun _ k => XS.iloadN X0.here hx rfl (hb hby d3_15) rfl k) ?_
  show own_Go p e below s _ _ _ (s₁.setTop (mkF m 16 #[.val (.int (2 : Int32)), .val (.int (0 : Int32))] [(.int (0 : Int32)), (.int (2 : Int32))]))
  refine own_via (fun _ k => XS.icmpYes X0.here hx rfl (pc0 := 16) (pc' := 23) rfl (hb hby d3_16) rfl (feq (by decide : ¬ ((2 : Int32) = (0 : Int32)))).2 (by decide) (by decide) k) ?_
  show own_Go p e below s _ _ _ (s₁.setTop (mkF m 23 #[.val (.int (2 : Int32)), .val (.int (0 : Int32))] []))
  refine own_via (fun _ k => XS.iconst X0.here hx rfl (hb hby d3_23) k) ?_
  show own_Go p e below s _ _ _ (s₁.setTop (mkF m 24 #[.val (.int (2 : Int32)), .val (.int (0 : Int32))] [(.int (0 : Int32))]))
  exact own_retZ X0 hx hlk (t := .boolean) Bd.returns (by simp) (hb hby d3_24) (z' := (0 : Int32)) (by first | rfl | decide) ⟨rfl, e0, rfl⟩ (by decide) (by decide)
def Q3_9 (w0 : Addr) (w1 : Addr) (w2 : Addr) (w3 : Addr) (h0 : Heap) (v : Option Value) (h : Heap) (L : List Loc) : Prop := L = [] ∧ h = h0 ∧ ((v = some (.int (0 : Int32))))
set_option maxRecDepth 65536 in
set_option maxHeartbeats 40000000 in
theorem rm3_9 (l : Launch) (Z : State) (a0 : Array Value) (hw : ∀ d ∈ tables_1, d.before a0 Z = true) (ws : List Jvm.Cond) (w0 : Addr) (w1 : Addr) (w2 : Addr) (w3 : Addr) (h0 : Heap) (n0 : Nat) (Z0 : n0 ≤ h0.size) (K : own_K Z h0 w0 w1 w2 w3) :
    MetFree l (⟨"com/example/bericht/bericht/selector/ValueTypeAdmitsPinLaw", "expected", "(II)Z"⟩ : MethodName) (head1 (Jvm.Cond.code (⟨"com/example/bericht/bericht/selector/ValueTypeAdmitsPinLaw", "expected", "(II)Z"⟩ : MethodName) method_3_code 2 (some .boolean) :: ws) ({ frames := 0, cells := 0, slots := 0, locals := 0 } : Room)) (fun a U => a = #[(.int (2 : Int32)), (.int (1 : Int32))] ∧ Z.Warmed39 U.vm ∧ U.heap = h0) (fun _ _ _ _ _ => True) (fun _ U o U' => ∃ v L, o = .returned v ∧ Q3_9 w0 w1 w2 w3 h0 v U'.heap L ∧ FrameEnd U o U' L ({ frames := 0, cells := 0, slots := 0, locals := 0 } : Room).cells ({ frames := 0, cells := 0, slots := 0, locals := 0 } : Room).slots) := by
  refine MetFree.of_bodySF (plainFor_of_name pn0) hisR ?_
  intro p e s m args below meth c s₁ Bd hml0 hP hK
  obtain ⟨rfl, hZ, hh⟩ := hP
  have hx := Bd.exec
  have hby := Bd.bytes
  have hml : c.maxLocals = 2 := hml0
  have hown : s.vm.findClass "com/example/bericht/bericht/selector/ValueTypeAdmitsPinLaw" = some m.cls := findClass_of_methodNamed Bd.named
  have hnm := (name_of_methodNamed Bd.named Bd.method).1
  have hlk := Bd.notSynchronized
  have X0 : Stand p l e ({ frames := 0, cells := 0, slots := 0, locals := 0 } : Room) s m #[(.int (2 : Int32)), (.int (1 : Int32))] below meth c s₁ [] 0 0 := Stand.of_body Bd
  have e0 : s₁.heap = h0 := by rw [← hh, Bd.state]; rfl
  have K0 := K
  obtain ⟨S_w0, S_w1, S_w2, S_w3, E_w0, E_w1, E_w2, E_w3, F_w0_ordinal, F_w1_ordinal, F_w2_ordinal, F_w3_ordinal, n_w0_w1, n_w0_w2, n_w0_w3, n_w1_w2, n_w1_w3, n_w2_w3⟩ := K
  show own_Go p e below s (Q3_9 w0 w1 w2 w3 h0) 0 0 (s₁.setTop (entryFrame m #[(.int (2 : Int32)), (.int (1 : Int32))] 2))
  rw [show entryFrame m #[(.int (2 : Int32)), (.int (1 : Int32))] 2 = mkF m 0 #[.val (.int (2 : Int32)), .val (.int (1 : Int32))] [] from by first | (simp [entryFrame, mkF, argsToLocals, Value.category]; done) | rfl]
  show own_Go p e below s _ _ _ (s₁.setTop (mkF m 0 #[.val (.int (2 : Int32)), .val (.int (1 : Int32))] []))
  refine own_via (fun _ k => XS.iloadN X0.here hx rfl (hb hby d3_0) rfl k) ?_
  show own_Go p e below s _ _ _ (s₁.setTop (mkF m 1 #[.val (.int (2 : Int32)), .val (.int (1 : Int32))] [(.int (2 : Int32))]))
  refine own_via (fun _ k => XS.iconst X0.here hx rfl (hb hby d3_1) k) ?_
  show own_Go p e below s _ _ _ (s₁.setTop (mkF m 2 #[.val (.int (2 : Int32)), .val (.int (1 : Int32))] [(.int (3 : Int32)), (.int (2 : Int32))]))
  refine own_via (fun _ k => XS.icmpYes X0.here hx rfl (pc0 := 2) (pc' := 7) rfl (hb hby d3_2) rfl (feq (by decide : ¬ ((2 : Int32) = (3 : Int32)))).2 (by decide) (by decide) k) ?_
  show own_Go p e below s _ _ _ (s₁.setTop (mkF m 7 #[.val (.int (2 : Int32)), .val (.int (1 : Int32))] []))
  refine own_via (fun _ k => XS.iloadN X0.here hx rfl (hb hby d3_7) rfl k) ?_
  show own_Go p e below s _ _ _ (s₁.setTop (mkF m 8 #[.val (.int (2 : Int32)), .val (.int (1 : Int32))] [(.int (1 : Int32))]))
  refine own_via (fun _ k => XS.iconst X0.here hx rfl (hb hby d3_8) k) ?_
  show own_Go p e below s _ _ _ (s₁.setTop (mkF m 9 #[.val (.int (2 : Int32)), .val (.int (1 : Int32))] [(.int (3 : Int32)), (.int (1 : Int32))]))
  refine own_via (fun _ k => XS.icmpYes X0.here hx rfl (pc0 := 9) (pc' := 14) rfl (hb hby d3_9) rfl (feq (by decide : ¬ ((1 : Int32) = (3 : Int32)))).2 (by decide) (by decide) k) ?_
  show own_Go p e below s _ _ _ (s₁.setTop (mkF m 14 #[.val (.int (2 : Int32)), .val (.int (1 : Int32))] []))
  refine own_via (fun _ k => XS.iloadN X0.here hx rfl (hb hby d3_14) rfl k) ?_
  show own_Go p e below s _ _ _ (s₁.setTop (mkF m 15 #[.val (.int (2 : Int32)), .val (.int (1 : Int32))] [(.int (2 : Int32))]))
  refine own_via (fun _ k => XS.iloadN X0.here hx rfl (hb hby d3_15) rfl k) ?_
  show own_Go p e below s _ _ _ (s₁.setTop (mkF m 16 #[.val (.int (2 : Int32)), .val (.int (1 : Int32))] [(.int (1 : Int32)), (.int (2 : Int32))]))
  refine own_via (fun _ k => XS.icmpYes X0.here hx rfl (pc0 := 16) (pc' := 23) rfl (hb hby d3_16) rfl (feq (by decide : ¬ ((2 : Int32) = (1 : Int32)))).2 (by decide) (by decide) k) ?_
  show own_Go p e below s _ _ _ (s₁.setTop (mkF m 23 #[.val (.int (2 : Int32)), .val (.int (1 : Int32))] []))
  refine own_via (fun _ k => XS.iconst X0.here hx rfl (hb hby d3_23) k) ?_
  show own_Go p e below s _ _ _ (s₁.setTop (mkF m 24 #[.val (.int (2 : Int32)), .val (.int (1 : Int32))] [(.int (0 : Int32))]))
  exact own_retZ X0 hx hlk (t := .boolean) Bd.returns (by simp) (hb hby d3_24) (z' := (0 : Int32)) (by first | rfl | decide) ⟨rfl, e0, rfl⟩ (by decide) (by decide)
def Q2_12 (w0 : Addr) (w1 : Addr) (w2 : Addr) (w3 : Addr) (h0 : Heap) (v : Option Value) (h : Heap) (L : List Loc) : Prop := L = [] ∧ h = h0 ∧ ((v = some (.int (1 : Int32))))
set_option maxRecDepth 65536 in
set_option maxHeartbeats 40000000 in
theorem rm2_12 (l : Launch) (Z : State) (a0 : Array Value) (hw : ∀ d ∈ tables_1, d.before a0 Z = true) (ws : List Jvm.Cond) (w0 : Addr) (w1 : Addr) (w2 : Addr) (w3 : Addr) (h0 : Heap) (n0 : Nat) (Z0 : n0 ≤ h0.size) (K : own_K Z h0 w0 w1 w2 w3) :
    MetFree l (⟨"com/example/bericht/bericht/selector/ValueType", "admits", "(Lcom/example/bericht/bericht/selector/ValueType;)Z"⟩ : MethodName) (head1 (Jvm.Cond.code (⟨"com/example/bericht/bericht/selector/ValueType", "admits", "(Lcom/example/bericht/bericht/selector/ValueType;)Z"⟩ : MethodName) prog_94_method_5_code 2 (some .boolean) :: ws) ({ frames := 0, cells := 0, slots := 0, locals := 0 } : Room)) (fun a U => a = #[(.ref w2), (.ref w2)] ∧ Z.Warmed39 U.vm ∧ U.heap = h0) (fun _ _ _ _ _ => True) (fun _ U o U' => ∃ v L, o = .returned v ∧ Q2_12 w0 w1 w2 w3 h0 v U'.heap L ∧ FrameEnd U o U' L ({ frames := 0, cells := 0, slots := 0, locals := 0 } : Room).cells ({ frames := 0, cells := 0, slots := 0, locals := 0 } : Room).slots) := by
  refine MetFree.of_bodySF (plainFor_of_name pn1) hisR ?_
  intro p e s m args below meth c s₁ Bd hml0 hP hK
  obtain ⟨rfl, hZ, hh⟩ := hP
  have hx := Bd.exec
  have hby := Bd.bytes
  have hml : c.maxLocals = 2 := hml0
  have hown : s.vm.findClass "com/example/bericht/bericht/selector/ValueType" = some m.cls := findClass_of_methodNamed Bd.named
  have hnm := (name_of_methodNamed Bd.named Bd.method).1
  have hlk := Bd.notSynchronized
  have X0 : Stand p l e ({ frames := 0, cells := 0, slots := 0, locals := 0 } : Room) s m #[(.ref w2), (.ref w2)] below meth c s₁ [] 0 0 := Stand.of_body Bd
  have e0 : s₁.heap = h0 := by rw [← hh, Bd.state]; rfl
  have K0 := K
  obtain ⟨S_w0, S_w1, S_w2, S_w3, E_w0, E_w1, E_w2, E_w3, F_w0_ordinal, F_w1_ordinal, F_w2_ordinal, F_w3_ordinal, n_w0_w1, n_w0_w2, n_w0_w3, n_w1_w2, n_w1_w3, n_w2_w3⟩ := K
  show own_Go p e below s (Q2_12 w0 w1 w2 w3 h0) 0 0 (s₁.setTop (entryFrame m #[(.ref w2), (.ref w2)] 2))
  rw [show entryFrame m #[(.ref w2), (.ref w2)] 2 = mkF m 0 #[.val (.ref w2), .val (.ref w2)] [] from by first | (simp [entryFrame, mkF, argsToLocals, Value.category]; done) | rfl]
  show own_Go p e below s _ _ _ (s₁.setTop (mkF m 0 #[.val (.ref w2), .val (.ref w2)] []))
  refine own_via (fun _ k => XS.aloadN X0.here hx rfl (hb hby d2_0) rfl rfl k) ?_
  show own_Go p e below s _ _ _ (s₁.setTop (mkF m 1 #[.val (.ref w2), .val (.ref w2)] [(.ref w2)]))
  obtain ⟨T1, X1, e1, st1⟩ := getS2 X0 hx hZ hown (host := "") (Or.inl (hw _ (List.mem_of_getElem? (i := 14) rfl))) Via.refl e0 S_w1 (g := (mkF m 1 #[.val (.ref w2), .val (.ref w2)] [(.ref w2)])) rfl (hb hby d2_1)
  refine own_via st1 ?_
  show own_Go p e below s _ _ _ (T1.setTop (mkF m 4 #[.val (.ref w2), .val (.ref w2)] [(.ref w1), (.ref w2)]))
  refine own_via (fun _ k => Jvm.RoadKit.acmp (g := (mkF m 4 #[.val (.ref w2), .val (.ref w2)] [(.ref w1), (.ref w2)])) X1 hx rfl rfl rfl (pc0 := 4) (pc' := 7) (same := false) rfl (hb hby d2_4) rfl (decide_eq_false fun q => (fun q => n_w1_w2 q.symm) (Value.ref.inj q)) (by decide) (by decide) k) ?_
  show own_Go p e below s _ _ _ (T1.setTop (mkF m 7 #[.val (.ref w2), .val (.ref w2)] []))
  refine own_via (fun _ k => XS.aloadN X1.here hx rfl (hb hby d2_7) rfl rfl k) ?_
  show own_Go p e below s _ _ _ (T1.setTop (mkF m 8 #[.val (.ref w2), .val (.ref w2)] [(.ref w2)]))
  obtain ⟨T2, X2, e2, st2⟩ := getS2 X1 hx hZ hown (host := "") (Or.inl (hw _ (List.mem_of_getElem? (i := 14) rfl))) Via.refl e1 S_w1 (g := (mkF m 8 #[.val (.ref w2), .val (.ref w2)] [(.ref w2)])) rfl (hb hby d2_8)
  refine own_via st2 ?_
  show own_Go p e below s _ _ _ (T2.setTop (mkF m 11 #[.val (.ref w2), .val (.ref w2)] [(.ref w1), (.ref w2)]))
  refine own_via (fun _ k => Jvm.RoadKit.acmp (g := (mkF m 11 #[.val (.ref w2), .val (.ref w2)] [(.ref w1), (.ref w2)])) X2 hx rfl rfl rfl (pc0 := 11) (pc' := 14) (same := false) rfl (hb hby d2_11) rfl (decide_eq_false fun q => (fun q => n_w1_w2 q.symm) (Value.ref.inj q)) (by decide) (by decide) k) ?_
  show own_Go p e below s _ _ _ (T2.setTop (mkF m 14 #[.val (.ref w2), .val (.ref w2)] []))
  refine own_via (fun _ k => XS.aloadN X2.here hx rfl (hb hby d2_14) rfl rfl k) ?_
  show own_Go p e below s _ _ _ (T2.setTop (mkF m 15 #[.val (.ref w2), .val (.ref w2)] [(.ref w2)]))
  refine own_via (fun _ k => XS.aloadN X2.here hx rfl (hb hby d2_15) rfl rfl k) ?_
  show own_Go p e below s _ _ _ (T2.setTop (mkF m 16 #[.val (.ref w2), .val (.ref w2)] [(.ref w2), (.ref w2)]))
  refine own_via (fun _ k => Jvm.RoadKit.acmp (g := (mkF m 16 #[.val (.ref w2), .val (.ref w2)] [(.ref w2), (.ref w2)])) X2 hx rfl rfl rfl (pc0 := 16) (pc' := 19) (same := true) rfl (hb hby d2_16) rfl (decide_eq_true rfl) (by decide) (by decide) k) ?_
  show own_Go p e below s _ _ _ (T2.setTop (mkF m 19 #[.val (.ref w2), .val (.ref w2)] []))
  refine own_via (fun _ k => XS.iconst X2.here hx rfl (hb hby d2_19) k) ?_
  show own_Go p e below s _ _ _ (T2.setTop (mkF m 20 #[.val (.ref w2), .val (.ref w2)] [(.int (1 : Int32))]))
  refine own_via (fun _ k => XS.goto X2.here hx rfl (pc0 := 20) (pc' := 24) rfl (hb hby d2_20) (by decide) (by decide) k) ?_
  show own_Go p e below s _ _ _ (T2.setTop (mkF m 24 #[.val (.ref w2), .val (.ref w2)] [(.int (1 : Int32))]))
  exact own_retZ X2 hx hlk (t := .boolean) Bd.returns (by simp) (hb hby d2_24) (z' := (1 : Int32)) (by first | rfl | decide) ⟨rfl, e2, rfl⟩ (by decide) (by decide)
def Q3_10 (w0 : Addr) (w1 : Addr) (w2 : Addr) (w3 : Addr) (h0 : Heap) (v : Option Value) (h : Heap) (L : List Loc) : Prop := L = [] ∧ h = h0 ∧ ((v = some (.int (1 : Int32))))
set_option maxRecDepth 65536 in
set_option maxHeartbeats 40000000 in
theorem rm3_10 (l : Launch) (Z : State) (a0 : Array Value) (hw : ∀ d ∈ tables_1, d.before a0 Z = true) (ws : List Jvm.Cond) (w0 : Addr) (w1 : Addr) (w2 : Addr) (w3 : Addr) (h0 : Heap) (n0 : Nat) (Z0 : n0 ≤ h0.size) (K : own_K Z h0 w0 w1 w2 w3) :
    MetFree l (⟨"com/example/bericht/bericht/selector/ValueTypeAdmitsPinLaw", "expected", "(II)Z"⟩ : MethodName) (head1 (Jvm.Cond.code (⟨"com/example/bericht/bericht/selector/ValueTypeAdmitsPinLaw", "expected", "(II)Z"⟩ : MethodName) method_3_code 2 (some .boolean) :: ws) ({ frames := 0, cells := 0, slots := 0, locals := 0 } : Room)) (fun a U => a = #[(.int (2 : Int32)), (.int (2 : Int32))] ∧ Z.Warmed39 U.vm ∧ U.heap = h0) (fun _ _ _ _ _ => True) (fun _ U o U' => ∃ v L, o = .returned v ∧ Q3_10 w0 w1 w2 w3 h0 v U'.heap L ∧ FrameEnd U o U' L ({ frames := 0, cells := 0, slots := 0, locals := 0 } : Room).cells ({ frames := 0, cells := 0, slots := 0, locals := 0 } : Room).slots) := by
  refine MetFree.of_bodySF (plainFor_of_name pn0) hisR ?_
  intro p e s m args below meth c s₁ Bd hml0 hP hK
  obtain ⟨rfl, hZ, hh⟩ := hP
  have hx := Bd.exec
  have hby := Bd.bytes
  have hml : c.maxLocals = 2 := hml0
  have hown : s.vm.findClass "com/example/bericht/bericht/selector/ValueTypeAdmitsPinLaw" = some m.cls := findClass_of_methodNamed Bd.named
  have hnm := (name_of_methodNamed Bd.named Bd.method).1
  have hlk := Bd.notSynchronized
  have X0 : Stand p l e ({ frames := 0, cells := 0, slots := 0, locals := 0 } : Room) s m #[(.int (2 : Int32)), (.int (2 : Int32))] below meth c s₁ [] 0 0 := Stand.of_body Bd
  have e0 : s₁.heap = h0 := by rw [← hh, Bd.state]; rfl
  have K0 := K
  obtain ⟨S_w0, S_w1, S_w2, S_w3, E_w0, E_w1, E_w2, E_w3, F_w0_ordinal, F_w1_ordinal, F_w2_ordinal, F_w3_ordinal, n_w0_w1, n_w0_w2, n_w0_w3, n_w1_w2, n_w1_w3, n_w2_w3⟩ := K
  show own_Go p e below s (Q3_10 w0 w1 w2 w3 h0) 0 0 (s₁.setTop (entryFrame m #[(.int (2 : Int32)), (.int (2 : Int32))] 2))
  rw [show entryFrame m #[(.int (2 : Int32)), (.int (2 : Int32))] 2 = mkF m 0 #[.val (.int (2 : Int32)), .val (.int (2 : Int32))] [] from by first | (simp [entryFrame, mkF, argsToLocals, Value.category]; done) | rfl]
  show own_Go p e below s _ _ _ (s₁.setTop (mkF m 0 #[.val (.int (2 : Int32)), .val (.int (2 : Int32))] []))
  refine own_via (fun _ k => XS.iloadN X0.here hx rfl (hb hby d3_0) rfl k) ?_
  show own_Go p e below s _ _ _ (s₁.setTop (mkF m 1 #[.val (.int (2 : Int32)), .val (.int (2 : Int32))] [(.int (2 : Int32))]))
  refine own_via (fun _ k => XS.iconst X0.here hx rfl (hb hby d3_1) k) ?_
  show own_Go p e below s _ _ _ (s₁.setTop (mkF m 2 #[.val (.int (2 : Int32)), .val (.int (2 : Int32))] [(.int (3 : Int32)), (.int (2 : Int32))]))
  refine own_via (fun _ k => XS.icmpYes X0.here hx rfl (pc0 := 2) (pc' := 7) rfl (hb hby d3_2) rfl (feq (by decide : ¬ ((2 : Int32) = (3 : Int32)))).2 (by decide) (by decide) k) ?_
  show own_Go p e below s _ _ _ (s₁.setTop (mkF m 7 #[.val (.int (2 : Int32)), .val (.int (2 : Int32))] []))
  refine own_via (fun _ k => XS.iloadN X0.here hx rfl (hb hby d3_7) rfl k) ?_
  show own_Go p e below s _ _ _ (s₁.setTop (mkF m 8 #[.val (.int (2 : Int32)), .val (.int (2 : Int32))] [(.int (2 : Int32))]))
  refine own_via (fun _ k => XS.iconst X0.here hx rfl (hb hby d3_8) k) ?_
  show own_Go p e below s _ _ _ (s₁.setTop (mkF m 9 #[.val (.int (2 : Int32)), .val (.int (2 : Int32))] [(.int (3 : Int32)), (.int (2 : Int32))]))
  refine own_via (fun _ k => XS.icmpYes X0.here hx rfl (pc0 := 9) (pc' := 14) rfl (hb hby d3_9) rfl (feq (by decide : ¬ ((2 : Int32) = (3 : Int32)))).2 (by decide) (by decide) k) ?_
  show own_Go p e below s _ _ _ (s₁.setTop (mkF m 14 #[.val (.int (2 : Int32)), .val (.int (2 : Int32))] []))
  refine own_via (fun _ k => XS.iloadN X0.here hx rfl (hb hby d3_14) rfl k) ?_
  show own_Go p e below s _ _ _ (s₁.setTop (mkF m 15 #[.val (.int (2 : Int32)), .val (.int (2 : Int32))] [(.int (2 : Int32))]))
  refine own_via (fun _ k => XS.iloadN X0.here hx rfl (hb hby d3_15) rfl k) ?_
  show own_Go p e below s _ _ _ (s₁.setTop (mkF m 16 #[.val (.int (2 : Int32)), .val (.int (2 : Int32))] [(.int (2 : Int32)), (.int (2 : Int32))]))
  refine own_via (fun _ k => XS.icmpNo X0.here hx rfl (hb hby d3_16) rfl (teq (by decide : (2 : Int32) = (2 : Int32))).2 k) ?_
  show own_Go p e below s _ _ _ (s₁.setTop (mkF m 19 #[.val (.int (2 : Int32)), .val (.int (2 : Int32))] []))
  refine own_via (fun _ k => XS.iconst X0.here hx rfl (hb hby d3_19) k) ?_
  show own_Go p e below s _ _ _ (s₁.setTop (mkF m 20 #[.val (.int (2 : Int32)), .val (.int (2 : Int32))] [(.int (1 : Int32))]))
  refine own_via (fun _ k => XS.goto X0.here hx rfl (pc0 := 20) (pc' := 24) rfl (hb hby d3_20) (by decide) (by decide) k) ?_
  show own_Go p e below s _ _ _ (s₁.setTop (mkF m 24 #[.val (.int (2 : Int32)), .val (.int (2 : Int32))] [(.int (1 : Int32))]))
  exact own_retZ X0 hx hlk (t := .boolean) Bd.returns (by simp) (hb hby d3_24) (z' := (1 : Int32)) (by first | rfl | decide) ⟨rfl, e0, rfl⟩ (by decide) (by decide)
def Q2_13 (w0 : Addr) (w1 : Addr) (w2 : Addr) (w3 : Addr) (h0 : Heap) (v : Option Value) (h : Heap) (L : List Loc) : Prop := L = [] ∧ h = h0 ∧ ((v = some (.int (1 : Int32))))
set_option maxRecDepth 65536 in
set_option maxHeartbeats 40000000 in
theorem rm2_13 (l : Launch) (Z : State) (a0 : Array Value) (hw : ∀ d ∈ tables_1, d.before a0 Z = true) (ws : List Jvm.Cond) (w0 : Addr) (w1 : Addr) (w2 : Addr) (w3 : Addr) (h0 : Heap) (n0 : Nat) (Z0 : n0 ≤ h0.size) (K : own_K Z h0 w0 w1 w2 w3) :
    MetFree l (⟨"com/example/bericht/bericht/selector/ValueType", "admits", "(Lcom/example/bericht/bericht/selector/ValueType;)Z"⟩ : MethodName) (head1 (Jvm.Cond.code (⟨"com/example/bericht/bericht/selector/ValueType", "admits", "(Lcom/example/bericht/bericht/selector/ValueType;)Z"⟩ : MethodName) prog_94_method_5_code 2 (some .boolean) :: ws) ({ frames := 0, cells := 0, slots := 0, locals := 0 } : Room)) (fun a U => a = #[(.ref w2), (.ref w1)] ∧ Z.Warmed39 U.vm ∧ U.heap = h0) (fun _ _ _ _ _ => True) (fun _ U o U' => ∃ v L, o = .returned v ∧ Q2_13 w0 w1 w2 w3 h0 v U'.heap L ∧ FrameEnd U o U' L ({ frames := 0, cells := 0, slots := 0, locals := 0 } : Room).cells ({ frames := 0, cells := 0, slots := 0, locals := 0 } : Room).slots) := by
  refine MetFree.of_bodySF (plainFor_of_name pn1) hisR ?_
  intro p e s m args below meth c s₁ Bd hml0 hP hK
  obtain ⟨rfl, hZ, hh⟩ := hP
  have hx := Bd.exec
  have hby := Bd.bytes
  have hml : c.maxLocals = 2 := hml0
  have hown : s.vm.findClass "com/example/bericht/bericht/selector/ValueType" = some m.cls := findClass_of_methodNamed Bd.named
  have hnm := (name_of_methodNamed Bd.named Bd.method).1
  have hlk := Bd.notSynchronized
  have X0 : Stand p l e ({ frames := 0, cells := 0, slots := 0, locals := 0 } : Room) s m #[(.ref w2), (.ref w1)] below meth c s₁ [] 0 0 := Stand.of_body Bd
  have e0 : s₁.heap = h0 := by rw [← hh, Bd.state]; rfl
  have K0 := K
  obtain ⟨S_w0, S_w1, S_w2, S_w3, E_w0, E_w1, E_w2, E_w3, F_w0_ordinal, F_w1_ordinal, F_w2_ordinal, F_w3_ordinal, n_w0_w1, n_w0_w2, n_w0_w3, n_w1_w2, n_w1_w3, n_w2_w3⟩ := K
  show own_Go p e below s (Q2_13 w0 w1 w2 w3 h0) 0 0 (s₁.setTop (entryFrame m #[(.ref w2), (.ref w1)] 2))
  rw [show entryFrame m #[(.ref w2), (.ref w1)] 2 = mkF m 0 #[.val (.ref w2), .val (.ref w1)] [] from by first | (simp [entryFrame, mkF, argsToLocals, Value.category]; done) | rfl]
  show own_Go p e below s _ _ _ (s₁.setTop (mkF m 0 #[.val (.ref w2), .val (.ref w1)] []))
  refine own_via (fun _ k => XS.aloadN X0.here hx rfl (hb hby d2_0) rfl rfl k) ?_
  show own_Go p e below s _ _ _ (s₁.setTop (mkF m 1 #[.val (.ref w2), .val (.ref w1)] [(.ref w2)]))
  obtain ⟨T1, X1, e1, st1⟩ := getS2 X0 hx hZ hown (host := "") (Or.inl (hw _ (List.mem_of_getElem? (i := 14) rfl))) Via.refl e0 S_w1 (g := (mkF m 1 #[.val (.ref w2), .val (.ref w1)] [(.ref w2)])) rfl (hb hby d2_1)
  refine own_via st1 ?_
  show own_Go p e below s _ _ _ (T1.setTop (mkF m 4 #[.val (.ref w2), .val (.ref w1)] [(.ref w1), (.ref w2)]))
  refine own_via (fun _ k => Jvm.RoadKit.acmp (g := (mkF m 4 #[.val (.ref w2), .val (.ref w1)] [(.ref w1), (.ref w2)])) X1 hx rfl rfl rfl (pc0 := 4) (pc' := 7) (same := false) rfl (hb hby d2_4) rfl (decide_eq_false fun q => (fun q => n_w1_w2 q.symm) (Value.ref.inj q)) (by decide) (by decide) k) ?_
  show own_Go p e below s _ _ _ (T1.setTop (mkF m 7 #[.val (.ref w2), .val (.ref w1)] []))
  refine own_via (fun _ k => XS.aloadN X1.here hx rfl (hb hby d2_7) rfl rfl k) ?_
  show own_Go p e below s _ _ _ (T1.setTop (mkF m 8 #[.val (.ref w2), .val (.ref w1)] [(.ref w1)]))
  obtain ⟨T2, X2, e2, st2⟩ := getS2 X1 hx hZ hown (host := "") (Or.inl (hw _ (List.mem_of_getElem? (i := 14) rfl))) Via.refl e1 S_w1 (g := (mkF m 8 #[.val (.ref w2), .val (.ref w1)] [(.ref w1)])) rfl (hb hby d2_8)
  refine own_via st2 ?_
  show own_Go p e below s _ _ _ (T2.setTop (mkF m 11 #[.val (.ref w2), .val (.ref w1)] [(.ref w1), (.ref w1)]))
  refine own_via (fun _ k => Jvm.RoadKit.acmp (g := (mkF m 11 #[.val (.ref w2), .val (.ref w1)] [(.ref w1), (.ref w1)])) X2 hx rfl rfl rfl (pc0 := 11) (pc' := 19) (same := true) rfl (hb hby d2_11) rfl (decide_eq_true rfl) (by decide) (by decide) k) ?_
  show own_Go p e below s _ _ _ (T2.setTop (mkF m 19 #[.val (.ref w2), .val (.ref w1)] []))
  refine own_via (fun _ k => XS.iconst X2.here hx rfl (hb hby d2_19) k) ?_
  show own_Go p e below s _ _ _ (T2.setTop (mkF m 20 #[.val (.ref w2), .val (.ref w1)] [(.int (1 : Int32))]))
  refine own_via (fun _ k => XS.goto X2.here hx rfl (pc0 := 20) (pc' := 24) rfl (hb hby d2_20) (by decide) (by decide) k) ?_
  show own_Go p e below s _ _ _ (T2.setTop (mkF m 24 #[.val (.ref w2), .val (.ref w1)] [(.int (1 : Int32))]))
  exact own_retZ X2 hx hlk (t := .boolean) Bd.returns (by simp) (hb hby d2_24) (z' := (1 : Int32)) (by first | rfl | decide) ⟨rfl, e2, rfl⟩ (by decide) (by decide)
def Q2_14 (w0 : Addr) (w1 : Addr) (w2 : Addr) (w3 : Addr) (h0 : Heap) (v : Option Value) (h : Heap) (L : List Loc) : Prop := L = [] ∧ h = h0 ∧ ((v = some (.int (1 : Int32))))
set_option maxRecDepth 65536 in
set_option maxHeartbeats 40000000 in
theorem rm2_14 (l : Launch) (Z : State) (a0 : Array Value) (hw : ∀ d ∈ tables_1, d.before a0 Z = true) (ws : List Jvm.Cond) (w0 : Addr) (w1 : Addr) (w2 : Addr) (w3 : Addr) (h0 : Heap) (n0 : Nat) (Z0 : n0 ≤ h0.size) (K : own_K Z h0 w0 w1 w2 w3) :
    MetFree l (⟨"com/example/bericht/bericht/selector/ValueType", "admits", "(Lcom/example/bericht/bericht/selector/ValueType;)Z"⟩ : MethodName) (head1 (Jvm.Cond.code (⟨"com/example/bericht/bericht/selector/ValueType", "admits", "(Lcom/example/bericht/bericht/selector/ValueType;)Z"⟩ : MethodName) prog_94_method_5_code 2 (some .boolean) :: ws) ({ frames := 0, cells := 0, slots := 0, locals := 0 } : Room)) (fun a U => a = #[(.ref w1), (.ref w2)] ∧ Z.Warmed39 U.vm ∧ U.heap = h0) (fun _ _ _ _ _ => True) (fun _ U o U' => ∃ v L, o = .returned v ∧ Q2_14 w0 w1 w2 w3 h0 v U'.heap L ∧ FrameEnd U o U' L ({ frames := 0, cells := 0, slots := 0, locals := 0 } : Room).cells ({ frames := 0, cells := 0, slots := 0, locals := 0 } : Room).slots) := by
  refine MetFree.of_bodySF (plainFor_of_name pn1) hisR ?_
  intro p e s m args below meth c s₁ Bd hml0 hP hK
  obtain ⟨rfl, hZ, hh⟩ := hP
  have hx := Bd.exec
  have hby := Bd.bytes
  have hml : c.maxLocals = 2 := hml0
  have hown : s.vm.findClass "com/example/bericht/bericht/selector/ValueType" = some m.cls := findClass_of_methodNamed Bd.named
  have hnm := (name_of_methodNamed Bd.named Bd.method).1
  have hlk := Bd.notSynchronized
  have X0 : Stand p l e ({ frames := 0, cells := 0, slots := 0, locals := 0 } : Room) s m #[(.ref w1), (.ref w2)] below meth c s₁ [] 0 0 := Stand.of_body Bd
  have e0 : s₁.heap = h0 := by rw [← hh, Bd.state]; rfl
  have K0 := K
  obtain ⟨S_w0, S_w1, S_w2, S_w3, E_w0, E_w1, E_w2, E_w3, F_w0_ordinal, F_w1_ordinal, F_w2_ordinal, F_w3_ordinal, n_w0_w1, n_w0_w2, n_w0_w3, n_w1_w2, n_w1_w3, n_w2_w3⟩ := K
  show own_Go p e below s (Q2_14 w0 w1 w2 w3 h0) 0 0 (s₁.setTop (entryFrame m #[(.ref w1), (.ref w2)] 2))
  rw [show entryFrame m #[(.ref w1), (.ref w2)] 2 = mkF m 0 #[.val (.ref w1), .val (.ref w2)] [] from by first | (simp [entryFrame, mkF, argsToLocals, Value.category]; done) | rfl]
  show own_Go p e below s _ _ _ (s₁.setTop (mkF m 0 #[.val (.ref w1), .val (.ref w2)] []))
  refine own_via (fun _ k => XS.aloadN X0.here hx rfl (hb hby d2_0) rfl rfl k) ?_
  show own_Go p e below s _ _ _ (s₁.setTop (mkF m 1 #[.val (.ref w1), .val (.ref w2)] [(.ref w1)]))
  obtain ⟨T1, X1, e1, st1⟩ := getS2 X0 hx hZ hown (host := "") (Or.inl (hw _ (List.mem_of_getElem? (i := 14) rfl))) Via.refl e0 S_w1 (g := (mkF m 1 #[.val (.ref w1), .val (.ref w2)] [(.ref w1)])) rfl (hb hby d2_1)
  refine own_via st1 ?_
  show own_Go p e below s _ _ _ (T1.setTop (mkF m 4 #[.val (.ref w1), .val (.ref w2)] [(.ref w1), (.ref w1)]))
  refine own_via (fun _ k => Jvm.RoadKit.acmp (g := (mkF m 4 #[.val (.ref w1), .val (.ref w2)] [(.ref w1), (.ref w1)])) X1 hx rfl rfl rfl (pc0 := 4) (pc' := 19) (same := true) rfl (hb hby d2_4) rfl (decide_eq_true rfl) (by decide) (by decide) k) ?_
  show own_Go p e below s _ _ _ (T1.setTop (mkF m 19 #[.val (.ref w1), .val (.ref w2)] []))
  refine own_via (fun _ k => XS.iconst X1.here hx rfl (hb hby d2_19) k) ?_
  show own_Go p e below s _ _ _ (T1.setTop (mkF m 20 #[.val (.ref w1), .val (.ref w2)] [(.int (1 : Int32))]))
  refine own_via (fun _ k => XS.goto X1.here hx rfl (pc0 := 20) (pc' := 24) rfl (hb hby d2_20) (by decide) (by decide) k) ?_
  show own_Go p e below s _ _ _ (T1.setTop (mkF m 24 #[.val (.ref w1), .val (.ref w2)] [(.int (1 : Int32))]))
  exact own_retZ X1 hx hlk (t := .boolean) Bd.returns (by simp) (hb hby d2_24) (z' := (1 : Int32)) (by first | rfl | decide) ⟨rfl, e1, rfl⟩ (by decide) (by decide)
def Q3_11 (w0 : Addr) (w1 : Addr) (w2 : Addr) (w3 : Addr) (h0 : Heap) (v : Option Value) (h : Heap) (L : List Loc) : Prop := L = [] ∧ h = h0 ∧ ((v = some (.int (1 : Int32))))
set_option maxRecDepth 65536 in
set_option maxHeartbeats 40000000 in
theorem rm3_11 (l : Launch) (Z : State) (a0 : Array Value) (hw : ∀ d ∈ tables_1, d.before a0 Z = true) (ws : List Jvm.Cond) (w0 : Addr) (w1 : Addr) (w2 : Addr) (w3 : Addr) (h0 : Heap) (n0 : Nat) (Z0 : n0 ≤ h0.size) (K : own_K Z h0 w0 w1 w2 w3) :
    MetFree l (⟨"com/example/bericht/bericht/selector/ValueTypeAdmitsPinLaw", "expected", "(II)Z"⟩ : MethodName) (head1 (Jvm.Cond.code (⟨"com/example/bericht/bericht/selector/ValueTypeAdmitsPinLaw", "expected", "(II)Z"⟩ : MethodName) method_3_code 2 (some .boolean) :: ws) ({ frames := 0, cells := 0, slots := 0, locals := 0 } : Room)) (fun a U => a = #[(.int (2 : Int32)), (.int (3 : Int32))] ∧ Z.Warmed39 U.vm ∧ U.heap = h0) (fun _ _ _ _ _ => True) (fun _ U o U' => ∃ v L, o = .returned v ∧ Q3_11 w0 w1 w2 w3 h0 v U'.heap L ∧ FrameEnd U o U' L ({ frames := 0, cells := 0, slots := 0, locals := 0 } : Room).cells ({ frames := 0, cells := 0, slots := 0, locals := 0 } : Room).slots) := by
  refine MetFree.of_bodySF (plainFor_of_name pn0) hisR ?_
  intro p e s m args below meth c s₁ Bd hml0 hP hK
  obtain ⟨rfl, hZ, hh⟩ := hP
  have hx := Bd.exec
  have hby := Bd.bytes
  have hml : c.maxLocals = 2 := hml0
  have hown : s.vm.findClass "com/example/bericht/bericht/selector/ValueTypeAdmitsPinLaw" = some m.cls := findClass_of_methodNamed Bd.named
  have hnm := (name_of_methodNamed Bd.named Bd.method).1
  have hlk := Bd.notSynchronized
  have X0 : Stand p l e ({ frames := 0, cells := 0, slots := 0, locals := 0 } : Room) s m #[(.int (2 : Int32)), (.int (3 : Int32))] below meth c s₁ [] 0 0 := Stand.of_body Bd
  have e0 : s₁.heap = h0 := by rw [← hh, Bd.state]; rfl
  have K0 := K
  obtain ⟨S_w0, S_w1, S_w2, S_w3, E_w0, E_w1, E_w2, E_w3, F_w0_ordinal, F_w1_ordinal, F_w2_ordinal, F_w3_ordinal, n_w0_w1, n_w0_w2, n_w0_w3, n_w1_w2, n_w1_w3, n_w2_w3⟩ := K
  show own_Go p e below s (Q3_11 w0 w1 w2 w3 h0) 0 0 (s₁.setTop (entryFrame m #[(.int (2 : Int32)), (.int (3 : Int32))] 2))
  rw [show entryFrame m #[(.int (2 : Int32)), (.int (3 : Int32))] 2 = mkF m 0 #[.val (.int (2 : Int32)), .val (.int (3 : Int32))] [] from by first | (simp [entryFrame, mkF, argsToLocals, Value.category]; done) | rfl]
  show own_Go p e below s _ _ _ (s₁.setTop (mkF m 0 #[.val (.int (2 : Int32)), .val (.int (3 : Int32))] []))
  refine own_via (fun _ k => XS.iloadN X0.here hx rfl (hb hby d3_0) rfl k) ?_
  show own_Go p e below s _ _ _ (s₁.setTop (mkF m 1 #[.val (.int (2 : Int32)), .val (.int (3 : Int32))] [(.int (2 : Int32))]))
  refine own_via (fun _ k => XS.iconst X0.here hx rfl (hb hby d3_1) k) ?_
  show own_Go p e below s _ _ _ (s₁.setTop (mkF m 2 #[.val (.int (2 : Int32)), .val (.int (3 : Int32))] [(.int (3 : Int32)), (.int (2 : Int32))]))
  refine own_via (fun _ k => XS.icmpYes X0.here hx rfl (pc0 := 2) (pc' := 7) rfl (hb hby d3_2) rfl (feq (by decide : ¬ ((2 : Int32) = (3 : Int32)))).2 (by decide) (by decide) k) ?_
  show own_Go p e below s _ _ _ (s₁.setTop (mkF m 7 #[.val (.int (2 : Int32)), .val (.int (3 : Int32))] []))
  refine own_via (fun _ k => XS.iloadN X0.here hx rfl (hb hby d3_7) rfl k) ?_
  show own_Go p e below s _ _ _ (s₁.setTop (mkF m 8 #[.val (.int (2 : Int32)), .val (.int (3 : Int32))] [(.int (3 : Int32))]))
  refine own_via (fun _ k => XS.iconst X0.here hx rfl (hb hby d3_8) k) ?_
  show own_Go p e below s _ _ _ (s₁.setTop (mkF m 9 #[.val (.int (2 : Int32)), .val (.int (3 : Int32))] [(.int (3 : Int32)), (.int (3 : Int32))]))
  refine own_via (fun _ k => XS.icmpNo X0.here hx rfl (hb hby d3_9) rfl (teq (by decide : (3 : Int32) = (3 : Int32))).2 k) ?_
  show own_Go p e below s _ _ _ (s₁.setTop (mkF m 12 #[.val (.int (2 : Int32)), .val (.int (3 : Int32))] []))
  refine own_via (fun _ k => XS.iconst X0.here hx rfl (hb hby d3_12) k) ?_
  show own_Go p e below s _ _ _ (s₁.setTop (mkF m 13 #[.val (.int (2 : Int32)), .val (.int (3 : Int32))] [(.int (1 : Int32))]))
  exact own_retZ X0 hx hlk (t := .boolean) Bd.returns (by simp) (hb hby d3_13) (z' := (1 : Int32)) (by first | rfl | decide) ⟨rfl, e0, rfl⟩ (by decide) (by decide)
def Q3_12 (w0 : Addr) (w1 : Addr) (w2 : Addr) (w3 : Addr) (h0 : Heap) (v : Option Value) (h : Heap) (L : List Loc) : Prop := L = [] ∧ h = h0 ∧ ((v = some (.int (1 : Int32))))
set_option maxRecDepth 65536 in
set_option maxHeartbeats 40000000 in
theorem rm3_12 (l : Launch) (Z : State) (a0 : Array Value) (hw : ∀ d ∈ tables_1, d.before a0 Z = true) (ws : List Jvm.Cond) (w0 : Addr) (w1 : Addr) (w2 : Addr) (w3 : Addr) (h0 : Heap) (n0 : Nat) (Z0 : n0 ≤ h0.size) (K : own_K Z h0 w0 w1 w2 w3) :
    MetFree l (⟨"com/example/bericht/bericht/selector/ValueTypeAdmitsPinLaw", "expected", "(II)Z"⟩ : MethodName) (head1 (Jvm.Cond.code (⟨"com/example/bericht/bericht/selector/ValueTypeAdmitsPinLaw", "expected", "(II)Z"⟩ : MethodName) method_3_code 2 (some .boolean) :: ws) ({ frames := 0, cells := 0, slots := 0, locals := 0 } : Room)) (fun a U => a = #[(.int (3 : Int32)), (.int (0 : Int32))] ∧ Z.Warmed39 U.vm ∧ U.heap = h0) (fun _ _ _ _ _ => True) (fun _ U o U' => ∃ v L, o = .returned v ∧ Q3_12 w0 w1 w2 w3 h0 v U'.heap L ∧ FrameEnd U o U' L ({ frames := 0, cells := 0, slots := 0, locals := 0 } : Room).cells ({ frames := 0, cells := 0, slots := 0, locals := 0 } : Room).slots) := by
  refine MetFree.of_bodySF (plainFor_of_name pn0) hisR ?_
  intro p e s m args below meth c s₁ Bd hml0 hP hK
  obtain ⟨rfl, hZ, hh⟩ := hP
  have hx := Bd.exec
  have hby := Bd.bytes
  have hml : c.maxLocals = 2 := hml0
  have hown : s.vm.findClass "com/example/bericht/bericht/selector/ValueTypeAdmitsPinLaw" = some m.cls := findClass_of_methodNamed Bd.named
  have hnm := (name_of_methodNamed Bd.named Bd.method).1
  have hlk := Bd.notSynchronized
  have X0 : Stand p l e ({ frames := 0, cells := 0, slots := 0, locals := 0 } : Room) s m #[(.int (3 : Int32)), (.int (0 : Int32))] below meth c s₁ [] 0 0 := Stand.of_body Bd
  have e0 : s₁.heap = h0 := by rw [← hh, Bd.state]; rfl
  have K0 := K
  obtain ⟨S_w0, S_w1, S_w2, S_w3, E_w0, E_w1, E_w2, E_w3, F_w0_ordinal, F_w1_ordinal, F_w2_ordinal, F_w3_ordinal, n_w0_w1, n_w0_w2, n_w0_w3, n_w1_w2, n_w1_w3, n_w2_w3⟩ := K
  show own_Go p e below s (Q3_12 w0 w1 w2 w3 h0) 0 0 (s₁.setTop (entryFrame m #[(.int (3 : Int32)), (.int (0 : Int32))] 2))
  rw [show entryFrame m #[(.int (3 : Int32)), (.int (0 : Int32))] 2 = mkF m 0 #[.val (.int (3 : Int32)), .val (.int (0 : Int32))] [] from by first | (simp [entryFrame, mkF, argsToLocals, Value.category]; done) | rfl]
  show own_Go p e below s _ _ _ (s₁.setTop (mkF m 0 #[.val (.int (3 : Int32)), .val (.int (0 : Int32))] []))
  refine own_via (fun _ k => XS.iloadN X0.here hx rfl (hb hby d3_0) rfl k) ?_
  show own_Go p e below s _ _ _ (s₁.setTop (mkF m 1 #[.val (.int (3 : Int32)), .val (.int (0 : Int32))] [(.int (3 : Int32))]))
  refine own_via (fun _ k => XS.iconst X0.here hx rfl (hb hby d3_1) k) ?_
  show own_Go p e below s _ _ _ (s₁.setTop (mkF m 2 #[.val (.int (3 : Int32)), .val (.int (0 : Int32))] [(.int (3 : Int32)), (.int (3 : Int32))]))
  refine own_via (fun _ k => XS.icmpNo X0.here hx rfl (hb hby d3_2) rfl (teq (by decide : (3 : Int32) = (3 : Int32))).2 k) ?_
  show own_Go p e below s _ _ _ (s₁.setTop (mkF m 5 #[.val (.int (3 : Int32)), .val (.int (0 : Int32))] []))
  refine own_via (fun _ k => XS.iconst X0.here hx rfl (hb hby d3_5) k) ?_
  show own_Go p e below s _ _ _ (s₁.setTop (mkF m 6 #[.val (.int (3 : Int32)), .val (.int (0 : Int32))] [(.int (1 : Int32))]))
  exact own_retZ X0 hx hlk (t := .boolean) Bd.returns (by simp) (hb hby d3_6) (z' := (1 : Int32)) (by first | rfl | decide) ⟨rfl, e0, rfl⟩ (by decide) (by decide)
def Q3_13 (w0 : Addr) (w1 : Addr) (w2 : Addr) (w3 : Addr) (h0 : Heap) (v : Option Value) (h : Heap) (L : List Loc) : Prop := L = [] ∧ h = h0 ∧ ((v = some (.int (1 : Int32))))
set_option maxRecDepth 65536 in
set_option maxHeartbeats 40000000 in
theorem rm3_13 (l : Launch) (Z : State) (a0 : Array Value) (hw : ∀ d ∈ tables_1, d.before a0 Z = true) (ws : List Jvm.Cond) (w0 : Addr) (w1 : Addr) (w2 : Addr) (w3 : Addr) (h0 : Heap) (n0 : Nat) (Z0 : n0 ≤ h0.size) (K : own_K Z h0 w0 w1 w2 w3) :
    MetFree l (⟨"com/example/bericht/bericht/selector/ValueTypeAdmitsPinLaw", "expected", "(II)Z"⟩ : MethodName) (head1 (Jvm.Cond.code (⟨"com/example/bericht/bericht/selector/ValueTypeAdmitsPinLaw", "expected", "(II)Z"⟩ : MethodName) method_3_code 2 (some .boolean) :: ws) ({ frames := 0, cells := 0, slots := 0, locals := 0 } : Room)) (fun a U => a = #[(.int (3 : Int32)), (.int (1 : Int32))] ∧ Z.Warmed39 U.vm ∧ U.heap = h0) (fun _ _ _ _ _ => True) (fun _ U o U' => ∃ v L, o = .returned v ∧ Q3_13 w0 w1 w2 w3 h0 v U'.heap L ∧ FrameEnd U o U' L ({ frames := 0, cells := 0, slots := 0, locals := 0 } : Room).cells ({ frames := 0, cells := 0, slots := 0, locals := 0 } : Room).slots) := by
  refine MetFree.of_bodySF (plainFor_of_name pn0) hisR ?_
  intro p e s m args below meth c s₁ Bd hml0 hP hK
  obtain ⟨rfl, hZ, hh⟩ := hP
  have hx := Bd.exec
  have hby := Bd.bytes
  have hml : c.maxLocals = 2 := hml0
  have hown : s.vm.findClass "com/example/bericht/bericht/selector/ValueTypeAdmitsPinLaw" = some m.cls := findClass_of_methodNamed Bd.named
  have hnm := (name_of_methodNamed Bd.named Bd.method).1
  have hlk := Bd.notSynchronized
  have X0 : Stand p l e ({ frames := 0, cells := 0, slots := 0, locals := 0 } : Room) s m #[(.int (3 : Int32)), (.int (1 : Int32))] below meth c s₁ [] 0 0 := Stand.of_body Bd
  have e0 : s₁.heap = h0 := by rw [← hh, Bd.state]; rfl
  have K0 := K
  obtain ⟨S_w0, S_w1, S_w2, S_w3, E_w0, E_w1, E_w2, E_w3, F_w0_ordinal, F_w1_ordinal, F_w2_ordinal, F_w3_ordinal, n_w0_w1, n_w0_w2, n_w0_w3, n_w1_w2, n_w1_w3, n_w2_w3⟩ := K
  show own_Go p e below s (Q3_13 w0 w1 w2 w3 h0) 0 0 (s₁.setTop (entryFrame m #[(.int (3 : Int32)), (.int (1 : Int32))] 2))
  rw [show entryFrame m #[(.int (3 : Int32)), (.int (1 : Int32))] 2 = mkF m 0 #[.val (.int (3 : Int32)), .val (.int (1 : Int32))] [] from by first | (simp [entryFrame, mkF, argsToLocals, Value.category]; done) | rfl]
  show own_Go p e below s _ _ _ (s₁.setTop (mkF m 0 #[.val (.int (3 : Int32)), .val (.int (1 : Int32))] []))
  refine own_via (fun _ k => XS.iloadN X0.here hx rfl (hb hby d3_0) rfl k) ?_
  show own_Go p e below s _ _ _ (s₁.setTop (mkF m 1 #[.val (.int (3 : Int32)), .val (.int (1 : Int32))] [(.int (3 : Int32))]))
  refine own_via (fun _ k => XS.iconst X0.here hx rfl (hb hby d3_1) k) ?_
  show own_Go p e below s _ _ _ (s₁.setTop (mkF m 2 #[.val (.int (3 : Int32)), .val (.int (1 : Int32))] [(.int (3 : Int32)), (.int (3 : Int32))]))
  refine own_via (fun _ k => XS.icmpNo X0.here hx rfl (hb hby d3_2) rfl (teq (by decide : (3 : Int32) = (3 : Int32))).2 k) ?_
  show own_Go p e below s _ _ _ (s₁.setTop (mkF m 5 #[.val (.int (3 : Int32)), .val (.int (1 : Int32))] []))
  refine own_via (fun _ k => XS.iconst X0.here hx rfl (hb hby d3_5) k) ?_
  show own_Go p e below s _ _ _ (s₁.setTop (mkF m 6 #[.val (.int (3 : Int32)), .val (.int (1 : Int32))] [(.int (1 : Int32))]))
  exact own_retZ X0 hx hlk (t := .boolean) Bd.returns (by simp) (hb hby d3_6) (z' := (1 : Int32)) (by first | rfl | decide) ⟨rfl, e0, rfl⟩ (by decide) (by decide)
def Q3_14 (w0 : Addr) (w1 : Addr) (w2 : Addr) (w3 : Addr) (h0 : Heap) (v : Option Value) (h : Heap) (L : List Loc) : Prop := L = [] ∧ h = h0 ∧ ((v = some (.int (1 : Int32))))
set_option maxRecDepth 65536 in
set_option maxHeartbeats 40000000 in
theorem rm3_14 (l : Launch) (Z : State) (a0 : Array Value) (hw : ∀ d ∈ tables_1, d.before a0 Z = true) (ws : List Jvm.Cond) (w0 : Addr) (w1 : Addr) (w2 : Addr) (w3 : Addr) (h0 : Heap) (n0 : Nat) (Z0 : n0 ≤ h0.size) (K : own_K Z h0 w0 w1 w2 w3) :
    MetFree l (⟨"com/example/bericht/bericht/selector/ValueTypeAdmitsPinLaw", "expected", "(II)Z"⟩ : MethodName) (head1 (Jvm.Cond.code (⟨"com/example/bericht/bericht/selector/ValueTypeAdmitsPinLaw", "expected", "(II)Z"⟩ : MethodName) method_3_code 2 (some .boolean) :: ws) ({ frames := 0, cells := 0, slots := 0, locals := 0 } : Room)) (fun a U => a = #[(.int (3 : Int32)), (.int (2 : Int32))] ∧ Z.Warmed39 U.vm ∧ U.heap = h0) (fun _ _ _ _ _ => True) (fun _ U o U' => ∃ v L, o = .returned v ∧ Q3_14 w0 w1 w2 w3 h0 v U'.heap L ∧ FrameEnd U o U' L ({ frames := 0, cells := 0, slots := 0, locals := 0 } : Room).cells ({ frames := 0, cells := 0, slots := 0, locals := 0 } : Room).slots) := by
  refine MetFree.of_bodySF (plainFor_of_name pn0) hisR ?_
  intro p e s m args below meth c s₁ Bd hml0 hP hK
  obtain ⟨rfl, hZ, hh⟩ := hP
  have hx := Bd.exec
  have hby := Bd.bytes
  have hml : c.maxLocals = 2 := hml0
  have hown : s.vm.findClass "com/example/bericht/bericht/selector/ValueTypeAdmitsPinLaw" = some m.cls := findClass_of_methodNamed Bd.named
  have hnm := (name_of_methodNamed Bd.named Bd.method).1
  have hlk := Bd.notSynchronized
  have X0 : Stand p l e ({ frames := 0, cells := 0, slots := 0, locals := 0 } : Room) s m #[(.int (3 : Int32)), (.int (2 : Int32))] below meth c s₁ [] 0 0 := Stand.of_body Bd
  have e0 : s₁.heap = h0 := by rw [← hh, Bd.state]; rfl
  have K0 := K
  obtain ⟨S_w0, S_w1, S_w2, S_w3, E_w0, E_w1, E_w2, E_w3, F_w0_ordinal, F_w1_ordinal, F_w2_ordinal, F_w3_ordinal, n_w0_w1, n_w0_w2, n_w0_w3, n_w1_w2, n_w1_w3, n_w2_w3⟩ := K
  show own_Go p e below s (Q3_14 w0 w1 w2 w3 h0) 0 0 (s₁.setTop (entryFrame m #[(.int (3 : Int32)), (.int (2 : Int32))] 2))
  rw [show entryFrame m #[(.int (3 : Int32)), (.int (2 : Int32))] 2 = mkF m 0 #[.val (.int (3 : Int32)), .val (.int (2 : Int32))] [] from by first | (simp [entryFrame, mkF, argsToLocals, Value.category]; done) | rfl]
  show own_Go p e below s _ _ _ (s₁.setTop (mkF m 0 #[.val (.int (3 : Int32)), .val (.int (2 : Int32))] []))
  refine own_via (fun _ k => XS.iloadN X0.here hx rfl (hb hby d3_0) rfl k) ?_
  show own_Go p e below s _ _ _ (s₁.setTop (mkF m 1 #[.val (.int (3 : Int32)), .val (.int (2 : Int32))] [(.int (3 : Int32))]))
  refine own_via (fun _ k => XS.iconst X0.here hx rfl (hb hby d3_1) k) ?_
  show own_Go p e below s _ _ _ (s₁.setTop (mkF m 2 #[.val (.int (3 : Int32)), .val (.int (2 : Int32))] [(.int (3 : Int32)), (.int (3 : Int32))]))
  refine own_via (fun _ k => XS.icmpNo X0.here hx rfl (hb hby d3_2) rfl (teq (by decide : (3 : Int32) = (3 : Int32))).2 k) ?_
  show own_Go p e below s _ _ _ (s₁.setTop (mkF m 5 #[.val (.int (3 : Int32)), .val (.int (2 : Int32))] []))
  refine own_via (fun _ k => XS.iconst X0.here hx rfl (hb hby d3_5) k) ?_
  show own_Go p e below s _ _ _ (s₁.setTop (mkF m 6 #[.val (.int (3 : Int32)), .val (.int (2 : Int32))] [(.int (1 : Int32))]))
  exact own_retZ X0 hx hlk (t := .boolean) Bd.returns (by simp) (hb hby d3_6) (z' := (1 : Int32)) (by first | rfl | decide) ⟨rfl, e0, rfl⟩ (by decide) (by decide)
def Q2_15 (w0 : Addr) (w1 : Addr) (w2 : Addr) (w3 : Addr) (h0 : Heap) (v : Option Value) (h : Heap) (L : List Loc) : Prop := L = [] ∧ h = h0 ∧ ((v = some (.int (1 : Int32))))
set_option maxRecDepth 65536 in
set_option maxHeartbeats 40000000 in
theorem rm2_15 (l : Launch) (Z : State) (a0 : Array Value) (hw : ∀ d ∈ tables_1, d.before a0 Z = true) (ws : List Jvm.Cond) (w0 : Addr) (w1 : Addr) (w2 : Addr) (w3 : Addr) (h0 : Heap) (n0 : Nat) (Z0 : n0 ≤ h0.size) (K : own_K Z h0 w0 w1 w2 w3) :
    MetFree l (⟨"com/example/bericht/bericht/selector/ValueType", "admits", "(Lcom/example/bericht/bericht/selector/ValueType;)Z"⟩ : MethodName) (head1 (Jvm.Cond.code (⟨"com/example/bericht/bericht/selector/ValueType", "admits", "(Lcom/example/bericht/bericht/selector/ValueType;)Z"⟩ : MethodName) prog_94_method_5_code 2 (some .boolean) :: ws) ({ frames := 0, cells := 0, slots := 0, locals := 0 } : Room)) (fun a U => a = #[(.ref w1), (.ref w1)] ∧ Z.Warmed39 U.vm ∧ U.heap = h0) (fun _ _ _ _ _ => True) (fun _ U o U' => ∃ v L, o = .returned v ∧ Q2_15 w0 w1 w2 w3 h0 v U'.heap L ∧ FrameEnd U o U' L ({ frames := 0, cells := 0, slots := 0, locals := 0 } : Room).cells ({ frames := 0, cells := 0, slots := 0, locals := 0 } : Room).slots) := by
  refine MetFree.of_bodySF (plainFor_of_name pn1) hisR ?_
  intro p e s m args below meth c s₁ Bd hml0 hP hK
  obtain ⟨rfl, hZ, hh⟩ := hP
  have hx := Bd.exec
  have hby := Bd.bytes
  have hml : c.maxLocals = 2 := hml0
  have hown : s.vm.findClass "com/example/bericht/bericht/selector/ValueType" = some m.cls := findClass_of_methodNamed Bd.named
  have hnm := (name_of_methodNamed Bd.named Bd.method).1
  have hlk := Bd.notSynchronized
  have X0 : Stand p l e ({ frames := 0, cells := 0, slots := 0, locals := 0 } : Room) s m #[(.ref w1), (.ref w1)] below meth c s₁ [] 0 0 := Stand.of_body Bd
  have e0 : s₁.heap = h0 := by rw [← hh, Bd.state]; rfl
  have K0 := K
  obtain ⟨S_w0, S_w1, S_w2, S_w3, E_w0, E_w1, E_w2, E_w3, F_w0_ordinal, F_w1_ordinal, F_w2_ordinal, F_w3_ordinal, n_w0_w1, n_w0_w2, n_w0_w3, n_w1_w2, n_w1_w3, n_w2_w3⟩ := K
  show own_Go p e below s (Q2_15 w0 w1 w2 w3 h0) 0 0 (s₁.setTop (entryFrame m #[(.ref w1), (.ref w1)] 2))
  rw [show entryFrame m #[(.ref w1), (.ref w1)] 2 = mkF m 0 #[.val (.ref w1), .val (.ref w1)] [] from by first | (simp [entryFrame, mkF, argsToLocals, Value.category]; done) | rfl]
  show own_Go p e below s _ _ _ (s₁.setTop (mkF m 0 #[.val (.ref w1), .val (.ref w1)] []))
  refine own_via (fun _ k => XS.aloadN X0.here hx rfl (hb hby d2_0) rfl rfl k) ?_
  show own_Go p e below s _ _ _ (s₁.setTop (mkF m 1 #[.val (.ref w1), .val (.ref w1)] [(.ref w1)]))
  obtain ⟨T1, X1, e1, st1⟩ := getS2 X0 hx hZ hown (host := "") (Or.inl (hw _ (List.mem_of_getElem? (i := 14) rfl))) Via.refl e0 S_w1 (g := (mkF m 1 #[.val (.ref w1), .val (.ref w1)] [(.ref w1)])) rfl (hb hby d2_1)
  refine own_via st1 ?_
  show own_Go p e below s _ _ _ (T1.setTop (mkF m 4 #[.val (.ref w1), .val (.ref w1)] [(.ref w1), (.ref w1)]))
  refine own_via (fun _ k => Jvm.RoadKit.acmp (g := (mkF m 4 #[.val (.ref w1), .val (.ref w1)] [(.ref w1), (.ref w1)])) X1 hx rfl rfl rfl (pc0 := 4) (pc' := 19) (same := true) rfl (hb hby d2_4) rfl (decide_eq_true rfl) (by decide) (by decide) k) ?_
  show own_Go p e below s _ _ _ (T1.setTop (mkF m 19 #[.val (.ref w1), .val (.ref w1)] []))
  refine own_via (fun _ k => XS.iconst X1.here hx rfl (hb hby d2_19) k) ?_
  show own_Go p e below s _ _ _ (T1.setTop (mkF m 20 #[.val (.ref w1), .val (.ref w1)] [(.int (1 : Int32))]))
  refine own_via (fun _ k => XS.goto X1.here hx rfl (pc0 := 20) (pc' := 24) rfl (hb hby d2_20) (by decide) (by decide) k) ?_
  show own_Go p e below s _ _ _ (T1.setTop (mkF m 24 #[.val (.ref w1), .val (.ref w1)] [(.int (1 : Int32))]))
  exact own_retZ X1 hx hlk (t := .boolean) Bd.returns (by simp) (hb hby d2_24) (z' := (1 : Int32)) (by first | rfl | decide) ⟨rfl, e1, rfl⟩ (by decide) (by decide)
def Q3_15 (w0 : Addr) (w1 : Addr) (w2 : Addr) (w3 : Addr) (h0 : Heap) (v : Option Value) (h : Heap) (L : List Loc) : Prop := L = [] ∧ h = h0 ∧ ((v = some (.int (1 : Int32))))
set_option maxRecDepth 65536 in
set_option maxHeartbeats 40000000 in
theorem rm3_15 (l : Launch) (Z : State) (a0 : Array Value) (hw : ∀ d ∈ tables_1, d.before a0 Z = true) (ws : List Jvm.Cond) (w0 : Addr) (w1 : Addr) (w2 : Addr) (w3 : Addr) (h0 : Heap) (n0 : Nat) (Z0 : n0 ≤ h0.size) (K : own_K Z h0 w0 w1 w2 w3) :
    MetFree l (⟨"com/example/bericht/bericht/selector/ValueTypeAdmitsPinLaw", "expected", "(II)Z"⟩ : MethodName) (head1 (Jvm.Cond.code (⟨"com/example/bericht/bericht/selector/ValueTypeAdmitsPinLaw", "expected", "(II)Z"⟩ : MethodName) method_3_code 2 (some .boolean) :: ws) ({ frames := 0, cells := 0, slots := 0, locals := 0 } : Room)) (fun a U => a = #[(.int (3 : Int32)), (.int (3 : Int32))] ∧ Z.Warmed39 U.vm ∧ U.heap = h0) (fun _ _ _ _ _ => True) (fun _ U o U' => ∃ v L, o = .returned v ∧ Q3_15 w0 w1 w2 w3 h0 v U'.heap L ∧ FrameEnd U o U' L ({ frames := 0, cells := 0, slots := 0, locals := 0 } : Room).cells ({ frames := 0, cells := 0, slots := 0, locals := 0 } : Room).slots) := by
  refine MetFree.of_bodySF (plainFor_of_name pn0) hisR ?_
  intro p e s m args below meth c s₁ Bd hml0 hP hK
  obtain ⟨rfl, hZ, hh⟩ := hP
  have hx := Bd.exec
  have hby := Bd.bytes
  have hml : c.maxLocals = 2 := hml0
  have hown : s.vm.findClass "com/example/bericht/bericht/selector/ValueTypeAdmitsPinLaw" = some m.cls := findClass_of_methodNamed Bd.named
  have hnm := (name_of_methodNamed Bd.named Bd.method).1
  have hlk := Bd.notSynchronized
  have X0 : Stand p l e ({ frames := 0, cells := 0, slots := 0, locals := 0 } : Room) s m #[(.int (3 : Int32)), (.int (3 : Int32))] below meth c s₁ [] 0 0 := Stand.of_body Bd
  have e0 : s₁.heap = h0 := by rw [← hh, Bd.state]; rfl
  have K0 := K
  obtain ⟨S_w0, S_w1, S_w2, S_w3, E_w0, E_w1, E_w2, E_w3, F_w0_ordinal, F_w1_ordinal, F_w2_ordinal, F_w3_ordinal, n_w0_w1, n_w0_w2, n_w0_w3, n_w1_w2, n_w1_w3, n_w2_w3⟩ := K
  show own_Go p e below s (Q3_15 w0 w1 w2 w3 h0) 0 0 (s₁.setTop (entryFrame m #[(.int (3 : Int32)), (.int (3 : Int32))] 2))
  rw [show entryFrame m #[(.int (3 : Int32)), (.int (3 : Int32))] 2 = mkF m 0 #[.val (.int (3 : Int32)), .val (.int (3 : Int32))] [] from by first | (simp [entryFrame, mkF, argsToLocals, Value.category]; done) | rfl]
  show own_Go p e below s _ _ _ (s₁.setTop (mkF m 0 #[.val (.int (3 : Int32)), .val (.int (3 : Int32))] []))
  refine own_via (fun _ k => XS.iloadN X0.here hx rfl (hb hby d3_0) rfl k) ?_
  show own_Go p e below s _ _ _ (s₁.setTop (mkF m 1 #[.val (.int (3 : Int32)), .val (.int (3 : Int32))] [(.int (3 : Int32))]))
  refine own_via (fun _ k => XS.iconst X0.here hx rfl (hb hby d3_1) k) ?_
  show own_Go p e below s _ _ _ (s₁.setTop (mkF m 2 #[.val (.int (3 : Int32)), .val (.int (3 : Int32))] [(.int (3 : Int32)), (.int (3 : Int32))]))
  refine own_via (fun _ k => XS.icmpNo X0.here hx rfl (hb hby d3_2) rfl (teq (by decide : (3 : Int32) = (3 : Int32))).2 k) ?_
  show own_Go p e below s _ _ _ (s₁.setTop (mkF m 5 #[.val (.int (3 : Int32)), .val (.int (3 : Int32))] []))
  refine own_via (fun _ k => XS.iconst X0.here hx rfl (hb hby d3_5) k) ?_
  show own_Go p e below s _ _ _ (s₁.setTop (mkF m 6 #[.val (.int (3 : Int32)), .val (.int (3 : Int32))] [(.int (1 : Int32))]))
  exact own_retZ X0 hx hlk (t := .boolean) Bd.returns (by simp) (hb hby d3_6) (z' := (1 : Int32)) (by first | rfl | decide) ⟨rfl, e0, rfl⟩ (by decide) (by decide)
def Q0 (n0 : Nat) (v : Option Value) (h : Heap) (L : List Loc) : Prop := v = some (.int 1) ∧ Fr n0 L
set_option maxRecDepth 65536 in
set_option maxHeartbeats 40000000 in
theorem rm0 (l : Launch) (Z : State) (a0 : Array Value) (hw : ∀ d ∈ tables_1, d.before a0 Z = true) (ws : List Jvm.Cond) (p0 : Int32) (p1 : Int32) (w0 : Addr) (w1 : Addr) (w2 : Addr) (w3 : Addr) (h0 : Heap) (n0 : Nat) (Z0 : n0 ≤ h0.size) (K : own_K Z h0 w0 w1 w2 w3) :
    MetFree l x (head1 (Jvm.Cond.code x code maxLocals ret :: ws) room_1) (fun a U => a = #[(.int p0), (.int p1)] ∧ Z.Warmed39 U.vm ∧ U.heap = h0) (fun _ _ _ _ _ => True) (fun _ U o U' => ∃ v L, o = .returned v ∧ Q0 n0 v U'.heap L ∧ FrameEnd U o U' L 0 0) := by
  refine MetFree.of_bodySF (plainFor_of_name pn0) hisR ?_
  intro p e s m args below meth c s₁ Bd hml0 hP hK
  obtain ⟨rfl, hZ, hh⟩ := hP
  have hx := Bd.exec
  have hby := Bd.bytes
  have hml : c.maxLocals = 9 := hml0
  have hown : s.vm.findClass "com/example/bericht/bericht/selector/ValueTypeAdmitsPinLaw" = some m.cls := findClass_of_methodNamed Bd.named
  have hnm := (name_of_methodNamed Bd.named Bd.method).1
  have hlk := Bd.notSynchronized
  have X0 : Stand p l e room_1 s m #[(.int p0), (.int p1)] below meth c s₁ [] 0 0 := Stand.of_body Bd
  have e0 : s₁.heap = h0 := by rw [← hh, Bd.state]; rfl
  have K0 := K
  obtain ⟨S_w0, S_w1, S_w2, S_w3, E_w0, E_w1, E_w2, E_w3, F_w0_ordinal, F_w1_ordinal, F_w2_ordinal, F_w3_ordinal, n_w0_w1, n_w0_w2, n_w0_w3, n_w1_w2, n_w1_w3, n_w2_w3⟩ := K
  show own_Go p e below s (Q0 n0) 0 0 (s₁.setTop (entryFrame m #[(.int p0), (.int p1)] maxLocals))
  rw [show entryFrame m #[(.int p0), (.int p1)] maxLocals = mkF m 0 #[.val (.int p0), .val (.int p1), .unset, .unset, .unset, .unset, .unset, .unset, .unset] [] from by first | (simp [entryFrame, mkF, argsToLocals, Value.category, maxLocals]; done) | rfl]
  show own_Go p e below s _ _ _ (s₁.setTop (mkF m 0 #[.val (.int p0), .val (.int p1), .unset, .unset, .unset, .unset, .unset, .unset, .unset] []))
  refine own_via (fun _ k => XS.iloadN X0.here hx rfl (hb hby at_0) rfl k) ?_
  show own_Go p e below s _ _ _ (s₁.setTop (mkF m 1 #[.val (.int p0), .val (.int p1), .unset, .unset, .unset, .unset, .unset, .unset, .unset] [(.int p0)]))
  refine own_via (fun _ k => XS.iconst X0.here hx rfl (hb hby at_1) k) ?_
  show own_Go p e below s _ _ _ (s₁.setTop (mkF m 2 #[.val (.int p0), .val (.int p1), .unset, .unset, .unset, .unset, .unset, .unset, .unset] [(.int (3 : Int32)), (.int p0)]))
  refine own_via (fun _ k => XS.iand X0.here hx rfl (hb hby at_2) rfl k) ?_
  rcases (own_and3 _ : (p0 &&& (3 : Int32)) = (0 : Int32) ∨ (p0 &&& (3 : Int32)) = (1 : Int32) ∨ (p0 &&& (3 : Int32)) = (2 : Int32) ∨ (p0 &&& (3 : Int32)) = (3 : Int32)) with hk1 | hk2 | hk3 | hk4
  · rw [hk1]
    show own_Go p e below s _ _ _ (s₁.setTop (mkF m 3 #[.val (.int p0), .val (.int p1), .unset, .unset, .unset, .unset, .unset, .unset, .unset] [(.int (0 : Int32))]))
    refine own_via (fun _ k => XS.istoreN X0.here hx rfl (hb hby at_3) rfl (l' := #[.val (.int p0), .val (.int p1), .val (.int (0 : Int32)), .unset, .unset, .unset, .unset, .unset, .unset]) rfl k) ?_
    show own_Go p e below s _ _ _ (s₁.setTop (mkF m 4 #[.val (.int p0), .val (.int p1), .val (.int (0 : Int32)), .unset, .unset, .unset, .unset, .unset, .unset] []))
    refine own_via (fun _ k => XS.iloadN X0.here hx rfl (hb hby at_4) rfl k) ?_
    show own_Go p e below s _ _ _ (s₁.setTop (mkF m 5 #[.val (.int p0), .val (.int p1), .val (.int (0 : Int32)), .unset, .unset, .unset, .unset, .unset, .unset] [(.int p1)]))
    refine own_via (fun _ k => XS.iconst X0.here hx rfl (hb hby at_5) k) ?_
    show own_Go p e below s _ _ _ (s₁.setTop (mkF m 6 #[.val (.int p0), .val (.int p1), .val (.int (0 : Int32)), .unset, .unset, .unset, .unset, .unset, .unset] [(.int (3 : Int32)), (.int p1)]))
    refine own_via (fun _ k => XS.iand X0.here hx rfl (hb hby at_6) rfl k) ?_
    rcases (own_and3 _ : (p1 &&& (3 : Int32)) = (0 : Int32) ∨ (p1 &&& (3 : Int32)) = (1 : Int32) ∨ (p1 &&& (3 : Int32)) = (2 : Int32) ∨ (p1 &&& (3 : Int32)) = (3 : Int32)) with hk5 | hk6 | hk7 | hk8
    · rw [hk5]
      show own_Go p e below s _ _ _ (s₁.setTop (mkF m 7 #[.val (.int p0), .val (.int p1), .val (.int (0 : Int32)), .unset, .unset, .unset, .unset, .unset, .unset] [(.int (0 : Int32))]))
      refine own_via (fun _ k => XS.istoreN X0.here hx rfl (hb hby at_7) rfl (l' := #[.val (.int p0), .val (.int p1), .val (.int (0 : Int32)), .val (.int (0 : Int32)), .unset, .unset, .unset, .unset, .unset]) rfl k) ?_
      show own_Go p e below s _ _ _ (s₁.setTop (mkF m 8 #[.val (.int p0), .val (.int p1), .val (.int (0 : Int32)), .val (.int (0 : Int32)), .unset, .unset, .unset, .unset, .unset] []))
      refine own_via (fun _ k => XS.iloadN X0.here hx rfl (hb hby at_8) rfl k) ?_
      show own_Go p e below s _ _ _ (s₁.setTop (mkF m 9 #[.val (.int p0), .val (.int p1), .val (.int (0 : Int32)), .val (.int (0 : Int32)), .unset, .unset, .unset, .unset, .unset] [(.int (0 : Int32))]))
      obtain ⟨_, _, ⟨T9, L9, k9, n9⟩, -, X9, ⟨Lc9, hQ9, l9, y9, z9⟩, st9⟩ := Jvm.LawKit.callS X0 hx (y := (⟨"com/example/bericht/bericht/selector/ValueTypeAdmitsPinLaw", "pick", "(I)Lcom/example/bericht/bericht/selector/ValueType;"⟩ : MethodName)) hown (mvT hZ (hw _ (List.mem_of_getElem? (i := 0) rfl))) (mvT hZ (hw _ (List.mem_of_getElem? (i := 1) rfl))) (mvT hZ (hw _ (List.mem_of_getElem? (i := 2) rfl))) (mvT hZ (hw _ (List.mem_of_getElem? (i := 3) rfl))) (by decide) (backOf (W := 0) (rm1_0 l Z a0 hw [] w0 w1 w2 w3 h0 n0 Z0 K0) hZ (hw _ (List.mem_of_getElem? (i := 3) rfl)) (hw _ (List.mem_of_getElem? (i := 2) rfl)) (by decide) (by decide)) (g := (mkF m 9 #[.val (.int p0), .val (.int p1), .val (.int (0 : Int32)), .val (.int (0 : Int32)), .unset, .unset, .unset, .unset, .unset] [(.int (0 : Int32))])) rfl (by rw [hml]; rfl) (argsL := [(.int (0 : Int32))]) (rest := []) (lenOf pd0 rfl) rfl (by show 2 * 0 + _ ≤ _; exact Nat.le_of_eq rfl) (hb hby at_9) (fun _ _ => ⟨rfl, e0, (by decide : 0 + 0 ≤ _), (by decide : 0 + 0 ≤ _)⟩)
      dsimp only [Pt.U, Pt.locs, Pt.cells, Pt.slots] at X9 l9 y9 z9 st9 hQ9
      subst l9 y9 z9
      obtain ⟨rfl, e9, hO9⟩ := hQ9
      obtain rfl := hO9
      refine own_via st9 ?_
      show own_Go p e below s _ _ _ (T9.setTop (mkF m 12 #[.val (.int p0), .val (.int p1), .val (.int (0 : Int32)), .val (.int (0 : Int32)), .unset, .unset, .unset, .unset, .unset] [(.ref w0)]))
      refine own_via (fun _ k => XS.astore X9.here hx rfl (hb hby at_12) rfl rfl (l' := #[.val (.int p0), .val (.int p1), .val (.int (0 : Int32)), .val (.int (0 : Int32)), .val (.ref w0), .unset, .unset, .unset, .unset]) rfl k) ?_
      show own_Go p e below s _ _ _ (T9.setTop (mkF m 14 #[.val (.int p0), .val (.int p1), .val (.int (0 : Int32)), .val (.int (0 : Int32)), .val (.ref w0), .unset, .unset, .unset, .unset] []))
      refine own_via (fun _ k => XS.iloadN X9.here hx rfl (hb hby at_14) rfl k) ?_
      show own_Go p e below s _ _ _ (T9.setTop (mkF m 15 #[.val (.int p0), .val (.int p1), .val (.int (0 : Int32)), .val (.int (0 : Int32)), .val (.ref w0), .unset, .unset, .unset, .unset] [(.int (0 : Int32))]))
      obtain ⟨_, _, ⟨T10, L10, k10, n10⟩, -, X10, ⟨Lc10, hQ10, l10, y10, z10⟩, st10⟩ := Jvm.LawKit.callS X9 hx (y := (⟨"com/example/bericht/bericht/selector/ValueTypeAdmitsPinLaw", "pick", "(I)Lcom/example/bericht/bericht/selector/ValueType;"⟩ : MethodName)) hown (mvT hZ (hw _ (List.mem_of_getElem? (i := 0) rfl))) (mvT hZ (hw _ (List.mem_of_getElem? (i := 1) rfl))) (mvT hZ (hw _ (List.mem_of_getElem? (i := 2) rfl))) (mvT hZ (hw _ (List.mem_of_getElem? (i := 3) rfl))) (by decide) (backOf (W := 0) (rm1_0 l Z a0 hw [] w0 w1 w2 w3 h0 n0 Z0 K0) hZ (hw _ (List.mem_of_getElem? (i := 3) rfl)) (hw _ (List.mem_of_getElem? (i := 2) rfl)) (by decide) (by decide)) (g := (mkF m 15 #[.val (.int p0), .val (.int p1), .val (.int (0 : Int32)), .val (.int (0 : Int32)), .val (.ref w0), .unset, .unset, .unset, .unset] [(.int (0 : Int32))])) rfl (by rw [hml]; rfl) (argsL := [(.int (0 : Int32))]) (rest := []) (lenOf pd0 rfl) rfl (by show 2 * 0 + _ ≤ _; exact Nat.le_of_eq rfl) (hb hby at_15) (fun _ _ => ⟨rfl, e9, (by decide : 0 + 0 ≤ _), (by decide : 0 + 0 ≤ _)⟩)
      dsimp only [Pt.U, Pt.locs, Pt.cells, Pt.slots] at X10 l10 y10 z10 st10 hQ10
      subst l10 y10 z10
      obtain ⟨rfl, e10, hO10⟩ := hQ10
      obtain rfl := hO10
      refine own_via st10 ?_
      show own_Go p e below s _ _ _ (T10.setTop (mkF m 18 #[.val (.int p0), .val (.int p1), .val (.int (0 : Int32)), .val (.int (0 : Int32)), .val (.ref w0), .unset, .unset, .unset, .unset] [(.ref w0)]))
      refine own_via (fun _ k => XS.astore X10.here hx rfl (hb hby at_18) rfl rfl (l' := #[.val (.int p0), .val (.int p1), .val (.int (0 : Int32)), .val (.int (0 : Int32)), .val (.ref w0), .val (.ref w0), .unset, .unset, .unset]) rfl k) ?_
      show own_Go p e below s _ _ _ (T10.setTop (mkF m 20 #[.val (.int p0), .val (.int p1), .val (.int (0 : Int32)), .val (.int (0 : Int32)), .val (.ref w0), .val (.ref w0), .unset, .unset, .unset] []))
      refine own_via (fun _ k => XS.aload X10.here hx rfl (hb hby at_20) rfl rfl k) ?_
      show own_Go p e below s _ _ _ (T10.setTop (mkF m 22 #[.val (.int p0), .val (.int p1), .val (.int (0 : Int32)), .val (.int (0 : Int32)), .val (.ref w0), .val (.ref w0), .unset, .unset, .unset] [(.ref w0)]))
      refine own_via (fun _ k => XS.aload X10.here hx rfl (hb hby at_22) rfl rfl k) ?_
      show own_Go p e below s _ _ _ (T10.setTop (mkF m 24 #[.val (.int p0), .val (.int p1), .val (.int (0 : Int32)), .val (.int (0 : Int32)), .val (.ref w0), .val (.ref w0), .unset, .unset, .unset] [(.ref w0), (.ref w0)]))
      obtain ⟨cq11, kq11, q11a, q11b, q11c⟩ := isOf hZ e10 E_w0
      obtain ⟨_, _, ⟨T11, L11, k11, n11⟩, -, X11, ⟨Lc11, hQ11, l11, y11, z11⟩, st11⟩ := X10.virtualBack hx (y := (⟨"com/example/bericht/bericht/selector/ValueType", "admits", "(Lcom/example/bericht/bericht/selector/ValueType;)Z"⟩ : MethodName)) (z := (⟨"com/example/bericht/bericht/selector/ValueType", "admits", "(Lcom/example/bericht/bericht/selector/ValueType;)Z"⟩ : MethodName)) hown (mvT hZ (hw _ (List.mem_of_getElem? (i := 9) rfl))) (mvT hZ (hw _ (List.mem_of_getElem? (i := 10) rfl))) (notFace_of_selects (args := #[]) (mvT hZ (hw _ (List.mem_of_getElem? (i := 12) rfl)))) (mvT hZ (hw _ (List.mem_of_getElem? (i := 12) rfl))) (mvT hZ (hw _ (List.mem_of_getElem? (i := 11) rfl))) (by decide) (backOf (W := 0) (rm2_0 l Z a0 hw [] w0 w1 w2 w3 h0 n0 Z0 K0) hZ (hw _ (List.mem_of_getElem? (i := 13) rfl)) (hw _ (List.mem_of_getElem? (i := 5) rfl)) (by decide) (by decide)) q11a q11c (g := (mkF m 24 #[.val (.int p0), .val (.int p1), .val (.int (0 : Int32)), .val (.int (0 : Int32)), .val (.ref w0), .val (.ref w0), .unset, .unset, .unset] [(.ref w0), (.ref w0)])) rfl (by rw [hml]; rfl) (Steps.refl _) (argsL := [(.ref w0)]) (rest := []) (lenOf pd1 rfl) rfl (by show 2 * 0 + _ ≤ _; exact Nat.le_of_eq rfl) (hb hby at_24) (fun _ _ => ⟨rfl, e10, (by decide : 0 + 0 ≤ _), (by decide : 0 + 0 ≤ _)⟩)
      dsimp only [Pt.U, Pt.locs, Pt.cells, Pt.slots] at X11 l11 y11 z11 st11 hQ11
      subst l11 y11 z11
      obtain ⟨rfl, e11, hO11⟩ := hQ11
      obtain rfl := hO11
      refine own_tr st11 ?_
      show own_Go p e below s _ _ _ (T11.setTop (mkF m 27 #[.val (.int p0), .val (.int p1), .val (.int (0 : Int32)), .val (.int (0 : Int32)), .val (.ref w0), .val (.ref w0), .unset, .unset, .unset] [(.int (1 : Int32))]))
      refine own_via (fun _ k => XS.istore X11.here hx rfl (hb hby at_27) rfl (l' := #[.val (.int p0), .val (.int p1), .val (.int (0 : Int32)), .val (.int (0 : Int32)), .val (.ref w0), .val (.ref w0), .val (.int (1 : Int32)), .unset, .unset]) rfl k) ?_
      show own_Go p e below s _ _ _ (T11.setTop (mkF m 29 #[.val (.int p0), .val (.int p1), .val (.int (0 : Int32)), .val (.int (0 : Int32)), .val (.ref w0), .val (.ref w0), .val (.int (1 : Int32)), .unset, .unset] []))
      refine own_via (fun _ k => XS.aload X11.here hx rfl (hb hby at_29) rfl rfl k) ?_
      show own_Go p e below s _ _ _ (T11.setTop (mkF m 31 #[.val (.int p0), .val (.int p1), .val (.int (0 : Int32)), .val (.int (0 : Int32)), .val (.ref w0), .val (.ref w0), .val (.int (1 : Int32)), .unset, .unset] [(.ref w0)]))
      refine own_via (fun _ k => XS.aload X11.here hx rfl (hb hby at_31) rfl rfl k) ?_
      show own_Go p e below s _ _ _ (T11.setTop (mkF m 33 #[.val (.int p0), .val (.int p1), .val (.int (0 : Int32)), .val (.int (0 : Int32)), .val (.ref w0), .val (.ref w0), .val (.int (1 : Int32)), .unset, .unset] [(.ref w0), (.ref w0)]))
      obtain ⟨cq12, kq12, q12a, q12b, q12c⟩ := isOf hZ e11 E_w0
      obtain ⟨_, _, ⟨T12, L12, k12, n12⟩, -, X12, ⟨Lc12, hQ12, l12, y12, z12⟩, st12⟩ := X11.virtualBack hx (y := (⟨"com/example/bericht/bericht/selector/ValueType", "admits", "(Lcom/example/bericht/bericht/selector/ValueType;)Z"⟩ : MethodName)) (z := (⟨"com/example/bericht/bericht/selector/ValueType", "admits", "(Lcom/example/bericht/bericht/selector/ValueType;)Z"⟩ : MethodName)) hown (mvT hZ (hw _ (List.mem_of_getElem? (i := 9) rfl))) (mvT hZ (hw _ (List.mem_of_getElem? (i := 10) rfl))) (notFace_of_selects (args := #[]) (mvT hZ (hw _ (List.mem_of_getElem? (i := 12) rfl)))) (mvT hZ (hw _ (List.mem_of_getElem? (i := 12) rfl))) (mvT hZ (hw _ (List.mem_of_getElem? (i := 11) rfl))) (by decide) (backOf (W := 0) (rm2_0 l Z a0 hw [] w0 w1 w2 w3 h0 n0 Z0 K0) hZ (hw _ (List.mem_of_getElem? (i := 13) rfl)) (hw _ (List.mem_of_getElem? (i := 5) rfl)) (by decide) (by decide)) q12a q12c (g := (mkF m 33 #[.val (.int p0), .val (.int p1), .val (.int (0 : Int32)), .val (.int (0 : Int32)), .val (.ref w0), .val (.ref w0), .val (.int (1 : Int32)), .unset, .unset] [(.ref w0), (.ref w0)])) rfl (by rw [hml]; rfl) (Steps.refl _) (argsL := [(.ref w0)]) (rest := []) (lenOf pd1 rfl) rfl (by show 2 * 0 + _ ≤ _; exact Nat.le_of_eq rfl) (hb hby at_33) (fun _ _ => ⟨rfl, e11, (by decide : 0 + 0 ≤ _), (by decide : 0 + 0 ≤ _)⟩)
      dsimp only [Pt.U, Pt.locs, Pt.cells, Pt.slots] at X12 l12 y12 z12 st12 hQ12
      subst l12 y12 z12
      obtain ⟨rfl, e12, hO12⟩ := hQ12
      obtain rfl := hO12
      refine own_tr st12 ?_
      show own_Go p e below s _ _ _ (T12.setTop (mkF m 36 #[.val (.int p0), .val (.int p1), .val (.int (0 : Int32)), .val (.int (0 : Int32)), .val (.ref w0), .val (.ref w0), .val (.int (1 : Int32)), .unset, .unset] [(.int (1 : Int32))]))
      refine own_via (fun _ k => XS.istore X12.here hx rfl (hb hby at_36) rfl (l' := #[.val (.int p0), .val (.int p1), .val (.int (0 : Int32)), .val (.int (0 : Int32)), .val (.ref w0), .val (.ref w0), .val (.int (1 : Int32)), .val (.int (1 : Int32)), .unset]) rfl k) ?_
      show own_Go p e below s _ _ _ (T12.setTop (mkF m 38 #[.val (.int p0), .val (.int p1), .val (.int (0 : Int32)), .val (.int (0 : Int32)), .val (.ref w0), .val (.ref w0), .val (.int (1 : Int32)), .val (.int (1 : Int32)), .unset] []))
      refine own_via (fun _ k => XS.iloadN X12.here hx rfl (hb hby at_38) rfl k) ?_
      show own_Go p e below s _ _ _ (T12.setTop (mkF m 39 #[.val (.int p0), .val (.int p1), .val (.int (0 : Int32)), .val (.int (0 : Int32)), .val (.ref w0), .val (.ref w0), .val (.int (1 : Int32)), .val (.int (1 : Int32)), .unset] [(.int (0 : Int32))]))
      refine own_via (fun _ k => XS.iloadN X12.here hx rfl (hb hby at_39) rfl k) ?_
      show own_Go p e below s _ _ _ (T12.setTop (mkF m 40 #[.val (.int p0), .val (.int p1), .val (.int (0 : Int32)), .val (.int (0 : Int32)), .val (.ref w0), .val (.ref w0), .val (.int (1 : Int32)), .val (.int (1 : Int32)), .unset] [(.int (0 : Int32)), (.int (0 : Int32))]))
      obtain ⟨_, _, ⟨T13, L13, k13, n13⟩, -, X13, ⟨Lc13, hQ13, l13, y13, z13⟩, st13⟩ := Jvm.LawKit.callS X12 hx (y := (⟨"com/example/bericht/bericht/selector/ValueTypeAdmitsPinLaw", "expected", "(II)Z"⟩ : MethodName)) hown (mvT hZ (hw _ (List.mem_of_getElem? (i := 15) rfl))) (mvT hZ (hw _ (List.mem_of_getElem? (i := 16) rfl))) (mvT hZ (hw _ (List.mem_of_getElem? (i := 2) rfl))) (mvT hZ (hw _ (List.mem_of_getElem? (i := 17) rfl))) (by decide) (backOf (W := 0) (rm3_0 l Z a0 hw [] w0 w1 w2 w3 h0 n0 Z0 K0) hZ (hw _ (List.mem_of_getElem? (i := 17) rfl)) (hw _ (List.mem_of_getElem? (i := 2) rfl)) (by decide) (by decide)) (g := (mkF m 40 #[.val (.int p0), .val (.int p1), .val (.int (0 : Int32)), .val (.int (0 : Int32)), .val (.ref w0), .val (.ref w0), .val (.int (1 : Int32)), .val (.int (1 : Int32)), .unset] [(.int (0 : Int32)), (.int (0 : Int32))])) rfl (by rw [hml]; rfl) (argsL := [(.int (0 : Int32)), (.int (0 : Int32))]) (rest := []) (lenOf pd2 rfl) rfl (by show 2 * 0 + _ ≤ _; exact Nat.le_of_eq rfl) (hb hby at_40) (fun _ _ => ⟨rfl, e12, (by decide : 0 + 0 ≤ _), (by decide : 0 + 0 ≤ _)⟩)
      dsimp only [Pt.U, Pt.locs, Pt.cells, Pt.slots] at X13 l13 y13 z13 st13 hQ13
      subst l13 y13 z13
      obtain ⟨rfl, e13, hO13⟩ := hQ13
      obtain rfl := hO13
      refine own_via st13 ?_
      show own_Go p e below s _ _ _ (T13.setTop (mkF m 43 #[.val (.int p0), .val (.int p1), .val (.int (0 : Int32)), .val (.int (0 : Int32)), .val (.ref w0), .val (.ref w0), .val (.int (1 : Int32)), .val (.int (1 : Int32)), .unset] [(.int (1 : Int32))]))
      refine own_via (fun _ k => XS.istore X13.here hx rfl (hb hby at_43) rfl (l' := #[.val (.int p0), .val (.int p1), .val (.int (0 : Int32)), .val (.int (0 : Int32)), .val (.ref w0), .val (.ref w0), .val (.int (1 : Int32)), .val (.int (1 : Int32)), .val (.int (1 : Int32))]) rfl k) ?_
      show own_Go p e below s _ _ _ (T13.setTop (mkF m 45 #[.val (.int p0), .val (.int p1), .val (.int (0 : Int32)), .val (.int (0 : Int32)), .val (.ref w0), .val (.ref w0), .val (.int (1 : Int32)), .val (.int (1 : Int32)), .val (.int (1 : Int32))] []))
      refine own_via (fun _ k => XS.iload X13.here hx rfl (hb hby at_45) rfl k) ?_
      show own_Go p e below s _ _ _ (T13.setTop (mkF m 47 #[.val (.int p0), .val (.int p1), .val (.int (0 : Int32)), .val (.int (0 : Int32)), .val (.ref w0), .val (.ref w0), .val (.int (1 : Int32)), .val (.int (1 : Int32)), .val (.int (1 : Int32))] [(.int (1 : Int32))]))
      refine own_via (fun _ k => XS.iload X13.here hx rfl (hb hby at_47) rfl k) ?_
      show own_Go p e below s _ _ _ (T13.setTop (mkF m 49 #[.val (.int p0), .val (.int p1), .val (.int (0 : Int32)), .val (.int (0 : Int32)), .val (.ref w0), .val (.ref w0), .val (.int (1 : Int32)), .val (.int (1 : Int32)), .val (.int (1 : Int32))] [(.int (1 : Int32)), (.int (1 : Int32))]))
      refine own_via (fun _ k => XS.icmpNo X13.here hx rfl (hb hby at_49) rfl (teq (by decide : (1 : Int32) = (1 : Int32))).2 k) ?_
      show own_Go p e below s _ _ _ (T13.setTop (mkF m 52 #[.val (.int p0), .val (.int p1), .val (.int (0 : Int32)), .val (.int (0 : Int32)), .val (.ref w0), .val (.ref w0), .val (.int (1 : Int32)), .val (.int (1 : Int32)), .val (.int (1 : Int32))] []))
      refine own_via (fun _ k => XS.iload X13.here hx rfl (hb hby at_52) rfl k) ?_
      show own_Go p e below s _ _ _ (T13.setTop (mkF m 54 #[.val (.int p0), .val (.int p1), .val (.int (0 : Int32)), .val (.int (0 : Int32)), .val (.ref w0), .val (.ref w0), .val (.int (1 : Int32)), .val (.int (1 : Int32)), .val (.int (1 : Int32))] [(.int (1 : Int32))]))
      refine own_via (fun _ k => XS.iload X13.here hx rfl (hb hby at_54) rfl k) ?_
      show own_Go p e below s _ _ _ (T13.setTop (mkF m 56 #[.val (.int p0), .val (.int p1), .val (.int (0 : Int32)), .val (.int (0 : Int32)), .val (.ref w0), .val (.ref w0), .val (.int (1 : Int32)), .val (.int (1 : Int32)), .val (.int (1 : Int32))] [(.int (1 : Int32)), (.int (1 : Int32))]))
      refine own_via (fun _ k => XS.icmpNo X13.here hx rfl (hb hby at_56) rfl (teq (by decide : (1 : Int32) = (1 : Int32))).2 k) ?_
      show own_Go p e below s _ _ _ (T13.setTop (mkF m 59 #[.val (.int p0), .val (.int p1), .val (.int (0 : Int32)), .val (.int (0 : Int32)), .val (.ref w0), .val (.ref w0), .val (.int (1 : Int32)), .val (.int (1 : Int32)), .val (.int (1 : Int32))] []))
      refine own_via (fun _ k => XS.iconst X13.here hx rfl (hb hby at_59) k) ?_
      show own_Go p e below s _ _ _ (T13.setTop (mkF m 60 #[.val (.int p0), .val (.int p1), .val (.int (0 : Int32)), .val (.int (0 : Int32)), .val (.ref w0), .val (.ref w0), .val (.int (1 : Int32)), .val (.int (1 : Int32)), .val (.int (1 : Int32))] [(.int (1 : Int32))]))
      refine own_via (fun _ k => XS.goto X13.here hx rfl (pc0 := 60) (pc' := 64) rfl (hb hby at_60) (by decide) (by decide) k) ?_
      show own_Go p e below s _ _ _ (T13.setTop (mkF m 64 #[.val (.int p0), .val (.int p1), .val (.int (0 : Int32)), .val (.int (0 : Int32)), .val (.ref w0), .val (.ref w0), .val (.int (1 : Int32)), .val (.int (1 : Int32)), .val (.int (1 : Int32))] [(.int (1 : Int32))]))
      exact own_retZ X13 hx hlk (t := .boolean) Bd.returns (by simp) (hb hby at_64) (z' := (1 : Int32)) (by first | rfl | decide) ⟨rfl, (Fr.nil n0)⟩ (by decide) (by decide)
    · rw [hk6]
      show own_Go p e below s _ _ _ (s₁.setTop (mkF m 7 #[.val (.int p0), .val (.int p1), .val (.int (0 : Int32)), .unset, .unset, .unset, .unset, .unset, .unset] [(.int (1 : Int32))]))
      refine own_via (fun _ k => XS.istoreN X0.here hx rfl (hb hby at_7) rfl (l' := #[.val (.int p0), .val (.int p1), .val (.int (0 : Int32)), .val (.int (1 : Int32)), .unset, .unset, .unset, .unset, .unset]) rfl k) ?_
      show own_Go p e below s _ _ _ (s₁.setTop (mkF m 8 #[.val (.int p0), .val (.int p1), .val (.int (0 : Int32)), .val (.int (1 : Int32)), .unset, .unset, .unset, .unset, .unset] []))
      refine own_via (fun _ k => XS.iloadN X0.here hx rfl (hb hby at_8) rfl k) ?_
      show own_Go p e below s _ _ _ (s₁.setTop (mkF m 9 #[.val (.int p0), .val (.int p1), .val (.int (0 : Int32)), .val (.int (1 : Int32)), .unset, .unset, .unset, .unset, .unset] [(.int (0 : Int32))]))
      obtain ⟨_, _, ⟨T14, L14, k14, n14⟩, -, X14, ⟨Lc14, hQ14, l14, y14, z14⟩, st14⟩ := Jvm.LawKit.callS X0 hx (y := (⟨"com/example/bericht/bericht/selector/ValueTypeAdmitsPinLaw", "pick", "(I)Lcom/example/bericht/bericht/selector/ValueType;"⟩ : MethodName)) hown (mvT hZ (hw _ (List.mem_of_getElem? (i := 0) rfl))) (mvT hZ (hw _ (List.mem_of_getElem? (i := 1) rfl))) (mvT hZ (hw _ (List.mem_of_getElem? (i := 2) rfl))) (mvT hZ (hw _ (List.mem_of_getElem? (i := 3) rfl))) (by decide) (backOf (W := 0) (rm1_0 l Z a0 hw [] w0 w1 w2 w3 h0 n0 Z0 K0) hZ (hw _ (List.mem_of_getElem? (i := 3) rfl)) (hw _ (List.mem_of_getElem? (i := 2) rfl)) (by decide) (by decide)) (g := (mkF m 9 #[.val (.int p0), .val (.int p1), .val (.int (0 : Int32)), .val (.int (1 : Int32)), .unset, .unset, .unset, .unset, .unset] [(.int (0 : Int32))])) rfl (by rw [hml]; rfl) (argsL := [(.int (0 : Int32))]) (rest := []) (lenOf pd0 rfl) rfl (by show 2 * 0 + _ ≤ _; exact Nat.le_of_eq rfl) (hb hby at_9) (fun _ _ => ⟨rfl, e0, (by decide : 0 + 0 ≤ _), (by decide : 0 + 0 ≤ _)⟩)
      dsimp only [Pt.U, Pt.locs, Pt.cells, Pt.slots] at X14 l14 y14 z14 st14 hQ14
      subst l14 y14 z14
      obtain ⟨rfl, e14, hO14⟩ := hQ14
      obtain rfl := hO14
      refine own_via st14 ?_
      show own_Go p e below s _ _ _ (T14.setTop (mkF m 12 #[.val (.int p0), .val (.int p1), .val (.int (0 : Int32)), .val (.int (1 : Int32)), .unset, .unset, .unset, .unset, .unset] [(.ref w0)]))
      refine own_via (fun _ k => XS.astore X14.here hx rfl (hb hby at_12) rfl rfl (l' := #[.val (.int p0), .val (.int p1), .val (.int (0 : Int32)), .val (.int (1 : Int32)), .val (.ref w0), .unset, .unset, .unset, .unset]) rfl k) ?_
      show own_Go p e below s _ _ _ (T14.setTop (mkF m 14 #[.val (.int p0), .val (.int p1), .val (.int (0 : Int32)), .val (.int (1 : Int32)), .val (.ref w0), .unset, .unset, .unset, .unset] []))
      refine own_via (fun _ k => XS.iloadN X14.here hx rfl (hb hby at_14) rfl k) ?_
      show own_Go p e below s _ _ _ (T14.setTop (mkF m 15 #[.val (.int p0), .val (.int p1), .val (.int (0 : Int32)), .val (.int (1 : Int32)), .val (.ref w0), .unset, .unset, .unset, .unset] [(.int (1 : Int32))]))
      obtain ⟨_, _, ⟨T15, L15, k15, n15⟩, -, X15, ⟨Lc15, hQ15, l15, y15, z15⟩, st15⟩ := Jvm.LawKit.callS X14 hx (y := (⟨"com/example/bericht/bericht/selector/ValueTypeAdmitsPinLaw", "pick", "(I)Lcom/example/bericht/bericht/selector/ValueType;"⟩ : MethodName)) hown (mvT hZ (hw _ (List.mem_of_getElem? (i := 0) rfl))) (mvT hZ (hw _ (List.mem_of_getElem? (i := 1) rfl))) (mvT hZ (hw _ (List.mem_of_getElem? (i := 2) rfl))) (mvT hZ (hw _ (List.mem_of_getElem? (i := 3) rfl))) (by decide) (backOf (W := 0) (rm1_1 l Z a0 hw [] w0 w1 w2 w3 h0 n0 Z0 K0) hZ (hw _ (List.mem_of_getElem? (i := 3) rfl)) (hw _ (List.mem_of_getElem? (i := 2) rfl)) (by decide) (by decide)) (g := (mkF m 15 #[.val (.int p0), .val (.int p1), .val (.int (0 : Int32)), .val (.int (1 : Int32)), .val (.ref w0), .unset, .unset, .unset, .unset] [(.int (1 : Int32))])) rfl (by rw [hml]; rfl) (argsL := [(.int (1 : Int32))]) (rest := []) (lenOf pd0 rfl) rfl (by show 2 * 0 + _ ≤ _; exact Nat.le_of_eq rfl) (hb hby at_15) (fun _ _ => ⟨rfl, e14, (by decide : 0 + 0 ≤ _), (by decide : 0 + 0 ≤ _)⟩)
      dsimp only [Pt.U, Pt.locs, Pt.cells, Pt.slots] at X15 l15 y15 z15 st15 hQ15
      subst l15 y15 z15
      obtain ⟨rfl, e15, hO15⟩ := hQ15
      obtain rfl := hO15
      refine own_via st15 ?_
      show own_Go p e below s _ _ _ (T15.setTop (mkF m 18 #[.val (.int p0), .val (.int p1), .val (.int (0 : Int32)), .val (.int (1 : Int32)), .val (.ref w0), .unset, .unset, .unset, .unset] [(.ref w3)]))
      refine own_via (fun _ k => XS.astore X15.here hx rfl (hb hby at_18) rfl rfl (l' := #[.val (.int p0), .val (.int p1), .val (.int (0 : Int32)), .val (.int (1 : Int32)), .val (.ref w0), .val (.ref w3), .unset, .unset, .unset]) rfl k) ?_
      show own_Go p e below s _ _ _ (T15.setTop (mkF m 20 #[.val (.int p0), .val (.int p1), .val (.int (0 : Int32)), .val (.int (1 : Int32)), .val (.ref w0), .val (.ref w3), .unset, .unset, .unset] []))
      refine own_via (fun _ k => XS.aload X15.here hx rfl (hb hby at_20) rfl rfl k) ?_
      show own_Go p e below s _ _ _ (T15.setTop (mkF m 22 #[.val (.int p0), .val (.int p1), .val (.int (0 : Int32)), .val (.int (1 : Int32)), .val (.ref w0), .val (.ref w3), .unset, .unset, .unset] [(.ref w0)]))
      refine own_via (fun _ k => XS.aload X15.here hx rfl (hb hby at_22) rfl rfl k) ?_
      show own_Go p e below s _ _ _ (T15.setTop (mkF m 24 #[.val (.int p0), .val (.int p1), .val (.int (0 : Int32)), .val (.int (1 : Int32)), .val (.ref w0), .val (.ref w3), .unset, .unset, .unset] [(.ref w3), (.ref w0)]))
      obtain ⟨cq16, kq16, q16a, q16b, q16c⟩ := isOf hZ e15 E_w0
      obtain ⟨_, _, ⟨T16, L16, k16, n16⟩, -, X16, ⟨Lc16, hQ16, l16, y16, z16⟩, st16⟩ := X15.virtualBack hx (y := (⟨"com/example/bericht/bericht/selector/ValueType", "admits", "(Lcom/example/bericht/bericht/selector/ValueType;)Z"⟩ : MethodName)) (z := (⟨"com/example/bericht/bericht/selector/ValueType", "admits", "(Lcom/example/bericht/bericht/selector/ValueType;)Z"⟩ : MethodName)) hown (mvT hZ (hw _ (List.mem_of_getElem? (i := 9) rfl))) (mvT hZ (hw _ (List.mem_of_getElem? (i := 10) rfl))) (notFace_of_selects (args := #[]) (mvT hZ (hw _ (List.mem_of_getElem? (i := 12) rfl)))) (mvT hZ (hw _ (List.mem_of_getElem? (i := 12) rfl))) (mvT hZ (hw _ (List.mem_of_getElem? (i := 11) rfl))) (by decide) (backOf (W := 0) (rm2_1 l Z a0 hw [] w0 w1 w2 w3 h0 n0 Z0 K0) hZ (hw _ (List.mem_of_getElem? (i := 13) rfl)) (hw _ (List.mem_of_getElem? (i := 5) rfl)) (by decide) (by decide)) q16a q16c (g := (mkF m 24 #[.val (.int p0), .val (.int p1), .val (.int (0 : Int32)), .val (.int (1 : Int32)), .val (.ref w0), .val (.ref w3), .unset, .unset, .unset] [(.ref w3), (.ref w0)])) rfl (by rw [hml]; rfl) (Steps.refl _) (argsL := [(.ref w3)]) (rest := []) (lenOf pd1 rfl) rfl (by show 2 * 0 + _ ≤ _; exact Nat.le_of_eq rfl) (hb hby at_24) (fun _ _ => ⟨rfl, e15, (by decide : 0 + 0 ≤ _), (by decide : 0 + 0 ≤ _)⟩)
      dsimp only [Pt.U, Pt.locs, Pt.cells, Pt.slots] at X16 l16 y16 z16 st16 hQ16
      subst l16 y16 z16
      obtain ⟨rfl, e16, hO16⟩ := hQ16
      obtain rfl := hO16
      refine own_tr st16 ?_
      show own_Go p e below s _ _ _ (T16.setTop (mkF m 27 #[.val (.int p0), .val (.int p1), .val (.int (0 : Int32)), .val (.int (1 : Int32)), .val (.ref w0), .val (.ref w3), .unset, .unset, .unset] [(.int (0 : Int32))]))
      refine own_via (fun _ k => XS.istore X16.here hx rfl (hb hby at_27) rfl (l' := #[.val (.int p0), .val (.int p1), .val (.int (0 : Int32)), .val (.int (1 : Int32)), .val (.ref w0), .val (.ref w3), .val (.int (0 : Int32)), .unset, .unset]) rfl k) ?_
      show own_Go p e below s _ _ _ (T16.setTop (mkF m 29 #[.val (.int p0), .val (.int p1), .val (.int (0 : Int32)), .val (.int (1 : Int32)), .val (.ref w0), .val (.ref w3), .val (.int (0 : Int32)), .unset, .unset] []))
      refine own_via (fun _ k => XS.aload X16.here hx rfl (hb hby at_29) rfl rfl k) ?_
      show own_Go p e below s _ _ _ (T16.setTop (mkF m 31 #[.val (.int p0), .val (.int p1), .val (.int (0 : Int32)), .val (.int (1 : Int32)), .val (.ref w0), .val (.ref w3), .val (.int (0 : Int32)), .unset, .unset] [(.ref w3)]))
      refine own_via (fun _ k => XS.aload X16.here hx rfl (hb hby at_31) rfl rfl k) ?_
      show own_Go p e below s _ _ _ (T16.setTop (mkF m 33 #[.val (.int p0), .val (.int p1), .val (.int (0 : Int32)), .val (.int (1 : Int32)), .val (.ref w0), .val (.ref w3), .val (.int (0 : Int32)), .unset, .unset] [(.ref w0), (.ref w3)]))
      obtain ⟨cq17, kq17, q17a, q17b, q17c⟩ := isOf hZ e16 E_w3
      obtain ⟨_, _, ⟨T17, L17, k17, n17⟩, -, X17, ⟨Lc17, hQ17, l17, y17, z17⟩, st17⟩ := X16.virtualBack hx (y := (⟨"com/example/bericht/bericht/selector/ValueType", "admits", "(Lcom/example/bericht/bericht/selector/ValueType;)Z"⟩ : MethodName)) (z := (⟨"com/example/bericht/bericht/selector/ValueType", "admits", "(Lcom/example/bericht/bericht/selector/ValueType;)Z"⟩ : MethodName)) hown (mvT hZ (hw _ (List.mem_of_getElem? (i := 9) rfl))) (mvT hZ (hw _ (List.mem_of_getElem? (i := 10) rfl))) (notFace_of_selects (args := #[]) (mvT hZ (hw _ (List.mem_of_getElem? (i := 12) rfl)))) (mvT hZ (hw _ (List.mem_of_getElem? (i := 12) rfl))) (mvT hZ (hw _ (List.mem_of_getElem? (i := 11) rfl))) (by decide) (backOf (W := 0) (rm2_2 l Z a0 hw [] w0 w1 w2 w3 h0 n0 Z0 K0) hZ (hw _ (List.mem_of_getElem? (i := 13) rfl)) (hw _ (List.mem_of_getElem? (i := 5) rfl)) (by decide) (by decide)) q17a q17c (g := (mkF m 33 #[.val (.int p0), .val (.int p1), .val (.int (0 : Int32)), .val (.int (1 : Int32)), .val (.ref w0), .val (.ref w3), .val (.int (0 : Int32)), .unset, .unset] [(.ref w0), (.ref w3)])) rfl (by rw [hml]; rfl) (Steps.refl _) (argsL := [(.ref w0)]) (rest := []) (lenOf pd1 rfl) rfl (by show 2 * 0 + _ ≤ _; exact Nat.le_of_eq rfl) (hb hby at_33) (fun _ _ => ⟨rfl, e16, (by decide : 0 + 0 ≤ _), (by decide : 0 + 0 ≤ _)⟩)
      dsimp only [Pt.U, Pt.locs, Pt.cells, Pt.slots] at X17 l17 y17 z17 st17 hQ17
      subst l17 y17 z17
      obtain ⟨rfl, e17, hO17⟩ := hQ17
      obtain rfl := hO17
      refine own_tr st17 ?_
      show own_Go p e below s _ _ _ (T17.setTop (mkF m 36 #[.val (.int p0), .val (.int p1), .val (.int (0 : Int32)), .val (.int (1 : Int32)), .val (.ref w0), .val (.ref w3), .val (.int (0 : Int32)), .unset, .unset] [(.int (0 : Int32))]))
      refine own_via (fun _ k => XS.istore X17.here hx rfl (hb hby at_36) rfl (l' := #[.val (.int p0), .val (.int p1), .val (.int (0 : Int32)), .val (.int (1 : Int32)), .val (.ref w0), .val (.ref w3), .val (.int (0 : Int32)), .val (.int (0 : Int32)), .unset]) rfl k) ?_
      show own_Go p e below s _ _ _ (T17.setTop (mkF m 38 #[.val (.int p0), .val (.int p1), .val (.int (0 : Int32)), .val (.int (1 : Int32)), .val (.ref w0), .val (.ref w3), .val (.int (0 : Int32)), .val (.int (0 : Int32)), .unset] []))
      refine own_via (fun _ k => XS.iloadN X17.here hx rfl (hb hby at_38) rfl k) ?_
      show own_Go p e below s _ _ _ (T17.setTop (mkF m 39 #[.val (.int p0), .val (.int p1), .val (.int (0 : Int32)), .val (.int (1 : Int32)), .val (.ref w0), .val (.ref w3), .val (.int (0 : Int32)), .val (.int (0 : Int32)), .unset] [(.int (0 : Int32))]))
      refine own_via (fun _ k => XS.iloadN X17.here hx rfl (hb hby at_39) rfl k) ?_
      show own_Go p e below s _ _ _ (T17.setTop (mkF m 40 #[.val (.int p0), .val (.int p1), .val (.int (0 : Int32)), .val (.int (1 : Int32)), .val (.ref w0), .val (.ref w3), .val (.int (0 : Int32)), .val (.int (0 : Int32)), .unset] [(.int (1 : Int32)), (.int (0 : Int32))]))
      obtain ⟨_, _, ⟨T18, L18, k18, n18⟩, -, X18, ⟨Lc18, hQ18, l18, y18, z18⟩, st18⟩ := Jvm.LawKit.callS X17 hx (y := (⟨"com/example/bericht/bericht/selector/ValueTypeAdmitsPinLaw", "expected", "(II)Z"⟩ : MethodName)) hown (mvT hZ (hw _ (List.mem_of_getElem? (i := 15) rfl))) (mvT hZ (hw _ (List.mem_of_getElem? (i := 16) rfl))) (mvT hZ (hw _ (List.mem_of_getElem? (i := 2) rfl))) (mvT hZ (hw _ (List.mem_of_getElem? (i := 17) rfl))) (by decide) (backOf (W := 0) (rm3_1 l Z a0 hw [] w0 w1 w2 w3 h0 n0 Z0 K0) hZ (hw _ (List.mem_of_getElem? (i := 17) rfl)) (hw _ (List.mem_of_getElem? (i := 2) rfl)) (by decide) (by decide)) (g := (mkF m 40 #[.val (.int p0), .val (.int p1), .val (.int (0 : Int32)), .val (.int (1 : Int32)), .val (.ref w0), .val (.ref w3), .val (.int (0 : Int32)), .val (.int (0 : Int32)), .unset] [(.int (1 : Int32)), (.int (0 : Int32))])) rfl (by rw [hml]; rfl) (argsL := [(.int (0 : Int32)), (.int (1 : Int32))]) (rest := []) (lenOf pd2 rfl) rfl (by show 2 * 0 + _ ≤ _; exact Nat.le_of_eq rfl) (hb hby at_40) (fun _ _ => ⟨rfl, e17, (by decide : 0 + 0 ≤ _), (by decide : 0 + 0 ≤ _)⟩)
      dsimp only [Pt.U, Pt.locs, Pt.cells, Pt.slots] at X18 l18 y18 z18 st18 hQ18
      subst l18 y18 z18
      obtain ⟨rfl, e18, hO18⟩ := hQ18
      obtain rfl := hO18
      refine own_via st18 ?_
      show own_Go p e below s _ _ _ (T18.setTop (mkF m 43 #[.val (.int p0), .val (.int p1), .val (.int (0 : Int32)), .val (.int (1 : Int32)), .val (.ref w0), .val (.ref w3), .val (.int (0 : Int32)), .val (.int (0 : Int32)), .unset] [(.int (0 : Int32))]))
      refine own_via (fun _ k => XS.istore X18.here hx rfl (hb hby at_43) rfl (l' := #[.val (.int p0), .val (.int p1), .val (.int (0 : Int32)), .val (.int (1 : Int32)), .val (.ref w0), .val (.ref w3), .val (.int (0 : Int32)), .val (.int (0 : Int32)), .val (.int (0 : Int32))]) rfl k) ?_
      show own_Go p e below s _ _ _ (T18.setTop (mkF m 45 #[.val (.int p0), .val (.int p1), .val (.int (0 : Int32)), .val (.int (1 : Int32)), .val (.ref w0), .val (.ref w3), .val (.int (0 : Int32)), .val (.int (0 : Int32)), .val (.int (0 : Int32))] []))
      refine own_via (fun _ k => XS.iload X18.here hx rfl (hb hby at_45) rfl k) ?_
      show own_Go p e below s _ _ _ (T18.setTop (mkF m 47 #[.val (.int p0), .val (.int p1), .val (.int (0 : Int32)), .val (.int (1 : Int32)), .val (.ref w0), .val (.ref w3), .val (.int (0 : Int32)), .val (.int (0 : Int32)), .val (.int (0 : Int32))] [(.int (0 : Int32))]))
      refine own_via (fun _ k => XS.iload X18.here hx rfl (hb hby at_47) rfl k) ?_
      show own_Go p e below s _ _ _ (T18.setTop (mkF m 49 #[.val (.int p0), .val (.int p1), .val (.int (0 : Int32)), .val (.int (1 : Int32)), .val (.ref w0), .val (.ref w3), .val (.int (0 : Int32)), .val (.int (0 : Int32)), .val (.int (0 : Int32))] [(.int (0 : Int32)), (.int (0 : Int32))]))
      refine own_via (fun _ k => XS.icmpNo X18.here hx rfl (hb hby at_49) rfl (teq (by decide : (0 : Int32) = (0 : Int32))).2 k) ?_
      show own_Go p e below s _ _ _ (T18.setTop (mkF m 52 #[.val (.int p0), .val (.int p1), .val (.int (0 : Int32)), .val (.int (1 : Int32)), .val (.ref w0), .val (.ref w3), .val (.int (0 : Int32)), .val (.int (0 : Int32)), .val (.int (0 : Int32))] []))
      refine own_via (fun _ k => XS.iload X18.here hx rfl (hb hby at_52) rfl k) ?_
      show own_Go p e below s _ _ _ (T18.setTop (mkF m 54 #[.val (.int p0), .val (.int p1), .val (.int (0 : Int32)), .val (.int (1 : Int32)), .val (.ref w0), .val (.ref w3), .val (.int (0 : Int32)), .val (.int (0 : Int32)), .val (.int (0 : Int32))] [(.int (0 : Int32))]))
      refine own_via (fun _ k => XS.iload X18.here hx rfl (hb hby at_54) rfl k) ?_
      show own_Go p e below s _ _ _ (T18.setTop (mkF m 56 #[.val (.int p0), .val (.int p1), .val (.int (0 : Int32)), .val (.int (1 : Int32)), .val (.ref w0), .val (.ref w3), .val (.int (0 : Int32)), .val (.int (0 : Int32)), .val (.int (0 : Int32))] [(.int (0 : Int32)), (.int (0 : Int32))]))
      refine own_via (fun _ k => XS.icmpNo X18.here hx rfl (hb hby at_56) rfl (teq (by decide : (0 : Int32) = (0 : Int32))).2 k) ?_
      show own_Go p e below s _ _ _ (T18.setTop (mkF m 59 #[.val (.int p0), .val (.int p1), .val (.int (0 : Int32)), .val (.int (1 : Int32)), .val (.ref w0), .val (.ref w3), .val (.int (0 : Int32)), .val (.int (0 : Int32)), .val (.int (0 : Int32))] []))
      refine own_via (fun _ k => XS.iconst X18.here hx rfl (hb hby at_59) k) ?_
      show own_Go p e below s _ _ _ (T18.setTop (mkF m 60 #[.val (.int p0), .val (.int p1), .val (.int (0 : Int32)), .val (.int (1 : Int32)), .val (.ref w0), .val (.ref w3), .val (.int (0 : Int32)), .val (.int (0 : Int32)), .val (.int (0 : Int32))] [(.int (1 : Int32))]))
      refine own_via (fun _ k => XS.goto X18.here hx rfl (pc0 := 60) (pc' := 64) rfl (hb hby at_60) (by decide) (by decide) k) ?_
      show own_Go p e below s _ _ _ (T18.setTop (mkF m 64 #[.val (.int p0), .val (.int p1), .val (.int (0 : Int32)), .val (.int (1 : Int32)), .val (.ref w0), .val (.ref w3), .val (.int (0 : Int32)), .val (.int (0 : Int32)), .val (.int (0 : Int32))] [(.int (1 : Int32))]))
      exact own_retZ X18 hx hlk (t := .boolean) Bd.returns (by simp) (hb hby at_64) (z' := (1 : Int32)) (by first | rfl | decide) ⟨rfl, (Fr.nil n0)⟩ (by decide) (by decide)
    · rw [hk7]
      show own_Go p e below s _ _ _ (s₁.setTop (mkF m 7 #[.val (.int p0), .val (.int p1), .val (.int (0 : Int32)), .unset, .unset, .unset, .unset, .unset, .unset] [(.int (2 : Int32))]))
      refine own_via (fun _ k => XS.istoreN X0.here hx rfl (hb hby at_7) rfl (l' := #[.val (.int p0), .val (.int p1), .val (.int (0 : Int32)), .val (.int (2 : Int32)), .unset, .unset, .unset, .unset, .unset]) rfl k) ?_
      show own_Go p e below s _ _ _ (s₁.setTop (mkF m 8 #[.val (.int p0), .val (.int p1), .val (.int (0 : Int32)), .val (.int (2 : Int32)), .unset, .unset, .unset, .unset, .unset] []))
      refine own_via (fun _ k => XS.iloadN X0.here hx rfl (hb hby at_8) rfl k) ?_
      show own_Go p e below s _ _ _ (s₁.setTop (mkF m 9 #[.val (.int p0), .val (.int p1), .val (.int (0 : Int32)), .val (.int (2 : Int32)), .unset, .unset, .unset, .unset, .unset] [(.int (0 : Int32))]))
      obtain ⟨_, _, ⟨T19, L19, k19, n19⟩, -, X19, ⟨Lc19, hQ19, l19, y19, z19⟩, st19⟩ := Jvm.LawKit.callS X0 hx (y := (⟨"com/example/bericht/bericht/selector/ValueTypeAdmitsPinLaw", "pick", "(I)Lcom/example/bericht/bericht/selector/ValueType;"⟩ : MethodName)) hown (mvT hZ (hw _ (List.mem_of_getElem? (i := 0) rfl))) (mvT hZ (hw _ (List.mem_of_getElem? (i := 1) rfl))) (mvT hZ (hw _ (List.mem_of_getElem? (i := 2) rfl))) (mvT hZ (hw _ (List.mem_of_getElem? (i := 3) rfl))) (by decide) (backOf (W := 0) (rm1_0 l Z a0 hw [] w0 w1 w2 w3 h0 n0 Z0 K0) hZ (hw _ (List.mem_of_getElem? (i := 3) rfl)) (hw _ (List.mem_of_getElem? (i := 2) rfl)) (by decide) (by decide)) (g := (mkF m 9 #[.val (.int p0), .val (.int p1), .val (.int (0 : Int32)), .val (.int (2 : Int32)), .unset, .unset, .unset, .unset, .unset] [(.int (0 : Int32))])) rfl (by rw [hml]; rfl) (argsL := [(.int (0 : Int32))]) (rest := []) (lenOf pd0 rfl) rfl (by show 2 * 0 + _ ≤ _; exact Nat.le_of_eq rfl) (hb hby at_9) (fun _ _ => ⟨rfl, e0, (by decide : 0 + 0 ≤ _), (by decide : 0 + 0 ≤ _)⟩)
      dsimp only [Pt.U, Pt.locs, Pt.cells, Pt.slots] at X19 l19 y19 z19 st19 hQ19
      subst l19 y19 z19
      obtain ⟨rfl, e19, hO19⟩ := hQ19
      obtain rfl := hO19
      refine own_via st19 ?_
      show own_Go p e below s _ _ _ (T19.setTop (mkF m 12 #[.val (.int p0), .val (.int p1), .val (.int (0 : Int32)), .val (.int (2 : Int32)), .unset, .unset, .unset, .unset, .unset] [(.ref w0)]))
      refine own_via (fun _ k => XS.astore X19.here hx rfl (hb hby at_12) rfl rfl (l' := #[.val (.int p0), .val (.int p1), .val (.int (0 : Int32)), .val (.int (2 : Int32)), .val (.ref w0), .unset, .unset, .unset, .unset]) rfl k) ?_
      show own_Go p e below s _ _ _ (T19.setTop (mkF m 14 #[.val (.int p0), .val (.int p1), .val (.int (0 : Int32)), .val (.int (2 : Int32)), .val (.ref w0), .unset, .unset, .unset, .unset] []))
      refine own_via (fun _ k => XS.iloadN X19.here hx rfl (hb hby at_14) rfl k) ?_
      show own_Go p e below s _ _ _ (T19.setTop (mkF m 15 #[.val (.int p0), .val (.int p1), .val (.int (0 : Int32)), .val (.int (2 : Int32)), .val (.ref w0), .unset, .unset, .unset, .unset] [(.int (2 : Int32))]))
      obtain ⟨_, _, ⟨T20, L20, k20, n20⟩, -, X20, ⟨Lc20, hQ20, l20, y20, z20⟩, st20⟩ := Jvm.LawKit.callS X19 hx (y := (⟨"com/example/bericht/bericht/selector/ValueTypeAdmitsPinLaw", "pick", "(I)Lcom/example/bericht/bericht/selector/ValueType;"⟩ : MethodName)) hown (mvT hZ (hw _ (List.mem_of_getElem? (i := 0) rfl))) (mvT hZ (hw _ (List.mem_of_getElem? (i := 1) rfl))) (mvT hZ (hw _ (List.mem_of_getElem? (i := 2) rfl))) (mvT hZ (hw _ (List.mem_of_getElem? (i := 3) rfl))) (by decide) (backOf (W := 0) (rm1_2 l Z a0 hw [] w0 w1 w2 w3 h0 n0 Z0 K0) hZ (hw _ (List.mem_of_getElem? (i := 3) rfl)) (hw _ (List.mem_of_getElem? (i := 2) rfl)) (by decide) (by decide)) (g := (mkF m 15 #[.val (.int p0), .val (.int p1), .val (.int (0 : Int32)), .val (.int (2 : Int32)), .val (.ref w0), .unset, .unset, .unset, .unset] [(.int (2 : Int32))])) rfl (by rw [hml]; rfl) (argsL := [(.int (2 : Int32))]) (rest := []) (lenOf pd0 rfl) rfl (by show 2 * 0 + _ ≤ _; exact Nat.le_of_eq rfl) (hb hby at_15) (fun _ _ => ⟨rfl, e19, (by decide : 0 + 0 ≤ _), (by decide : 0 + 0 ≤ _)⟩)
      dsimp only [Pt.U, Pt.locs, Pt.cells, Pt.slots] at X20 l20 y20 z20 st20 hQ20
      subst l20 y20 z20
      obtain ⟨rfl, e20, hO20⟩ := hQ20
      obtain rfl := hO20
      refine own_via st20 ?_
      show own_Go p e below s _ _ _ (T20.setTop (mkF m 18 #[.val (.int p0), .val (.int p1), .val (.int (0 : Int32)), .val (.int (2 : Int32)), .val (.ref w0), .unset, .unset, .unset, .unset] [(.ref w2)]))
      refine own_via (fun _ k => XS.astore X20.here hx rfl (hb hby at_18) rfl rfl (l' := #[.val (.int p0), .val (.int p1), .val (.int (0 : Int32)), .val (.int (2 : Int32)), .val (.ref w0), .val (.ref w2), .unset, .unset, .unset]) rfl k) ?_
      show own_Go p e below s _ _ _ (T20.setTop (mkF m 20 #[.val (.int p0), .val (.int p1), .val (.int (0 : Int32)), .val (.int (2 : Int32)), .val (.ref w0), .val (.ref w2), .unset, .unset, .unset] []))
      refine own_via (fun _ k => XS.aload X20.here hx rfl (hb hby at_20) rfl rfl k) ?_
      show own_Go p e below s _ _ _ (T20.setTop (mkF m 22 #[.val (.int p0), .val (.int p1), .val (.int (0 : Int32)), .val (.int (2 : Int32)), .val (.ref w0), .val (.ref w2), .unset, .unset, .unset] [(.ref w0)]))
      refine own_via (fun _ k => XS.aload X20.here hx rfl (hb hby at_22) rfl rfl k) ?_
      show own_Go p e below s _ _ _ (T20.setTop (mkF m 24 #[.val (.int p0), .val (.int p1), .val (.int (0 : Int32)), .val (.int (2 : Int32)), .val (.ref w0), .val (.ref w2), .unset, .unset, .unset] [(.ref w2), (.ref w0)]))
      obtain ⟨cq21, kq21, q21a, q21b, q21c⟩ := isOf hZ e20 E_w0
      obtain ⟨_, _, ⟨T21, L21, k21, n21⟩, -, X21, ⟨Lc21, hQ21, l21, y21, z21⟩, st21⟩ := X20.virtualBack hx (y := (⟨"com/example/bericht/bericht/selector/ValueType", "admits", "(Lcom/example/bericht/bericht/selector/ValueType;)Z"⟩ : MethodName)) (z := (⟨"com/example/bericht/bericht/selector/ValueType", "admits", "(Lcom/example/bericht/bericht/selector/ValueType;)Z"⟩ : MethodName)) hown (mvT hZ (hw _ (List.mem_of_getElem? (i := 9) rfl))) (mvT hZ (hw _ (List.mem_of_getElem? (i := 10) rfl))) (notFace_of_selects (args := #[]) (mvT hZ (hw _ (List.mem_of_getElem? (i := 12) rfl)))) (mvT hZ (hw _ (List.mem_of_getElem? (i := 12) rfl))) (mvT hZ (hw _ (List.mem_of_getElem? (i := 11) rfl))) (by decide) (backOf (W := 0) (rm2_3 l Z a0 hw [] w0 w1 w2 w3 h0 n0 Z0 K0) hZ (hw _ (List.mem_of_getElem? (i := 13) rfl)) (hw _ (List.mem_of_getElem? (i := 5) rfl)) (by decide) (by decide)) q21a q21c (g := (mkF m 24 #[.val (.int p0), .val (.int p1), .val (.int (0 : Int32)), .val (.int (2 : Int32)), .val (.ref w0), .val (.ref w2), .unset, .unset, .unset] [(.ref w2), (.ref w0)])) rfl (by rw [hml]; rfl) (Steps.refl _) (argsL := [(.ref w2)]) (rest := []) (lenOf pd1 rfl) rfl (by show 2 * 0 + _ ≤ _; exact Nat.le_of_eq rfl) (hb hby at_24) (fun _ _ => ⟨rfl, e20, (by decide : 0 + 0 ≤ _), (by decide : 0 + 0 ≤ _)⟩)
      dsimp only [Pt.U, Pt.locs, Pt.cells, Pt.slots] at X21 l21 y21 z21 st21 hQ21
      subst l21 y21 z21
      obtain ⟨rfl, e21, hO21⟩ := hQ21
      obtain rfl := hO21
      refine own_tr st21 ?_
      show own_Go p e below s _ _ _ (T21.setTop (mkF m 27 #[.val (.int p0), .val (.int p1), .val (.int (0 : Int32)), .val (.int (2 : Int32)), .val (.ref w0), .val (.ref w2), .unset, .unset, .unset] [(.int (0 : Int32))]))
      refine own_via (fun _ k => XS.istore X21.here hx rfl (hb hby at_27) rfl (l' := #[.val (.int p0), .val (.int p1), .val (.int (0 : Int32)), .val (.int (2 : Int32)), .val (.ref w0), .val (.ref w2), .val (.int (0 : Int32)), .unset, .unset]) rfl k) ?_
      show own_Go p e below s _ _ _ (T21.setTop (mkF m 29 #[.val (.int p0), .val (.int p1), .val (.int (0 : Int32)), .val (.int (2 : Int32)), .val (.ref w0), .val (.ref w2), .val (.int (0 : Int32)), .unset, .unset] []))
      refine own_via (fun _ k => XS.aload X21.here hx rfl (hb hby at_29) rfl rfl k) ?_
      show own_Go p e below s _ _ _ (T21.setTop (mkF m 31 #[.val (.int p0), .val (.int p1), .val (.int (0 : Int32)), .val (.int (2 : Int32)), .val (.ref w0), .val (.ref w2), .val (.int (0 : Int32)), .unset, .unset] [(.ref w2)]))
      refine own_via (fun _ k => XS.aload X21.here hx rfl (hb hby at_31) rfl rfl k) ?_
      show own_Go p e below s _ _ _ (T21.setTop (mkF m 33 #[.val (.int p0), .val (.int p1), .val (.int (0 : Int32)), .val (.int (2 : Int32)), .val (.ref w0), .val (.ref w2), .val (.int (0 : Int32)), .unset, .unset] [(.ref w0), (.ref w2)]))
      obtain ⟨cq22, kq22, q22a, q22b, q22c⟩ := isOf hZ e21 E_w2
      obtain ⟨_, _, ⟨T22, L22, k22, n22⟩, -, X22, ⟨Lc22, hQ22, l22, y22, z22⟩, st22⟩ := X21.virtualBack hx (y := (⟨"com/example/bericht/bericht/selector/ValueType", "admits", "(Lcom/example/bericht/bericht/selector/ValueType;)Z"⟩ : MethodName)) (z := (⟨"com/example/bericht/bericht/selector/ValueType", "admits", "(Lcom/example/bericht/bericht/selector/ValueType;)Z"⟩ : MethodName)) hown (mvT hZ (hw _ (List.mem_of_getElem? (i := 9) rfl))) (mvT hZ (hw _ (List.mem_of_getElem? (i := 10) rfl))) (notFace_of_selects (args := #[]) (mvT hZ (hw _ (List.mem_of_getElem? (i := 12) rfl)))) (mvT hZ (hw _ (List.mem_of_getElem? (i := 12) rfl))) (mvT hZ (hw _ (List.mem_of_getElem? (i := 11) rfl))) (by decide) (backOf (W := 0) (rm2_4 l Z a0 hw [] w0 w1 w2 w3 h0 n0 Z0 K0) hZ (hw _ (List.mem_of_getElem? (i := 13) rfl)) (hw _ (List.mem_of_getElem? (i := 5) rfl)) (by decide) (by decide)) q22a q22c (g := (mkF m 33 #[.val (.int p0), .val (.int p1), .val (.int (0 : Int32)), .val (.int (2 : Int32)), .val (.ref w0), .val (.ref w2), .val (.int (0 : Int32)), .unset, .unset] [(.ref w0), (.ref w2)])) rfl (by rw [hml]; rfl) (Steps.refl _) (argsL := [(.ref w0)]) (rest := []) (lenOf pd1 rfl) rfl (by show 2 * 0 + _ ≤ _; exact Nat.le_of_eq rfl) (hb hby at_33) (fun _ _ => ⟨rfl, e21, (by decide : 0 + 0 ≤ _), (by decide : 0 + 0 ≤ _)⟩)
      dsimp only [Pt.U, Pt.locs, Pt.cells, Pt.slots] at X22 l22 y22 z22 st22 hQ22
      subst l22 y22 z22
      obtain ⟨rfl, e22, hO22⟩ := hQ22
      obtain rfl := hO22
      refine own_tr st22 ?_
      show own_Go p e below s _ _ _ (T22.setTop (mkF m 36 #[.val (.int p0), .val (.int p1), .val (.int (0 : Int32)), .val (.int (2 : Int32)), .val (.ref w0), .val (.ref w2), .val (.int (0 : Int32)), .unset, .unset] [(.int (0 : Int32))]))
      refine own_via (fun _ k => XS.istore X22.here hx rfl (hb hby at_36) rfl (l' := #[.val (.int p0), .val (.int p1), .val (.int (0 : Int32)), .val (.int (2 : Int32)), .val (.ref w0), .val (.ref w2), .val (.int (0 : Int32)), .val (.int (0 : Int32)), .unset]) rfl k) ?_
      show own_Go p e below s _ _ _ (T22.setTop (mkF m 38 #[.val (.int p0), .val (.int p1), .val (.int (0 : Int32)), .val (.int (2 : Int32)), .val (.ref w0), .val (.ref w2), .val (.int (0 : Int32)), .val (.int (0 : Int32)), .unset] []))
      refine own_via (fun _ k => XS.iloadN X22.here hx rfl (hb hby at_38) rfl k) ?_
      show own_Go p e below s _ _ _ (T22.setTop (mkF m 39 #[.val (.int p0), .val (.int p1), .val (.int (0 : Int32)), .val (.int (2 : Int32)), .val (.ref w0), .val (.ref w2), .val (.int (0 : Int32)), .val (.int (0 : Int32)), .unset] [(.int (0 : Int32))]))
      refine own_via (fun _ k => XS.iloadN X22.here hx rfl (hb hby at_39) rfl k) ?_
      show own_Go p e below s _ _ _ (T22.setTop (mkF m 40 #[.val (.int p0), .val (.int p1), .val (.int (0 : Int32)), .val (.int (2 : Int32)), .val (.ref w0), .val (.ref w2), .val (.int (0 : Int32)), .val (.int (0 : Int32)), .unset] [(.int (2 : Int32)), (.int (0 : Int32))]))
      obtain ⟨_, _, ⟨T23, L23, k23, n23⟩, -, X23, ⟨Lc23, hQ23, l23, y23, z23⟩, st23⟩ := Jvm.LawKit.callS X22 hx (y := (⟨"com/example/bericht/bericht/selector/ValueTypeAdmitsPinLaw", "expected", "(II)Z"⟩ : MethodName)) hown (mvT hZ (hw _ (List.mem_of_getElem? (i := 15) rfl))) (mvT hZ (hw _ (List.mem_of_getElem? (i := 16) rfl))) (mvT hZ (hw _ (List.mem_of_getElem? (i := 2) rfl))) (mvT hZ (hw _ (List.mem_of_getElem? (i := 17) rfl))) (by decide) (backOf (W := 0) (rm3_2 l Z a0 hw [] w0 w1 w2 w3 h0 n0 Z0 K0) hZ (hw _ (List.mem_of_getElem? (i := 17) rfl)) (hw _ (List.mem_of_getElem? (i := 2) rfl)) (by decide) (by decide)) (g := (mkF m 40 #[.val (.int p0), .val (.int p1), .val (.int (0 : Int32)), .val (.int (2 : Int32)), .val (.ref w0), .val (.ref w2), .val (.int (0 : Int32)), .val (.int (0 : Int32)), .unset] [(.int (2 : Int32)), (.int (0 : Int32))])) rfl (by rw [hml]; rfl) (argsL := [(.int (0 : Int32)), (.int (2 : Int32))]) (rest := []) (lenOf pd2 rfl) rfl (by show 2 * 0 + _ ≤ _; exact Nat.le_of_eq rfl) (hb hby at_40) (fun _ _ => ⟨rfl, e22, (by decide : 0 + 0 ≤ _), (by decide : 0 + 0 ≤ _)⟩)
      dsimp only [Pt.U, Pt.locs, Pt.cells, Pt.slots] at X23 l23 y23 z23 st23 hQ23
      subst l23 y23 z23
      obtain ⟨rfl, e23, hO23⟩ := hQ23
      obtain rfl := hO23
      refine own_via st23 ?_
      show own_Go p e below s _ _ _ (T23.setTop (mkF m 43 #[.val (.int p0), .val (.int p1), .val (.int (0 : Int32)), .val (.int (2 : Int32)), .val (.ref w0), .val (.ref w2), .val (.int (0 : Int32)), .val (.int (0 : Int32)), .unset] [(.int (0 : Int32))]))
      refine own_via (fun _ k => XS.istore X23.here hx rfl (hb hby at_43) rfl (l' := #[.val (.int p0), .val (.int p1), .val (.int (0 : Int32)), .val (.int (2 : Int32)), .val (.ref w0), .val (.ref w2), .val (.int (0 : Int32)), .val (.int (0 : Int32)), .val (.int (0 : Int32))]) rfl k) ?_
      show own_Go p e below s _ _ _ (T23.setTop (mkF m 45 #[.val (.int p0), .val (.int p1), .val (.int (0 : Int32)), .val (.int (2 : Int32)), .val (.ref w0), .val (.ref w2), .val (.int (0 : Int32)), .val (.int (0 : Int32)), .val (.int (0 : Int32))] []))
      refine own_via (fun _ k => XS.iload X23.here hx rfl (hb hby at_45) rfl k) ?_
      show own_Go p e below s _ _ _ (T23.setTop (mkF m 47 #[.val (.int p0), .val (.int p1), .val (.int (0 : Int32)), .val (.int (2 : Int32)), .val (.ref w0), .val (.ref w2), .val (.int (0 : Int32)), .val (.int (0 : Int32)), .val (.int (0 : Int32))] [(.int (0 : Int32))]))
      refine own_via (fun _ k => XS.iload X23.here hx rfl (hb hby at_47) rfl k) ?_
      show own_Go p e below s _ _ _ (T23.setTop (mkF m 49 #[.val (.int p0), .val (.int p1), .val (.int (0 : Int32)), .val (.int (2 : Int32)), .val (.ref w0), .val (.ref w2), .val (.int (0 : Int32)), .val (.int (0 : Int32)), .val (.int (0 : Int32))] [(.int (0 : Int32)), (.int (0 : Int32))]))
      refine own_via (fun _ k => XS.icmpNo X23.here hx rfl (hb hby at_49) rfl (teq (by decide : (0 : Int32) = (0 : Int32))).2 k) ?_
      show own_Go p e below s _ _ _ (T23.setTop (mkF m 52 #[.val (.int p0), .val (.int p1), .val (.int (0 : Int32)), .val (.int (2 : Int32)), .val (.ref w0), .val (.ref w2), .val (.int (0 : Int32)), .val (.int (0 : Int32)), .val (.int (0 : Int32))] []))
      refine own_via (fun _ k => XS.iload X23.here hx rfl (hb hby at_52) rfl k) ?_
      show own_Go p e below s _ _ _ (T23.setTop (mkF m 54 #[.val (.int p0), .val (.int p1), .val (.int (0 : Int32)), .val (.int (2 : Int32)), .val (.ref w0), .val (.ref w2), .val (.int (0 : Int32)), .val (.int (0 : Int32)), .val (.int (0 : Int32))] [(.int (0 : Int32))]))
      refine own_via (fun _ k => XS.iload X23.here hx rfl (hb hby at_54) rfl k) ?_
      show own_Go p e below s _ _ _ (T23.setTop (mkF m 56 #[.val (.int p0), .val (.int p1), .val (.int (0 : Int32)), .val (.int (2 : Int32)), .val (.ref w0), .val (.ref w2), .val (.int (0 : Int32)), .val (.int (0 : Int32)), .val (.int (0 : Int32))] [(.int (0 : Int32)), (.int (0 : Int32))]))
      refine own_via (fun _ k => XS.icmpNo X23.here hx rfl (hb hby at_56) rfl (teq (by decide : (0 : Int32) = (0 : Int32))).2 k) ?_
      show own_Go p e below s _ _ _ (T23.setTop (mkF m 59 #[.val (.int p0), .val (.int p1), .val (.int (0 : Int32)), .val (.int (2 : Int32)), .val (.ref w0), .val (.ref w2), .val (.int (0 : Int32)), .val (.int (0 : Int32)), .val (.int (0 : Int32))] []))
      refine own_via (fun _ k => XS.iconst X23.here hx rfl (hb hby at_59) k) ?_
      show own_Go p e below s _ _ _ (T23.setTop (mkF m 60 #[.val (.int p0), .val (.int p1), .val (.int (0 : Int32)), .val (.int (2 : Int32)), .val (.ref w0), .val (.ref w2), .val (.int (0 : Int32)), .val (.int (0 : Int32)), .val (.int (0 : Int32))] [(.int (1 : Int32))]))
      refine own_via (fun _ k => XS.goto X23.here hx rfl (pc0 := 60) (pc' := 64) rfl (hb hby at_60) (by decide) (by decide) k) ?_
      show own_Go p e below s _ _ _ (T23.setTop (mkF m 64 #[.val (.int p0), .val (.int p1), .val (.int (0 : Int32)), .val (.int (2 : Int32)), .val (.ref w0), .val (.ref w2), .val (.int (0 : Int32)), .val (.int (0 : Int32)), .val (.int (0 : Int32))] [(.int (1 : Int32))]))
      exact own_retZ X23 hx hlk (t := .boolean) Bd.returns (by simp) (hb hby at_64) (z' := (1 : Int32)) (by first | rfl | decide) ⟨rfl, (Fr.nil n0)⟩ (by decide) (by decide)
    · rw [hk8]
      show own_Go p e below s _ _ _ (s₁.setTop (mkF m 7 #[.val (.int p0), .val (.int p1), .val (.int (0 : Int32)), .unset, .unset, .unset, .unset, .unset, .unset] [(.int (3 : Int32))]))
      refine own_via (fun _ k => XS.istoreN X0.here hx rfl (hb hby at_7) rfl (l' := #[.val (.int p0), .val (.int p1), .val (.int (0 : Int32)), .val (.int (3 : Int32)), .unset, .unset, .unset, .unset, .unset]) rfl k) ?_
      show own_Go p e below s _ _ _ (s₁.setTop (mkF m 8 #[.val (.int p0), .val (.int p1), .val (.int (0 : Int32)), .val (.int (3 : Int32)), .unset, .unset, .unset, .unset, .unset] []))
      refine own_via (fun _ k => XS.iloadN X0.here hx rfl (hb hby at_8) rfl k) ?_
      show own_Go p e below s _ _ _ (s₁.setTop (mkF m 9 #[.val (.int p0), .val (.int p1), .val (.int (0 : Int32)), .val (.int (3 : Int32)), .unset, .unset, .unset, .unset, .unset] [(.int (0 : Int32))]))
      obtain ⟨_, _, ⟨T24, L24, k24, n24⟩, -, X24, ⟨Lc24, hQ24, l24, y24, z24⟩, st24⟩ := Jvm.LawKit.callS X0 hx (y := (⟨"com/example/bericht/bericht/selector/ValueTypeAdmitsPinLaw", "pick", "(I)Lcom/example/bericht/bericht/selector/ValueType;"⟩ : MethodName)) hown (mvT hZ (hw _ (List.mem_of_getElem? (i := 0) rfl))) (mvT hZ (hw _ (List.mem_of_getElem? (i := 1) rfl))) (mvT hZ (hw _ (List.mem_of_getElem? (i := 2) rfl))) (mvT hZ (hw _ (List.mem_of_getElem? (i := 3) rfl))) (by decide) (backOf (W := 0) (rm1_0 l Z a0 hw [] w0 w1 w2 w3 h0 n0 Z0 K0) hZ (hw _ (List.mem_of_getElem? (i := 3) rfl)) (hw _ (List.mem_of_getElem? (i := 2) rfl)) (by decide) (by decide)) (g := (mkF m 9 #[.val (.int p0), .val (.int p1), .val (.int (0 : Int32)), .val (.int (3 : Int32)), .unset, .unset, .unset, .unset, .unset] [(.int (0 : Int32))])) rfl (by rw [hml]; rfl) (argsL := [(.int (0 : Int32))]) (rest := []) (lenOf pd0 rfl) rfl (by show 2 * 0 + _ ≤ _; exact Nat.le_of_eq rfl) (hb hby at_9) (fun _ _ => ⟨rfl, e0, (by decide : 0 + 0 ≤ _), (by decide : 0 + 0 ≤ _)⟩)
      dsimp only [Pt.U, Pt.locs, Pt.cells, Pt.slots] at X24 l24 y24 z24 st24 hQ24
      subst l24 y24 z24
      obtain ⟨rfl, e24, hO24⟩ := hQ24
      obtain rfl := hO24
      refine own_via st24 ?_
      show own_Go p e below s _ _ _ (T24.setTop (mkF m 12 #[.val (.int p0), .val (.int p1), .val (.int (0 : Int32)), .val (.int (3 : Int32)), .unset, .unset, .unset, .unset, .unset] [(.ref w0)]))
      refine own_via (fun _ k => XS.astore X24.here hx rfl (hb hby at_12) rfl rfl (l' := #[.val (.int p0), .val (.int p1), .val (.int (0 : Int32)), .val (.int (3 : Int32)), .val (.ref w0), .unset, .unset, .unset, .unset]) rfl k) ?_
      show own_Go p e below s _ _ _ (T24.setTop (mkF m 14 #[.val (.int p0), .val (.int p1), .val (.int (0 : Int32)), .val (.int (3 : Int32)), .val (.ref w0), .unset, .unset, .unset, .unset] []))
      refine own_via (fun _ k => XS.iloadN X24.here hx rfl (hb hby at_14) rfl k) ?_
      show own_Go p e below s _ _ _ (T24.setTop (mkF m 15 #[.val (.int p0), .val (.int p1), .val (.int (0 : Int32)), .val (.int (3 : Int32)), .val (.ref w0), .unset, .unset, .unset, .unset] [(.int (3 : Int32))]))
      obtain ⟨_, _, ⟨T25, L25, k25, n25⟩, -, X25, ⟨Lc25, hQ25, l25, y25, z25⟩, st25⟩ := Jvm.LawKit.callS X24 hx (y := (⟨"com/example/bericht/bericht/selector/ValueTypeAdmitsPinLaw", "pick", "(I)Lcom/example/bericht/bericht/selector/ValueType;"⟩ : MethodName)) hown (mvT hZ (hw _ (List.mem_of_getElem? (i := 0) rfl))) (mvT hZ (hw _ (List.mem_of_getElem? (i := 1) rfl))) (mvT hZ (hw _ (List.mem_of_getElem? (i := 2) rfl))) (mvT hZ (hw _ (List.mem_of_getElem? (i := 3) rfl))) (by decide) (backOf (W := 0) (rm1_3 l Z a0 hw [] w0 w1 w2 w3 h0 n0 Z0 K0) hZ (hw _ (List.mem_of_getElem? (i := 3) rfl)) (hw _ (List.mem_of_getElem? (i := 2) rfl)) (by decide) (by decide)) (g := (mkF m 15 #[.val (.int p0), .val (.int p1), .val (.int (0 : Int32)), .val (.int (3 : Int32)), .val (.ref w0), .unset, .unset, .unset, .unset] [(.int (3 : Int32))])) rfl (by rw [hml]; rfl) (argsL := [(.int (3 : Int32))]) (rest := []) (lenOf pd0 rfl) rfl (by show 2 * 0 + _ ≤ _; exact Nat.le_of_eq rfl) (hb hby at_15) (fun _ _ => ⟨rfl, e24, (by decide : 0 + 0 ≤ _), (by decide : 0 + 0 ≤ _)⟩)
      dsimp only [Pt.U, Pt.locs, Pt.cells, Pt.slots] at X25 l25 y25 z25 st25 hQ25
      subst l25 y25 z25
      obtain ⟨rfl, e25, hO25⟩ := hQ25
      obtain rfl := hO25
      refine own_via st25 ?_
      show own_Go p e below s _ _ _ (T25.setTop (mkF m 18 #[.val (.int p0), .val (.int p1), .val (.int (0 : Int32)), .val (.int (3 : Int32)), .val (.ref w0), .unset, .unset, .unset, .unset] [(.ref w1)]))
      refine own_via (fun _ k => XS.astore X25.here hx rfl (hb hby at_18) rfl rfl (l' := #[.val (.int p0), .val (.int p1), .val (.int (0 : Int32)), .val (.int (3 : Int32)), .val (.ref w0), .val (.ref w1), .unset, .unset, .unset]) rfl k) ?_
      show own_Go p e below s _ _ _ (T25.setTop (mkF m 20 #[.val (.int p0), .val (.int p1), .val (.int (0 : Int32)), .val (.int (3 : Int32)), .val (.ref w0), .val (.ref w1), .unset, .unset, .unset] []))
      refine own_via (fun _ k => XS.aload X25.here hx rfl (hb hby at_20) rfl rfl k) ?_
      show own_Go p e below s _ _ _ (T25.setTop (mkF m 22 #[.val (.int p0), .val (.int p1), .val (.int (0 : Int32)), .val (.int (3 : Int32)), .val (.ref w0), .val (.ref w1), .unset, .unset, .unset] [(.ref w0)]))
      refine own_via (fun _ k => XS.aload X25.here hx rfl (hb hby at_22) rfl rfl k) ?_
      show own_Go p e below s _ _ _ (T25.setTop (mkF m 24 #[.val (.int p0), .val (.int p1), .val (.int (0 : Int32)), .val (.int (3 : Int32)), .val (.ref w0), .val (.ref w1), .unset, .unset, .unset] [(.ref w1), (.ref w0)]))
      obtain ⟨cq26, kq26, q26a, q26b, q26c⟩ := isOf hZ e25 E_w0
      obtain ⟨_, _, ⟨T26, L26, k26, n26⟩, -, X26, ⟨Lc26, hQ26, l26, y26, z26⟩, st26⟩ := X25.virtualBack hx (y := (⟨"com/example/bericht/bericht/selector/ValueType", "admits", "(Lcom/example/bericht/bericht/selector/ValueType;)Z"⟩ : MethodName)) (z := (⟨"com/example/bericht/bericht/selector/ValueType", "admits", "(Lcom/example/bericht/bericht/selector/ValueType;)Z"⟩ : MethodName)) hown (mvT hZ (hw _ (List.mem_of_getElem? (i := 9) rfl))) (mvT hZ (hw _ (List.mem_of_getElem? (i := 10) rfl))) (notFace_of_selects (args := #[]) (mvT hZ (hw _ (List.mem_of_getElem? (i := 12) rfl)))) (mvT hZ (hw _ (List.mem_of_getElem? (i := 12) rfl))) (mvT hZ (hw _ (List.mem_of_getElem? (i := 11) rfl))) (by decide) (backOf (W := 0) (rm2_5 l Z a0 hw [] w0 w1 w2 w3 h0 n0 Z0 K0) hZ (hw _ (List.mem_of_getElem? (i := 13) rfl)) (hw _ (List.mem_of_getElem? (i := 5) rfl)) (by decide) (by decide)) q26a q26c (g := (mkF m 24 #[.val (.int p0), .val (.int p1), .val (.int (0 : Int32)), .val (.int (3 : Int32)), .val (.ref w0), .val (.ref w1), .unset, .unset, .unset] [(.ref w1), (.ref w0)])) rfl (by rw [hml]; rfl) (Steps.refl _) (argsL := [(.ref w1)]) (rest := []) (lenOf pd1 rfl) rfl (by show 2 * 0 + _ ≤ _; exact Nat.le_of_eq rfl) (hb hby at_24) (fun _ _ => ⟨rfl, e25, (by decide : 0 + 0 ≤ _), (by decide : 0 + 0 ≤ _)⟩)
      dsimp only [Pt.U, Pt.locs, Pt.cells, Pt.slots] at X26 l26 y26 z26 st26 hQ26
      subst l26 y26 z26
      obtain ⟨rfl, e26, hO26⟩ := hQ26
      obtain rfl := hO26
      refine own_tr st26 ?_
      show own_Go p e below s _ _ _ (T26.setTop (mkF m 27 #[.val (.int p0), .val (.int p1), .val (.int (0 : Int32)), .val (.int (3 : Int32)), .val (.ref w0), .val (.ref w1), .unset, .unset, .unset] [(.int (1 : Int32))]))
      refine own_via (fun _ k => XS.istore X26.here hx rfl (hb hby at_27) rfl (l' := #[.val (.int p0), .val (.int p1), .val (.int (0 : Int32)), .val (.int (3 : Int32)), .val (.ref w0), .val (.ref w1), .val (.int (1 : Int32)), .unset, .unset]) rfl k) ?_
      show own_Go p e below s _ _ _ (T26.setTop (mkF m 29 #[.val (.int p0), .val (.int p1), .val (.int (0 : Int32)), .val (.int (3 : Int32)), .val (.ref w0), .val (.ref w1), .val (.int (1 : Int32)), .unset, .unset] []))
      refine own_via (fun _ k => XS.aload X26.here hx rfl (hb hby at_29) rfl rfl k) ?_
      show own_Go p e below s _ _ _ (T26.setTop (mkF m 31 #[.val (.int p0), .val (.int p1), .val (.int (0 : Int32)), .val (.int (3 : Int32)), .val (.ref w0), .val (.ref w1), .val (.int (1 : Int32)), .unset, .unset] [(.ref w1)]))
      refine own_via (fun _ k => XS.aload X26.here hx rfl (hb hby at_31) rfl rfl k) ?_
      show own_Go p e below s _ _ _ (T26.setTop (mkF m 33 #[.val (.int p0), .val (.int p1), .val (.int (0 : Int32)), .val (.int (3 : Int32)), .val (.ref w0), .val (.ref w1), .val (.int (1 : Int32)), .unset, .unset] [(.ref w0), (.ref w1)]))
      obtain ⟨cq27, kq27, q27a, q27b, q27c⟩ := isOf hZ e26 E_w1
      obtain ⟨_, _, ⟨T27, L27, k27, n27⟩, -, X27, ⟨Lc27, hQ27, l27, y27, z27⟩, st27⟩ := X26.virtualBack hx (y := (⟨"com/example/bericht/bericht/selector/ValueType", "admits", "(Lcom/example/bericht/bericht/selector/ValueType;)Z"⟩ : MethodName)) (z := (⟨"com/example/bericht/bericht/selector/ValueType", "admits", "(Lcom/example/bericht/bericht/selector/ValueType;)Z"⟩ : MethodName)) hown (mvT hZ (hw _ (List.mem_of_getElem? (i := 9) rfl))) (mvT hZ (hw _ (List.mem_of_getElem? (i := 10) rfl))) (notFace_of_selects (args := #[]) (mvT hZ (hw _ (List.mem_of_getElem? (i := 12) rfl)))) (mvT hZ (hw _ (List.mem_of_getElem? (i := 12) rfl))) (mvT hZ (hw _ (List.mem_of_getElem? (i := 11) rfl))) (by decide) (backOf (W := 0) (rm2_6 l Z a0 hw [] w0 w1 w2 w3 h0 n0 Z0 K0) hZ (hw _ (List.mem_of_getElem? (i := 13) rfl)) (hw _ (List.mem_of_getElem? (i := 5) rfl)) (by decide) (by decide)) q27a q27c (g := (mkF m 33 #[.val (.int p0), .val (.int p1), .val (.int (0 : Int32)), .val (.int (3 : Int32)), .val (.ref w0), .val (.ref w1), .val (.int (1 : Int32)), .unset, .unset] [(.ref w0), (.ref w1)])) rfl (by rw [hml]; rfl) (Steps.refl _) (argsL := [(.ref w0)]) (rest := []) (lenOf pd1 rfl) rfl (by show 2 * 0 + _ ≤ _; exact Nat.le_of_eq rfl) (hb hby at_33) (fun _ _ => ⟨rfl, e26, (by decide : 0 + 0 ≤ _), (by decide : 0 + 0 ≤ _)⟩)
      dsimp only [Pt.U, Pt.locs, Pt.cells, Pt.slots] at X27 l27 y27 z27 st27 hQ27
      subst l27 y27 z27
      obtain ⟨rfl, e27, hO27⟩ := hQ27
      obtain rfl := hO27
      refine own_tr st27 ?_
      show own_Go p e below s _ _ _ (T27.setTop (mkF m 36 #[.val (.int p0), .val (.int p1), .val (.int (0 : Int32)), .val (.int (3 : Int32)), .val (.ref w0), .val (.ref w1), .val (.int (1 : Int32)), .unset, .unset] [(.int (1 : Int32))]))
      refine own_via (fun _ k => XS.istore X27.here hx rfl (hb hby at_36) rfl (l' := #[.val (.int p0), .val (.int p1), .val (.int (0 : Int32)), .val (.int (3 : Int32)), .val (.ref w0), .val (.ref w1), .val (.int (1 : Int32)), .val (.int (1 : Int32)), .unset]) rfl k) ?_
      show own_Go p e below s _ _ _ (T27.setTop (mkF m 38 #[.val (.int p0), .val (.int p1), .val (.int (0 : Int32)), .val (.int (3 : Int32)), .val (.ref w0), .val (.ref w1), .val (.int (1 : Int32)), .val (.int (1 : Int32)), .unset] []))
      refine own_via (fun _ k => XS.iloadN X27.here hx rfl (hb hby at_38) rfl k) ?_
      show own_Go p e below s _ _ _ (T27.setTop (mkF m 39 #[.val (.int p0), .val (.int p1), .val (.int (0 : Int32)), .val (.int (3 : Int32)), .val (.ref w0), .val (.ref w1), .val (.int (1 : Int32)), .val (.int (1 : Int32)), .unset] [(.int (0 : Int32))]))
      refine own_via (fun _ k => XS.iloadN X27.here hx rfl (hb hby at_39) rfl k) ?_
      show own_Go p e below s _ _ _ (T27.setTop (mkF m 40 #[.val (.int p0), .val (.int p1), .val (.int (0 : Int32)), .val (.int (3 : Int32)), .val (.ref w0), .val (.ref w1), .val (.int (1 : Int32)), .val (.int (1 : Int32)), .unset] [(.int (3 : Int32)), (.int (0 : Int32))]))
      obtain ⟨_, _, ⟨T28, L28, k28, n28⟩, -, X28, ⟨Lc28, hQ28, l28, y28, z28⟩, st28⟩ := Jvm.LawKit.callS X27 hx (y := (⟨"com/example/bericht/bericht/selector/ValueTypeAdmitsPinLaw", "expected", "(II)Z"⟩ : MethodName)) hown (mvT hZ (hw _ (List.mem_of_getElem? (i := 15) rfl))) (mvT hZ (hw _ (List.mem_of_getElem? (i := 16) rfl))) (mvT hZ (hw _ (List.mem_of_getElem? (i := 2) rfl))) (mvT hZ (hw _ (List.mem_of_getElem? (i := 17) rfl))) (by decide) (backOf (W := 0) (rm3_3 l Z a0 hw [] w0 w1 w2 w3 h0 n0 Z0 K0) hZ (hw _ (List.mem_of_getElem? (i := 17) rfl)) (hw _ (List.mem_of_getElem? (i := 2) rfl)) (by decide) (by decide)) (g := (mkF m 40 #[.val (.int p0), .val (.int p1), .val (.int (0 : Int32)), .val (.int (3 : Int32)), .val (.ref w0), .val (.ref w1), .val (.int (1 : Int32)), .val (.int (1 : Int32)), .unset] [(.int (3 : Int32)), (.int (0 : Int32))])) rfl (by rw [hml]; rfl) (argsL := [(.int (0 : Int32)), (.int (3 : Int32))]) (rest := []) (lenOf pd2 rfl) rfl (by show 2 * 0 + _ ≤ _; exact Nat.le_of_eq rfl) (hb hby at_40) (fun _ _ => ⟨rfl, e27, (by decide : 0 + 0 ≤ _), (by decide : 0 + 0 ≤ _)⟩)
      dsimp only [Pt.U, Pt.locs, Pt.cells, Pt.slots] at X28 l28 y28 z28 st28 hQ28
      subst l28 y28 z28
      obtain ⟨rfl, e28, hO28⟩ := hQ28
      obtain rfl := hO28
      refine own_via st28 ?_
      show own_Go p e below s _ _ _ (T28.setTop (mkF m 43 #[.val (.int p0), .val (.int p1), .val (.int (0 : Int32)), .val (.int (3 : Int32)), .val (.ref w0), .val (.ref w1), .val (.int (1 : Int32)), .val (.int (1 : Int32)), .unset] [(.int (1 : Int32))]))
      refine own_via (fun _ k => XS.istore X28.here hx rfl (hb hby at_43) rfl (l' := #[.val (.int p0), .val (.int p1), .val (.int (0 : Int32)), .val (.int (3 : Int32)), .val (.ref w0), .val (.ref w1), .val (.int (1 : Int32)), .val (.int (1 : Int32)), .val (.int (1 : Int32))]) rfl k) ?_
      show own_Go p e below s _ _ _ (T28.setTop (mkF m 45 #[.val (.int p0), .val (.int p1), .val (.int (0 : Int32)), .val (.int (3 : Int32)), .val (.ref w0), .val (.ref w1), .val (.int (1 : Int32)), .val (.int (1 : Int32)), .val (.int (1 : Int32))] []))
      refine own_via (fun _ k => XS.iload X28.here hx rfl (hb hby at_45) rfl k) ?_
      show own_Go p e below s _ _ _ (T28.setTop (mkF m 47 #[.val (.int p0), .val (.int p1), .val (.int (0 : Int32)), .val (.int (3 : Int32)), .val (.ref w0), .val (.ref w1), .val (.int (1 : Int32)), .val (.int (1 : Int32)), .val (.int (1 : Int32))] [(.int (1 : Int32))]))
      refine own_via (fun _ k => XS.iload X28.here hx rfl (hb hby at_47) rfl k) ?_
      show own_Go p e below s _ _ _ (T28.setTop (mkF m 49 #[.val (.int p0), .val (.int p1), .val (.int (0 : Int32)), .val (.int (3 : Int32)), .val (.ref w0), .val (.ref w1), .val (.int (1 : Int32)), .val (.int (1 : Int32)), .val (.int (1 : Int32))] [(.int (1 : Int32)), (.int (1 : Int32))]))
      refine own_via (fun _ k => XS.icmpNo X28.here hx rfl (hb hby at_49) rfl (teq (by decide : (1 : Int32) = (1 : Int32))).2 k) ?_
      show own_Go p e below s _ _ _ (T28.setTop (mkF m 52 #[.val (.int p0), .val (.int p1), .val (.int (0 : Int32)), .val (.int (3 : Int32)), .val (.ref w0), .val (.ref w1), .val (.int (1 : Int32)), .val (.int (1 : Int32)), .val (.int (1 : Int32))] []))
      refine own_via (fun _ k => XS.iload X28.here hx rfl (hb hby at_52) rfl k) ?_
      show own_Go p e below s _ _ _ (T28.setTop (mkF m 54 #[.val (.int p0), .val (.int p1), .val (.int (0 : Int32)), .val (.int (3 : Int32)), .val (.ref w0), .val (.ref w1), .val (.int (1 : Int32)), .val (.int (1 : Int32)), .val (.int (1 : Int32))] [(.int (1 : Int32))]))
      refine own_via (fun _ k => XS.iload X28.here hx rfl (hb hby at_54) rfl k) ?_
      show own_Go p e below s _ _ _ (T28.setTop (mkF m 56 #[.val (.int p0), .val (.int p1), .val (.int (0 : Int32)), .val (.int (3 : Int32)), .val (.ref w0), .val (.ref w1), .val (.int (1 : Int32)), .val (.int (1 : Int32)), .val (.int (1 : Int32))] [(.int (1 : Int32)), (.int (1 : Int32))]))
      refine own_via (fun _ k => XS.icmpNo X28.here hx rfl (hb hby at_56) rfl (teq (by decide : (1 : Int32) = (1 : Int32))).2 k) ?_
      show own_Go p e below s _ _ _ (T28.setTop (mkF m 59 #[.val (.int p0), .val (.int p1), .val (.int (0 : Int32)), .val (.int (3 : Int32)), .val (.ref w0), .val (.ref w1), .val (.int (1 : Int32)), .val (.int (1 : Int32)), .val (.int (1 : Int32))] []))
      refine own_via (fun _ k => XS.iconst X28.here hx rfl (hb hby at_59) k) ?_
      show own_Go p e below s _ _ _ (T28.setTop (mkF m 60 #[.val (.int p0), .val (.int p1), .val (.int (0 : Int32)), .val (.int (3 : Int32)), .val (.ref w0), .val (.ref w1), .val (.int (1 : Int32)), .val (.int (1 : Int32)), .val (.int (1 : Int32))] [(.int (1 : Int32))]))
      refine own_via (fun _ k => XS.goto X28.here hx rfl (pc0 := 60) (pc' := 64) rfl (hb hby at_60) (by decide) (by decide) k) ?_
      show own_Go p e below s _ _ _ (T28.setTop (mkF m 64 #[.val (.int p0), .val (.int p1), .val (.int (0 : Int32)), .val (.int (3 : Int32)), .val (.ref w0), .val (.ref w1), .val (.int (1 : Int32)), .val (.int (1 : Int32)), .val (.int (1 : Int32))] [(.int (1 : Int32))]))
      exact own_retZ X28 hx hlk (t := .boolean) Bd.returns (by simp) (hb hby at_64) (z' := (1 : Int32)) (by first | rfl | decide) ⟨rfl, (Fr.nil n0)⟩ (by decide) (by decide)
  · rw [hk2]
    show own_Go p e below s _ _ _ (s₁.setTop (mkF m 3 #[.val (.int p0), .val (.int p1), .unset, .unset, .unset, .unset, .unset, .unset, .unset] [(.int (1 : Int32))]))
    refine own_via (fun _ k => XS.istoreN X0.here hx rfl (hb hby at_3) rfl (l' := #[.val (.int p0), .val (.int p1), .val (.int (1 : Int32)), .unset, .unset, .unset, .unset, .unset, .unset]) rfl k) ?_
    show own_Go p e below s _ _ _ (s₁.setTop (mkF m 4 #[.val (.int p0), .val (.int p1), .val (.int (1 : Int32)), .unset, .unset, .unset, .unset, .unset, .unset] []))
    refine own_via (fun _ k => XS.iloadN X0.here hx rfl (hb hby at_4) rfl k) ?_
    show own_Go p e below s _ _ _ (s₁.setTop (mkF m 5 #[.val (.int p0), .val (.int p1), .val (.int (1 : Int32)), .unset, .unset, .unset, .unset, .unset, .unset] [(.int p1)]))
    refine own_via (fun _ k => XS.iconst X0.here hx rfl (hb hby at_5) k) ?_
    show own_Go p e below s _ _ _ (s₁.setTop (mkF m 6 #[.val (.int p0), .val (.int p1), .val (.int (1 : Int32)), .unset, .unset, .unset, .unset, .unset, .unset] [(.int (3 : Int32)), (.int p1)]))
    refine own_via (fun _ k => XS.iand X0.here hx rfl (hb hby at_6) rfl k) ?_
    rcases (own_and3 _ : (p1 &&& (3 : Int32)) = (0 : Int32) ∨ (p1 &&& (3 : Int32)) = (1 : Int32) ∨ (p1 &&& (3 : Int32)) = (2 : Int32) ∨ (p1 &&& (3 : Int32)) = (3 : Int32)) with hk29 | hk30 | hk31 | hk32
    · rw [hk29]
      show own_Go p e below s _ _ _ (s₁.setTop (mkF m 7 #[.val (.int p0), .val (.int p1), .val (.int (1 : Int32)), .unset, .unset, .unset, .unset, .unset, .unset] [(.int (0 : Int32))]))
      refine own_via (fun _ k => XS.istoreN X0.here hx rfl (hb hby at_7) rfl (l' := #[.val (.int p0), .val (.int p1), .val (.int (1 : Int32)), .val (.int (0 : Int32)), .unset, .unset, .unset, .unset, .unset]) rfl k) ?_
      show own_Go p e below s _ _ _ (s₁.setTop (mkF m 8 #[.val (.int p0), .val (.int p1), .val (.int (1 : Int32)), .val (.int (0 : Int32)), .unset, .unset, .unset, .unset, .unset] []))
      refine own_via (fun _ k => XS.iloadN X0.here hx rfl (hb hby at_8) rfl k) ?_
      show own_Go p e below s _ _ _ (s₁.setTop (mkF m 9 #[.val (.int p0), .val (.int p1), .val (.int (1 : Int32)), .val (.int (0 : Int32)), .unset, .unset, .unset, .unset, .unset] [(.int (1 : Int32))]))
      obtain ⟨_, _, ⟨T33, L33, k33, n33⟩, -, X33, ⟨Lc33, hQ33, l33, y33, z33⟩, st33⟩ := Jvm.LawKit.callS X0 hx (y := (⟨"com/example/bericht/bericht/selector/ValueTypeAdmitsPinLaw", "pick", "(I)Lcom/example/bericht/bericht/selector/ValueType;"⟩ : MethodName)) hown (mvT hZ (hw _ (List.mem_of_getElem? (i := 0) rfl))) (mvT hZ (hw _ (List.mem_of_getElem? (i := 1) rfl))) (mvT hZ (hw _ (List.mem_of_getElem? (i := 2) rfl))) (mvT hZ (hw _ (List.mem_of_getElem? (i := 3) rfl))) (by decide) (backOf (W := 0) (rm1_1 l Z a0 hw [] w0 w1 w2 w3 h0 n0 Z0 K0) hZ (hw _ (List.mem_of_getElem? (i := 3) rfl)) (hw _ (List.mem_of_getElem? (i := 2) rfl)) (by decide) (by decide)) (g := (mkF m 9 #[.val (.int p0), .val (.int p1), .val (.int (1 : Int32)), .val (.int (0 : Int32)), .unset, .unset, .unset, .unset, .unset] [(.int (1 : Int32))])) rfl (by rw [hml]; rfl) (argsL := [(.int (1 : Int32))]) (rest := []) (lenOf pd0 rfl) rfl (by show 2 * 0 + _ ≤ _; exact Nat.le_of_eq rfl) (hb hby at_9) (fun _ _ => ⟨rfl, e0, (by decide : 0 + 0 ≤ _), (by decide : 0 + 0 ≤ _)⟩)
      dsimp only [Pt.U, Pt.locs, Pt.cells, Pt.slots] at X33 l33 y33 z33 st33 hQ33
      subst l33 y33 z33
      obtain ⟨rfl, e33, hO33⟩ := hQ33
      obtain rfl := hO33
      refine own_via st33 ?_
      show own_Go p e below s _ _ _ (T33.setTop (mkF m 12 #[.val (.int p0), .val (.int p1), .val (.int (1 : Int32)), .val (.int (0 : Int32)), .unset, .unset, .unset, .unset, .unset] [(.ref w3)]))
      refine own_via (fun _ k => XS.astore X33.here hx rfl (hb hby at_12) rfl rfl (l' := #[.val (.int p0), .val (.int p1), .val (.int (1 : Int32)), .val (.int (0 : Int32)), .val (.ref w3), .unset, .unset, .unset, .unset]) rfl k) ?_
      show own_Go p e below s _ _ _ (T33.setTop (mkF m 14 #[.val (.int p0), .val (.int p1), .val (.int (1 : Int32)), .val (.int (0 : Int32)), .val (.ref w3), .unset, .unset, .unset, .unset] []))
      refine own_via (fun _ k => XS.iloadN X33.here hx rfl (hb hby at_14) rfl k) ?_
      show own_Go p e below s _ _ _ (T33.setTop (mkF m 15 #[.val (.int p0), .val (.int p1), .val (.int (1 : Int32)), .val (.int (0 : Int32)), .val (.ref w3), .unset, .unset, .unset, .unset] [(.int (0 : Int32))]))
      obtain ⟨_, _, ⟨T34, L34, k34, n34⟩, -, X34, ⟨Lc34, hQ34, l34, y34, z34⟩, st34⟩ := Jvm.LawKit.callS X33 hx (y := (⟨"com/example/bericht/bericht/selector/ValueTypeAdmitsPinLaw", "pick", "(I)Lcom/example/bericht/bericht/selector/ValueType;"⟩ : MethodName)) hown (mvT hZ (hw _ (List.mem_of_getElem? (i := 0) rfl))) (mvT hZ (hw _ (List.mem_of_getElem? (i := 1) rfl))) (mvT hZ (hw _ (List.mem_of_getElem? (i := 2) rfl))) (mvT hZ (hw _ (List.mem_of_getElem? (i := 3) rfl))) (by decide) (backOf (W := 0) (rm1_0 l Z a0 hw [] w0 w1 w2 w3 h0 n0 Z0 K0) hZ (hw _ (List.mem_of_getElem? (i := 3) rfl)) (hw _ (List.mem_of_getElem? (i := 2) rfl)) (by decide) (by decide)) (g := (mkF m 15 #[.val (.int p0), .val (.int p1), .val (.int (1 : Int32)), .val (.int (0 : Int32)), .val (.ref w3), .unset, .unset, .unset, .unset] [(.int (0 : Int32))])) rfl (by rw [hml]; rfl) (argsL := [(.int (0 : Int32))]) (rest := []) (lenOf pd0 rfl) rfl (by show 2 * 0 + _ ≤ _; exact Nat.le_of_eq rfl) (hb hby at_15) (fun _ _ => ⟨rfl, e33, (by decide : 0 + 0 ≤ _), (by decide : 0 + 0 ≤ _)⟩)
      dsimp only [Pt.U, Pt.locs, Pt.cells, Pt.slots] at X34 l34 y34 z34 st34 hQ34
      subst l34 y34 z34
      obtain ⟨rfl, e34, hO34⟩ := hQ34
      obtain rfl := hO34
      refine own_via st34 ?_
      show own_Go p e below s _ _ _ (T34.setTop (mkF m 18 #[.val (.int p0), .val (.int p1), .val (.int (1 : Int32)), .val (.int (0 : Int32)), .val (.ref w3), .unset, .unset, .unset, .unset] [(.ref w0)]))
      refine own_via (fun _ k => XS.astore X34.here hx rfl (hb hby at_18) rfl rfl (l' := #[.val (.int p0), .val (.int p1), .val (.int (1 : Int32)), .val (.int (0 : Int32)), .val (.ref w3), .val (.ref w0), .unset, .unset, .unset]) rfl k) ?_
      show own_Go p e below s _ _ _ (T34.setTop (mkF m 20 #[.val (.int p0), .val (.int p1), .val (.int (1 : Int32)), .val (.int (0 : Int32)), .val (.ref w3), .val (.ref w0), .unset, .unset, .unset] []))
      refine own_via (fun _ k => XS.aload X34.here hx rfl (hb hby at_20) rfl rfl k) ?_
      show own_Go p e below s _ _ _ (T34.setTop (mkF m 22 #[.val (.int p0), .val (.int p1), .val (.int (1 : Int32)), .val (.int (0 : Int32)), .val (.ref w3), .val (.ref w0), .unset, .unset, .unset] [(.ref w3)]))
      refine own_via (fun _ k => XS.aload X34.here hx rfl (hb hby at_22) rfl rfl k) ?_
      show own_Go p e below s _ _ _ (T34.setTop (mkF m 24 #[.val (.int p0), .val (.int p1), .val (.int (1 : Int32)), .val (.int (0 : Int32)), .val (.ref w3), .val (.ref w0), .unset, .unset, .unset] [(.ref w0), (.ref w3)]))
      obtain ⟨cq35, kq35, q35a, q35b, q35c⟩ := isOf hZ e34 E_w3
      obtain ⟨_, _, ⟨T35, L35, k35, n35⟩, -, X35, ⟨Lc35, hQ35, l35, y35, z35⟩, st35⟩ := X34.virtualBack hx (y := (⟨"com/example/bericht/bericht/selector/ValueType", "admits", "(Lcom/example/bericht/bericht/selector/ValueType;)Z"⟩ : MethodName)) (z := (⟨"com/example/bericht/bericht/selector/ValueType", "admits", "(Lcom/example/bericht/bericht/selector/ValueType;)Z"⟩ : MethodName)) hown (mvT hZ (hw _ (List.mem_of_getElem? (i := 9) rfl))) (mvT hZ (hw _ (List.mem_of_getElem? (i := 10) rfl))) (notFace_of_selects (args := #[]) (mvT hZ (hw _ (List.mem_of_getElem? (i := 12) rfl)))) (mvT hZ (hw _ (List.mem_of_getElem? (i := 12) rfl))) (mvT hZ (hw _ (List.mem_of_getElem? (i := 11) rfl))) (by decide) (backOf (W := 0) (rm2_2 l Z a0 hw [] w0 w1 w2 w3 h0 n0 Z0 K0) hZ (hw _ (List.mem_of_getElem? (i := 13) rfl)) (hw _ (List.mem_of_getElem? (i := 5) rfl)) (by decide) (by decide)) q35a q35c (g := (mkF m 24 #[.val (.int p0), .val (.int p1), .val (.int (1 : Int32)), .val (.int (0 : Int32)), .val (.ref w3), .val (.ref w0), .unset, .unset, .unset] [(.ref w0), (.ref w3)])) rfl (by rw [hml]; rfl) (Steps.refl _) (argsL := [(.ref w0)]) (rest := []) (lenOf pd1 rfl) rfl (by show 2 * 0 + _ ≤ _; exact Nat.le_of_eq rfl) (hb hby at_24) (fun _ _ => ⟨rfl, e34, (by decide : 0 + 0 ≤ _), (by decide : 0 + 0 ≤ _)⟩)
      dsimp only [Pt.U, Pt.locs, Pt.cells, Pt.slots] at X35 l35 y35 z35 st35 hQ35
      subst l35 y35 z35
      obtain ⟨rfl, e35, hO35⟩ := hQ35
      obtain rfl := hO35
      refine own_tr st35 ?_
      show own_Go p e below s _ _ _ (T35.setTop (mkF m 27 #[.val (.int p0), .val (.int p1), .val (.int (1 : Int32)), .val (.int (0 : Int32)), .val (.ref w3), .val (.ref w0), .unset, .unset, .unset] [(.int (0 : Int32))]))
      refine own_via (fun _ k => XS.istore X35.here hx rfl (hb hby at_27) rfl (l' := #[.val (.int p0), .val (.int p1), .val (.int (1 : Int32)), .val (.int (0 : Int32)), .val (.ref w3), .val (.ref w0), .val (.int (0 : Int32)), .unset, .unset]) rfl k) ?_
      show own_Go p e below s _ _ _ (T35.setTop (mkF m 29 #[.val (.int p0), .val (.int p1), .val (.int (1 : Int32)), .val (.int (0 : Int32)), .val (.ref w3), .val (.ref w0), .val (.int (0 : Int32)), .unset, .unset] []))
      refine own_via (fun _ k => XS.aload X35.here hx rfl (hb hby at_29) rfl rfl k) ?_
      show own_Go p e below s _ _ _ (T35.setTop (mkF m 31 #[.val (.int p0), .val (.int p1), .val (.int (1 : Int32)), .val (.int (0 : Int32)), .val (.ref w3), .val (.ref w0), .val (.int (0 : Int32)), .unset, .unset] [(.ref w0)]))
      refine own_via (fun _ k => XS.aload X35.here hx rfl (hb hby at_31) rfl rfl k) ?_
      show own_Go p e below s _ _ _ (T35.setTop (mkF m 33 #[.val (.int p0), .val (.int p1), .val (.int (1 : Int32)), .val (.int (0 : Int32)), .val (.ref w3), .val (.ref w0), .val (.int (0 : Int32)), .unset, .unset] [(.ref w3), (.ref w0)]))
      obtain ⟨cq36, kq36, q36a, q36b, q36c⟩ := isOf hZ e35 E_w0
      obtain ⟨_, _, ⟨T36, L36, k36, n36⟩, -, X36, ⟨Lc36, hQ36, l36, y36, z36⟩, st36⟩ := X35.virtualBack hx (y := (⟨"com/example/bericht/bericht/selector/ValueType", "admits", "(Lcom/example/bericht/bericht/selector/ValueType;)Z"⟩ : MethodName)) (z := (⟨"com/example/bericht/bericht/selector/ValueType", "admits", "(Lcom/example/bericht/bericht/selector/ValueType;)Z"⟩ : MethodName)) hown (mvT hZ (hw _ (List.mem_of_getElem? (i := 9) rfl))) (mvT hZ (hw _ (List.mem_of_getElem? (i := 10) rfl))) (notFace_of_selects (args := #[]) (mvT hZ (hw _ (List.mem_of_getElem? (i := 12) rfl)))) (mvT hZ (hw _ (List.mem_of_getElem? (i := 12) rfl))) (mvT hZ (hw _ (List.mem_of_getElem? (i := 11) rfl))) (by decide) (backOf (W := 0) (rm2_1 l Z a0 hw [] w0 w1 w2 w3 h0 n0 Z0 K0) hZ (hw _ (List.mem_of_getElem? (i := 13) rfl)) (hw _ (List.mem_of_getElem? (i := 5) rfl)) (by decide) (by decide)) q36a q36c (g := (mkF m 33 #[.val (.int p0), .val (.int p1), .val (.int (1 : Int32)), .val (.int (0 : Int32)), .val (.ref w3), .val (.ref w0), .val (.int (0 : Int32)), .unset, .unset] [(.ref w3), (.ref w0)])) rfl (by rw [hml]; rfl) (Steps.refl _) (argsL := [(.ref w3)]) (rest := []) (lenOf pd1 rfl) rfl (by show 2 * 0 + _ ≤ _; exact Nat.le_of_eq rfl) (hb hby at_33) (fun _ _ => ⟨rfl, e35, (by decide : 0 + 0 ≤ _), (by decide : 0 + 0 ≤ _)⟩)
      dsimp only [Pt.U, Pt.locs, Pt.cells, Pt.slots] at X36 l36 y36 z36 st36 hQ36
      subst l36 y36 z36
      obtain ⟨rfl, e36, hO36⟩ := hQ36
      obtain rfl := hO36
      refine own_tr st36 ?_
      show own_Go p e below s _ _ _ (T36.setTop (mkF m 36 #[.val (.int p0), .val (.int p1), .val (.int (1 : Int32)), .val (.int (0 : Int32)), .val (.ref w3), .val (.ref w0), .val (.int (0 : Int32)), .unset, .unset] [(.int (0 : Int32))]))
      refine own_via (fun _ k => XS.istore X36.here hx rfl (hb hby at_36) rfl (l' := #[.val (.int p0), .val (.int p1), .val (.int (1 : Int32)), .val (.int (0 : Int32)), .val (.ref w3), .val (.ref w0), .val (.int (0 : Int32)), .val (.int (0 : Int32)), .unset]) rfl k) ?_
      show own_Go p e below s _ _ _ (T36.setTop (mkF m 38 #[.val (.int p0), .val (.int p1), .val (.int (1 : Int32)), .val (.int (0 : Int32)), .val (.ref w3), .val (.ref w0), .val (.int (0 : Int32)), .val (.int (0 : Int32)), .unset] []))
      refine own_via (fun _ k => XS.iloadN X36.here hx rfl (hb hby at_38) rfl k) ?_
      show own_Go p e below s _ _ _ (T36.setTop (mkF m 39 #[.val (.int p0), .val (.int p1), .val (.int (1 : Int32)), .val (.int (0 : Int32)), .val (.ref w3), .val (.ref w0), .val (.int (0 : Int32)), .val (.int (0 : Int32)), .unset] [(.int (1 : Int32))]))
      refine own_via (fun _ k => XS.iloadN X36.here hx rfl (hb hby at_39) rfl k) ?_
      show own_Go p e below s _ _ _ (T36.setTop (mkF m 40 #[.val (.int p0), .val (.int p1), .val (.int (1 : Int32)), .val (.int (0 : Int32)), .val (.ref w3), .val (.ref w0), .val (.int (0 : Int32)), .val (.int (0 : Int32)), .unset] [(.int (0 : Int32)), (.int (1 : Int32))]))
      obtain ⟨_, _, ⟨T37, L37, k37, n37⟩, -, X37, ⟨Lc37, hQ37, l37, y37, z37⟩, st37⟩ := Jvm.LawKit.callS X36 hx (y := (⟨"com/example/bericht/bericht/selector/ValueTypeAdmitsPinLaw", "expected", "(II)Z"⟩ : MethodName)) hown (mvT hZ (hw _ (List.mem_of_getElem? (i := 15) rfl))) (mvT hZ (hw _ (List.mem_of_getElem? (i := 16) rfl))) (mvT hZ (hw _ (List.mem_of_getElem? (i := 2) rfl))) (mvT hZ (hw _ (List.mem_of_getElem? (i := 17) rfl))) (by decide) (backOf (W := 0) (rm3_4 l Z a0 hw [] w0 w1 w2 w3 h0 n0 Z0 K0) hZ (hw _ (List.mem_of_getElem? (i := 17) rfl)) (hw _ (List.mem_of_getElem? (i := 2) rfl)) (by decide) (by decide)) (g := (mkF m 40 #[.val (.int p0), .val (.int p1), .val (.int (1 : Int32)), .val (.int (0 : Int32)), .val (.ref w3), .val (.ref w0), .val (.int (0 : Int32)), .val (.int (0 : Int32)), .unset] [(.int (0 : Int32)), (.int (1 : Int32))])) rfl (by rw [hml]; rfl) (argsL := [(.int (1 : Int32)), (.int (0 : Int32))]) (rest := []) (lenOf pd2 rfl) rfl (by show 2 * 0 + _ ≤ _; exact Nat.le_of_eq rfl) (hb hby at_40) (fun _ _ => ⟨rfl, e36, (by decide : 0 + 0 ≤ _), (by decide : 0 + 0 ≤ _)⟩)
      dsimp only [Pt.U, Pt.locs, Pt.cells, Pt.slots] at X37 l37 y37 z37 st37 hQ37
      subst l37 y37 z37
      obtain ⟨rfl, e37, hO37⟩ := hQ37
      obtain rfl := hO37
      refine own_via st37 ?_
      show own_Go p e below s _ _ _ (T37.setTop (mkF m 43 #[.val (.int p0), .val (.int p1), .val (.int (1 : Int32)), .val (.int (0 : Int32)), .val (.ref w3), .val (.ref w0), .val (.int (0 : Int32)), .val (.int (0 : Int32)), .unset] [(.int (0 : Int32))]))
      refine own_via (fun _ k => XS.istore X37.here hx rfl (hb hby at_43) rfl (l' := #[.val (.int p0), .val (.int p1), .val (.int (1 : Int32)), .val (.int (0 : Int32)), .val (.ref w3), .val (.ref w0), .val (.int (0 : Int32)), .val (.int (0 : Int32)), .val (.int (0 : Int32))]) rfl k) ?_
      show own_Go p e below s _ _ _ (T37.setTop (mkF m 45 #[.val (.int p0), .val (.int p1), .val (.int (1 : Int32)), .val (.int (0 : Int32)), .val (.ref w3), .val (.ref w0), .val (.int (0 : Int32)), .val (.int (0 : Int32)), .val (.int (0 : Int32))] []))
      refine own_via (fun _ k => XS.iload X37.here hx rfl (hb hby at_45) rfl k) ?_
      show own_Go p e below s _ _ _ (T37.setTop (mkF m 47 #[.val (.int p0), .val (.int p1), .val (.int (1 : Int32)), .val (.int (0 : Int32)), .val (.ref w3), .val (.ref w0), .val (.int (0 : Int32)), .val (.int (0 : Int32)), .val (.int (0 : Int32))] [(.int (0 : Int32))]))
      refine own_via (fun _ k => XS.iload X37.here hx rfl (hb hby at_47) rfl k) ?_
      show own_Go p e below s _ _ _ (T37.setTop (mkF m 49 #[.val (.int p0), .val (.int p1), .val (.int (1 : Int32)), .val (.int (0 : Int32)), .val (.ref w3), .val (.ref w0), .val (.int (0 : Int32)), .val (.int (0 : Int32)), .val (.int (0 : Int32))] [(.int (0 : Int32)), (.int (0 : Int32))]))
      refine own_via (fun _ k => XS.icmpNo X37.here hx rfl (hb hby at_49) rfl (teq (by decide : (0 : Int32) = (0 : Int32))).2 k) ?_
      show own_Go p e below s _ _ _ (T37.setTop (mkF m 52 #[.val (.int p0), .val (.int p1), .val (.int (1 : Int32)), .val (.int (0 : Int32)), .val (.ref w3), .val (.ref w0), .val (.int (0 : Int32)), .val (.int (0 : Int32)), .val (.int (0 : Int32))] []))
      refine own_via (fun _ k => XS.iload X37.here hx rfl (hb hby at_52) rfl k) ?_
      show own_Go p e below s _ _ _ (T37.setTop (mkF m 54 #[.val (.int p0), .val (.int p1), .val (.int (1 : Int32)), .val (.int (0 : Int32)), .val (.ref w3), .val (.ref w0), .val (.int (0 : Int32)), .val (.int (0 : Int32)), .val (.int (0 : Int32))] [(.int (0 : Int32))]))
      refine own_via (fun _ k => XS.iload X37.here hx rfl (hb hby at_54) rfl k) ?_
      show own_Go p e below s _ _ _ (T37.setTop (mkF m 56 #[.val (.int p0), .val (.int p1), .val (.int (1 : Int32)), .val (.int (0 : Int32)), .val (.ref w3), .val (.ref w0), .val (.int (0 : Int32)), .val (.int (0 : Int32)), .val (.int (0 : Int32))] [(.int (0 : Int32)), (.int (0 : Int32))]))
      refine own_via (fun _ k => XS.icmpNo X37.here hx rfl (hb hby at_56) rfl (teq (by decide : (0 : Int32) = (0 : Int32))).2 k) ?_
      show own_Go p e below s _ _ _ (T37.setTop (mkF m 59 #[.val (.int p0), .val (.int p1), .val (.int (1 : Int32)), .val (.int (0 : Int32)), .val (.ref w3), .val (.ref w0), .val (.int (0 : Int32)), .val (.int (0 : Int32)), .val (.int (0 : Int32))] []))
      refine own_via (fun _ k => XS.iconst X37.here hx rfl (hb hby at_59) k) ?_
      show own_Go p e below s _ _ _ (T37.setTop (mkF m 60 #[.val (.int p0), .val (.int p1), .val (.int (1 : Int32)), .val (.int (0 : Int32)), .val (.ref w3), .val (.ref w0), .val (.int (0 : Int32)), .val (.int (0 : Int32)), .val (.int (0 : Int32))] [(.int (1 : Int32))]))
      refine own_via (fun _ k => XS.goto X37.here hx rfl (pc0 := 60) (pc' := 64) rfl (hb hby at_60) (by decide) (by decide) k) ?_
      show own_Go p e below s _ _ _ (T37.setTop (mkF m 64 #[.val (.int p0), .val (.int p1), .val (.int (1 : Int32)), .val (.int (0 : Int32)), .val (.ref w3), .val (.ref w0), .val (.int (0 : Int32)), .val (.int (0 : Int32)), .val (.int (0 : Int32))] [(.int (1 : Int32))]))
      exact own_retZ X37 hx hlk (t := .boolean) Bd.returns (by simp) (hb hby at_64) (z' := (1 : Int32)) (by first | rfl | decide) ⟨rfl, (Fr.nil n0)⟩ (by decide) (by decide)
    · rw [hk30]
      show own_Go p e below s _ _ _ (s₁.setTop (mkF m 7 #[.val (.int p0), .val (.int p1), .val (.int (1 : Int32)), .unset, .unset, .unset, .unset, .unset, .unset] [(.int (1 : Int32))]))
      refine own_via (fun _ k => XS.istoreN X0.here hx rfl (hb hby at_7) rfl (l' := #[.val (.int p0), .val (.int p1), .val (.int (1 : Int32)), .val (.int (1 : Int32)), .unset, .unset, .unset, .unset, .unset]) rfl k) ?_
      show own_Go p e below s _ _ _ (s₁.setTop (mkF m 8 #[.val (.int p0), .val (.int p1), .val (.int (1 : Int32)), .val (.int (1 : Int32)), .unset, .unset, .unset, .unset, .unset] []))
      refine own_via (fun _ k => XS.iloadN X0.here hx rfl (hb hby at_8) rfl k) ?_
      show own_Go p e below s _ _ _ (s₁.setTop (mkF m 9 #[.val (.int p0), .val (.int p1), .val (.int (1 : Int32)), .val (.int (1 : Int32)), .unset, .unset, .unset, .unset, .unset] [(.int (1 : Int32))]))
      obtain ⟨_, _, ⟨T38, L38, k38, n38⟩, -, X38, ⟨Lc38, hQ38, l38, y38, z38⟩, st38⟩ := Jvm.LawKit.callS X0 hx (y := (⟨"com/example/bericht/bericht/selector/ValueTypeAdmitsPinLaw", "pick", "(I)Lcom/example/bericht/bericht/selector/ValueType;"⟩ : MethodName)) hown (mvT hZ (hw _ (List.mem_of_getElem? (i := 0) rfl))) (mvT hZ (hw _ (List.mem_of_getElem? (i := 1) rfl))) (mvT hZ (hw _ (List.mem_of_getElem? (i := 2) rfl))) (mvT hZ (hw _ (List.mem_of_getElem? (i := 3) rfl))) (by decide) (backOf (W := 0) (rm1_1 l Z a0 hw [] w0 w1 w2 w3 h0 n0 Z0 K0) hZ (hw _ (List.mem_of_getElem? (i := 3) rfl)) (hw _ (List.mem_of_getElem? (i := 2) rfl)) (by decide) (by decide)) (g := (mkF m 9 #[.val (.int p0), .val (.int p1), .val (.int (1 : Int32)), .val (.int (1 : Int32)), .unset, .unset, .unset, .unset, .unset] [(.int (1 : Int32))])) rfl (by rw [hml]; rfl) (argsL := [(.int (1 : Int32))]) (rest := []) (lenOf pd0 rfl) rfl (by show 2 * 0 + _ ≤ _; exact Nat.le_of_eq rfl) (hb hby at_9) (fun _ _ => ⟨rfl, e0, (by decide : 0 + 0 ≤ _), (by decide : 0 + 0 ≤ _)⟩)
      dsimp only [Pt.U, Pt.locs, Pt.cells, Pt.slots] at X38 l38 y38 z38 st38 hQ38
      subst l38 y38 z38
      obtain ⟨rfl, e38, hO38⟩ := hQ38
      obtain rfl := hO38
      refine own_via st38 ?_
      show own_Go p e below s _ _ _ (T38.setTop (mkF m 12 #[.val (.int p0), .val (.int p1), .val (.int (1 : Int32)), .val (.int (1 : Int32)), .unset, .unset, .unset, .unset, .unset] [(.ref w3)]))
      refine own_via (fun _ k => XS.astore X38.here hx rfl (hb hby at_12) rfl rfl (l' := #[.val (.int p0), .val (.int p1), .val (.int (1 : Int32)), .val (.int (1 : Int32)), .val (.ref w3), .unset, .unset, .unset, .unset]) rfl k) ?_
      show own_Go p e below s _ _ _ (T38.setTop (mkF m 14 #[.val (.int p0), .val (.int p1), .val (.int (1 : Int32)), .val (.int (1 : Int32)), .val (.ref w3), .unset, .unset, .unset, .unset] []))
      refine own_via (fun _ k => XS.iloadN X38.here hx rfl (hb hby at_14) rfl k) ?_
      show own_Go p e below s _ _ _ (T38.setTop (mkF m 15 #[.val (.int p0), .val (.int p1), .val (.int (1 : Int32)), .val (.int (1 : Int32)), .val (.ref w3), .unset, .unset, .unset, .unset] [(.int (1 : Int32))]))
      obtain ⟨_, _, ⟨T39, L39, k39, n39⟩, -, X39, ⟨Lc39, hQ39, l39, y39, z39⟩, st39⟩ := Jvm.LawKit.callS X38 hx (y := (⟨"com/example/bericht/bericht/selector/ValueTypeAdmitsPinLaw", "pick", "(I)Lcom/example/bericht/bericht/selector/ValueType;"⟩ : MethodName)) hown (mvT hZ (hw _ (List.mem_of_getElem? (i := 0) rfl))) (mvT hZ (hw _ (List.mem_of_getElem? (i := 1) rfl))) (mvT hZ (hw _ (List.mem_of_getElem? (i := 2) rfl))) (mvT hZ (hw _ (List.mem_of_getElem? (i := 3) rfl))) (by decide) (backOf (W := 0) (rm1_1 l Z a0 hw [] w0 w1 w2 w3 h0 n0 Z0 K0) hZ (hw _ (List.mem_of_getElem? (i := 3) rfl)) (hw _ (List.mem_of_getElem? (i := 2) rfl)) (by decide) (by decide)) (g := (mkF m 15 #[.val (.int p0), .val (.int p1), .val (.int (1 : Int32)), .val (.int (1 : Int32)), .val (.ref w3), .unset, .unset, .unset, .unset] [(.int (1 : Int32))])) rfl (by rw [hml]; rfl) (argsL := [(.int (1 : Int32))]) (rest := []) (lenOf pd0 rfl) rfl (by show 2 * 0 + _ ≤ _; exact Nat.le_of_eq rfl) (hb hby at_15) (fun _ _ => ⟨rfl, e38, (by decide : 0 + 0 ≤ _), (by decide : 0 + 0 ≤ _)⟩)
      dsimp only [Pt.U, Pt.locs, Pt.cells, Pt.slots] at X39 l39 y39 z39 st39 hQ39
      subst l39 y39 z39
      obtain ⟨rfl, e39, hO39⟩ := hQ39
      obtain rfl := hO39
      refine own_via st39 ?_
      show own_Go p e below s _ _ _ (T39.setTop (mkF m 18 #[.val (.int p0), .val (.int p1), .val (.int (1 : Int32)), .val (.int (1 : Int32)), .val (.ref w3), .unset, .unset, .unset, .unset] [(.ref w3)]))
      refine own_via (fun _ k => XS.astore X39.here hx rfl (hb hby at_18) rfl rfl (l' := #[.val (.int p0), .val (.int p1), .val (.int (1 : Int32)), .val (.int (1 : Int32)), .val (.ref w3), .val (.ref w3), .unset, .unset, .unset]) rfl k) ?_
      show own_Go p e below s _ _ _ (T39.setTop (mkF m 20 #[.val (.int p0), .val (.int p1), .val (.int (1 : Int32)), .val (.int (1 : Int32)), .val (.ref w3), .val (.ref w3), .unset, .unset, .unset] []))
      refine own_via (fun _ k => XS.aload X39.here hx rfl (hb hby at_20) rfl rfl k) ?_
      show own_Go p e below s _ _ _ (T39.setTop (mkF m 22 #[.val (.int p0), .val (.int p1), .val (.int (1 : Int32)), .val (.int (1 : Int32)), .val (.ref w3), .val (.ref w3), .unset, .unset, .unset] [(.ref w3)]))
      refine own_via (fun _ k => XS.aload X39.here hx rfl (hb hby at_22) rfl rfl k) ?_
      show own_Go p e below s _ _ _ (T39.setTop (mkF m 24 #[.val (.int p0), .val (.int p1), .val (.int (1 : Int32)), .val (.int (1 : Int32)), .val (.ref w3), .val (.ref w3), .unset, .unset, .unset] [(.ref w3), (.ref w3)]))
      obtain ⟨cq40, kq40, q40a, q40b, q40c⟩ := isOf hZ e39 E_w3
      obtain ⟨_, _, ⟨T40, L40, k40, n40⟩, -, X40, ⟨Lc40, hQ40, l40, y40, z40⟩, st40⟩ := X39.virtualBack hx (y := (⟨"com/example/bericht/bericht/selector/ValueType", "admits", "(Lcom/example/bericht/bericht/selector/ValueType;)Z"⟩ : MethodName)) (z := (⟨"com/example/bericht/bericht/selector/ValueType", "admits", "(Lcom/example/bericht/bericht/selector/ValueType;)Z"⟩ : MethodName)) hown (mvT hZ (hw _ (List.mem_of_getElem? (i := 9) rfl))) (mvT hZ (hw _ (List.mem_of_getElem? (i := 10) rfl))) (notFace_of_selects (args := #[]) (mvT hZ (hw _ (List.mem_of_getElem? (i := 12) rfl)))) (mvT hZ (hw _ (List.mem_of_getElem? (i := 12) rfl))) (mvT hZ (hw _ (List.mem_of_getElem? (i := 11) rfl))) (by decide) (backOf (W := 0) (rm2_7 l Z a0 hw [] w0 w1 w2 w3 h0 n0 Z0 K0) hZ (hw _ (List.mem_of_getElem? (i := 13) rfl)) (hw _ (List.mem_of_getElem? (i := 5) rfl)) (by decide) (by decide)) q40a q40c (g := (mkF m 24 #[.val (.int p0), .val (.int p1), .val (.int (1 : Int32)), .val (.int (1 : Int32)), .val (.ref w3), .val (.ref w3), .unset, .unset, .unset] [(.ref w3), (.ref w3)])) rfl (by rw [hml]; rfl) (Steps.refl _) (argsL := [(.ref w3)]) (rest := []) (lenOf pd1 rfl) rfl (by show 2 * 0 + _ ≤ _; exact Nat.le_of_eq rfl) (hb hby at_24) (fun _ _ => ⟨rfl, e39, (by decide : 0 + 0 ≤ _), (by decide : 0 + 0 ≤ _)⟩)
      dsimp only [Pt.U, Pt.locs, Pt.cells, Pt.slots] at X40 l40 y40 z40 st40 hQ40
      subst l40 y40 z40
      obtain ⟨rfl, e40, hO40⟩ := hQ40
      obtain rfl := hO40
      refine own_tr st40 ?_
      show own_Go p e below s _ _ _ (T40.setTop (mkF m 27 #[.val (.int p0), .val (.int p1), .val (.int (1 : Int32)), .val (.int (1 : Int32)), .val (.ref w3), .val (.ref w3), .unset, .unset, .unset] [(.int (1 : Int32))]))
      refine own_via (fun _ k => XS.istore X40.here hx rfl (hb hby at_27) rfl (l' := #[.val (.int p0), .val (.int p1), .val (.int (1 : Int32)), .val (.int (1 : Int32)), .val (.ref w3), .val (.ref w3), .val (.int (1 : Int32)), .unset, .unset]) rfl k) ?_
      show own_Go p e below s _ _ _ (T40.setTop (mkF m 29 #[.val (.int p0), .val (.int p1), .val (.int (1 : Int32)), .val (.int (1 : Int32)), .val (.ref w3), .val (.ref w3), .val (.int (1 : Int32)), .unset, .unset] []))
      refine own_via (fun _ k => XS.aload X40.here hx rfl (hb hby at_29) rfl rfl k) ?_
      show own_Go p e below s _ _ _ (T40.setTop (mkF m 31 #[.val (.int p0), .val (.int p1), .val (.int (1 : Int32)), .val (.int (1 : Int32)), .val (.ref w3), .val (.ref w3), .val (.int (1 : Int32)), .unset, .unset] [(.ref w3)]))
      refine own_via (fun _ k => XS.aload X40.here hx rfl (hb hby at_31) rfl rfl k) ?_
      show own_Go p e below s _ _ _ (T40.setTop (mkF m 33 #[.val (.int p0), .val (.int p1), .val (.int (1 : Int32)), .val (.int (1 : Int32)), .val (.ref w3), .val (.ref w3), .val (.int (1 : Int32)), .unset, .unset] [(.ref w3), (.ref w3)]))
      obtain ⟨cq41, kq41, q41a, q41b, q41c⟩ := isOf hZ e40 E_w3
      obtain ⟨_, _, ⟨T41, L41, k41, n41⟩, -, X41, ⟨Lc41, hQ41, l41, y41, z41⟩, st41⟩ := X40.virtualBack hx (y := (⟨"com/example/bericht/bericht/selector/ValueType", "admits", "(Lcom/example/bericht/bericht/selector/ValueType;)Z"⟩ : MethodName)) (z := (⟨"com/example/bericht/bericht/selector/ValueType", "admits", "(Lcom/example/bericht/bericht/selector/ValueType;)Z"⟩ : MethodName)) hown (mvT hZ (hw _ (List.mem_of_getElem? (i := 9) rfl))) (mvT hZ (hw _ (List.mem_of_getElem? (i := 10) rfl))) (notFace_of_selects (args := #[]) (mvT hZ (hw _ (List.mem_of_getElem? (i := 12) rfl)))) (mvT hZ (hw _ (List.mem_of_getElem? (i := 12) rfl))) (mvT hZ (hw _ (List.mem_of_getElem? (i := 11) rfl))) (by decide) (backOf (W := 0) (rm2_7 l Z a0 hw [] w0 w1 w2 w3 h0 n0 Z0 K0) hZ (hw _ (List.mem_of_getElem? (i := 13) rfl)) (hw _ (List.mem_of_getElem? (i := 5) rfl)) (by decide) (by decide)) q41a q41c (g := (mkF m 33 #[.val (.int p0), .val (.int p1), .val (.int (1 : Int32)), .val (.int (1 : Int32)), .val (.ref w3), .val (.ref w3), .val (.int (1 : Int32)), .unset, .unset] [(.ref w3), (.ref w3)])) rfl (by rw [hml]; rfl) (Steps.refl _) (argsL := [(.ref w3)]) (rest := []) (lenOf pd1 rfl) rfl (by show 2 * 0 + _ ≤ _; exact Nat.le_of_eq rfl) (hb hby at_33) (fun _ _ => ⟨rfl, e40, (by decide : 0 + 0 ≤ _), (by decide : 0 + 0 ≤ _)⟩)
      dsimp only [Pt.U, Pt.locs, Pt.cells, Pt.slots] at X41 l41 y41 z41 st41 hQ41
      subst l41 y41 z41
      obtain ⟨rfl, e41, hO41⟩ := hQ41
      obtain rfl := hO41
      refine own_tr st41 ?_
      show own_Go p e below s _ _ _ (T41.setTop (mkF m 36 #[.val (.int p0), .val (.int p1), .val (.int (1 : Int32)), .val (.int (1 : Int32)), .val (.ref w3), .val (.ref w3), .val (.int (1 : Int32)), .unset, .unset] [(.int (1 : Int32))]))
      refine own_via (fun _ k => XS.istore X41.here hx rfl (hb hby at_36) rfl (l' := #[.val (.int p0), .val (.int p1), .val (.int (1 : Int32)), .val (.int (1 : Int32)), .val (.ref w3), .val (.ref w3), .val (.int (1 : Int32)), .val (.int (1 : Int32)), .unset]) rfl k) ?_
      show own_Go p e below s _ _ _ (T41.setTop (mkF m 38 #[.val (.int p0), .val (.int p1), .val (.int (1 : Int32)), .val (.int (1 : Int32)), .val (.ref w3), .val (.ref w3), .val (.int (1 : Int32)), .val (.int (1 : Int32)), .unset] []))
      refine own_via (fun _ k => XS.iloadN X41.here hx rfl (hb hby at_38) rfl k) ?_
      show own_Go p e below s _ _ _ (T41.setTop (mkF m 39 #[.val (.int p0), .val (.int p1), .val (.int (1 : Int32)), .val (.int (1 : Int32)), .val (.ref w3), .val (.ref w3), .val (.int (1 : Int32)), .val (.int (1 : Int32)), .unset] [(.int (1 : Int32))]))
      refine own_via (fun _ k => XS.iloadN X41.here hx rfl (hb hby at_39) rfl k) ?_
      show own_Go p e below s _ _ _ (T41.setTop (mkF m 40 #[.val (.int p0), .val (.int p1), .val (.int (1 : Int32)), .val (.int (1 : Int32)), .val (.ref w3), .val (.ref w3), .val (.int (1 : Int32)), .val (.int (1 : Int32)), .unset] [(.int (1 : Int32)), (.int (1 : Int32))]))
      obtain ⟨_, _, ⟨T42, L42, k42, n42⟩, -, X42, ⟨Lc42, hQ42, l42, y42, z42⟩, st42⟩ := Jvm.LawKit.callS X41 hx (y := (⟨"com/example/bericht/bericht/selector/ValueTypeAdmitsPinLaw", "expected", "(II)Z"⟩ : MethodName)) hown (mvT hZ (hw _ (List.mem_of_getElem? (i := 15) rfl))) (mvT hZ (hw _ (List.mem_of_getElem? (i := 16) rfl))) (mvT hZ (hw _ (List.mem_of_getElem? (i := 2) rfl))) (mvT hZ (hw _ (List.mem_of_getElem? (i := 17) rfl))) (by decide) (backOf (W := 0) (rm3_5 l Z a0 hw [] w0 w1 w2 w3 h0 n0 Z0 K0) hZ (hw _ (List.mem_of_getElem? (i := 17) rfl)) (hw _ (List.mem_of_getElem? (i := 2) rfl)) (by decide) (by decide)) (g := (mkF m 40 #[.val (.int p0), .val (.int p1), .val (.int (1 : Int32)), .val (.int (1 : Int32)), .val (.ref w3), .val (.ref w3), .val (.int (1 : Int32)), .val (.int (1 : Int32)), .unset] [(.int (1 : Int32)), (.int (1 : Int32))])) rfl (by rw [hml]; rfl) (argsL := [(.int (1 : Int32)), (.int (1 : Int32))]) (rest := []) (lenOf pd2 rfl) rfl (by show 2 * 0 + _ ≤ _; exact Nat.le_of_eq rfl) (hb hby at_40) (fun _ _ => ⟨rfl, e41, (by decide : 0 + 0 ≤ _), (by decide : 0 + 0 ≤ _)⟩)
      dsimp only [Pt.U, Pt.locs, Pt.cells, Pt.slots] at X42 l42 y42 z42 st42 hQ42
      subst l42 y42 z42
      obtain ⟨rfl, e42, hO42⟩ := hQ42
      obtain rfl := hO42
      refine own_via st42 ?_
      show own_Go p e below s _ _ _ (T42.setTop (mkF m 43 #[.val (.int p0), .val (.int p1), .val (.int (1 : Int32)), .val (.int (1 : Int32)), .val (.ref w3), .val (.ref w3), .val (.int (1 : Int32)), .val (.int (1 : Int32)), .unset] [(.int (1 : Int32))]))
      refine own_via (fun _ k => XS.istore X42.here hx rfl (hb hby at_43) rfl (l' := #[.val (.int p0), .val (.int p1), .val (.int (1 : Int32)), .val (.int (1 : Int32)), .val (.ref w3), .val (.ref w3), .val (.int (1 : Int32)), .val (.int (1 : Int32)), .val (.int (1 : Int32))]) rfl k) ?_
      show own_Go p e below s _ _ _ (T42.setTop (mkF m 45 #[.val (.int p0), .val (.int p1), .val (.int (1 : Int32)), .val (.int (1 : Int32)), .val (.ref w3), .val (.ref w3), .val (.int (1 : Int32)), .val (.int (1 : Int32)), .val (.int (1 : Int32))] []))
      refine own_via (fun _ k => XS.iload X42.here hx rfl (hb hby at_45) rfl k) ?_
      show own_Go p e below s _ _ _ (T42.setTop (mkF m 47 #[.val (.int p0), .val (.int p1), .val (.int (1 : Int32)), .val (.int (1 : Int32)), .val (.ref w3), .val (.ref w3), .val (.int (1 : Int32)), .val (.int (1 : Int32)), .val (.int (1 : Int32))] [(.int (1 : Int32))]))
      refine own_via (fun _ k => XS.iload X42.here hx rfl (hb hby at_47) rfl k) ?_
      show own_Go p e below s _ _ _ (T42.setTop (mkF m 49 #[.val (.int p0), .val (.int p1), .val (.int (1 : Int32)), .val (.int (1 : Int32)), .val (.ref w3), .val (.ref w3), .val (.int (1 : Int32)), .val (.int (1 : Int32)), .val (.int (1 : Int32))] [(.int (1 : Int32)), (.int (1 : Int32))]))
      refine own_via (fun _ k => XS.icmpNo X42.here hx rfl (hb hby at_49) rfl (teq (by decide : (1 : Int32) = (1 : Int32))).2 k) ?_
      show own_Go p e below s _ _ _ (T42.setTop (mkF m 52 #[.val (.int p0), .val (.int p1), .val (.int (1 : Int32)), .val (.int (1 : Int32)), .val (.ref w3), .val (.ref w3), .val (.int (1 : Int32)), .val (.int (1 : Int32)), .val (.int (1 : Int32))] []))
      refine own_via (fun _ k => XS.iload X42.here hx rfl (hb hby at_52) rfl k) ?_
      show own_Go p e below s _ _ _ (T42.setTop (mkF m 54 #[.val (.int p0), .val (.int p1), .val (.int (1 : Int32)), .val (.int (1 : Int32)), .val (.ref w3), .val (.ref w3), .val (.int (1 : Int32)), .val (.int (1 : Int32)), .val (.int (1 : Int32))] [(.int (1 : Int32))]))
      refine own_via (fun _ k => XS.iload X42.here hx rfl (hb hby at_54) rfl k) ?_
      show own_Go p e below s _ _ _ (T42.setTop (mkF m 56 #[.val (.int p0), .val (.int p1), .val (.int (1 : Int32)), .val (.int (1 : Int32)), .val (.ref w3), .val (.ref w3), .val (.int (1 : Int32)), .val (.int (1 : Int32)), .val (.int (1 : Int32))] [(.int (1 : Int32)), (.int (1 : Int32))]))
      refine own_via (fun _ k => XS.icmpNo X42.here hx rfl (hb hby at_56) rfl (teq (by decide : (1 : Int32) = (1 : Int32))).2 k) ?_
      show own_Go p e below s _ _ _ (T42.setTop (mkF m 59 #[.val (.int p0), .val (.int p1), .val (.int (1 : Int32)), .val (.int (1 : Int32)), .val (.ref w3), .val (.ref w3), .val (.int (1 : Int32)), .val (.int (1 : Int32)), .val (.int (1 : Int32))] []))
      refine own_via (fun _ k => XS.iconst X42.here hx rfl (hb hby at_59) k) ?_
      show own_Go p e below s _ _ _ (T42.setTop (mkF m 60 #[.val (.int p0), .val (.int p1), .val (.int (1 : Int32)), .val (.int (1 : Int32)), .val (.ref w3), .val (.ref w3), .val (.int (1 : Int32)), .val (.int (1 : Int32)), .val (.int (1 : Int32))] [(.int (1 : Int32))]))
      refine own_via (fun _ k => XS.goto X42.here hx rfl (pc0 := 60) (pc' := 64) rfl (hb hby at_60) (by decide) (by decide) k) ?_
      show own_Go p e below s _ _ _ (T42.setTop (mkF m 64 #[.val (.int p0), .val (.int p1), .val (.int (1 : Int32)), .val (.int (1 : Int32)), .val (.ref w3), .val (.ref w3), .val (.int (1 : Int32)), .val (.int (1 : Int32)), .val (.int (1 : Int32))] [(.int (1 : Int32))]))
      exact own_retZ X42 hx hlk (t := .boolean) Bd.returns (by simp) (hb hby at_64) (z' := (1 : Int32)) (by first | rfl | decide) ⟨rfl, (Fr.nil n0)⟩ (by decide) (by decide)
    · rw [hk31]
      show own_Go p e below s _ _ _ (s₁.setTop (mkF m 7 #[.val (.int p0), .val (.int p1), .val (.int (1 : Int32)), .unset, .unset, .unset, .unset, .unset, .unset] [(.int (2 : Int32))]))
      refine own_via (fun _ k => XS.istoreN X0.here hx rfl (hb hby at_7) rfl (l' := #[.val (.int p0), .val (.int p1), .val (.int (1 : Int32)), .val (.int (2 : Int32)), .unset, .unset, .unset, .unset, .unset]) rfl k) ?_
      show own_Go p e below s _ _ _ (s₁.setTop (mkF m 8 #[.val (.int p0), .val (.int p1), .val (.int (1 : Int32)), .val (.int (2 : Int32)), .unset, .unset, .unset, .unset, .unset] []))
      refine own_via (fun _ k => XS.iloadN X0.here hx rfl (hb hby at_8) rfl k) ?_
      show own_Go p e below s _ _ _ (s₁.setTop (mkF m 9 #[.val (.int p0), .val (.int p1), .val (.int (1 : Int32)), .val (.int (2 : Int32)), .unset, .unset, .unset, .unset, .unset] [(.int (1 : Int32))]))
      obtain ⟨_, _, ⟨T43, L43, k43, n43⟩, -, X43, ⟨Lc43, hQ43, l43, y43, z43⟩, st43⟩ := Jvm.LawKit.callS X0 hx (y := (⟨"com/example/bericht/bericht/selector/ValueTypeAdmitsPinLaw", "pick", "(I)Lcom/example/bericht/bericht/selector/ValueType;"⟩ : MethodName)) hown (mvT hZ (hw _ (List.mem_of_getElem? (i := 0) rfl))) (mvT hZ (hw _ (List.mem_of_getElem? (i := 1) rfl))) (mvT hZ (hw _ (List.mem_of_getElem? (i := 2) rfl))) (mvT hZ (hw _ (List.mem_of_getElem? (i := 3) rfl))) (by decide) (backOf (W := 0) (rm1_1 l Z a0 hw [] w0 w1 w2 w3 h0 n0 Z0 K0) hZ (hw _ (List.mem_of_getElem? (i := 3) rfl)) (hw _ (List.mem_of_getElem? (i := 2) rfl)) (by decide) (by decide)) (g := (mkF m 9 #[.val (.int p0), .val (.int p1), .val (.int (1 : Int32)), .val (.int (2 : Int32)), .unset, .unset, .unset, .unset, .unset] [(.int (1 : Int32))])) rfl (by rw [hml]; rfl) (argsL := [(.int (1 : Int32))]) (rest := []) (lenOf pd0 rfl) rfl (by show 2 * 0 + _ ≤ _; exact Nat.le_of_eq rfl) (hb hby at_9) (fun _ _ => ⟨rfl, e0, (by decide : 0 + 0 ≤ _), (by decide : 0 + 0 ≤ _)⟩)
      dsimp only [Pt.U, Pt.locs, Pt.cells, Pt.slots] at X43 l43 y43 z43 st43 hQ43
      subst l43 y43 z43
      obtain ⟨rfl, e43, hO43⟩ := hQ43
      obtain rfl := hO43
      refine own_via st43 ?_
      show own_Go p e below s _ _ _ (T43.setTop (mkF m 12 #[.val (.int p0), .val (.int p1), .val (.int (1 : Int32)), .val (.int (2 : Int32)), .unset, .unset, .unset, .unset, .unset] [(.ref w3)]))
      refine own_via (fun _ k => XS.astore X43.here hx rfl (hb hby at_12) rfl rfl (l' := #[.val (.int p0), .val (.int p1), .val (.int (1 : Int32)), .val (.int (2 : Int32)), .val (.ref w3), .unset, .unset, .unset, .unset]) rfl k) ?_
      show own_Go p e below s _ _ _ (T43.setTop (mkF m 14 #[.val (.int p0), .val (.int p1), .val (.int (1 : Int32)), .val (.int (2 : Int32)), .val (.ref w3), .unset, .unset, .unset, .unset] []))
      refine own_via (fun _ k => XS.iloadN X43.here hx rfl (hb hby at_14) rfl k) ?_
      show own_Go p e below s _ _ _ (T43.setTop (mkF m 15 #[.val (.int p0), .val (.int p1), .val (.int (1 : Int32)), .val (.int (2 : Int32)), .val (.ref w3), .unset, .unset, .unset, .unset] [(.int (2 : Int32))]))
      obtain ⟨_, _, ⟨T44, L44, k44, n44⟩, -, X44, ⟨Lc44, hQ44, l44, y44, z44⟩, st44⟩ := Jvm.LawKit.callS X43 hx (y := (⟨"com/example/bericht/bericht/selector/ValueTypeAdmitsPinLaw", "pick", "(I)Lcom/example/bericht/bericht/selector/ValueType;"⟩ : MethodName)) hown (mvT hZ (hw _ (List.mem_of_getElem? (i := 0) rfl))) (mvT hZ (hw _ (List.mem_of_getElem? (i := 1) rfl))) (mvT hZ (hw _ (List.mem_of_getElem? (i := 2) rfl))) (mvT hZ (hw _ (List.mem_of_getElem? (i := 3) rfl))) (by decide) (backOf (W := 0) (rm1_2 l Z a0 hw [] w0 w1 w2 w3 h0 n0 Z0 K0) hZ (hw _ (List.mem_of_getElem? (i := 3) rfl)) (hw _ (List.mem_of_getElem? (i := 2) rfl)) (by decide) (by decide)) (g := (mkF m 15 #[.val (.int p0), .val (.int p1), .val (.int (1 : Int32)), .val (.int (2 : Int32)), .val (.ref w3), .unset, .unset, .unset, .unset] [(.int (2 : Int32))])) rfl (by rw [hml]; rfl) (argsL := [(.int (2 : Int32))]) (rest := []) (lenOf pd0 rfl) rfl (by show 2 * 0 + _ ≤ _; exact Nat.le_of_eq rfl) (hb hby at_15) (fun _ _ => ⟨rfl, e43, (by decide : 0 + 0 ≤ _), (by decide : 0 + 0 ≤ _)⟩)
      dsimp only [Pt.U, Pt.locs, Pt.cells, Pt.slots] at X44 l44 y44 z44 st44 hQ44
      subst l44 y44 z44
      obtain ⟨rfl, e44, hO44⟩ := hQ44
      obtain rfl := hO44
      refine own_via st44 ?_
      show own_Go p e below s _ _ _ (T44.setTop (mkF m 18 #[.val (.int p0), .val (.int p1), .val (.int (1 : Int32)), .val (.int (2 : Int32)), .val (.ref w3), .unset, .unset, .unset, .unset] [(.ref w2)]))
      refine own_via (fun _ k => XS.astore X44.here hx rfl (hb hby at_18) rfl rfl (l' := #[.val (.int p0), .val (.int p1), .val (.int (1 : Int32)), .val (.int (2 : Int32)), .val (.ref w3), .val (.ref w2), .unset, .unset, .unset]) rfl k) ?_
      show own_Go p e below s _ _ _ (T44.setTop (mkF m 20 #[.val (.int p0), .val (.int p1), .val (.int (1 : Int32)), .val (.int (2 : Int32)), .val (.ref w3), .val (.ref w2), .unset, .unset, .unset] []))
      refine own_via (fun _ k => XS.aload X44.here hx rfl (hb hby at_20) rfl rfl k) ?_
      show own_Go p e below s _ _ _ (T44.setTop (mkF m 22 #[.val (.int p0), .val (.int p1), .val (.int (1 : Int32)), .val (.int (2 : Int32)), .val (.ref w3), .val (.ref w2), .unset, .unset, .unset] [(.ref w3)]))
      refine own_via (fun _ k => XS.aload X44.here hx rfl (hb hby at_22) rfl rfl k) ?_
      show own_Go p e below s _ _ _ (T44.setTop (mkF m 24 #[.val (.int p0), .val (.int p1), .val (.int (1 : Int32)), .val (.int (2 : Int32)), .val (.ref w3), .val (.ref w2), .unset, .unset, .unset] [(.ref w2), (.ref w3)]))
      obtain ⟨cq45, kq45, q45a, q45b, q45c⟩ := isOf hZ e44 E_w3
      obtain ⟨_, _, ⟨T45, L45, k45, n45⟩, -, X45, ⟨Lc45, hQ45, l45, y45, z45⟩, st45⟩ := X44.virtualBack hx (y := (⟨"com/example/bericht/bericht/selector/ValueType", "admits", "(Lcom/example/bericht/bericht/selector/ValueType;)Z"⟩ : MethodName)) (z := (⟨"com/example/bericht/bericht/selector/ValueType", "admits", "(Lcom/example/bericht/bericht/selector/ValueType;)Z"⟩ : MethodName)) hown (mvT hZ (hw _ (List.mem_of_getElem? (i := 9) rfl))) (mvT hZ (hw _ (List.mem_of_getElem? (i := 10) rfl))) (notFace_of_selects (args := #[]) (mvT hZ (hw _ (List.mem_of_getElem? (i := 12) rfl)))) (mvT hZ (hw _ (List.mem_of_getElem? (i := 12) rfl))) (mvT hZ (hw _ (List.mem_of_getElem? (i := 11) rfl))) (by decide) (backOf (W := 0) (rm2_8 l Z a0 hw [] w0 w1 w2 w3 h0 n0 Z0 K0) hZ (hw _ (List.mem_of_getElem? (i := 13) rfl)) (hw _ (List.mem_of_getElem? (i := 5) rfl)) (by decide) (by decide)) q45a q45c (g := (mkF m 24 #[.val (.int p0), .val (.int p1), .val (.int (1 : Int32)), .val (.int (2 : Int32)), .val (.ref w3), .val (.ref w2), .unset, .unset, .unset] [(.ref w2), (.ref w3)])) rfl (by rw [hml]; rfl) (Steps.refl _) (argsL := [(.ref w2)]) (rest := []) (lenOf pd1 rfl) rfl (by show 2 * 0 + _ ≤ _; exact Nat.le_of_eq rfl) (hb hby at_24) (fun _ _ => ⟨rfl, e44, (by decide : 0 + 0 ≤ _), (by decide : 0 + 0 ≤ _)⟩)
      dsimp only [Pt.U, Pt.locs, Pt.cells, Pt.slots] at X45 l45 y45 z45 st45 hQ45
      subst l45 y45 z45
      obtain ⟨rfl, e45, hO45⟩ := hQ45
      obtain rfl := hO45
      refine own_tr st45 ?_
      show own_Go p e below s _ _ _ (T45.setTop (mkF m 27 #[.val (.int p0), .val (.int p1), .val (.int (1 : Int32)), .val (.int (2 : Int32)), .val (.ref w3), .val (.ref w2), .unset, .unset, .unset] [(.int (0 : Int32))]))
      refine own_via (fun _ k => XS.istore X45.here hx rfl (hb hby at_27) rfl (l' := #[.val (.int p0), .val (.int p1), .val (.int (1 : Int32)), .val (.int (2 : Int32)), .val (.ref w3), .val (.ref w2), .val (.int (0 : Int32)), .unset, .unset]) rfl k) ?_
      show own_Go p e below s _ _ _ (T45.setTop (mkF m 29 #[.val (.int p0), .val (.int p1), .val (.int (1 : Int32)), .val (.int (2 : Int32)), .val (.ref w3), .val (.ref w2), .val (.int (0 : Int32)), .unset, .unset] []))
      refine own_via (fun _ k => XS.aload X45.here hx rfl (hb hby at_29) rfl rfl k) ?_
      show own_Go p e below s _ _ _ (T45.setTop (mkF m 31 #[.val (.int p0), .val (.int p1), .val (.int (1 : Int32)), .val (.int (2 : Int32)), .val (.ref w3), .val (.ref w2), .val (.int (0 : Int32)), .unset, .unset] [(.ref w2)]))
      refine own_via (fun _ k => XS.aload X45.here hx rfl (hb hby at_31) rfl rfl k) ?_
      show own_Go p e below s _ _ _ (T45.setTop (mkF m 33 #[.val (.int p0), .val (.int p1), .val (.int (1 : Int32)), .val (.int (2 : Int32)), .val (.ref w3), .val (.ref w2), .val (.int (0 : Int32)), .unset, .unset] [(.ref w3), (.ref w2)]))
      obtain ⟨cq46, kq46, q46a, q46b, q46c⟩ := isOf hZ e45 E_w2
      obtain ⟨_, _, ⟨T46, L46, k46, n46⟩, -, X46, ⟨Lc46, hQ46, l46, y46, z46⟩, st46⟩ := X45.virtualBack hx (y := (⟨"com/example/bericht/bericht/selector/ValueType", "admits", "(Lcom/example/bericht/bericht/selector/ValueType;)Z"⟩ : MethodName)) (z := (⟨"com/example/bericht/bericht/selector/ValueType", "admits", "(Lcom/example/bericht/bericht/selector/ValueType;)Z"⟩ : MethodName)) hown (mvT hZ (hw _ (List.mem_of_getElem? (i := 9) rfl))) (mvT hZ (hw _ (List.mem_of_getElem? (i := 10) rfl))) (notFace_of_selects (args := #[]) (mvT hZ (hw _ (List.mem_of_getElem? (i := 12) rfl)))) (mvT hZ (hw _ (List.mem_of_getElem? (i := 12) rfl))) (mvT hZ (hw _ (List.mem_of_getElem? (i := 11) rfl))) (by decide) (backOf (W := 0) (rm2_9 l Z a0 hw [] w0 w1 w2 w3 h0 n0 Z0 K0) hZ (hw _ (List.mem_of_getElem? (i := 13) rfl)) (hw _ (List.mem_of_getElem? (i := 5) rfl)) (by decide) (by decide)) q46a q46c (g := (mkF m 33 #[.val (.int p0), .val (.int p1), .val (.int (1 : Int32)), .val (.int (2 : Int32)), .val (.ref w3), .val (.ref w2), .val (.int (0 : Int32)), .unset, .unset] [(.ref w3), (.ref w2)])) rfl (by rw [hml]; rfl) (Steps.refl _) (argsL := [(.ref w3)]) (rest := []) (lenOf pd1 rfl) rfl (by show 2 * 0 + _ ≤ _; exact Nat.le_of_eq rfl) (hb hby at_33) (fun _ _ => ⟨rfl, e45, (by decide : 0 + 0 ≤ _), (by decide : 0 + 0 ≤ _)⟩)
      dsimp only [Pt.U, Pt.locs, Pt.cells, Pt.slots] at X46 l46 y46 z46 st46 hQ46
      subst l46 y46 z46
      obtain ⟨rfl, e46, hO46⟩ := hQ46
      obtain rfl := hO46
      refine own_tr st46 ?_
      show own_Go p e below s _ _ _ (T46.setTop (mkF m 36 #[.val (.int p0), .val (.int p1), .val (.int (1 : Int32)), .val (.int (2 : Int32)), .val (.ref w3), .val (.ref w2), .val (.int (0 : Int32)), .unset, .unset] [(.int (0 : Int32))]))
      refine own_via (fun _ k => XS.istore X46.here hx rfl (hb hby at_36) rfl (l' := #[.val (.int p0), .val (.int p1), .val (.int (1 : Int32)), .val (.int (2 : Int32)), .val (.ref w3), .val (.ref w2), .val (.int (0 : Int32)), .val (.int (0 : Int32)), .unset]) rfl k) ?_
      show own_Go p e below s _ _ _ (T46.setTop (mkF m 38 #[.val (.int p0), .val (.int p1), .val (.int (1 : Int32)), .val (.int (2 : Int32)), .val (.ref w3), .val (.ref w2), .val (.int (0 : Int32)), .val (.int (0 : Int32)), .unset] []))
      refine own_via (fun _ k => XS.iloadN X46.here hx rfl (hb hby at_38) rfl k) ?_
      show own_Go p e below s _ _ _ (T46.setTop (mkF m 39 #[.val (.int p0), .val (.int p1), .val (.int (1 : Int32)), .val (.int (2 : Int32)), .val (.ref w3), .val (.ref w2), .val (.int (0 : Int32)), .val (.int (0 : Int32)), .unset] [(.int (1 : Int32))]))
      refine own_via (fun _ k => XS.iloadN X46.here hx rfl (hb hby at_39) rfl k) ?_
      show own_Go p e below s _ _ _ (T46.setTop (mkF m 40 #[.val (.int p0), .val (.int p1), .val (.int (1 : Int32)), .val (.int (2 : Int32)), .val (.ref w3), .val (.ref w2), .val (.int (0 : Int32)), .val (.int (0 : Int32)), .unset] [(.int (2 : Int32)), (.int (1 : Int32))]))
      obtain ⟨_, _, ⟨T47, L47, k47, n47⟩, -, X47, ⟨Lc47, hQ47, l47, y47, z47⟩, st47⟩ := Jvm.LawKit.callS X46 hx (y := (⟨"com/example/bericht/bericht/selector/ValueTypeAdmitsPinLaw", "expected", "(II)Z"⟩ : MethodName)) hown (mvT hZ (hw _ (List.mem_of_getElem? (i := 15) rfl))) (mvT hZ (hw _ (List.mem_of_getElem? (i := 16) rfl))) (mvT hZ (hw _ (List.mem_of_getElem? (i := 2) rfl))) (mvT hZ (hw _ (List.mem_of_getElem? (i := 17) rfl))) (by decide) (backOf (W := 0) (rm3_6 l Z a0 hw [] w0 w1 w2 w3 h0 n0 Z0 K0) hZ (hw _ (List.mem_of_getElem? (i := 17) rfl)) (hw _ (List.mem_of_getElem? (i := 2) rfl)) (by decide) (by decide)) (g := (mkF m 40 #[.val (.int p0), .val (.int p1), .val (.int (1 : Int32)), .val (.int (2 : Int32)), .val (.ref w3), .val (.ref w2), .val (.int (0 : Int32)), .val (.int (0 : Int32)), .unset] [(.int (2 : Int32)), (.int (1 : Int32))])) rfl (by rw [hml]; rfl) (argsL := [(.int (1 : Int32)), (.int (2 : Int32))]) (rest := []) (lenOf pd2 rfl) rfl (by show 2 * 0 + _ ≤ _; exact Nat.le_of_eq rfl) (hb hby at_40) (fun _ _ => ⟨rfl, e46, (by decide : 0 + 0 ≤ _), (by decide : 0 + 0 ≤ _)⟩)
      dsimp only [Pt.U, Pt.locs, Pt.cells, Pt.slots] at X47 l47 y47 z47 st47 hQ47
      subst l47 y47 z47
      obtain ⟨rfl, e47, hO47⟩ := hQ47
      obtain rfl := hO47
      refine own_via st47 ?_
      show own_Go p e below s _ _ _ (T47.setTop (mkF m 43 #[.val (.int p0), .val (.int p1), .val (.int (1 : Int32)), .val (.int (2 : Int32)), .val (.ref w3), .val (.ref w2), .val (.int (0 : Int32)), .val (.int (0 : Int32)), .unset] [(.int (0 : Int32))]))
      refine own_via (fun _ k => XS.istore X47.here hx rfl (hb hby at_43) rfl (l' := #[.val (.int p0), .val (.int p1), .val (.int (1 : Int32)), .val (.int (2 : Int32)), .val (.ref w3), .val (.ref w2), .val (.int (0 : Int32)), .val (.int (0 : Int32)), .val (.int (0 : Int32))]) rfl k) ?_
      show own_Go p e below s _ _ _ (T47.setTop (mkF m 45 #[.val (.int p0), .val (.int p1), .val (.int (1 : Int32)), .val (.int (2 : Int32)), .val (.ref w3), .val (.ref w2), .val (.int (0 : Int32)), .val (.int (0 : Int32)), .val (.int (0 : Int32))] []))
      refine own_via (fun _ k => XS.iload X47.here hx rfl (hb hby at_45) rfl k) ?_
      show own_Go p e below s _ _ _ (T47.setTop (mkF m 47 #[.val (.int p0), .val (.int p1), .val (.int (1 : Int32)), .val (.int (2 : Int32)), .val (.ref w3), .val (.ref w2), .val (.int (0 : Int32)), .val (.int (0 : Int32)), .val (.int (0 : Int32))] [(.int (0 : Int32))]))
      refine own_via (fun _ k => XS.iload X47.here hx rfl (hb hby at_47) rfl k) ?_
      show own_Go p e below s _ _ _ (T47.setTop (mkF m 49 #[.val (.int p0), .val (.int p1), .val (.int (1 : Int32)), .val (.int (2 : Int32)), .val (.ref w3), .val (.ref w2), .val (.int (0 : Int32)), .val (.int (0 : Int32)), .val (.int (0 : Int32))] [(.int (0 : Int32)), (.int (0 : Int32))]))
      refine own_via (fun _ k => XS.icmpNo X47.here hx rfl (hb hby at_49) rfl (teq (by decide : (0 : Int32) = (0 : Int32))).2 k) ?_
      show own_Go p e below s _ _ _ (T47.setTop (mkF m 52 #[.val (.int p0), .val (.int p1), .val (.int (1 : Int32)), .val (.int (2 : Int32)), .val (.ref w3), .val (.ref w2), .val (.int (0 : Int32)), .val (.int (0 : Int32)), .val (.int (0 : Int32))] []))
      refine own_via (fun _ k => XS.iload X47.here hx rfl (hb hby at_52) rfl k) ?_
      show own_Go p e below s _ _ _ (T47.setTop (mkF m 54 #[.val (.int p0), .val (.int p1), .val (.int (1 : Int32)), .val (.int (2 : Int32)), .val (.ref w3), .val (.ref w2), .val (.int (0 : Int32)), .val (.int (0 : Int32)), .val (.int (0 : Int32))] [(.int (0 : Int32))]))
      refine own_via (fun _ k => XS.iload X47.here hx rfl (hb hby at_54) rfl k) ?_
      show own_Go p e below s _ _ _ (T47.setTop (mkF m 56 #[.val (.int p0), .val (.int p1), .val (.int (1 : Int32)), .val (.int (2 : Int32)), .val (.ref w3), .val (.ref w2), .val (.int (0 : Int32)), .val (.int (0 : Int32)), .val (.int (0 : Int32))] [(.int (0 : Int32)), (.int (0 : Int32))]))
      refine own_via (fun _ k => XS.icmpNo X47.here hx rfl (hb hby at_56) rfl (teq (by decide : (0 : Int32) = (0 : Int32))).2 k) ?_
      show own_Go p e below s _ _ _ (T47.setTop (mkF m 59 #[.val (.int p0), .val (.int p1), .val (.int (1 : Int32)), .val (.int (2 : Int32)), .val (.ref w3), .val (.ref w2), .val (.int (0 : Int32)), .val (.int (0 : Int32)), .val (.int (0 : Int32))] []))
      refine own_via (fun _ k => XS.iconst X47.here hx rfl (hb hby at_59) k) ?_
      show own_Go p e below s _ _ _ (T47.setTop (mkF m 60 #[.val (.int p0), .val (.int p1), .val (.int (1 : Int32)), .val (.int (2 : Int32)), .val (.ref w3), .val (.ref w2), .val (.int (0 : Int32)), .val (.int (0 : Int32)), .val (.int (0 : Int32))] [(.int (1 : Int32))]))
      refine own_via (fun _ k => XS.goto X47.here hx rfl (pc0 := 60) (pc' := 64) rfl (hb hby at_60) (by decide) (by decide) k) ?_
      show own_Go p e below s _ _ _ (T47.setTop (mkF m 64 #[.val (.int p0), .val (.int p1), .val (.int (1 : Int32)), .val (.int (2 : Int32)), .val (.ref w3), .val (.ref w2), .val (.int (0 : Int32)), .val (.int (0 : Int32)), .val (.int (0 : Int32))] [(.int (1 : Int32))]))
      exact own_retZ X47 hx hlk (t := .boolean) Bd.returns (by simp) (hb hby at_64) (z' := (1 : Int32)) (by first | rfl | decide) ⟨rfl, (Fr.nil n0)⟩ (by decide) (by decide)
    · rw [hk32]
      show own_Go p e below s _ _ _ (s₁.setTop (mkF m 7 #[.val (.int p0), .val (.int p1), .val (.int (1 : Int32)), .unset, .unset, .unset, .unset, .unset, .unset] [(.int (3 : Int32))]))
      refine own_via (fun _ k => XS.istoreN X0.here hx rfl (hb hby at_7) rfl (l' := #[.val (.int p0), .val (.int p1), .val (.int (1 : Int32)), .val (.int (3 : Int32)), .unset, .unset, .unset, .unset, .unset]) rfl k) ?_
      show own_Go p e below s _ _ _ (s₁.setTop (mkF m 8 #[.val (.int p0), .val (.int p1), .val (.int (1 : Int32)), .val (.int (3 : Int32)), .unset, .unset, .unset, .unset, .unset] []))
      refine own_via (fun _ k => XS.iloadN X0.here hx rfl (hb hby at_8) rfl k) ?_
      show own_Go p e below s _ _ _ (s₁.setTop (mkF m 9 #[.val (.int p0), .val (.int p1), .val (.int (1 : Int32)), .val (.int (3 : Int32)), .unset, .unset, .unset, .unset, .unset] [(.int (1 : Int32))]))
      obtain ⟨_, _, ⟨T48, L48, k48, n48⟩, -, X48, ⟨Lc48, hQ48, l48, y48, z48⟩, st48⟩ := Jvm.LawKit.callS X0 hx (y := (⟨"com/example/bericht/bericht/selector/ValueTypeAdmitsPinLaw", "pick", "(I)Lcom/example/bericht/bericht/selector/ValueType;"⟩ : MethodName)) hown (mvT hZ (hw _ (List.mem_of_getElem? (i := 0) rfl))) (mvT hZ (hw _ (List.mem_of_getElem? (i := 1) rfl))) (mvT hZ (hw _ (List.mem_of_getElem? (i := 2) rfl))) (mvT hZ (hw _ (List.mem_of_getElem? (i := 3) rfl))) (by decide) (backOf (W := 0) (rm1_1 l Z a0 hw [] w0 w1 w2 w3 h0 n0 Z0 K0) hZ (hw _ (List.mem_of_getElem? (i := 3) rfl)) (hw _ (List.mem_of_getElem? (i := 2) rfl)) (by decide) (by decide)) (g := (mkF m 9 #[.val (.int p0), .val (.int p1), .val (.int (1 : Int32)), .val (.int (3 : Int32)), .unset, .unset, .unset, .unset, .unset] [(.int (1 : Int32))])) rfl (by rw [hml]; rfl) (argsL := [(.int (1 : Int32))]) (rest := []) (lenOf pd0 rfl) rfl (by show 2 * 0 + _ ≤ _; exact Nat.le_of_eq rfl) (hb hby at_9) (fun _ _ => ⟨rfl, e0, (by decide : 0 + 0 ≤ _), (by decide : 0 + 0 ≤ _)⟩)
      dsimp only [Pt.U, Pt.locs, Pt.cells, Pt.slots] at X48 l48 y48 z48 st48 hQ48
      subst l48 y48 z48
      obtain ⟨rfl, e48, hO48⟩ := hQ48
      obtain rfl := hO48
      refine own_via st48 ?_
      show own_Go p e below s _ _ _ (T48.setTop (mkF m 12 #[.val (.int p0), .val (.int p1), .val (.int (1 : Int32)), .val (.int (3 : Int32)), .unset, .unset, .unset, .unset, .unset] [(.ref w3)]))
      refine own_via (fun _ k => XS.astore X48.here hx rfl (hb hby at_12) rfl rfl (l' := #[.val (.int p0), .val (.int p1), .val (.int (1 : Int32)), .val (.int (3 : Int32)), .val (.ref w3), .unset, .unset, .unset, .unset]) rfl k) ?_
      show own_Go p e below s _ _ _ (T48.setTop (mkF m 14 #[.val (.int p0), .val (.int p1), .val (.int (1 : Int32)), .val (.int (3 : Int32)), .val (.ref w3), .unset, .unset, .unset, .unset] []))
      refine own_via (fun _ k => XS.iloadN X48.here hx rfl (hb hby at_14) rfl k) ?_
      show own_Go p e below s _ _ _ (T48.setTop (mkF m 15 #[.val (.int p0), .val (.int p1), .val (.int (1 : Int32)), .val (.int (3 : Int32)), .val (.ref w3), .unset, .unset, .unset, .unset] [(.int (3 : Int32))]))
      obtain ⟨_, _, ⟨T49, L49, k49, n49⟩, -, X49, ⟨Lc49, hQ49, l49, y49, z49⟩, st49⟩ := Jvm.LawKit.callS X48 hx (y := (⟨"com/example/bericht/bericht/selector/ValueTypeAdmitsPinLaw", "pick", "(I)Lcom/example/bericht/bericht/selector/ValueType;"⟩ : MethodName)) hown (mvT hZ (hw _ (List.mem_of_getElem? (i := 0) rfl))) (mvT hZ (hw _ (List.mem_of_getElem? (i := 1) rfl))) (mvT hZ (hw _ (List.mem_of_getElem? (i := 2) rfl))) (mvT hZ (hw _ (List.mem_of_getElem? (i := 3) rfl))) (by decide) (backOf (W := 0) (rm1_3 l Z a0 hw [] w0 w1 w2 w3 h0 n0 Z0 K0) hZ (hw _ (List.mem_of_getElem? (i := 3) rfl)) (hw _ (List.mem_of_getElem? (i := 2) rfl)) (by decide) (by decide)) (g := (mkF m 15 #[.val (.int p0), .val (.int p1), .val (.int (1 : Int32)), .val (.int (3 : Int32)), .val (.ref w3), .unset, .unset, .unset, .unset] [(.int (3 : Int32))])) rfl (by rw [hml]; rfl) (argsL := [(.int (3 : Int32))]) (rest := []) (lenOf pd0 rfl) rfl (by show 2 * 0 + _ ≤ _; exact Nat.le_of_eq rfl) (hb hby at_15) (fun _ _ => ⟨rfl, e48, (by decide : 0 + 0 ≤ _), (by decide : 0 + 0 ≤ _)⟩)
      dsimp only [Pt.U, Pt.locs, Pt.cells, Pt.slots] at X49 l49 y49 z49 st49 hQ49
      subst l49 y49 z49
      obtain ⟨rfl, e49, hO49⟩ := hQ49
      obtain rfl := hO49
      refine own_via st49 ?_
      show own_Go p e below s _ _ _ (T49.setTop (mkF m 18 #[.val (.int p0), .val (.int p1), .val (.int (1 : Int32)), .val (.int (3 : Int32)), .val (.ref w3), .unset, .unset, .unset, .unset] [(.ref w1)]))
      refine own_via (fun _ k => XS.astore X49.here hx rfl (hb hby at_18) rfl rfl (l' := #[.val (.int p0), .val (.int p1), .val (.int (1 : Int32)), .val (.int (3 : Int32)), .val (.ref w3), .val (.ref w1), .unset, .unset, .unset]) rfl k) ?_
      show own_Go p e below s _ _ _ (T49.setTop (mkF m 20 #[.val (.int p0), .val (.int p1), .val (.int (1 : Int32)), .val (.int (3 : Int32)), .val (.ref w3), .val (.ref w1), .unset, .unset, .unset] []))
      refine own_via (fun _ k => XS.aload X49.here hx rfl (hb hby at_20) rfl rfl k) ?_
      show own_Go p e below s _ _ _ (T49.setTop (mkF m 22 #[.val (.int p0), .val (.int p1), .val (.int (1 : Int32)), .val (.int (3 : Int32)), .val (.ref w3), .val (.ref w1), .unset, .unset, .unset] [(.ref w3)]))
      refine own_via (fun _ k => XS.aload X49.here hx rfl (hb hby at_22) rfl rfl k) ?_
      show own_Go p e below s _ _ _ (T49.setTop (mkF m 24 #[.val (.int p0), .val (.int p1), .val (.int (1 : Int32)), .val (.int (3 : Int32)), .val (.ref w3), .val (.ref w1), .unset, .unset, .unset] [(.ref w1), (.ref w3)]))
      obtain ⟨cq50, kq50, q50a, q50b, q50c⟩ := isOf hZ e49 E_w3
      obtain ⟨_, _, ⟨T50, L50, k50, n50⟩, -, X50, ⟨Lc50, hQ50, l50, y50, z50⟩, st50⟩ := X49.virtualBack hx (y := (⟨"com/example/bericht/bericht/selector/ValueType", "admits", "(Lcom/example/bericht/bericht/selector/ValueType;)Z"⟩ : MethodName)) (z := (⟨"com/example/bericht/bericht/selector/ValueType", "admits", "(Lcom/example/bericht/bericht/selector/ValueType;)Z"⟩ : MethodName)) hown (mvT hZ (hw _ (List.mem_of_getElem? (i := 9) rfl))) (mvT hZ (hw _ (List.mem_of_getElem? (i := 10) rfl))) (notFace_of_selects (args := #[]) (mvT hZ (hw _ (List.mem_of_getElem? (i := 12) rfl)))) (mvT hZ (hw _ (List.mem_of_getElem? (i := 12) rfl))) (mvT hZ (hw _ (List.mem_of_getElem? (i := 11) rfl))) (by decide) (backOf (W := 0) (rm2_10 l Z a0 hw [] w0 w1 w2 w3 h0 n0 Z0 K0) hZ (hw _ (List.mem_of_getElem? (i := 13) rfl)) (hw _ (List.mem_of_getElem? (i := 5) rfl)) (by decide) (by decide)) q50a q50c (g := (mkF m 24 #[.val (.int p0), .val (.int p1), .val (.int (1 : Int32)), .val (.int (3 : Int32)), .val (.ref w3), .val (.ref w1), .unset, .unset, .unset] [(.ref w1), (.ref w3)])) rfl (by rw [hml]; rfl) (Steps.refl _) (argsL := [(.ref w1)]) (rest := []) (lenOf pd1 rfl) rfl (by show 2 * 0 + _ ≤ _; exact Nat.le_of_eq rfl) (hb hby at_24) (fun _ _ => ⟨rfl, e49, (by decide : 0 + 0 ≤ _), (by decide : 0 + 0 ≤ _)⟩)
      dsimp only [Pt.U, Pt.locs, Pt.cells, Pt.slots] at X50 l50 y50 z50 st50 hQ50
      subst l50 y50 z50
      obtain ⟨rfl, e50, hO50⟩ := hQ50
      obtain rfl := hO50
      refine own_tr st50 ?_
      show own_Go p e below s _ _ _ (T50.setTop (mkF m 27 #[.val (.int p0), .val (.int p1), .val (.int (1 : Int32)), .val (.int (3 : Int32)), .val (.ref w3), .val (.ref w1), .unset, .unset, .unset] [(.int (1 : Int32))]))
      refine own_via (fun _ k => XS.istore X50.here hx rfl (hb hby at_27) rfl (l' := #[.val (.int p0), .val (.int p1), .val (.int (1 : Int32)), .val (.int (3 : Int32)), .val (.ref w3), .val (.ref w1), .val (.int (1 : Int32)), .unset, .unset]) rfl k) ?_
      show own_Go p e below s _ _ _ (T50.setTop (mkF m 29 #[.val (.int p0), .val (.int p1), .val (.int (1 : Int32)), .val (.int (3 : Int32)), .val (.ref w3), .val (.ref w1), .val (.int (1 : Int32)), .unset, .unset] []))
      refine own_via (fun _ k => XS.aload X50.here hx rfl (hb hby at_29) rfl rfl k) ?_
      show own_Go p e below s _ _ _ (T50.setTop (mkF m 31 #[.val (.int p0), .val (.int p1), .val (.int (1 : Int32)), .val (.int (3 : Int32)), .val (.ref w3), .val (.ref w1), .val (.int (1 : Int32)), .unset, .unset] [(.ref w1)]))
      refine own_via (fun _ k => XS.aload X50.here hx rfl (hb hby at_31) rfl rfl k) ?_
      show own_Go p e below s _ _ _ (T50.setTop (mkF m 33 #[.val (.int p0), .val (.int p1), .val (.int (1 : Int32)), .val (.int (3 : Int32)), .val (.ref w3), .val (.ref w1), .val (.int (1 : Int32)), .unset, .unset] [(.ref w3), (.ref w1)]))
      obtain ⟨cq51, kq51, q51a, q51b, q51c⟩ := isOf hZ e50 E_w1
      obtain ⟨_, _, ⟨T51, L51, k51, n51⟩, -, X51, ⟨Lc51, hQ51, l51, y51, z51⟩, st51⟩ := X50.virtualBack hx (y := (⟨"com/example/bericht/bericht/selector/ValueType", "admits", "(Lcom/example/bericht/bericht/selector/ValueType;)Z"⟩ : MethodName)) (z := (⟨"com/example/bericht/bericht/selector/ValueType", "admits", "(Lcom/example/bericht/bericht/selector/ValueType;)Z"⟩ : MethodName)) hown (mvT hZ (hw _ (List.mem_of_getElem? (i := 9) rfl))) (mvT hZ (hw _ (List.mem_of_getElem? (i := 10) rfl))) (notFace_of_selects (args := #[]) (mvT hZ (hw _ (List.mem_of_getElem? (i := 12) rfl)))) (mvT hZ (hw _ (List.mem_of_getElem? (i := 12) rfl))) (mvT hZ (hw _ (List.mem_of_getElem? (i := 11) rfl))) (by decide) (backOf (W := 0) (rm2_11 l Z a0 hw [] w0 w1 w2 w3 h0 n0 Z0 K0) hZ (hw _ (List.mem_of_getElem? (i := 13) rfl)) (hw _ (List.mem_of_getElem? (i := 5) rfl)) (by decide) (by decide)) q51a q51c (g := (mkF m 33 #[.val (.int p0), .val (.int p1), .val (.int (1 : Int32)), .val (.int (3 : Int32)), .val (.ref w3), .val (.ref w1), .val (.int (1 : Int32)), .unset, .unset] [(.ref w3), (.ref w1)])) rfl (by rw [hml]; rfl) (Steps.refl _) (argsL := [(.ref w3)]) (rest := []) (lenOf pd1 rfl) rfl (by show 2 * 0 + _ ≤ _; exact Nat.le_of_eq rfl) (hb hby at_33) (fun _ _ => ⟨rfl, e50, (by decide : 0 + 0 ≤ _), (by decide : 0 + 0 ≤ _)⟩)
      dsimp only [Pt.U, Pt.locs, Pt.cells, Pt.slots] at X51 l51 y51 z51 st51 hQ51
      subst l51 y51 z51
      obtain ⟨rfl, e51, hO51⟩ := hQ51
      obtain rfl := hO51
      refine own_tr st51 ?_
      show own_Go p e below s _ _ _ (T51.setTop (mkF m 36 #[.val (.int p0), .val (.int p1), .val (.int (1 : Int32)), .val (.int (3 : Int32)), .val (.ref w3), .val (.ref w1), .val (.int (1 : Int32)), .unset, .unset] [(.int (1 : Int32))]))
      refine own_via (fun _ k => XS.istore X51.here hx rfl (hb hby at_36) rfl (l' := #[.val (.int p0), .val (.int p1), .val (.int (1 : Int32)), .val (.int (3 : Int32)), .val (.ref w3), .val (.ref w1), .val (.int (1 : Int32)), .val (.int (1 : Int32)), .unset]) rfl k) ?_
      show own_Go p e below s _ _ _ (T51.setTop (mkF m 38 #[.val (.int p0), .val (.int p1), .val (.int (1 : Int32)), .val (.int (3 : Int32)), .val (.ref w3), .val (.ref w1), .val (.int (1 : Int32)), .val (.int (1 : Int32)), .unset] []))
      refine own_via (fun _ k => XS.iloadN X51.here hx rfl (hb hby at_38) rfl k) ?_
      show own_Go p e below s _ _ _ (T51.setTop (mkF m 39 #[.val (.int p0), .val (.int p1), .val (.int (1 : Int32)), .val (.int (3 : Int32)), .val (.ref w3), .val (.ref w1), .val (.int (1 : Int32)), .val (.int (1 : Int32)), .unset] [(.int (1 : Int32))]))
      refine own_via (fun _ k => XS.iloadN X51.here hx rfl (hb hby at_39) rfl k) ?_
      show own_Go p e below s _ _ _ (T51.setTop (mkF m 40 #[.val (.int p0), .val (.int p1), .val (.int (1 : Int32)), .val (.int (3 : Int32)), .val (.ref w3), .val (.ref w1), .val (.int (1 : Int32)), .val (.int (1 : Int32)), .unset] [(.int (3 : Int32)), (.int (1 : Int32))]))
      obtain ⟨_, _, ⟨T52, L52, k52, n52⟩, -, X52, ⟨Lc52, hQ52, l52, y52, z52⟩, st52⟩ := Jvm.LawKit.callS X51 hx (y := (⟨"com/example/bericht/bericht/selector/ValueTypeAdmitsPinLaw", "expected", "(II)Z"⟩ : MethodName)) hown (mvT hZ (hw _ (List.mem_of_getElem? (i := 15) rfl))) (mvT hZ (hw _ (List.mem_of_getElem? (i := 16) rfl))) (mvT hZ (hw _ (List.mem_of_getElem? (i := 2) rfl))) (mvT hZ (hw _ (List.mem_of_getElem? (i := 17) rfl))) (by decide) (backOf (W := 0) (rm3_7 l Z a0 hw [] w0 w1 w2 w3 h0 n0 Z0 K0) hZ (hw _ (List.mem_of_getElem? (i := 17) rfl)) (hw _ (List.mem_of_getElem? (i := 2) rfl)) (by decide) (by decide)) (g := (mkF m 40 #[.val (.int p0), .val (.int p1), .val (.int (1 : Int32)), .val (.int (3 : Int32)), .val (.ref w3), .val (.ref w1), .val (.int (1 : Int32)), .val (.int (1 : Int32)), .unset] [(.int (3 : Int32)), (.int (1 : Int32))])) rfl (by rw [hml]; rfl) (argsL := [(.int (1 : Int32)), (.int (3 : Int32))]) (rest := []) (lenOf pd2 rfl) rfl (by show 2 * 0 + _ ≤ _; exact Nat.le_of_eq rfl) (hb hby at_40) (fun _ _ => ⟨rfl, e51, (by decide : 0 + 0 ≤ _), (by decide : 0 + 0 ≤ _)⟩)
      dsimp only [Pt.U, Pt.locs, Pt.cells, Pt.slots] at X52 l52 y52 z52 st52 hQ52
      subst l52 y52 z52
      obtain ⟨rfl, e52, hO52⟩ := hQ52
      obtain rfl := hO52
      refine own_via st52 ?_
      show own_Go p e below s _ _ _ (T52.setTop (mkF m 43 #[.val (.int p0), .val (.int p1), .val (.int (1 : Int32)), .val (.int (3 : Int32)), .val (.ref w3), .val (.ref w1), .val (.int (1 : Int32)), .val (.int (1 : Int32)), .unset] [(.int (1 : Int32))]))
      refine own_via (fun _ k => XS.istore X52.here hx rfl (hb hby at_43) rfl (l' := #[.val (.int p0), .val (.int p1), .val (.int (1 : Int32)), .val (.int (3 : Int32)), .val (.ref w3), .val (.ref w1), .val (.int (1 : Int32)), .val (.int (1 : Int32)), .val (.int (1 : Int32))]) rfl k) ?_
      show own_Go p e below s _ _ _ (T52.setTop (mkF m 45 #[.val (.int p0), .val (.int p1), .val (.int (1 : Int32)), .val (.int (3 : Int32)), .val (.ref w3), .val (.ref w1), .val (.int (1 : Int32)), .val (.int (1 : Int32)), .val (.int (1 : Int32))] []))
      refine own_via (fun _ k => XS.iload X52.here hx rfl (hb hby at_45) rfl k) ?_
      show own_Go p e below s _ _ _ (T52.setTop (mkF m 47 #[.val (.int p0), .val (.int p1), .val (.int (1 : Int32)), .val (.int (3 : Int32)), .val (.ref w3), .val (.ref w1), .val (.int (1 : Int32)), .val (.int (1 : Int32)), .val (.int (1 : Int32))] [(.int (1 : Int32))]))
      refine own_via (fun _ k => XS.iload X52.here hx rfl (hb hby at_47) rfl k) ?_
      show own_Go p e below s _ _ _ (T52.setTop (mkF m 49 #[.val (.int p0), .val (.int p1), .val (.int (1 : Int32)), .val (.int (3 : Int32)), .val (.ref w3), .val (.ref w1), .val (.int (1 : Int32)), .val (.int (1 : Int32)), .val (.int (1 : Int32))] [(.int (1 : Int32)), (.int (1 : Int32))]))
      refine own_via (fun _ k => XS.icmpNo X52.here hx rfl (hb hby at_49) rfl (teq (by decide : (1 : Int32) = (1 : Int32))).2 k) ?_
      show own_Go p e below s _ _ _ (T52.setTop (mkF m 52 #[.val (.int p0), .val (.int p1), .val (.int (1 : Int32)), .val (.int (3 : Int32)), .val (.ref w3), .val (.ref w1), .val (.int (1 : Int32)), .val (.int (1 : Int32)), .val (.int (1 : Int32))] []))
      refine own_via (fun _ k => XS.iload X52.here hx rfl (hb hby at_52) rfl k) ?_
      show own_Go p e below s _ _ _ (T52.setTop (mkF m 54 #[.val (.int p0), .val (.int p1), .val (.int (1 : Int32)), .val (.int (3 : Int32)), .val (.ref w3), .val (.ref w1), .val (.int (1 : Int32)), .val (.int (1 : Int32)), .val (.int (1 : Int32))] [(.int (1 : Int32))]))
      refine own_via (fun _ k => XS.iload X52.here hx rfl (hb hby at_54) rfl k) ?_
      show own_Go p e below s _ _ _ (T52.setTop (mkF m 56 #[.val (.int p0), .val (.int p1), .val (.int (1 : Int32)), .val (.int (3 : Int32)), .val (.ref w3), .val (.ref w1), .val (.int (1 : Int32)), .val (.int (1 : Int32)), .val (.int (1 : Int32))] [(.int (1 : Int32)), (.int (1 : Int32))]))
      refine own_via (fun _ k => XS.icmpNo X52.here hx rfl (hb hby at_56) rfl (teq (by decide : (1 : Int32) = (1 : Int32))).2 k) ?_
      show own_Go p e below s _ _ _ (T52.setTop (mkF m 59 #[.val (.int p0), .val (.int p1), .val (.int (1 : Int32)), .val (.int (3 : Int32)), .val (.ref w3), .val (.ref w1), .val (.int (1 : Int32)), .val (.int (1 : Int32)), .val (.int (1 : Int32))] []))
      refine own_via (fun _ k => XS.iconst X52.here hx rfl (hb hby at_59) k) ?_
      show own_Go p e below s _ _ _ (T52.setTop (mkF m 60 #[.val (.int p0), .val (.int p1), .val (.int (1 : Int32)), .val (.int (3 : Int32)), .val (.ref w3), .val (.ref w1), .val (.int (1 : Int32)), .val (.int (1 : Int32)), .val (.int (1 : Int32))] [(.int (1 : Int32))]))
      refine own_via (fun _ k => XS.goto X52.here hx rfl (pc0 := 60) (pc' := 64) rfl (hb hby at_60) (by decide) (by decide) k) ?_
      show own_Go p e below s _ _ _ (T52.setTop (mkF m 64 #[.val (.int p0), .val (.int p1), .val (.int (1 : Int32)), .val (.int (3 : Int32)), .val (.ref w3), .val (.ref w1), .val (.int (1 : Int32)), .val (.int (1 : Int32)), .val (.int (1 : Int32))] [(.int (1 : Int32))]))
      exact own_retZ X52 hx hlk (t := .boolean) Bd.returns (by simp) (hb hby at_64) (z' := (1 : Int32)) (by first | rfl | decide) ⟨rfl, (Fr.nil n0)⟩ (by decide) (by decide)
  · rw [hk3]
    show own_Go p e below s _ _ _ (s₁.setTop (mkF m 3 #[.val (.int p0), .val (.int p1), .unset, .unset, .unset, .unset, .unset, .unset, .unset] [(.int (2 : Int32))]))
    refine own_via (fun _ k => XS.istoreN X0.here hx rfl (hb hby at_3) rfl (l' := #[.val (.int p0), .val (.int p1), .val (.int (2 : Int32)), .unset, .unset, .unset, .unset, .unset, .unset]) rfl k) ?_
    show own_Go p e below s _ _ _ (s₁.setTop (mkF m 4 #[.val (.int p0), .val (.int p1), .val (.int (2 : Int32)), .unset, .unset, .unset, .unset, .unset, .unset] []))
    refine own_via (fun _ k => XS.iloadN X0.here hx rfl (hb hby at_4) rfl k) ?_
    show own_Go p e below s _ _ _ (s₁.setTop (mkF m 5 #[.val (.int p0), .val (.int p1), .val (.int (2 : Int32)), .unset, .unset, .unset, .unset, .unset, .unset] [(.int p1)]))
    refine own_via (fun _ k => XS.iconst X0.here hx rfl (hb hby at_5) k) ?_
    show own_Go p e below s _ _ _ (s₁.setTop (mkF m 6 #[.val (.int p0), .val (.int p1), .val (.int (2 : Int32)), .unset, .unset, .unset, .unset, .unset, .unset] [(.int (3 : Int32)), (.int p1)]))
    refine own_via (fun _ k => XS.iand X0.here hx rfl (hb hby at_6) rfl k) ?_
    rcases (own_and3 _ : (p1 &&& (3 : Int32)) = (0 : Int32) ∨ (p1 &&& (3 : Int32)) = (1 : Int32) ∨ (p1 &&& (3 : Int32)) = (2 : Int32) ∨ (p1 &&& (3 : Int32)) = (3 : Int32)) with hk53 | hk54 | hk55 | hk56
    · rw [hk53]
      show own_Go p e below s _ _ _ (s₁.setTop (mkF m 7 #[.val (.int p0), .val (.int p1), .val (.int (2 : Int32)), .unset, .unset, .unset, .unset, .unset, .unset] [(.int (0 : Int32))]))
      refine own_via (fun _ k => XS.istoreN X0.here hx rfl (hb hby at_7) rfl (l' := #[.val (.int p0), .val (.int p1), .val (.int (2 : Int32)), .val (.int (0 : Int32)), .unset, .unset, .unset, .unset, .unset]) rfl k) ?_
      show own_Go p e below s _ _ _ (s₁.setTop (mkF m 8 #[.val (.int p0), .val (.int p1), .val (.int (2 : Int32)), .val (.int (0 : Int32)), .unset, .unset, .unset, .unset, .unset] []))
      refine own_via (fun _ k => XS.iloadN X0.here hx rfl (hb hby at_8) rfl k) ?_
      show own_Go p e below s _ _ _ (s₁.setTop (mkF m 9 #[.val (.int p0), .val (.int p1), .val (.int (2 : Int32)), .val (.int (0 : Int32)), .unset, .unset, .unset, .unset, .unset] [(.int (2 : Int32))]))
      obtain ⟨_, _, ⟨T57, L57, k57, n57⟩, -, X57, ⟨Lc57, hQ57, l57, y57, z57⟩, st57⟩ := Jvm.LawKit.callS X0 hx (y := (⟨"com/example/bericht/bericht/selector/ValueTypeAdmitsPinLaw", "pick", "(I)Lcom/example/bericht/bericht/selector/ValueType;"⟩ : MethodName)) hown (mvT hZ (hw _ (List.mem_of_getElem? (i := 0) rfl))) (mvT hZ (hw _ (List.mem_of_getElem? (i := 1) rfl))) (mvT hZ (hw _ (List.mem_of_getElem? (i := 2) rfl))) (mvT hZ (hw _ (List.mem_of_getElem? (i := 3) rfl))) (by decide) (backOf (W := 0) (rm1_2 l Z a0 hw [] w0 w1 w2 w3 h0 n0 Z0 K0) hZ (hw _ (List.mem_of_getElem? (i := 3) rfl)) (hw _ (List.mem_of_getElem? (i := 2) rfl)) (by decide) (by decide)) (g := (mkF m 9 #[.val (.int p0), .val (.int p1), .val (.int (2 : Int32)), .val (.int (0 : Int32)), .unset, .unset, .unset, .unset, .unset] [(.int (2 : Int32))])) rfl (by rw [hml]; rfl) (argsL := [(.int (2 : Int32))]) (rest := []) (lenOf pd0 rfl) rfl (by show 2 * 0 + _ ≤ _; exact Nat.le_of_eq rfl) (hb hby at_9) (fun _ _ => ⟨rfl, e0, (by decide : 0 + 0 ≤ _), (by decide : 0 + 0 ≤ _)⟩)
      dsimp only [Pt.U, Pt.locs, Pt.cells, Pt.slots] at X57 l57 y57 z57 st57 hQ57
      subst l57 y57 z57
      obtain ⟨rfl, e57, hO57⟩ := hQ57
      obtain rfl := hO57
      refine own_via st57 ?_
      show own_Go p e below s _ _ _ (T57.setTop (mkF m 12 #[.val (.int p0), .val (.int p1), .val (.int (2 : Int32)), .val (.int (0 : Int32)), .unset, .unset, .unset, .unset, .unset] [(.ref w2)]))
      refine own_via (fun _ k => XS.astore X57.here hx rfl (hb hby at_12) rfl rfl (l' := #[.val (.int p0), .val (.int p1), .val (.int (2 : Int32)), .val (.int (0 : Int32)), .val (.ref w2), .unset, .unset, .unset, .unset]) rfl k) ?_
      show own_Go p e below s _ _ _ (T57.setTop (mkF m 14 #[.val (.int p0), .val (.int p1), .val (.int (2 : Int32)), .val (.int (0 : Int32)), .val (.ref w2), .unset, .unset, .unset, .unset] []))
      refine own_via (fun _ k => XS.iloadN X57.here hx rfl (hb hby at_14) rfl k) ?_
      show own_Go p e below s _ _ _ (T57.setTop (mkF m 15 #[.val (.int p0), .val (.int p1), .val (.int (2 : Int32)), .val (.int (0 : Int32)), .val (.ref w2), .unset, .unset, .unset, .unset] [(.int (0 : Int32))]))
      obtain ⟨_, _, ⟨T58, L58, k58, n58⟩, -, X58, ⟨Lc58, hQ58, l58, y58, z58⟩, st58⟩ := Jvm.LawKit.callS X57 hx (y := (⟨"com/example/bericht/bericht/selector/ValueTypeAdmitsPinLaw", "pick", "(I)Lcom/example/bericht/bericht/selector/ValueType;"⟩ : MethodName)) hown (mvT hZ (hw _ (List.mem_of_getElem? (i := 0) rfl))) (mvT hZ (hw _ (List.mem_of_getElem? (i := 1) rfl))) (mvT hZ (hw _ (List.mem_of_getElem? (i := 2) rfl))) (mvT hZ (hw _ (List.mem_of_getElem? (i := 3) rfl))) (by decide) (backOf (W := 0) (rm1_0 l Z a0 hw [] w0 w1 w2 w3 h0 n0 Z0 K0) hZ (hw _ (List.mem_of_getElem? (i := 3) rfl)) (hw _ (List.mem_of_getElem? (i := 2) rfl)) (by decide) (by decide)) (g := (mkF m 15 #[.val (.int p0), .val (.int p1), .val (.int (2 : Int32)), .val (.int (0 : Int32)), .val (.ref w2), .unset, .unset, .unset, .unset] [(.int (0 : Int32))])) rfl (by rw [hml]; rfl) (argsL := [(.int (0 : Int32))]) (rest := []) (lenOf pd0 rfl) rfl (by show 2 * 0 + _ ≤ _; exact Nat.le_of_eq rfl) (hb hby at_15) (fun _ _ => ⟨rfl, e57, (by decide : 0 + 0 ≤ _), (by decide : 0 + 0 ≤ _)⟩)
      dsimp only [Pt.U, Pt.locs, Pt.cells, Pt.slots] at X58 l58 y58 z58 st58 hQ58
      subst l58 y58 z58
      obtain ⟨rfl, e58, hO58⟩ := hQ58
      obtain rfl := hO58
      refine own_via st58 ?_
      show own_Go p e below s _ _ _ (T58.setTop (mkF m 18 #[.val (.int p0), .val (.int p1), .val (.int (2 : Int32)), .val (.int (0 : Int32)), .val (.ref w2), .unset, .unset, .unset, .unset] [(.ref w0)]))
      refine own_via (fun _ k => XS.astore X58.here hx rfl (hb hby at_18) rfl rfl (l' := #[.val (.int p0), .val (.int p1), .val (.int (2 : Int32)), .val (.int (0 : Int32)), .val (.ref w2), .val (.ref w0), .unset, .unset, .unset]) rfl k) ?_
      show own_Go p e below s _ _ _ (T58.setTop (mkF m 20 #[.val (.int p0), .val (.int p1), .val (.int (2 : Int32)), .val (.int (0 : Int32)), .val (.ref w2), .val (.ref w0), .unset, .unset, .unset] []))
      refine own_via (fun _ k => XS.aload X58.here hx rfl (hb hby at_20) rfl rfl k) ?_
      show own_Go p e below s _ _ _ (T58.setTop (mkF m 22 #[.val (.int p0), .val (.int p1), .val (.int (2 : Int32)), .val (.int (0 : Int32)), .val (.ref w2), .val (.ref w0), .unset, .unset, .unset] [(.ref w2)]))
      refine own_via (fun _ k => XS.aload X58.here hx rfl (hb hby at_22) rfl rfl k) ?_
      show own_Go p e below s _ _ _ (T58.setTop (mkF m 24 #[.val (.int p0), .val (.int p1), .val (.int (2 : Int32)), .val (.int (0 : Int32)), .val (.ref w2), .val (.ref w0), .unset, .unset, .unset] [(.ref w0), (.ref w2)]))
      obtain ⟨cq59, kq59, q59a, q59b, q59c⟩ := isOf hZ e58 E_w2
      obtain ⟨_, _, ⟨T59, L59, k59, n59⟩, -, X59, ⟨Lc59, hQ59, l59, y59, z59⟩, st59⟩ := X58.virtualBack hx (y := (⟨"com/example/bericht/bericht/selector/ValueType", "admits", "(Lcom/example/bericht/bericht/selector/ValueType;)Z"⟩ : MethodName)) (z := (⟨"com/example/bericht/bericht/selector/ValueType", "admits", "(Lcom/example/bericht/bericht/selector/ValueType;)Z"⟩ : MethodName)) hown (mvT hZ (hw _ (List.mem_of_getElem? (i := 9) rfl))) (mvT hZ (hw _ (List.mem_of_getElem? (i := 10) rfl))) (notFace_of_selects (args := #[]) (mvT hZ (hw _ (List.mem_of_getElem? (i := 12) rfl)))) (mvT hZ (hw _ (List.mem_of_getElem? (i := 12) rfl))) (mvT hZ (hw _ (List.mem_of_getElem? (i := 11) rfl))) (by decide) (backOf (W := 0) (rm2_4 l Z a0 hw [] w0 w1 w2 w3 h0 n0 Z0 K0) hZ (hw _ (List.mem_of_getElem? (i := 13) rfl)) (hw _ (List.mem_of_getElem? (i := 5) rfl)) (by decide) (by decide)) q59a q59c (g := (mkF m 24 #[.val (.int p0), .val (.int p1), .val (.int (2 : Int32)), .val (.int (0 : Int32)), .val (.ref w2), .val (.ref w0), .unset, .unset, .unset] [(.ref w0), (.ref w2)])) rfl (by rw [hml]; rfl) (Steps.refl _) (argsL := [(.ref w0)]) (rest := []) (lenOf pd1 rfl) rfl (by show 2 * 0 + _ ≤ _; exact Nat.le_of_eq rfl) (hb hby at_24) (fun _ _ => ⟨rfl, e58, (by decide : 0 + 0 ≤ _), (by decide : 0 + 0 ≤ _)⟩)
      dsimp only [Pt.U, Pt.locs, Pt.cells, Pt.slots] at X59 l59 y59 z59 st59 hQ59
      subst l59 y59 z59
      obtain ⟨rfl, e59, hO59⟩ := hQ59
      obtain rfl := hO59
      refine own_tr st59 ?_
      show own_Go p e below s _ _ _ (T59.setTop (mkF m 27 #[.val (.int p0), .val (.int p1), .val (.int (2 : Int32)), .val (.int (0 : Int32)), .val (.ref w2), .val (.ref w0), .unset, .unset, .unset] [(.int (0 : Int32))]))
      refine own_via (fun _ k => XS.istore X59.here hx rfl (hb hby at_27) rfl (l' := #[.val (.int p0), .val (.int p1), .val (.int (2 : Int32)), .val (.int (0 : Int32)), .val (.ref w2), .val (.ref w0), .val (.int (0 : Int32)), .unset, .unset]) rfl k) ?_
      show own_Go p e below s _ _ _ (T59.setTop (mkF m 29 #[.val (.int p0), .val (.int p1), .val (.int (2 : Int32)), .val (.int (0 : Int32)), .val (.ref w2), .val (.ref w0), .val (.int (0 : Int32)), .unset, .unset] []))
      refine own_via (fun _ k => XS.aload X59.here hx rfl (hb hby at_29) rfl rfl k) ?_
      show own_Go p e below s _ _ _ (T59.setTop (mkF m 31 #[.val (.int p0), .val (.int p1), .val (.int (2 : Int32)), .val (.int (0 : Int32)), .val (.ref w2), .val (.ref w0), .val (.int (0 : Int32)), .unset, .unset] [(.ref w0)]))
      refine own_via (fun _ k => XS.aload X59.here hx rfl (hb hby at_31) rfl rfl k) ?_
      show own_Go p e below s _ _ _ (T59.setTop (mkF m 33 #[.val (.int p0), .val (.int p1), .val (.int (2 : Int32)), .val (.int (0 : Int32)), .val (.ref w2), .val (.ref w0), .val (.int (0 : Int32)), .unset, .unset] [(.ref w2), (.ref w0)]))
      obtain ⟨cq60, kq60, q60a, q60b, q60c⟩ := isOf hZ e59 E_w0
      obtain ⟨_, _, ⟨T60, L60, k60, n60⟩, -, X60, ⟨Lc60, hQ60, l60, y60, z60⟩, st60⟩ := X59.virtualBack hx (y := (⟨"com/example/bericht/bericht/selector/ValueType", "admits", "(Lcom/example/bericht/bericht/selector/ValueType;)Z"⟩ : MethodName)) (z := (⟨"com/example/bericht/bericht/selector/ValueType", "admits", "(Lcom/example/bericht/bericht/selector/ValueType;)Z"⟩ : MethodName)) hown (mvT hZ (hw _ (List.mem_of_getElem? (i := 9) rfl))) (mvT hZ (hw _ (List.mem_of_getElem? (i := 10) rfl))) (notFace_of_selects (args := #[]) (mvT hZ (hw _ (List.mem_of_getElem? (i := 12) rfl)))) (mvT hZ (hw _ (List.mem_of_getElem? (i := 12) rfl))) (mvT hZ (hw _ (List.mem_of_getElem? (i := 11) rfl))) (by decide) (backOf (W := 0) (rm2_3 l Z a0 hw [] w0 w1 w2 w3 h0 n0 Z0 K0) hZ (hw _ (List.mem_of_getElem? (i := 13) rfl)) (hw _ (List.mem_of_getElem? (i := 5) rfl)) (by decide) (by decide)) q60a q60c (g := (mkF m 33 #[.val (.int p0), .val (.int p1), .val (.int (2 : Int32)), .val (.int (0 : Int32)), .val (.ref w2), .val (.ref w0), .val (.int (0 : Int32)), .unset, .unset] [(.ref w2), (.ref w0)])) rfl (by rw [hml]; rfl) (Steps.refl _) (argsL := [(.ref w2)]) (rest := []) (lenOf pd1 rfl) rfl (by show 2 * 0 + _ ≤ _; exact Nat.le_of_eq rfl) (hb hby at_33) (fun _ _ => ⟨rfl, e59, (by decide : 0 + 0 ≤ _), (by decide : 0 + 0 ≤ _)⟩)
      dsimp only [Pt.U, Pt.locs, Pt.cells, Pt.slots] at X60 l60 y60 z60 st60 hQ60
      subst l60 y60 z60
      obtain ⟨rfl, e60, hO60⟩ := hQ60
      obtain rfl := hO60
      refine own_tr st60 ?_
      show own_Go p e below s _ _ _ (T60.setTop (mkF m 36 #[.val (.int p0), .val (.int p1), .val (.int (2 : Int32)), .val (.int (0 : Int32)), .val (.ref w2), .val (.ref w0), .val (.int (0 : Int32)), .unset, .unset] [(.int (0 : Int32))]))
      refine own_via (fun _ k => XS.istore X60.here hx rfl (hb hby at_36) rfl (l' := #[.val (.int p0), .val (.int p1), .val (.int (2 : Int32)), .val (.int (0 : Int32)), .val (.ref w2), .val (.ref w0), .val (.int (0 : Int32)), .val (.int (0 : Int32)), .unset]) rfl k) ?_
      show own_Go p e below s _ _ _ (T60.setTop (mkF m 38 #[.val (.int p0), .val (.int p1), .val (.int (2 : Int32)), .val (.int (0 : Int32)), .val (.ref w2), .val (.ref w0), .val (.int (0 : Int32)), .val (.int (0 : Int32)), .unset] []))
      refine own_via (fun _ k => XS.iloadN X60.here hx rfl (hb hby at_38) rfl k) ?_
      show own_Go p e below s _ _ _ (T60.setTop (mkF m 39 #[.val (.int p0), .val (.int p1), .val (.int (2 : Int32)), .val (.int (0 : Int32)), .val (.ref w2), .val (.ref w0), .val (.int (0 : Int32)), .val (.int (0 : Int32)), .unset] [(.int (2 : Int32))]))
      refine own_via (fun _ k => XS.iloadN X60.here hx rfl (hb hby at_39) rfl k) ?_
      show own_Go p e below s _ _ _ (T60.setTop (mkF m 40 #[.val (.int p0), .val (.int p1), .val (.int (2 : Int32)), .val (.int (0 : Int32)), .val (.ref w2), .val (.ref w0), .val (.int (0 : Int32)), .val (.int (0 : Int32)), .unset] [(.int (0 : Int32)), (.int (2 : Int32))]))
      obtain ⟨_, _, ⟨T61, L61, k61, n61⟩, -, X61, ⟨Lc61, hQ61, l61, y61, z61⟩, st61⟩ := Jvm.LawKit.callS X60 hx (y := (⟨"com/example/bericht/bericht/selector/ValueTypeAdmitsPinLaw", "expected", "(II)Z"⟩ : MethodName)) hown (mvT hZ (hw _ (List.mem_of_getElem? (i := 15) rfl))) (mvT hZ (hw _ (List.mem_of_getElem? (i := 16) rfl))) (mvT hZ (hw _ (List.mem_of_getElem? (i := 2) rfl))) (mvT hZ (hw _ (List.mem_of_getElem? (i := 17) rfl))) (by decide) (backOf (W := 0) (rm3_8 l Z a0 hw [] w0 w1 w2 w3 h0 n0 Z0 K0) hZ (hw _ (List.mem_of_getElem? (i := 17) rfl)) (hw _ (List.mem_of_getElem? (i := 2) rfl)) (by decide) (by decide)) (g := (mkF m 40 #[.val (.int p0), .val (.int p1), .val (.int (2 : Int32)), .val (.int (0 : Int32)), .val (.ref w2), .val (.ref w0), .val (.int (0 : Int32)), .val (.int (0 : Int32)), .unset] [(.int (0 : Int32)), (.int (2 : Int32))])) rfl (by rw [hml]; rfl) (argsL := [(.int (2 : Int32)), (.int (0 : Int32))]) (rest := []) (lenOf pd2 rfl) rfl (by show 2 * 0 + _ ≤ _; exact Nat.le_of_eq rfl) (hb hby at_40) (fun _ _ => ⟨rfl, e60, (by decide : 0 + 0 ≤ _), (by decide : 0 + 0 ≤ _)⟩)
      dsimp only [Pt.U, Pt.locs, Pt.cells, Pt.slots] at X61 l61 y61 z61 st61 hQ61
      subst l61 y61 z61
      obtain ⟨rfl, e61, hO61⟩ := hQ61
      obtain rfl := hO61
      refine own_via st61 ?_
      show own_Go p e below s _ _ _ (T61.setTop (mkF m 43 #[.val (.int p0), .val (.int p1), .val (.int (2 : Int32)), .val (.int (0 : Int32)), .val (.ref w2), .val (.ref w0), .val (.int (0 : Int32)), .val (.int (0 : Int32)), .unset] [(.int (0 : Int32))]))
      refine own_via (fun _ k => XS.istore X61.here hx rfl (hb hby at_43) rfl (l' := #[.val (.int p0), .val (.int p1), .val (.int (2 : Int32)), .val (.int (0 : Int32)), .val (.ref w2), .val (.ref w0), .val (.int (0 : Int32)), .val (.int (0 : Int32)), .val (.int (0 : Int32))]) rfl k) ?_
      show own_Go p e below s _ _ _ (T61.setTop (mkF m 45 #[.val (.int p0), .val (.int p1), .val (.int (2 : Int32)), .val (.int (0 : Int32)), .val (.ref w2), .val (.ref w0), .val (.int (0 : Int32)), .val (.int (0 : Int32)), .val (.int (0 : Int32))] []))
      refine own_via (fun _ k => XS.iload X61.here hx rfl (hb hby at_45) rfl k) ?_
      show own_Go p e below s _ _ _ (T61.setTop (mkF m 47 #[.val (.int p0), .val (.int p1), .val (.int (2 : Int32)), .val (.int (0 : Int32)), .val (.ref w2), .val (.ref w0), .val (.int (0 : Int32)), .val (.int (0 : Int32)), .val (.int (0 : Int32))] [(.int (0 : Int32))]))
      refine own_via (fun _ k => XS.iload X61.here hx rfl (hb hby at_47) rfl k) ?_
      show own_Go p e below s _ _ _ (T61.setTop (mkF m 49 #[.val (.int p0), .val (.int p1), .val (.int (2 : Int32)), .val (.int (0 : Int32)), .val (.ref w2), .val (.ref w0), .val (.int (0 : Int32)), .val (.int (0 : Int32)), .val (.int (0 : Int32))] [(.int (0 : Int32)), (.int (0 : Int32))]))
      refine own_via (fun _ k => XS.icmpNo X61.here hx rfl (hb hby at_49) rfl (teq (by decide : (0 : Int32) = (0 : Int32))).2 k) ?_
      show own_Go p e below s _ _ _ (T61.setTop (mkF m 52 #[.val (.int p0), .val (.int p1), .val (.int (2 : Int32)), .val (.int (0 : Int32)), .val (.ref w2), .val (.ref w0), .val (.int (0 : Int32)), .val (.int (0 : Int32)), .val (.int (0 : Int32))] []))
      refine own_via (fun _ k => XS.iload X61.here hx rfl (hb hby at_52) rfl k) ?_
      show own_Go p e below s _ _ _ (T61.setTop (mkF m 54 #[.val (.int p0), .val (.int p1), .val (.int (2 : Int32)), .val (.int (0 : Int32)), .val (.ref w2), .val (.ref w0), .val (.int (0 : Int32)), .val (.int (0 : Int32)), .val (.int (0 : Int32))] [(.int (0 : Int32))]))
      refine own_via (fun _ k => XS.iload X61.here hx rfl (hb hby at_54) rfl k) ?_
      show own_Go p e below s _ _ _ (T61.setTop (mkF m 56 #[.val (.int p0), .val (.int p1), .val (.int (2 : Int32)), .val (.int (0 : Int32)), .val (.ref w2), .val (.ref w0), .val (.int (0 : Int32)), .val (.int (0 : Int32)), .val (.int (0 : Int32))] [(.int (0 : Int32)), (.int (0 : Int32))]))
      refine own_via (fun _ k => XS.icmpNo X61.here hx rfl (hb hby at_56) rfl (teq (by decide : (0 : Int32) = (0 : Int32))).2 k) ?_
      show own_Go p e below s _ _ _ (T61.setTop (mkF m 59 #[.val (.int p0), .val (.int p1), .val (.int (2 : Int32)), .val (.int (0 : Int32)), .val (.ref w2), .val (.ref w0), .val (.int (0 : Int32)), .val (.int (0 : Int32)), .val (.int (0 : Int32))] []))
      refine own_via (fun _ k => XS.iconst X61.here hx rfl (hb hby at_59) k) ?_
      show own_Go p e below s _ _ _ (T61.setTop (mkF m 60 #[.val (.int p0), .val (.int p1), .val (.int (2 : Int32)), .val (.int (0 : Int32)), .val (.ref w2), .val (.ref w0), .val (.int (0 : Int32)), .val (.int (0 : Int32)), .val (.int (0 : Int32))] [(.int (1 : Int32))]))
      refine own_via (fun _ k => XS.goto X61.here hx rfl (pc0 := 60) (pc' := 64) rfl (hb hby at_60) (by decide) (by decide) k) ?_
      show own_Go p e below s _ _ _ (T61.setTop (mkF m 64 #[.val (.int p0), .val (.int p1), .val (.int (2 : Int32)), .val (.int (0 : Int32)), .val (.ref w2), .val (.ref w0), .val (.int (0 : Int32)), .val (.int (0 : Int32)), .val (.int (0 : Int32))] [(.int (1 : Int32))]))
      exact own_retZ X61 hx hlk (t := .boolean) Bd.returns (by simp) (hb hby at_64) (z' := (1 : Int32)) (by first | rfl | decide) ⟨rfl, (Fr.nil n0)⟩ (by decide) (by decide)
    · rw [hk54]
      show own_Go p e below s _ _ _ (s₁.setTop (mkF m 7 #[.val (.int p0), .val (.int p1), .val (.int (2 : Int32)), .unset, .unset, .unset, .unset, .unset, .unset] [(.int (1 : Int32))]))
      refine own_via (fun _ k => XS.istoreN X0.here hx rfl (hb hby at_7) rfl (l' := #[.val (.int p0), .val (.int p1), .val (.int (2 : Int32)), .val (.int (1 : Int32)), .unset, .unset, .unset, .unset, .unset]) rfl k) ?_
      show own_Go p e below s _ _ _ (s₁.setTop (mkF m 8 #[.val (.int p0), .val (.int p1), .val (.int (2 : Int32)), .val (.int (1 : Int32)), .unset, .unset, .unset, .unset, .unset] []))
      refine own_via (fun _ k => XS.iloadN X0.here hx rfl (hb hby at_8) rfl k) ?_
      show own_Go p e below s _ _ _ (s₁.setTop (mkF m 9 #[.val (.int p0), .val (.int p1), .val (.int (2 : Int32)), .val (.int (1 : Int32)), .unset, .unset, .unset, .unset, .unset] [(.int (2 : Int32))]))
      obtain ⟨_, _, ⟨T62, L62, k62, n62⟩, -, X62, ⟨Lc62, hQ62, l62, y62, z62⟩, st62⟩ := Jvm.LawKit.callS X0 hx (y := (⟨"com/example/bericht/bericht/selector/ValueTypeAdmitsPinLaw", "pick", "(I)Lcom/example/bericht/bericht/selector/ValueType;"⟩ : MethodName)) hown (mvT hZ (hw _ (List.mem_of_getElem? (i := 0) rfl))) (mvT hZ (hw _ (List.mem_of_getElem? (i := 1) rfl))) (mvT hZ (hw _ (List.mem_of_getElem? (i := 2) rfl))) (mvT hZ (hw _ (List.mem_of_getElem? (i := 3) rfl))) (by decide) (backOf (W := 0) (rm1_2 l Z a0 hw [] w0 w1 w2 w3 h0 n0 Z0 K0) hZ (hw _ (List.mem_of_getElem? (i := 3) rfl)) (hw _ (List.mem_of_getElem? (i := 2) rfl)) (by decide) (by decide)) (g := (mkF m 9 #[.val (.int p0), .val (.int p1), .val (.int (2 : Int32)), .val (.int (1 : Int32)), .unset, .unset, .unset, .unset, .unset] [(.int (2 : Int32))])) rfl (by rw [hml]; rfl) (argsL := [(.int (2 : Int32))]) (rest := []) (lenOf pd0 rfl) rfl (by show 2 * 0 + _ ≤ _; exact Nat.le_of_eq rfl) (hb hby at_9) (fun _ _ => ⟨rfl, e0, (by decide : 0 + 0 ≤ _), (by decide : 0 + 0 ≤ _)⟩)
      dsimp only [Pt.U, Pt.locs, Pt.cells, Pt.slots] at X62 l62 y62 z62 st62 hQ62
      subst l62 y62 z62
      obtain ⟨rfl, e62, hO62⟩ := hQ62
      obtain rfl := hO62
      refine own_via st62 ?_
      show own_Go p e below s _ _ _ (T62.setTop (mkF m 12 #[.val (.int p0), .val (.int p1), .val (.int (2 : Int32)), .val (.int (1 : Int32)), .unset, .unset, .unset, .unset, .unset] [(.ref w2)]))
      refine own_via (fun _ k => XS.astore X62.here hx rfl (hb hby at_12) rfl rfl (l' := #[.val (.int p0), .val (.int p1), .val (.int (2 : Int32)), .val (.int (1 : Int32)), .val (.ref w2), .unset, .unset, .unset, .unset]) rfl k) ?_
      show own_Go p e below s _ _ _ (T62.setTop (mkF m 14 #[.val (.int p0), .val (.int p1), .val (.int (2 : Int32)), .val (.int (1 : Int32)), .val (.ref w2), .unset, .unset, .unset, .unset] []))
      refine own_via (fun _ k => XS.iloadN X62.here hx rfl (hb hby at_14) rfl k) ?_
      show own_Go p e below s _ _ _ (T62.setTop (mkF m 15 #[.val (.int p0), .val (.int p1), .val (.int (2 : Int32)), .val (.int (1 : Int32)), .val (.ref w2), .unset, .unset, .unset, .unset] [(.int (1 : Int32))]))
      obtain ⟨_, _, ⟨T63, L63, k63, n63⟩, -, X63, ⟨Lc63, hQ63, l63, y63, z63⟩, st63⟩ := Jvm.LawKit.callS X62 hx (y := (⟨"com/example/bericht/bericht/selector/ValueTypeAdmitsPinLaw", "pick", "(I)Lcom/example/bericht/bericht/selector/ValueType;"⟩ : MethodName)) hown (mvT hZ (hw _ (List.mem_of_getElem? (i := 0) rfl))) (mvT hZ (hw _ (List.mem_of_getElem? (i := 1) rfl))) (mvT hZ (hw _ (List.mem_of_getElem? (i := 2) rfl))) (mvT hZ (hw _ (List.mem_of_getElem? (i := 3) rfl))) (by decide) (backOf (W := 0) (rm1_1 l Z a0 hw [] w0 w1 w2 w3 h0 n0 Z0 K0) hZ (hw _ (List.mem_of_getElem? (i := 3) rfl)) (hw _ (List.mem_of_getElem? (i := 2) rfl)) (by decide) (by decide)) (g := (mkF m 15 #[.val (.int p0), .val (.int p1), .val (.int (2 : Int32)), .val (.int (1 : Int32)), .val (.ref w2), .unset, .unset, .unset, .unset] [(.int (1 : Int32))])) rfl (by rw [hml]; rfl) (argsL := [(.int (1 : Int32))]) (rest := []) (lenOf pd0 rfl) rfl (by show 2 * 0 + _ ≤ _; exact Nat.le_of_eq rfl) (hb hby at_15) (fun _ _ => ⟨rfl, e62, (by decide : 0 + 0 ≤ _), (by decide : 0 + 0 ≤ _)⟩)
      dsimp only [Pt.U, Pt.locs, Pt.cells, Pt.slots] at X63 l63 y63 z63 st63 hQ63
      subst l63 y63 z63
      obtain ⟨rfl, e63, hO63⟩ := hQ63
      obtain rfl := hO63
      refine own_via st63 ?_
      show own_Go p e below s _ _ _ (T63.setTop (mkF m 18 #[.val (.int p0), .val (.int p1), .val (.int (2 : Int32)), .val (.int (1 : Int32)), .val (.ref w2), .unset, .unset, .unset, .unset] [(.ref w3)]))
      refine own_via (fun _ k => XS.astore X63.here hx rfl (hb hby at_18) rfl rfl (l' := #[.val (.int p0), .val (.int p1), .val (.int (2 : Int32)), .val (.int (1 : Int32)), .val (.ref w2), .val (.ref w3), .unset, .unset, .unset]) rfl k) ?_
      show own_Go p e below s _ _ _ (T63.setTop (mkF m 20 #[.val (.int p0), .val (.int p1), .val (.int (2 : Int32)), .val (.int (1 : Int32)), .val (.ref w2), .val (.ref w3), .unset, .unset, .unset] []))
      refine own_via (fun _ k => XS.aload X63.here hx rfl (hb hby at_20) rfl rfl k) ?_
      show own_Go p e below s _ _ _ (T63.setTop (mkF m 22 #[.val (.int p0), .val (.int p1), .val (.int (2 : Int32)), .val (.int (1 : Int32)), .val (.ref w2), .val (.ref w3), .unset, .unset, .unset] [(.ref w2)]))
      refine own_via (fun _ k => XS.aload X63.here hx rfl (hb hby at_22) rfl rfl k) ?_
      show own_Go p e below s _ _ _ (T63.setTop (mkF m 24 #[.val (.int p0), .val (.int p1), .val (.int (2 : Int32)), .val (.int (1 : Int32)), .val (.ref w2), .val (.ref w3), .unset, .unset, .unset] [(.ref w3), (.ref w2)]))
      obtain ⟨cq64, kq64, q64a, q64b, q64c⟩ := isOf hZ e63 E_w2
      obtain ⟨_, _, ⟨T64, L64, k64, n64⟩, -, X64, ⟨Lc64, hQ64, l64, y64, z64⟩, st64⟩ := X63.virtualBack hx (y := (⟨"com/example/bericht/bericht/selector/ValueType", "admits", "(Lcom/example/bericht/bericht/selector/ValueType;)Z"⟩ : MethodName)) (z := (⟨"com/example/bericht/bericht/selector/ValueType", "admits", "(Lcom/example/bericht/bericht/selector/ValueType;)Z"⟩ : MethodName)) hown (mvT hZ (hw _ (List.mem_of_getElem? (i := 9) rfl))) (mvT hZ (hw _ (List.mem_of_getElem? (i := 10) rfl))) (notFace_of_selects (args := #[]) (mvT hZ (hw _ (List.mem_of_getElem? (i := 12) rfl)))) (mvT hZ (hw _ (List.mem_of_getElem? (i := 12) rfl))) (mvT hZ (hw _ (List.mem_of_getElem? (i := 11) rfl))) (by decide) (backOf (W := 0) (rm2_9 l Z a0 hw [] w0 w1 w2 w3 h0 n0 Z0 K0) hZ (hw _ (List.mem_of_getElem? (i := 13) rfl)) (hw _ (List.mem_of_getElem? (i := 5) rfl)) (by decide) (by decide)) q64a q64c (g := (mkF m 24 #[.val (.int p0), .val (.int p1), .val (.int (2 : Int32)), .val (.int (1 : Int32)), .val (.ref w2), .val (.ref w3), .unset, .unset, .unset] [(.ref w3), (.ref w2)])) rfl (by rw [hml]; rfl) (Steps.refl _) (argsL := [(.ref w3)]) (rest := []) (lenOf pd1 rfl) rfl (by show 2 * 0 + _ ≤ _; exact Nat.le_of_eq rfl) (hb hby at_24) (fun _ _ => ⟨rfl, e63, (by decide : 0 + 0 ≤ _), (by decide : 0 + 0 ≤ _)⟩)
      dsimp only [Pt.U, Pt.locs, Pt.cells, Pt.slots] at X64 l64 y64 z64 st64 hQ64
      subst l64 y64 z64
      obtain ⟨rfl, e64, hO64⟩ := hQ64
      obtain rfl := hO64
      refine own_tr st64 ?_
      show own_Go p e below s _ _ _ (T64.setTop (mkF m 27 #[.val (.int p0), .val (.int p1), .val (.int (2 : Int32)), .val (.int (1 : Int32)), .val (.ref w2), .val (.ref w3), .unset, .unset, .unset] [(.int (0 : Int32))]))
      refine own_via (fun _ k => XS.istore X64.here hx rfl (hb hby at_27) rfl (l' := #[.val (.int p0), .val (.int p1), .val (.int (2 : Int32)), .val (.int (1 : Int32)), .val (.ref w2), .val (.ref w3), .val (.int (0 : Int32)), .unset, .unset]) rfl k) ?_
      show own_Go p e below s _ _ _ (T64.setTop (mkF m 29 #[.val (.int p0), .val (.int p1), .val (.int (2 : Int32)), .val (.int (1 : Int32)), .val (.ref w2), .val (.ref w3), .val (.int (0 : Int32)), .unset, .unset] []))
      refine own_via (fun _ k => XS.aload X64.here hx rfl (hb hby at_29) rfl rfl k) ?_
      show own_Go p e below s _ _ _ (T64.setTop (mkF m 31 #[.val (.int p0), .val (.int p1), .val (.int (2 : Int32)), .val (.int (1 : Int32)), .val (.ref w2), .val (.ref w3), .val (.int (0 : Int32)), .unset, .unset] [(.ref w3)]))
      refine own_via (fun _ k => XS.aload X64.here hx rfl (hb hby at_31) rfl rfl k) ?_
      show own_Go p e below s _ _ _ (T64.setTop (mkF m 33 #[.val (.int p0), .val (.int p1), .val (.int (2 : Int32)), .val (.int (1 : Int32)), .val (.ref w2), .val (.ref w3), .val (.int (0 : Int32)), .unset, .unset] [(.ref w2), (.ref w3)]))
      obtain ⟨cq65, kq65, q65a, q65b, q65c⟩ := isOf hZ e64 E_w3
      obtain ⟨_, _, ⟨T65, L65, k65, n65⟩, -, X65, ⟨Lc65, hQ65, l65, y65, z65⟩, st65⟩ := X64.virtualBack hx (y := (⟨"com/example/bericht/bericht/selector/ValueType", "admits", "(Lcom/example/bericht/bericht/selector/ValueType;)Z"⟩ : MethodName)) (z := (⟨"com/example/bericht/bericht/selector/ValueType", "admits", "(Lcom/example/bericht/bericht/selector/ValueType;)Z"⟩ : MethodName)) hown (mvT hZ (hw _ (List.mem_of_getElem? (i := 9) rfl))) (mvT hZ (hw _ (List.mem_of_getElem? (i := 10) rfl))) (notFace_of_selects (args := #[]) (mvT hZ (hw _ (List.mem_of_getElem? (i := 12) rfl)))) (mvT hZ (hw _ (List.mem_of_getElem? (i := 12) rfl))) (mvT hZ (hw _ (List.mem_of_getElem? (i := 11) rfl))) (by decide) (backOf (W := 0) (rm2_8 l Z a0 hw [] w0 w1 w2 w3 h0 n0 Z0 K0) hZ (hw _ (List.mem_of_getElem? (i := 13) rfl)) (hw _ (List.mem_of_getElem? (i := 5) rfl)) (by decide) (by decide)) q65a q65c (g := (mkF m 33 #[.val (.int p0), .val (.int p1), .val (.int (2 : Int32)), .val (.int (1 : Int32)), .val (.ref w2), .val (.ref w3), .val (.int (0 : Int32)), .unset, .unset] [(.ref w2), (.ref w3)])) rfl (by rw [hml]; rfl) (Steps.refl _) (argsL := [(.ref w2)]) (rest := []) (lenOf pd1 rfl) rfl (by show 2 * 0 + _ ≤ _; exact Nat.le_of_eq rfl) (hb hby at_33) (fun _ _ => ⟨rfl, e64, (by decide : 0 + 0 ≤ _), (by decide : 0 + 0 ≤ _)⟩)
      dsimp only [Pt.U, Pt.locs, Pt.cells, Pt.slots] at X65 l65 y65 z65 st65 hQ65
      subst l65 y65 z65
      obtain ⟨rfl, e65, hO65⟩ := hQ65
      obtain rfl := hO65
      refine own_tr st65 ?_
      show own_Go p e below s _ _ _ (T65.setTop (mkF m 36 #[.val (.int p0), .val (.int p1), .val (.int (2 : Int32)), .val (.int (1 : Int32)), .val (.ref w2), .val (.ref w3), .val (.int (0 : Int32)), .unset, .unset] [(.int (0 : Int32))]))
      refine own_via (fun _ k => XS.istore X65.here hx rfl (hb hby at_36) rfl (l' := #[.val (.int p0), .val (.int p1), .val (.int (2 : Int32)), .val (.int (1 : Int32)), .val (.ref w2), .val (.ref w3), .val (.int (0 : Int32)), .val (.int (0 : Int32)), .unset]) rfl k) ?_
      show own_Go p e below s _ _ _ (T65.setTop (mkF m 38 #[.val (.int p0), .val (.int p1), .val (.int (2 : Int32)), .val (.int (1 : Int32)), .val (.ref w2), .val (.ref w3), .val (.int (0 : Int32)), .val (.int (0 : Int32)), .unset] []))
      refine own_via (fun _ k => XS.iloadN X65.here hx rfl (hb hby at_38) rfl k) ?_
      show own_Go p e below s _ _ _ (T65.setTop (mkF m 39 #[.val (.int p0), .val (.int p1), .val (.int (2 : Int32)), .val (.int (1 : Int32)), .val (.ref w2), .val (.ref w3), .val (.int (0 : Int32)), .val (.int (0 : Int32)), .unset] [(.int (2 : Int32))]))
      refine own_via (fun _ k => XS.iloadN X65.here hx rfl (hb hby at_39) rfl k) ?_
      show own_Go p e below s _ _ _ (T65.setTop (mkF m 40 #[.val (.int p0), .val (.int p1), .val (.int (2 : Int32)), .val (.int (1 : Int32)), .val (.ref w2), .val (.ref w3), .val (.int (0 : Int32)), .val (.int (0 : Int32)), .unset] [(.int (1 : Int32)), (.int (2 : Int32))]))
      obtain ⟨_, _, ⟨T66, L66, k66, n66⟩, -, X66, ⟨Lc66, hQ66, l66, y66, z66⟩, st66⟩ := Jvm.LawKit.callS X65 hx (y := (⟨"com/example/bericht/bericht/selector/ValueTypeAdmitsPinLaw", "expected", "(II)Z"⟩ : MethodName)) hown (mvT hZ (hw _ (List.mem_of_getElem? (i := 15) rfl))) (mvT hZ (hw _ (List.mem_of_getElem? (i := 16) rfl))) (mvT hZ (hw _ (List.mem_of_getElem? (i := 2) rfl))) (mvT hZ (hw _ (List.mem_of_getElem? (i := 17) rfl))) (by decide) (backOf (W := 0) (rm3_9 l Z a0 hw [] w0 w1 w2 w3 h0 n0 Z0 K0) hZ (hw _ (List.mem_of_getElem? (i := 17) rfl)) (hw _ (List.mem_of_getElem? (i := 2) rfl)) (by decide) (by decide)) (g := (mkF m 40 #[.val (.int p0), .val (.int p1), .val (.int (2 : Int32)), .val (.int (1 : Int32)), .val (.ref w2), .val (.ref w3), .val (.int (0 : Int32)), .val (.int (0 : Int32)), .unset] [(.int (1 : Int32)), (.int (2 : Int32))])) rfl (by rw [hml]; rfl) (argsL := [(.int (2 : Int32)), (.int (1 : Int32))]) (rest := []) (lenOf pd2 rfl) rfl (by show 2 * 0 + _ ≤ _; exact Nat.le_of_eq rfl) (hb hby at_40) (fun _ _ => ⟨rfl, e65, (by decide : 0 + 0 ≤ _), (by decide : 0 + 0 ≤ _)⟩)
      dsimp only [Pt.U, Pt.locs, Pt.cells, Pt.slots] at X66 l66 y66 z66 st66 hQ66
      subst l66 y66 z66
      obtain ⟨rfl, e66, hO66⟩ := hQ66
      obtain rfl := hO66
      refine own_via st66 ?_
      show own_Go p e below s _ _ _ (T66.setTop (mkF m 43 #[.val (.int p0), .val (.int p1), .val (.int (2 : Int32)), .val (.int (1 : Int32)), .val (.ref w2), .val (.ref w3), .val (.int (0 : Int32)), .val (.int (0 : Int32)), .unset] [(.int (0 : Int32))]))
      refine own_via (fun _ k => XS.istore X66.here hx rfl (hb hby at_43) rfl (l' := #[.val (.int p0), .val (.int p1), .val (.int (2 : Int32)), .val (.int (1 : Int32)), .val (.ref w2), .val (.ref w3), .val (.int (0 : Int32)), .val (.int (0 : Int32)), .val (.int (0 : Int32))]) rfl k) ?_
      show own_Go p e below s _ _ _ (T66.setTop (mkF m 45 #[.val (.int p0), .val (.int p1), .val (.int (2 : Int32)), .val (.int (1 : Int32)), .val (.ref w2), .val (.ref w3), .val (.int (0 : Int32)), .val (.int (0 : Int32)), .val (.int (0 : Int32))] []))
      refine own_via (fun _ k => XS.iload X66.here hx rfl (hb hby at_45) rfl k) ?_
      show own_Go p e below s _ _ _ (T66.setTop (mkF m 47 #[.val (.int p0), .val (.int p1), .val (.int (2 : Int32)), .val (.int (1 : Int32)), .val (.ref w2), .val (.ref w3), .val (.int (0 : Int32)), .val (.int (0 : Int32)), .val (.int (0 : Int32))] [(.int (0 : Int32))]))
      refine own_via (fun _ k => XS.iload X66.here hx rfl (hb hby at_47) rfl k) ?_
      show own_Go p e below s _ _ _ (T66.setTop (mkF m 49 #[.val (.int p0), .val (.int p1), .val (.int (2 : Int32)), .val (.int (1 : Int32)), .val (.ref w2), .val (.ref w3), .val (.int (0 : Int32)), .val (.int (0 : Int32)), .val (.int (0 : Int32))] [(.int (0 : Int32)), (.int (0 : Int32))]))
      refine own_via (fun _ k => XS.icmpNo X66.here hx rfl (hb hby at_49) rfl (teq (by decide : (0 : Int32) = (0 : Int32))).2 k) ?_
      show own_Go p e below s _ _ _ (T66.setTop (mkF m 52 #[.val (.int p0), .val (.int p1), .val (.int (2 : Int32)), .val (.int (1 : Int32)), .val (.ref w2), .val (.ref w3), .val (.int (0 : Int32)), .val (.int (0 : Int32)), .val (.int (0 : Int32))] []))
      refine own_via (fun _ k => XS.iload X66.here hx rfl (hb hby at_52) rfl k) ?_
      show own_Go p e below s _ _ _ (T66.setTop (mkF m 54 #[.val (.int p0), .val (.int p1), .val (.int (2 : Int32)), .val (.int (1 : Int32)), .val (.ref w2), .val (.ref w3), .val (.int (0 : Int32)), .val (.int (0 : Int32)), .val (.int (0 : Int32))] [(.int (0 : Int32))]))
      refine own_via (fun _ k => XS.iload X66.here hx rfl (hb hby at_54) rfl k) ?_
      show own_Go p e below s _ _ _ (T66.setTop (mkF m 56 #[.val (.int p0), .val (.int p1), .val (.int (2 : Int32)), .val (.int (1 : Int32)), .val (.ref w2), .val (.ref w3), .val (.int (0 : Int32)), .val (.int (0 : Int32)), .val (.int (0 : Int32))] [(.int (0 : Int32)), (.int (0 : Int32))]))
      refine own_via (fun _ k => XS.icmpNo X66.here hx rfl (hb hby at_56) rfl (teq (by decide : (0 : Int32) = (0 : Int32))).2 k) ?_
      show own_Go p e below s _ _ _ (T66.setTop (mkF m 59 #[.val (.int p0), .val (.int p1), .val (.int (2 : Int32)), .val (.int (1 : Int32)), .val (.ref w2), .val (.ref w3), .val (.int (0 : Int32)), .val (.int (0 : Int32)), .val (.int (0 : Int32))] []))
      refine own_via (fun _ k => XS.iconst X66.here hx rfl (hb hby at_59) k) ?_
      show own_Go p e below s _ _ _ (T66.setTop (mkF m 60 #[.val (.int p0), .val (.int p1), .val (.int (2 : Int32)), .val (.int (1 : Int32)), .val (.ref w2), .val (.ref w3), .val (.int (0 : Int32)), .val (.int (0 : Int32)), .val (.int (0 : Int32))] [(.int (1 : Int32))]))
      refine own_via (fun _ k => XS.goto X66.here hx rfl (pc0 := 60) (pc' := 64) rfl (hb hby at_60) (by decide) (by decide) k) ?_
      show own_Go p e below s _ _ _ (T66.setTop (mkF m 64 #[.val (.int p0), .val (.int p1), .val (.int (2 : Int32)), .val (.int (1 : Int32)), .val (.ref w2), .val (.ref w3), .val (.int (0 : Int32)), .val (.int (0 : Int32)), .val (.int (0 : Int32))] [(.int (1 : Int32))]))
      exact own_retZ X66 hx hlk (t := .boolean) Bd.returns (by simp) (hb hby at_64) (z' := (1 : Int32)) (by first | rfl | decide) ⟨rfl, (Fr.nil n0)⟩ (by decide) (by decide)
    · rw [hk55]
      show own_Go p e below s _ _ _ (s₁.setTop (mkF m 7 #[.val (.int p0), .val (.int p1), .val (.int (2 : Int32)), .unset, .unset, .unset, .unset, .unset, .unset] [(.int (2 : Int32))]))
      refine own_via (fun _ k => XS.istoreN X0.here hx rfl (hb hby at_7) rfl (l' := #[.val (.int p0), .val (.int p1), .val (.int (2 : Int32)), .val (.int (2 : Int32)), .unset, .unset, .unset, .unset, .unset]) rfl k) ?_
      show own_Go p e below s _ _ _ (s₁.setTop (mkF m 8 #[.val (.int p0), .val (.int p1), .val (.int (2 : Int32)), .val (.int (2 : Int32)), .unset, .unset, .unset, .unset, .unset] []))
      refine own_via (fun _ k => XS.iloadN X0.here hx rfl (hb hby at_8) rfl k) ?_
      show own_Go p e below s _ _ _ (s₁.setTop (mkF m 9 #[.val (.int p0), .val (.int p1), .val (.int (2 : Int32)), .val (.int (2 : Int32)), .unset, .unset, .unset, .unset, .unset] [(.int (2 : Int32))]))
      obtain ⟨_, _, ⟨T67, L67, k67, n67⟩, -, X67, ⟨Lc67, hQ67, l67, y67, z67⟩, st67⟩ := Jvm.LawKit.callS X0 hx (y := (⟨"com/example/bericht/bericht/selector/ValueTypeAdmitsPinLaw", "pick", "(I)Lcom/example/bericht/bericht/selector/ValueType;"⟩ : MethodName)) hown (mvT hZ (hw _ (List.mem_of_getElem? (i := 0) rfl))) (mvT hZ (hw _ (List.mem_of_getElem? (i := 1) rfl))) (mvT hZ (hw _ (List.mem_of_getElem? (i := 2) rfl))) (mvT hZ (hw _ (List.mem_of_getElem? (i := 3) rfl))) (by decide) (backOf (W := 0) (rm1_2 l Z a0 hw [] w0 w1 w2 w3 h0 n0 Z0 K0) hZ (hw _ (List.mem_of_getElem? (i := 3) rfl)) (hw _ (List.mem_of_getElem? (i := 2) rfl)) (by decide) (by decide)) (g := (mkF m 9 #[.val (.int p0), .val (.int p1), .val (.int (2 : Int32)), .val (.int (2 : Int32)), .unset, .unset, .unset, .unset, .unset] [(.int (2 : Int32))])) rfl (by rw [hml]; rfl) (argsL := [(.int (2 : Int32))]) (rest := []) (lenOf pd0 rfl) rfl (by show 2 * 0 + _ ≤ _; exact Nat.le_of_eq rfl) (hb hby at_9) (fun _ _ => ⟨rfl, e0, (by decide : 0 + 0 ≤ _), (by decide : 0 + 0 ≤ _)⟩)
      dsimp only [Pt.U, Pt.locs, Pt.cells, Pt.slots] at X67 l67 y67 z67 st67 hQ67
      subst l67 y67 z67
      obtain ⟨rfl, e67, hO67⟩ := hQ67
      obtain rfl := hO67
      refine own_via st67 ?_
      show own_Go p e below s _ _ _ (T67.setTop (mkF m 12 #[.val (.int p0), .val (.int p1), .val (.int (2 : Int32)), .val (.int (2 : Int32)), .unset, .unset, .unset, .unset, .unset] [(.ref w2)]))
      refine own_via (fun _ k => XS.astore X67.here hx rfl (hb hby at_12) rfl rfl (l' := #[.val (.int p0), .val (.int p1), .val (.int (2 : Int32)), .val (.int (2 : Int32)), .val (.ref w2), .unset, .unset, .unset, .unset]) rfl k) ?_
      show own_Go p e below s _ _ _ (T67.setTop (mkF m 14 #[.val (.int p0), .val (.int p1), .val (.int (2 : Int32)), .val (.int (2 : Int32)), .val (.ref w2), .unset, .unset, .unset, .unset] []))
      refine own_via (fun _ k => XS.iloadN X67.here hx rfl (hb hby at_14) rfl k) ?_
      show own_Go p e below s _ _ _ (T67.setTop (mkF m 15 #[.val (.int p0), .val (.int p1), .val (.int (2 : Int32)), .val (.int (2 : Int32)), .val (.ref w2), .unset, .unset, .unset, .unset] [(.int (2 : Int32))]))
      obtain ⟨_, _, ⟨T68, L68, k68, n68⟩, -, X68, ⟨Lc68, hQ68, l68, y68, z68⟩, st68⟩ := Jvm.LawKit.callS X67 hx (y := (⟨"com/example/bericht/bericht/selector/ValueTypeAdmitsPinLaw", "pick", "(I)Lcom/example/bericht/bericht/selector/ValueType;"⟩ : MethodName)) hown (mvT hZ (hw _ (List.mem_of_getElem? (i := 0) rfl))) (mvT hZ (hw _ (List.mem_of_getElem? (i := 1) rfl))) (mvT hZ (hw _ (List.mem_of_getElem? (i := 2) rfl))) (mvT hZ (hw _ (List.mem_of_getElem? (i := 3) rfl))) (by decide) (backOf (W := 0) (rm1_2 l Z a0 hw [] w0 w1 w2 w3 h0 n0 Z0 K0) hZ (hw _ (List.mem_of_getElem? (i := 3) rfl)) (hw _ (List.mem_of_getElem? (i := 2) rfl)) (by decide) (by decide)) (g := (mkF m 15 #[.val (.int p0), .val (.int p1), .val (.int (2 : Int32)), .val (.int (2 : Int32)), .val (.ref w2), .unset, .unset, .unset, .unset] [(.int (2 : Int32))])) rfl (by rw [hml]; rfl) (argsL := [(.int (2 : Int32))]) (rest := []) (lenOf pd0 rfl) rfl (by show 2 * 0 + _ ≤ _; exact Nat.le_of_eq rfl) (hb hby at_15) (fun _ _ => ⟨rfl, e67, (by decide : 0 + 0 ≤ _), (by decide : 0 + 0 ≤ _)⟩)
      dsimp only [Pt.U, Pt.locs, Pt.cells, Pt.slots] at X68 l68 y68 z68 st68 hQ68
      subst l68 y68 z68
      obtain ⟨rfl, e68, hO68⟩ := hQ68
      obtain rfl := hO68
      refine own_via st68 ?_
      show own_Go p e below s _ _ _ (T68.setTop (mkF m 18 #[.val (.int p0), .val (.int p1), .val (.int (2 : Int32)), .val (.int (2 : Int32)), .val (.ref w2), .unset, .unset, .unset, .unset] [(.ref w2)]))
      refine own_via (fun _ k => XS.astore X68.here hx rfl (hb hby at_18) rfl rfl (l' := #[.val (.int p0), .val (.int p1), .val (.int (2 : Int32)), .val (.int (2 : Int32)), .val (.ref w2), .val (.ref w2), .unset, .unset, .unset]) rfl k) ?_
      show own_Go p e below s _ _ _ (T68.setTop (mkF m 20 #[.val (.int p0), .val (.int p1), .val (.int (2 : Int32)), .val (.int (2 : Int32)), .val (.ref w2), .val (.ref w2), .unset, .unset, .unset] []))
      refine own_via (fun _ k => XS.aload X68.here hx rfl (hb hby at_20) rfl rfl k) ?_
      show own_Go p e below s _ _ _ (T68.setTop (mkF m 22 #[.val (.int p0), .val (.int p1), .val (.int (2 : Int32)), .val (.int (2 : Int32)), .val (.ref w2), .val (.ref w2), .unset, .unset, .unset] [(.ref w2)]))
      refine own_via (fun _ k => XS.aload X68.here hx rfl (hb hby at_22) rfl rfl k) ?_
      show own_Go p e below s _ _ _ (T68.setTop (mkF m 24 #[.val (.int p0), .val (.int p1), .val (.int (2 : Int32)), .val (.int (2 : Int32)), .val (.ref w2), .val (.ref w2), .unset, .unset, .unset] [(.ref w2), (.ref w2)]))
      obtain ⟨cq69, kq69, q69a, q69b, q69c⟩ := isOf hZ e68 E_w2
      obtain ⟨_, _, ⟨T69, L69, k69, n69⟩, -, X69, ⟨Lc69, hQ69, l69, y69, z69⟩, st69⟩ := X68.virtualBack hx (y := (⟨"com/example/bericht/bericht/selector/ValueType", "admits", "(Lcom/example/bericht/bericht/selector/ValueType;)Z"⟩ : MethodName)) (z := (⟨"com/example/bericht/bericht/selector/ValueType", "admits", "(Lcom/example/bericht/bericht/selector/ValueType;)Z"⟩ : MethodName)) hown (mvT hZ (hw _ (List.mem_of_getElem? (i := 9) rfl))) (mvT hZ (hw _ (List.mem_of_getElem? (i := 10) rfl))) (notFace_of_selects (args := #[]) (mvT hZ (hw _ (List.mem_of_getElem? (i := 12) rfl)))) (mvT hZ (hw _ (List.mem_of_getElem? (i := 12) rfl))) (mvT hZ (hw _ (List.mem_of_getElem? (i := 11) rfl))) (by decide) (backOf (W := 0) (rm2_12 l Z a0 hw [] w0 w1 w2 w3 h0 n0 Z0 K0) hZ (hw _ (List.mem_of_getElem? (i := 13) rfl)) (hw _ (List.mem_of_getElem? (i := 5) rfl)) (by decide) (by decide)) q69a q69c (g := (mkF m 24 #[.val (.int p0), .val (.int p1), .val (.int (2 : Int32)), .val (.int (2 : Int32)), .val (.ref w2), .val (.ref w2), .unset, .unset, .unset] [(.ref w2), (.ref w2)])) rfl (by rw [hml]; rfl) (Steps.refl _) (argsL := [(.ref w2)]) (rest := []) (lenOf pd1 rfl) rfl (by show 2 * 0 + _ ≤ _; exact Nat.le_of_eq rfl) (hb hby at_24) (fun _ _ => ⟨rfl, e68, (by decide : 0 + 0 ≤ _), (by decide : 0 + 0 ≤ _)⟩)
      dsimp only [Pt.U, Pt.locs, Pt.cells, Pt.slots] at X69 l69 y69 z69 st69 hQ69
      subst l69 y69 z69
      obtain ⟨rfl, e69, hO69⟩ := hQ69
      obtain rfl := hO69
      refine own_tr st69 ?_
      show own_Go p e below s _ _ _ (T69.setTop (mkF m 27 #[.val (.int p0), .val (.int p1), .val (.int (2 : Int32)), .val (.int (2 : Int32)), .val (.ref w2), .val (.ref w2), .unset, .unset, .unset] [(.int (1 : Int32))]))
      refine own_via (fun _ k => XS.istore X69.here hx rfl (hb hby at_27) rfl (l' := #[.val (.int p0), .val (.int p1), .val (.int (2 : Int32)), .val (.int (2 : Int32)), .val (.ref w2), .val (.ref w2), .val (.int (1 : Int32)), .unset, .unset]) rfl k) ?_
      show own_Go p e below s _ _ _ (T69.setTop (mkF m 29 #[.val (.int p0), .val (.int p1), .val (.int (2 : Int32)), .val (.int (2 : Int32)), .val (.ref w2), .val (.ref w2), .val (.int (1 : Int32)), .unset, .unset] []))
      refine own_via (fun _ k => XS.aload X69.here hx rfl (hb hby at_29) rfl rfl k) ?_
      show own_Go p e below s _ _ _ (T69.setTop (mkF m 31 #[.val (.int p0), .val (.int p1), .val (.int (2 : Int32)), .val (.int (2 : Int32)), .val (.ref w2), .val (.ref w2), .val (.int (1 : Int32)), .unset, .unset] [(.ref w2)]))
      refine own_via (fun _ k => XS.aload X69.here hx rfl (hb hby at_31) rfl rfl k) ?_
      show own_Go p e below s _ _ _ (T69.setTop (mkF m 33 #[.val (.int p0), .val (.int p1), .val (.int (2 : Int32)), .val (.int (2 : Int32)), .val (.ref w2), .val (.ref w2), .val (.int (1 : Int32)), .unset, .unset] [(.ref w2), (.ref w2)]))
      obtain ⟨cq70, kq70, q70a, q70b, q70c⟩ := isOf hZ e69 E_w2
      obtain ⟨_, _, ⟨T70, L70, k70, n70⟩, -, X70, ⟨Lc70, hQ70, l70, y70, z70⟩, st70⟩ := X69.virtualBack hx (y := (⟨"com/example/bericht/bericht/selector/ValueType", "admits", "(Lcom/example/bericht/bericht/selector/ValueType;)Z"⟩ : MethodName)) (z := (⟨"com/example/bericht/bericht/selector/ValueType", "admits", "(Lcom/example/bericht/bericht/selector/ValueType;)Z"⟩ : MethodName)) hown (mvT hZ (hw _ (List.mem_of_getElem? (i := 9) rfl))) (mvT hZ (hw _ (List.mem_of_getElem? (i := 10) rfl))) (notFace_of_selects (args := #[]) (mvT hZ (hw _ (List.mem_of_getElem? (i := 12) rfl)))) (mvT hZ (hw _ (List.mem_of_getElem? (i := 12) rfl))) (mvT hZ (hw _ (List.mem_of_getElem? (i := 11) rfl))) (by decide) (backOf (W := 0) (rm2_12 l Z a0 hw [] w0 w1 w2 w3 h0 n0 Z0 K0) hZ (hw _ (List.mem_of_getElem? (i := 13) rfl)) (hw _ (List.mem_of_getElem? (i := 5) rfl)) (by decide) (by decide)) q70a q70c (g := (mkF m 33 #[.val (.int p0), .val (.int p1), .val (.int (2 : Int32)), .val (.int (2 : Int32)), .val (.ref w2), .val (.ref w2), .val (.int (1 : Int32)), .unset, .unset] [(.ref w2), (.ref w2)])) rfl (by rw [hml]; rfl) (Steps.refl _) (argsL := [(.ref w2)]) (rest := []) (lenOf pd1 rfl) rfl (by show 2 * 0 + _ ≤ _; exact Nat.le_of_eq rfl) (hb hby at_33) (fun _ _ => ⟨rfl, e69, (by decide : 0 + 0 ≤ _), (by decide : 0 + 0 ≤ _)⟩)
      dsimp only [Pt.U, Pt.locs, Pt.cells, Pt.slots] at X70 l70 y70 z70 st70 hQ70
      subst l70 y70 z70
      obtain ⟨rfl, e70, hO70⟩ := hQ70
      obtain rfl := hO70
      refine own_tr st70 ?_
      show own_Go p e below s _ _ _ (T70.setTop (mkF m 36 #[.val (.int p0), .val (.int p1), .val (.int (2 : Int32)), .val (.int (2 : Int32)), .val (.ref w2), .val (.ref w2), .val (.int (1 : Int32)), .unset, .unset] [(.int (1 : Int32))]))
      refine own_via (fun _ k => XS.istore X70.here hx rfl (hb hby at_36) rfl (l' := #[.val (.int p0), .val (.int p1), .val (.int (2 : Int32)), .val (.int (2 : Int32)), .val (.ref w2), .val (.ref w2), .val (.int (1 : Int32)), .val (.int (1 : Int32)), .unset]) rfl k) ?_
      show own_Go p e below s _ _ _ (T70.setTop (mkF m 38 #[.val (.int p0), .val (.int p1), .val (.int (2 : Int32)), .val (.int (2 : Int32)), .val (.ref w2), .val (.ref w2), .val (.int (1 : Int32)), .val (.int (1 : Int32)), .unset] []))
      refine own_via (fun _ k => XS.iloadN X70.here hx rfl (hb hby at_38) rfl k) ?_
      show own_Go p e below s _ _ _ (T70.setTop (mkF m 39 #[.val (.int p0), .val (.int p1), .val (.int (2 : Int32)), .val (.int (2 : Int32)), .val (.ref w2), .val (.ref w2), .val (.int (1 : Int32)), .val (.int (1 : Int32)), .unset] [(.int (2 : Int32))]))
      refine own_via (fun _ k => XS.iloadN X70.here hx rfl (hb hby at_39) rfl k) ?_
      show own_Go p e below s _ _ _ (T70.setTop (mkF m 40 #[.val (.int p0), .val (.int p1), .val (.int (2 : Int32)), .val (.int (2 : Int32)), .val (.ref w2), .val (.ref w2), .val (.int (1 : Int32)), .val (.int (1 : Int32)), .unset] [(.int (2 : Int32)), (.int (2 : Int32))]))
      obtain ⟨_, _, ⟨T71, L71, k71, n71⟩, -, X71, ⟨Lc71, hQ71, l71, y71, z71⟩, st71⟩ := Jvm.LawKit.callS X70 hx (y := (⟨"com/example/bericht/bericht/selector/ValueTypeAdmitsPinLaw", "expected", "(II)Z"⟩ : MethodName)) hown (mvT hZ (hw _ (List.mem_of_getElem? (i := 15) rfl))) (mvT hZ (hw _ (List.mem_of_getElem? (i := 16) rfl))) (mvT hZ (hw _ (List.mem_of_getElem? (i := 2) rfl))) (mvT hZ (hw _ (List.mem_of_getElem? (i := 17) rfl))) (by decide) (backOf (W := 0) (rm3_10 l Z a0 hw [] w0 w1 w2 w3 h0 n0 Z0 K0) hZ (hw _ (List.mem_of_getElem? (i := 17) rfl)) (hw _ (List.mem_of_getElem? (i := 2) rfl)) (by decide) (by decide)) (g := (mkF m 40 #[.val (.int p0), .val (.int p1), .val (.int (2 : Int32)), .val (.int (2 : Int32)), .val (.ref w2), .val (.ref w2), .val (.int (1 : Int32)), .val (.int (1 : Int32)), .unset] [(.int (2 : Int32)), (.int (2 : Int32))])) rfl (by rw [hml]; rfl) (argsL := [(.int (2 : Int32)), (.int (2 : Int32))]) (rest := []) (lenOf pd2 rfl) rfl (by show 2 * 0 + _ ≤ _; exact Nat.le_of_eq rfl) (hb hby at_40) (fun _ _ => ⟨rfl, e70, (by decide : 0 + 0 ≤ _), (by decide : 0 + 0 ≤ _)⟩)
      dsimp only [Pt.U, Pt.locs, Pt.cells, Pt.slots] at X71 l71 y71 z71 st71 hQ71
      subst l71 y71 z71
      obtain ⟨rfl, e71, hO71⟩ := hQ71
      obtain rfl := hO71
      refine own_via st71 ?_
      show own_Go p e below s _ _ _ (T71.setTop (mkF m 43 #[.val (.int p0), .val (.int p1), .val (.int (2 : Int32)), .val (.int (2 : Int32)), .val (.ref w2), .val (.ref w2), .val (.int (1 : Int32)), .val (.int (1 : Int32)), .unset] [(.int (1 : Int32))]))
      refine own_via (fun _ k => XS.istore X71.here hx rfl (hb hby at_43) rfl (l' := #[.val (.int p0), .val (.int p1), .val (.int (2 : Int32)), .val (.int (2 : Int32)), .val (.ref w2), .val (.ref w2), .val (.int (1 : Int32)), .val (.int (1 : Int32)), .val (.int (1 : Int32))]) rfl k) ?_
      show own_Go p e below s _ _ _ (T71.setTop (mkF m 45 #[.val (.int p0), .val (.int p1), .val (.int (2 : Int32)), .val (.int (2 : Int32)), .val (.ref w2), .val (.ref w2), .val (.int (1 : Int32)), .val (.int (1 : Int32)), .val (.int (1 : Int32))] []))
      refine own_via (fun _ k => XS.iload X71.here hx rfl (hb hby at_45) rfl k) ?_
      show own_Go p e below s _ _ _ (T71.setTop (mkF m 47 #[.val (.int p0), .val (.int p1), .val (.int (2 : Int32)), .val (.int (2 : Int32)), .val (.ref w2), .val (.ref w2), .val (.int (1 : Int32)), .val (.int (1 : Int32)), .val (.int (1 : Int32))] [(.int (1 : Int32))]))
      refine own_via (fun _ k => XS.iload X71.here hx rfl (hb hby at_47) rfl k) ?_
      show own_Go p e below s _ _ _ (T71.setTop (mkF m 49 #[.val (.int p0), .val (.int p1), .val (.int (2 : Int32)), .val (.int (2 : Int32)), .val (.ref w2), .val (.ref w2), .val (.int (1 : Int32)), .val (.int (1 : Int32)), .val (.int (1 : Int32))] [(.int (1 : Int32)), (.int (1 : Int32))]))
      refine own_via (fun _ k => XS.icmpNo X71.here hx rfl (hb hby at_49) rfl (teq (by decide : (1 : Int32) = (1 : Int32))).2 k) ?_
      show own_Go p e below s _ _ _ (T71.setTop (mkF m 52 #[.val (.int p0), .val (.int p1), .val (.int (2 : Int32)), .val (.int (2 : Int32)), .val (.ref w2), .val (.ref w2), .val (.int (1 : Int32)), .val (.int (1 : Int32)), .val (.int (1 : Int32))] []))
      refine own_via (fun _ k => XS.iload X71.here hx rfl (hb hby at_52) rfl k) ?_
      show own_Go p e below s _ _ _ (T71.setTop (mkF m 54 #[.val (.int p0), .val (.int p1), .val (.int (2 : Int32)), .val (.int (2 : Int32)), .val (.ref w2), .val (.ref w2), .val (.int (1 : Int32)), .val (.int (1 : Int32)), .val (.int (1 : Int32))] [(.int (1 : Int32))]))
      refine own_via (fun _ k => XS.iload X71.here hx rfl (hb hby at_54) rfl k) ?_
      show own_Go p e below s _ _ _ (T71.setTop (mkF m 56 #[.val (.int p0), .val (.int p1), .val (.int (2 : Int32)), .val (.int (2 : Int32)), .val (.ref w2), .val (.ref w2), .val (.int (1 : Int32)), .val (.int (1 : Int32)), .val (.int (1 : Int32))] [(.int (1 : Int32)), (.int (1 : Int32))]))
      refine own_via (fun _ k => XS.icmpNo X71.here hx rfl (hb hby at_56) rfl (teq (by decide : (1 : Int32) = (1 : Int32))).2 k) ?_
      show own_Go p e below s _ _ _ (T71.setTop (mkF m 59 #[.val (.int p0), .val (.int p1), .val (.int (2 : Int32)), .val (.int (2 : Int32)), .val (.ref w2), .val (.ref w2), .val (.int (1 : Int32)), .val (.int (1 : Int32)), .val (.int (1 : Int32))] []))
      refine own_via (fun _ k => XS.iconst X71.here hx rfl (hb hby at_59) k) ?_
      show own_Go p e below s _ _ _ (T71.setTop (mkF m 60 #[.val (.int p0), .val (.int p1), .val (.int (2 : Int32)), .val (.int (2 : Int32)), .val (.ref w2), .val (.ref w2), .val (.int (1 : Int32)), .val (.int (1 : Int32)), .val (.int (1 : Int32))] [(.int (1 : Int32))]))
      refine own_via (fun _ k => XS.goto X71.here hx rfl (pc0 := 60) (pc' := 64) rfl (hb hby at_60) (by decide) (by decide) k) ?_
      show own_Go p e below s _ _ _ (T71.setTop (mkF m 64 #[.val (.int p0), .val (.int p1), .val (.int (2 : Int32)), .val (.int (2 : Int32)), .val (.ref w2), .val (.ref w2), .val (.int (1 : Int32)), .val (.int (1 : Int32)), .val (.int (1 : Int32))] [(.int (1 : Int32))]))
      exact own_retZ X71 hx hlk (t := .boolean) Bd.returns (by simp) (hb hby at_64) (z' := (1 : Int32)) (by first | rfl | decide) ⟨rfl, (Fr.nil n0)⟩ (by decide) (by decide)
    · rw [hk56]
      show own_Go p e below s _ _ _ (s₁.setTop (mkF m 7 #[.val (.int p0), .val (.int p1), .val (.int (2 : Int32)), .unset, .unset, .unset, .unset, .unset, .unset] [(.int (3 : Int32))]))
      refine own_via (fun _ k => XS.istoreN X0.here hx rfl (hb hby at_7) rfl (l' := #[.val (.int p0), .val (.int p1), .val (.int (2 : Int32)), .val (.int (3 : Int32)), .unset, .unset, .unset, .unset, .unset]) rfl k) ?_
      show own_Go p e below s _ _ _ (s₁.setTop (mkF m 8 #[.val (.int p0), .val (.int p1), .val (.int (2 : Int32)), .val (.int (3 : Int32)), .unset, .unset, .unset, .unset, .unset] []))
      refine own_via (fun _ k => XS.iloadN X0.here hx rfl (hb hby at_8) rfl k) ?_
      show own_Go p e below s _ _ _ (s₁.setTop (mkF m 9 #[.val (.int p0), .val (.int p1), .val (.int (2 : Int32)), .val (.int (3 : Int32)), .unset, .unset, .unset, .unset, .unset] [(.int (2 : Int32))]))
      obtain ⟨_, _, ⟨T72, L72, k72, n72⟩, -, X72, ⟨Lc72, hQ72, l72, y72, z72⟩, st72⟩ := Jvm.LawKit.callS X0 hx (y := (⟨"com/example/bericht/bericht/selector/ValueTypeAdmitsPinLaw", "pick", "(I)Lcom/example/bericht/bericht/selector/ValueType;"⟩ : MethodName)) hown (mvT hZ (hw _ (List.mem_of_getElem? (i := 0) rfl))) (mvT hZ (hw _ (List.mem_of_getElem? (i := 1) rfl))) (mvT hZ (hw _ (List.mem_of_getElem? (i := 2) rfl))) (mvT hZ (hw _ (List.mem_of_getElem? (i := 3) rfl))) (by decide) (backOf (W := 0) (rm1_2 l Z a0 hw [] w0 w1 w2 w3 h0 n0 Z0 K0) hZ (hw _ (List.mem_of_getElem? (i := 3) rfl)) (hw _ (List.mem_of_getElem? (i := 2) rfl)) (by decide) (by decide)) (g := (mkF m 9 #[.val (.int p0), .val (.int p1), .val (.int (2 : Int32)), .val (.int (3 : Int32)), .unset, .unset, .unset, .unset, .unset] [(.int (2 : Int32))])) rfl (by rw [hml]; rfl) (argsL := [(.int (2 : Int32))]) (rest := []) (lenOf pd0 rfl) rfl (by show 2 * 0 + _ ≤ _; exact Nat.le_of_eq rfl) (hb hby at_9) (fun _ _ => ⟨rfl, e0, (by decide : 0 + 0 ≤ _), (by decide : 0 + 0 ≤ _)⟩)
      dsimp only [Pt.U, Pt.locs, Pt.cells, Pt.slots] at X72 l72 y72 z72 st72 hQ72
      subst l72 y72 z72
      obtain ⟨rfl, e72, hO72⟩ := hQ72
      obtain rfl := hO72
      refine own_via st72 ?_
      show own_Go p e below s _ _ _ (T72.setTop (mkF m 12 #[.val (.int p0), .val (.int p1), .val (.int (2 : Int32)), .val (.int (3 : Int32)), .unset, .unset, .unset, .unset, .unset] [(.ref w2)]))
      refine own_via (fun _ k => XS.astore X72.here hx rfl (hb hby at_12) rfl rfl (l' := #[.val (.int p0), .val (.int p1), .val (.int (2 : Int32)), .val (.int (3 : Int32)), .val (.ref w2), .unset, .unset, .unset, .unset]) rfl k) ?_
      show own_Go p e below s _ _ _ (T72.setTop (mkF m 14 #[.val (.int p0), .val (.int p1), .val (.int (2 : Int32)), .val (.int (3 : Int32)), .val (.ref w2), .unset, .unset, .unset, .unset] []))
      refine own_via (fun _ k => XS.iloadN X72.here hx rfl (hb hby at_14) rfl k) ?_
      show own_Go p e below s _ _ _ (T72.setTop (mkF m 15 #[.val (.int p0), .val (.int p1), .val (.int (2 : Int32)), .val (.int (3 : Int32)), .val (.ref w2), .unset, .unset, .unset, .unset] [(.int (3 : Int32))]))
      obtain ⟨_, _, ⟨T73, L73, k73, n73⟩, -, X73, ⟨Lc73, hQ73, l73, y73, z73⟩, st73⟩ := Jvm.LawKit.callS X72 hx (y := (⟨"com/example/bericht/bericht/selector/ValueTypeAdmitsPinLaw", "pick", "(I)Lcom/example/bericht/bericht/selector/ValueType;"⟩ : MethodName)) hown (mvT hZ (hw _ (List.mem_of_getElem? (i := 0) rfl))) (mvT hZ (hw _ (List.mem_of_getElem? (i := 1) rfl))) (mvT hZ (hw _ (List.mem_of_getElem? (i := 2) rfl))) (mvT hZ (hw _ (List.mem_of_getElem? (i := 3) rfl))) (by decide) (backOf (W := 0) (rm1_3 l Z a0 hw [] w0 w1 w2 w3 h0 n0 Z0 K0) hZ (hw _ (List.mem_of_getElem? (i := 3) rfl)) (hw _ (List.mem_of_getElem? (i := 2) rfl)) (by decide) (by decide)) (g := (mkF m 15 #[.val (.int p0), .val (.int p1), .val (.int (2 : Int32)), .val (.int (3 : Int32)), .val (.ref w2), .unset, .unset, .unset, .unset] [(.int (3 : Int32))])) rfl (by rw [hml]; rfl) (argsL := [(.int (3 : Int32))]) (rest := []) (lenOf pd0 rfl) rfl (by show 2 * 0 + _ ≤ _; exact Nat.le_of_eq rfl) (hb hby at_15) (fun _ _ => ⟨rfl, e72, (by decide : 0 + 0 ≤ _), (by decide : 0 + 0 ≤ _)⟩)
      dsimp only [Pt.U, Pt.locs, Pt.cells, Pt.slots] at X73 l73 y73 z73 st73 hQ73
      subst l73 y73 z73
      obtain ⟨rfl, e73, hO73⟩ := hQ73
      obtain rfl := hO73
      refine own_via st73 ?_
      show own_Go p e below s _ _ _ (T73.setTop (mkF m 18 #[.val (.int p0), .val (.int p1), .val (.int (2 : Int32)), .val (.int (3 : Int32)), .val (.ref w2), .unset, .unset, .unset, .unset] [(.ref w1)]))
      refine own_via (fun _ k => XS.astore X73.here hx rfl (hb hby at_18) rfl rfl (l' := #[.val (.int p0), .val (.int p1), .val (.int (2 : Int32)), .val (.int (3 : Int32)), .val (.ref w2), .val (.ref w1), .unset, .unset, .unset]) rfl k) ?_
      show own_Go p e below s _ _ _ (T73.setTop (mkF m 20 #[.val (.int p0), .val (.int p1), .val (.int (2 : Int32)), .val (.int (3 : Int32)), .val (.ref w2), .val (.ref w1), .unset, .unset, .unset] []))
      refine own_via (fun _ k => XS.aload X73.here hx rfl (hb hby at_20) rfl rfl k) ?_
      show own_Go p e below s _ _ _ (T73.setTop (mkF m 22 #[.val (.int p0), .val (.int p1), .val (.int (2 : Int32)), .val (.int (3 : Int32)), .val (.ref w2), .val (.ref w1), .unset, .unset, .unset] [(.ref w2)]))
      refine own_via (fun _ k => XS.aload X73.here hx rfl (hb hby at_22) rfl rfl k) ?_
      show own_Go p e below s _ _ _ (T73.setTop (mkF m 24 #[.val (.int p0), .val (.int p1), .val (.int (2 : Int32)), .val (.int (3 : Int32)), .val (.ref w2), .val (.ref w1), .unset, .unset, .unset] [(.ref w1), (.ref w2)]))
      obtain ⟨cq74, kq74, q74a, q74b, q74c⟩ := isOf hZ e73 E_w2
      obtain ⟨_, _, ⟨T74, L74, k74, n74⟩, -, X74, ⟨Lc74, hQ74, l74, y74, z74⟩, st74⟩ := X73.virtualBack hx (y := (⟨"com/example/bericht/bericht/selector/ValueType", "admits", "(Lcom/example/bericht/bericht/selector/ValueType;)Z"⟩ : MethodName)) (z := (⟨"com/example/bericht/bericht/selector/ValueType", "admits", "(Lcom/example/bericht/bericht/selector/ValueType;)Z"⟩ : MethodName)) hown (mvT hZ (hw _ (List.mem_of_getElem? (i := 9) rfl))) (mvT hZ (hw _ (List.mem_of_getElem? (i := 10) rfl))) (notFace_of_selects (args := #[]) (mvT hZ (hw _ (List.mem_of_getElem? (i := 12) rfl)))) (mvT hZ (hw _ (List.mem_of_getElem? (i := 12) rfl))) (mvT hZ (hw _ (List.mem_of_getElem? (i := 11) rfl))) (by decide) (backOf (W := 0) (rm2_13 l Z a0 hw [] w0 w1 w2 w3 h0 n0 Z0 K0) hZ (hw _ (List.mem_of_getElem? (i := 13) rfl)) (hw _ (List.mem_of_getElem? (i := 5) rfl)) (by decide) (by decide)) q74a q74c (g := (mkF m 24 #[.val (.int p0), .val (.int p1), .val (.int (2 : Int32)), .val (.int (3 : Int32)), .val (.ref w2), .val (.ref w1), .unset, .unset, .unset] [(.ref w1), (.ref w2)])) rfl (by rw [hml]; rfl) (Steps.refl _) (argsL := [(.ref w1)]) (rest := []) (lenOf pd1 rfl) rfl (by show 2 * 0 + _ ≤ _; exact Nat.le_of_eq rfl) (hb hby at_24) (fun _ _ => ⟨rfl, e73, (by decide : 0 + 0 ≤ _), (by decide : 0 + 0 ≤ _)⟩)
      dsimp only [Pt.U, Pt.locs, Pt.cells, Pt.slots] at X74 l74 y74 z74 st74 hQ74
      subst l74 y74 z74
      obtain ⟨rfl, e74, hO74⟩ := hQ74
      obtain rfl := hO74
      refine own_tr st74 ?_
      show own_Go p e below s _ _ _ (T74.setTop (mkF m 27 #[.val (.int p0), .val (.int p1), .val (.int (2 : Int32)), .val (.int (3 : Int32)), .val (.ref w2), .val (.ref w1), .unset, .unset, .unset] [(.int (1 : Int32))]))
      refine own_via (fun _ k => XS.istore X74.here hx rfl (hb hby at_27) rfl (l' := #[.val (.int p0), .val (.int p1), .val (.int (2 : Int32)), .val (.int (3 : Int32)), .val (.ref w2), .val (.ref w1), .val (.int (1 : Int32)), .unset, .unset]) rfl k) ?_
      show own_Go p e below s _ _ _ (T74.setTop (mkF m 29 #[.val (.int p0), .val (.int p1), .val (.int (2 : Int32)), .val (.int (3 : Int32)), .val (.ref w2), .val (.ref w1), .val (.int (1 : Int32)), .unset, .unset] []))
      refine own_via (fun _ k => XS.aload X74.here hx rfl (hb hby at_29) rfl rfl k) ?_
      show own_Go p e below s _ _ _ (T74.setTop (mkF m 31 #[.val (.int p0), .val (.int p1), .val (.int (2 : Int32)), .val (.int (3 : Int32)), .val (.ref w2), .val (.ref w1), .val (.int (1 : Int32)), .unset, .unset] [(.ref w1)]))
      refine own_via (fun _ k => XS.aload X74.here hx rfl (hb hby at_31) rfl rfl k) ?_
      show own_Go p e below s _ _ _ (T74.setTop (mkF m 33 #[.val (.int p0), .val (.int p1), .val (.int (2 : Int32)), .val (.int (3 : Int32)), .val (.ref w2), .val (.ref w1), .val (.int (1 : Int32)), .unset, .unset] [(.ref w2), (.ref w1)]))
      obtain ⟨cq75, kq75, q75a, q75b, q75c⟩ := isOf hZ e74 E_w1
      obtain ⟨_, _, ⟨T75, L75, k75, n75⟩, -, X75, ⟨Lc75, hQ75, l75, y75, z75⟩, st75⟩ := X74.virtualBack hx (y := (⟨"com/example/bericht/bericht/selector/ValueType", "admits", "(Lcom/example/bericht/bericht/selector/ValueType;)Z"⟩ : MethodName)) (z := (⟨"com/example/bericht/bericht/selector/ValueType", "admits", "(Lcom/example/bericht/bericht/selector/ValueType;)Z"⟩ : MethodName)) hown (mvT hZ (hw _ (List.mem_of_getElem? (i := 9) rfl))) (mvT hZ (hw _ (List.mem_of_getElem? (i := 10) rfl))) (notFace_of_selects (args := #[]) (mvT hZ (hw _ (List.mem_of_getElem? (i := 12) rfl)))) (mvT hZ (hw _ (List.mem_of_getElem? (i := 12) rfl))) (mvT hZ (hw _ (List.mem_of_getElem? (i := 11) rfl))) (by decide) (backOf (W := 0) (rm2_14 l Z a0 hw [] w0 w1 w2 w3 h0 n0 Z0 K0) hZ (hw _ (List.mem_of_getElem? (i := 13) rfl)) (hw _ (List.mem_of_getElem? (i := 5) rfl)) (by decide) (by decide)) q75a q75c (g := (mkF m 33 #[.val (.int p0), .val (.int p1), .val (.int (2 : Int32)), .val (.int (3 : Int32)), .val (.ref w2), .val (.ref w1), .val (.int (1 : Int32)), .unset, .unset] [(.ref w2), (.ref w1)])) rfl (by rw [hml]; rfl) (Steps.refl _) (argsL := [(.ref w2)]) (rest := []) (lenOf pd1 rfl) rfl (by show 2 * 0 + _ ≤ _; exact Nat.le_of_eq rfl) (hb hby at_33) (fun _ _ => ⟨rfl, e74, (by decide : 0 + 0 ≤ _), (by decide : 0 + 0 ≤ _)⟩)
      dsimp only [Pt.U, Pt.locs, Pt.cells, Pt.slots] at X75 l75 y75 z75 st75 hQ75
      subst l75 y75 z75
      obtain ⟨rfl, e75, hO75⟩ := hQ75
      obtain rfl := hO75
      refine own_tr st75 ?_
      show own_Go p e below s _ _ _ (T75.setTop (mkF m 36 #[.val (.int p0), .val (.int p1), .val (.int (2 : Int32)), .val (.int (3 : Int32)), .val (.ref w2), .val (.ref w1), .val (.int (1 : Int32)), .unset, .unset] [(.int (1 : Int32))]))
      refine own_via (fun _ k => XS.istore X75.here hx rfl (hb hby at_36) rfl (l' := #[.val (.int p0), .val (.int p1), .val (.int (2 : Int32)), .val (.int (3 : Int32)), .val (.ref w2), .val (.ref w1), .val (.int (1 : Int32)), .val (.int (1 : Int32)), .unset]) rfl k) ?_
      show own_Go p e below s _ _ _ (T75.setTop (mkF m 38 #[.val (.int p0), .val (.int p1), .val (.int (2 : Int32)), .val (.int (3 : Int32)), .val (.ref w2), .val (.ref w1), .val (.int (1 : Int32)), .val (.int (1 : Int32)), .unset] []))
      refine own_via (fun _ k => XS.iloadN X75.here hx rfl (hb hby at_38) rfl k) ?_
      show own_Go p e below s _ _ _ (T75.setTop (mkF m 39 #[.val (.int p0), .val (.int p1), .val (.int (2 : Int32)), .val (.int (3 : Int32)), .val (.ref w2), .val (.ref w1), .val (.int (1 : Int32)), .val (.int (1 : Int32)), .unset] [(.int (2 : Int32))]))
      refine own_via (fun _ k => XS.iloadN X75.here hx rfl (hb hby at_39) rfl k) ?_
      show own_Go p e below s _ _ _ (T75.setTop (mkF m 40 #[.val (.int p0), .val (.int p1), .val (.int (2 : Int32)), .val (.int (3 : Int32)), .val (.ref w2), .val (.ref w1), .val (.int (1 : Int32)), .val (.int (1 : Int32)), .unset] [(.int (3 : Int32)), (.int (2 : Int32))]))
      obtain ⟨_, _, ⟨T76, L76, k76, n76⟩, -, X76, ⟨Lc76, hQ76, l76, y76, z76⟩, st76⟩ := Jvm.LawKit.callS X75 hx (y := (⟨"com/example/bericht/bericht/selector/ValueTypeAdmitsPinLaw", "expected", "(II)Z"⟩ : MethodName)) hown (mvT hZ (hw _ (List.mem_of_getElem? (i := 15) rfl))) (mvT hZ (hw _ (List.mem_of_getElem? (i := 16) rfl))) (mvT hZ (hw _ (List.mem_of_getElem? (i := 2) rfl))) (mvT hZ (hw _ (List.mem_of_getElem? (i := 17) rfl))) (by decide) (backOf (W := 0) (rm3_11 l Z a0 hw [] w0 w1 w2 w3 h0 n0 Z0 K0) hZ (hw _ (List.mem_of_getElem? (i := 17) rfl)) (hw _ (List.mem_of_getElem? (i := 2) rfl)) (by decide) (by decide)) (g := (mkF m 40 #[.val (.int p0), .val (.int p1), .val (.int (2 : Int32)), .val (.int (3 : Int32)), .val (.ref w2), .val (.ref w1), .val (.int (1 : Int32)), .val (.int (1 : Int32)), .unset] [(.int (3 : Int32)), (.int (2 : Int32))])) rfl (by rw [hml]; rfl) (argsL := [(.int (2 : Int32)), (.int (3 : Int32))]) (rest := []) (lenOf pd2 rfl) rfl (by show 2 * 0 + _ ≤ _; exact Nat.le_of_eq rfl) (hb hby at_40) (fun _ _ => ⟨rfl, e75, (by decide : 0 + 0 ≤ _), (by decide : 0 + 0 ≤ _)⟩)
      dsimp only [Pt.U, Pt.locs, Pt.cells, Pt.slots] at X76 l76 y76 z76 st76 hQ76
      subst l76 y76 z76
      obtain ⟨rfl, e76, hO76⟩ := hQ76
      obtain rfl := hO76
      refine own_via st76 ?_
      show own_Go p e below s _ _ _ (T76.setTop (mkF m 43 #[.val (.int p0), .val (.int p1), .val (.int (2 : Int32)), .val (.int (3 : Int32)), .val (.ref w2), .val (.ref w1), .val (.int (1 : Int32)), .val (.int (1 : Int32)), .unset] [(.int (1 : Int32))]))
      refine own_via (fun _ k => XS.istore X76.here hx rfl (hb hby at_43) rfl (l' := #[.val (.int p0), .val (.int p1), .val (.int (2 : Int32)), .val (.int (3 : Int32)), .val (.ref w2), .val (.ref w1), .val (.int (1 : Int32)), .val (.int (1 : Int32)), .val (.int (1 : Int32))]) rfl k) ?_
      show own_Go p e below s _ _ _ (T76.setTop (mkF m 45 #[.val (.int p0), .val (.int p1), .val (.int (2 : Int32)), .val (.int (3 : Int32)), .val (.ref w2), .val (.ref w1), .val (.int (1 : Int32)), .val (.int (1 : Int32)), .val (.int (1 : Int32))] []))
      refine own_via (fun _ k => XS.iload X76.here hx rfl (hb hby at_45) rfl k) ?_
      show own_Go p e below s _ _ _ (T76.setTop (mkF m 47 #[.val (.int p0), .val (.int p1), .val (.int (2 : Int32)), .val (.int (3 : Int32)), .val (.ref w2), .val (.ref w1), .val (.int (1 : Int32)), .val (.int (1 : Int32)), .val (.int (1 : Int32))] [(.int (1 : Int32))]))
      refine own_via (fun _ k => XS.iload X76.here hx rfl (hb hby at_47) rfl k) ?_
      show own_Go p e below s _ _ _ (T76.setTop (mkF m 49 #[.val (.int p0), .val (.int p1), .val (.int (2 : Int32)), .val (.int (3 : Int32)), .val (.ref w2), .val (.ref w1), .val (.int (1 : Int32)), .val (.int (1 : Int32)), .val (.int (1 : Int32))] [(.int (1 : Int32)), (.int (1 : Int32))]))
      refine own_via (fun _ k => XS.icmpNo X76.here hx rfl (hb hby at_49) rfl (teq (by decide : (1 : Int32) = (1 : Int32))).2 k) ?_
      show own_Go p e below s _ _ _ (T76.setTop (mkF m 52 #[.val (.int p0), .val (.int p1), .val (.int (2 : Int32)), .val (.int (3 : Int32)), .val (.ref w2), .val (.ref w1), .val (.int (1 : Int32)), .val (.int (1 : Int32)), .val (.int (1 : Int32))] []))
      refine own_via (fun _ k => XS.iload X76.here hx rfl (hb hby at_52) rfl k) ?_
      show own_Go p e below s _ _ _ (T76.setTop (mkF m 54 #[.val (.int p0), .val (.int p1), .val (.int (2 : Int32)), .val (.int (3 : Int32)), .val (.ref w2), .val (.ref w1), .val (.int (1 : Int32)), .val (.int (1 : Int32)), .val (.int (1 : Int32))] [(.int (1 : Int32))]))
      refine own_via (fun _ k => XS.iload X76.here hx rfl (hb hby at_54) rfl k) ?_
      show own_Go p e below s _ _ _ (T76.setTop (mkF m 56 #[.val (.int p0), .val (.int p1), .val (.int (2 : Int32)), .val (.int (3 : Int32)), .val (.ref w2), .val (.ref w1), .val (.int (1 : Int32)), .val (.int (1 : Int32)), .val (.int (1 : Int32))] [(.int (1 : Int32)), (.int (1 : Int32))]))
      refine own_via (fun _ k => XS.icmpNo X76.here hx rfl (hb hby at_56) rfl (teq (by decide : (1 : Int32) = (1 : Int32))).2 k) ?_
      show own_Go p e below s _ _ _ (T76.setTop (mkF m 59 #[.val (.int p0), .val (.int p1), .val (.int (2 : Int32)), .val (.int (3 : Int32)), .val (.ref w2), .val (.ref w1), .val (.int (1 : Int32)), .val (.int (1 : Int32)), .val (.int (1 : Int32))] []))
      refine own_via (fun _ k => XS.iconst X76.here hx rfl (hb hby at_59) k) ?_
      show own_Go p e below s _ _ _ (T76.setTop (mkF m 60 #[.val (.int p0), .val (.int p1), .val (.int (2 : Int32)), .val (.int (3 : Int32)), .val (.ref w2), .val (.ref w1), .val (.int (1 : Int32)), .val (.int (1 : Int32)), .val (.int (1 : Int32))] [(.int (1 : Int32))]))
      refine own_via (fun _ k => XS.goto X76.here hx rfl (pc0 := 60) (pc' := 64) rfl (hb hby at_60) (by decide) (by decide) k) ?_
      show own_Go p e below s _ _ _ (T76.setTop (mkF m 64 #[.val (.int p0), .val (.int p1), .val (.int (2 : Int32)), .val (.int (3 : Int32)), .val (.ref w2), .val (.ref w1), .val (.int (1 : Int32)), .val (.int (1 : Int32)), .val (.int (1 : Int32))] [(.int (1 : Int32))]))
      exact own_retZ X76 hx hlk (t := .boolean) Bd.returns (by simp) (hb hby at_64) (z' := (1 : Int32)) (by first | rfl | decide) ⟨rfl, (Fr.nil n0)⟩ (by decide) (by decide)
  · rw [hk4]
    show own_Go p e below s _ _ _ (s₁.setTop (mkF m 3 #[.val (.int p0), .val (.int p1), .unset, .unset, .unset, .unset, .unset, .unset, .unset] [(.int (3 : Int32))]))
    refine own_via (fun _ k => XS.istoreN X0.here hx rfl (hb hby at_3) rfl (l' := #[.val (.int p0), .val (.int p1), .val (.int (3 : Int32)), .unset, .unset, .unset, .unset, .unset, .unset]) rfl k) ?_
    show own_Go p e below s _ _ _ (s₁.setTop (mkF m 4 #[.val (.int p0), .val (.int p1), .val (.int (3 : Int32)), .unset, .unset, .unset, .unset, .unset, .unset] []))
    refine own_via (fun _ k => XS.iloadN X0.here hx rfl (hb hby at_4) rfl k) ?_
    show own_Go p e below s _ _ _ (s₁.setTop (mkF m 5 #[.val (.int p0), .val (.int p1), .val (.int (3 : Int32)), .unset, .unset, .unset, .unset, .unset, .unset] [(.int p1)]))
    refine own_via (fun _ k => XS.iconst X0.here hx rfl (hb hby at_5) k) ?_
    show own_Go p e below s _ _ _ (s₁.setTop (mkF m 6 #[.val (.int p0), .val (.int p1), .val (.int (3 : Int32)), .unset, .unset, .unset, .unset, .unset, .unset] [(.int (3 : Int32)), (.int p1)]))
    refine own_via (fun _ k => XS.iand X0.here hx rfl (hb hby at_6) rfl k) ?_
    rcases (own_and3 _ : (p1 &&& (3 : Int32)) = (0 : Int32) ∨ (p1 &&& (3 : Int32)) = (1 : Int32) ∨ (p1 &&& (3 : Int32)) = (2 : Int32) ∨ (p1 &&& (3 : Int32)) = (3 : Int32)) with hk77 | hk78 | hk79 | hk80
    · rw [hk77]
      show own_Go p e below s _ _ _ (s₁.setTop (mkF m 7 #[.val (.int p0), .val (.int p1), .val (.int (3 : Int32)), .unset, .unset, .unset, .unset, .unset, .unset] [(.int (0 : Int32))]))
      refine own_via (fun _ k => XS.istoreN X0.here hx rfl (hb hby at_7) rfl (l' := #[.val (.int p0), .val (.int p1), .val (.int (3 : Int32)), .val (.int (0 : Int32)), .unset, .unset, .unset, .unset, .unset]) rfl k) ?_
      show own_Go p e below s _ _ _ (s₁.setTop (mkF m 8 #[.val (.int p0), .val (.int p1), .val (.int (3 : Int32)), .val (.int (0 : Int32)), .unset, .unset, .unset, .unset, .unset] []))
      refine own_via (fun _ k => XS.iloadN X0.here hx rfl (hb hby at_8) rfl k) ?_
      show own_Go p e below s _ _ _ (s₁.setTop (mkF m 9 #[.val (.int p0), .val (.int p1), .val (.int (3 : Int32)), .val (.int (0 : Int32)), .unset, .unset, .unset, .unset, .unset] [(.int (3 : Int32))]))
      obtain ⟨_, _, ⟨T81, L81, k81, n81⟩, -, X81, ⟨Lc81, hQ81, l81, y81, z81⟩, st81⟩ := Jvm.LawKit.callS X0 hx (y := (⟨"com/example/bericht/bericht/selector/ValueTypeAdmitsPinLaw", "pick", "(I)Lcom/example/bericht/bericht/selector/ValueType;"⟩ : MethodName)) hown (mvT hZ (hw _ (List.mem_of_getElem? (i := 0) rfl))) (mvT hZ (hw _ (List.mem_of_getElem? (i := 1) rfl))) (mvT hZ (hw _ (List.mem_of_getElem? (i := 2) rfl))) (mvT hZ (hw _ (List.mem_of_getElem? (i := 3) rfl))) (by decide) (backOf (W := 0) (rm1_3 l Z a0 hw [] w0 w1 w2 w3 h0 n0 Z0 K0) hZ (hw _ (List.mem_of_getElem? (i := 3) rfl)) (hw _ (List.mem_of_getElem? (i := 2) rfl)) (by decide) (by decide)) (g := (mkF m 9 #[.val (.int p0), .val (.int p1), .val (.int (3 : Int32)), .val (.int (0 : Int32)), .unset, .unset, .unset, .unset, .unset] [(.int (3 : Int32))])) rfl (by rw [hml]; rfl) (argsL := [(.int (3 : Int32))]) (rest := []) (lenOf pd0 rfl) rfl (by show 2 * 0 + _ ≤ _; exact Nat.le_of_eq rfl) (hb hby at_9) (fun _ _ => ⟨rfl, e0, (by decide : 0 + 0 ≤ _), (by decide : 0 + 0 ≤ _)⟩)
      dsimp only [Pt.U, Pt.locs, Pt.cells, Pt.slots] at X81 l81 y81 z81 st81 hQ81
      subst l81 y81 z81
      obtain ⟨rfl, e81, hO81⟩ := hQ81
      obtain rfl := hO81
      refine own_via st81 ?_
      show own_Go p e below s _ _ _ (T81.setTop (mkF m 12 #[.val (.int p0), .val (.int p1), .val (.int (3 : Int32)), .val (.int (0 : Int32)), .unset, .unset, .unset, .unset, .unset] [(.ref w1)]))
      refine own_via (fun _ k => XS.astore X81.here hx rfl (hb hby at_12) rfl rfl (l' := #[.val (.int p0), .val (.int p1), .val (.int (3 : Int32)), .val (.int (0 : Int32)), .val (.ref w1), .unset, .unset, .unset, .unset]) rfl k) ?_
      show own_Go p e below s _ _ _ (T81.setTop (mkF m 14 #[.val (.int p0), .val (.int p1), .val (.int (3 : Int32)), .val (.int (0 : Int32)), .val (.ref w1), .unset, .unset, .unset, .unset] []))
      refine own_via (fun _ k => XS.iloadN X81.here hx rfl (hb hby at_14) rfl k) ?_
      show own_Go p e below s _ _ _ (T81.setTop (mkF m 15 #[.val (.int p0), .val (.int p1), .val (.int (3 : Int32)), .val (.int (0 : Int32)), .val (.ref w1), .unset, .unset, .unset, .unset] [(.int (0 : Int32))]))
      obtain ⟨_, _, ⟨T82, L82, k82, n82⟩, -, X82, ⟨Lc82, hQ82, l82, y82, z82⟩, st82⟩ := Jvm.LawKit.callS X81 hx (y := (⟨"com/example/bericht/bericht/selector/ValueTypeAdmitsPinLaw", "pick", "(I)Lcom/example/bericht/bericht/selector/ValueType;"⟩ : MethodName)) hown (mvT hZ (hw _ (List.mem_of_getElem? (i := 0) rfl))) (mvT hZ (hw _ (List.mem_of_getElem? (i := 1) rfl))) (mvT hZ (hw _ (List.mem_of_getElem? (i := 2) rfl))) (mvT hZ (hw _ (List.mem_of_getElem? (i := 3) rfl))) (by decide) (backOf (W := 0) (rm1_0 l Z a0 hw [] w0 w1 w2 w3 h0 n0 Z0 K0) hZ (hw _ (List.mem_of_getElem? (i := 3) rfl)) (hw _ (List.mem_of_getElem? (i := 2) rfl)) (by decide) (by decide)) (g := (mkF m 15 #[.val (.int p0), .val (.int p1), .val (.int (3 : Int32)), .val (.int (0 : Int32)), .val (.ref w1), .unset, .unset, .unset, .unset] [(.int (0 : Int32))])) rfl (by rw [hml]; rfl) (argsL := [(.int (0 : Int32))]) (rest := []) (lenOf pd0 rfl) rfl (by show 2 * 0 + _ ≤ _; exact Nat.le_of_eq rfl) (hb hby at_15) (fun _ _ => ⟨rfl, e81, (by decide : 0 + 0 ≤ _), (by decide : 0 + 0 ≤ _)⟩)
      dsimp only [Pt.U, Pt.locs, Pt.cells, Pt.slots] at X82 l82 y82 z82 st82 hQ82
      subst l82 y82 z82
      obtain ⟨rfl, e82, hO82⟩ := hQ82
      obtain rfl := hO82
      refine own_via st82 ?_
      show own_Go p e below s _ _ _ (T82.setTop (mkF m 18 #[.val (.int p0), .val (.int p1), .val (.int (3 : Int32)), .val (.int (0 : Int32)), .val (.ref w1), .unset, .unset, .unset, .unset] [(.ref w0)]))
      refine own_via (fun _ k => XS.astore X82.here hx rfl (hb hby at_18) rfl rfl (l' := #[.val (.int p0), .val (.int p1), .val (.int (3 : Int32)), .val (.int (0 : Int32)), .val (.ref w1), .val (.ref w0), .unset, .unset, .unset]) rfl k) ?_
      show own_Go p e below s _ _ _ (T82.setTop (mkF m 20 #[.val (.int p0), .val (.int p1), .val (.int (3 : Int32)), .val (.int (0 : Int32)), .val (.ref w1), .val (.ref w0), .unset, .unset, .unset] []))
      refine own_via (fun _ k => XS.aload X82.here hx rfl (hb hby at_20) rfl rfl k) ?_
      show own_Go p e below s _ _ _ (T82.setTop (mkF m 22 #[.val (.int p0), .val (.int p1), .val (.int (3 : Int32)), .val (.int (0 : Int32)), .val (.ref w1), .val (.ref w0), .unset, .unset, .unset] [(.ref w1)]))
      refine own_via (fun _ k => XS.aload X82.here hx rfl (hb hby at_22) rfl rfl k) ?_
      show own_Go p e below s _ _ _ (T82.setTop (mkF m 24 #[.val (.int p0), .val (.int p1), .val (.int (3 : Int32)), .val (.int (0 : Int32)), .val (.ref w1), .val (.ref w0), .unset, .unset, .unset] [(.ref w0), (.ref w1)]))
      obtain ⟨cq83, kq83, q83a, q83b, q83c⟩ := isOf hZ e82 E_w1
      obtain ⟨_, _, ⟨T83, L83, k83, n83⟩, -, X83, ⟨Lc83, hQ83, l83, y83, z83⟩, st83⟩ := X82.virtualBack hx (y := (⟨"com/example/bericht/bericht/selector/ValueType", "admits", "(Lcom/example/bericht/bericht/selector/ValueType;)Z"⟩ : MethodName)) (z := (⟨"com/example/bericht/bericht/selector/ValueType", "admits", "(Lcom/example/bericht/bericht/selector/ValueType;)Z"⟩ : MethodName)) hown (mvT hZ (hw _ (List.mem_of_getElem? (i := 9) rfl))) (mvT hZ (hw _ (List.mem_of_getElem? (i := 10) rfl))) (notFace_of_selects (args := #[]) (mvT hZ (hw _ (List.mem_of_getElem? (i := 12) rfl)))) (mvT hZ (hw _ (List.mem_of_getElem? (i := 12) rfl))) (mvT hZ (hw _ (List.mem_of_getElem? (i := 11) rfl))) (by decide) (backOf (W := 0) (rm2_6 l Z a0 hw [] w0 w1 w2 w3 h0 n0 Z0 K0) hZ (hw _ (List.mem_of_getElem? (i := 13) rfl)) (hw _ (List.mem_of_getElem? (i := 5) rfl)) (by decide) (by decide)) q83a q83c (g := (mkF m 24 #[.val (.int p0), .val (.int p1), .val (.int (3 : Int32)), .val (.int (0 : Int32)), .val (.ref w1), .val (.ref w0), .unset, .unset, .unset] [(.ref w0), (.ref w1)])) rfl (by rw [hml]; rfl) (Steps.refl _) (argsL := [(.ref w0)]) (rest := []) (lenOf pd1 rfl) rfl (by show 2 * 0 + _ ≤ _; exact Nat.le_of_eq rfl) (hb hby at_24) (fun _ _ => ⟨rfl, e82, (by decide : 0 + 0 ≤ _), (by decide : 0 + 0 ≤ _)⟩)
      dsimp only [Pt.U, Pt.locs, Pt.cells, Pt.slots] at X83 l83 y83 z83 st83 hQ83
      subst l83 y83 z83
      obtain ⟨rfl, e83, hO83⟩ := hQ83
      obtain rfl := hO83
      refine own_tr st83 ?_
      show own_Go p e below s _ _ _ (T83.setTop (mkF m 27 #[.val (.int p0), .val (.int p1), .val (.int (3 : Int32)), .val (.int (0 : Int32)), .val (.ref w1), .val (.ref w0), .unset, .unset, .unset] [(.int (1 : Int32))]))
      refine own_via (fun _ k => XS.istore X83.here hx rfl (hb hby at_27) rfl (l' := #[.val (.int p0), .val (.int p1), .val (.int (3 : Int32)), .val (.int (0 : Int32)), .val (.ref w1), .val (.ref w0), .val (.int (1 : Int32)), .unset, .unset]) rfl k) ?_
      show own_Go p e below s _ _ _ (T83.setTop (mkF m 29 #[.val (.int p0), .val (.int p1), .val (.int (3 : Int32)), .val (.int (0 : Int32)), .val (.ref w1), .val (.ref w0), .val (.int (1 : Int32)), .unset, .unset] []))
      refine own_via (fun _ k => XS.aload X83.here hx rfl (hb hby at_29) rfl rfl k) ?_
      show own_Go p e below s _ _ _ (T83.setTop (mkF m 31 #[.val (.int p0), .val (.int p1), .val (.int (3 : Int32)), .val (.int (0 : Int32)), .val (.ref w1), .val (.ref w0), .val (.int (1 : Int32)), .unset, .unset] [(.ref w0)]))
      refine own_via (fun _ k => XS.aload X83.here hx rfl (hb hby at_31) rfl rfl k) ?_
      show own_Go p e below s _ _ _ (T83.setTop (mkF m 33 #[.val (.int p0), .val (.int p1), .val (.int (3 : Int32)), .val (.int (0 : Int32)), .val (.ref w1), .val (.ref w0), .val (.int (1 : Int32)), .unset, .unset] [(.ref w1), (.ref w0)]))
      obtain ⟨cq84, kq84, q84a, q84b, q84c⟩ := isOf hZ e83 E_w0
      obtain ⟨_, _, ⟨T84, L84, k84, n84⟩, -, X84, ⟨Lc84, hQ84, l84, y84, z84⟩, st84⟩ := X83.virtualBack hx (y := (⟨"com/example/bericht/bericht/selector/ValueType", "admits", "(Lcom/example/bericht/bericht/selector/ValueType;)Z"⟩ : MethodName)) (z := (⟨"com/example/bericht/bericht/selector/ValueType", "admits", "(Lcom/example/bericht/bericht/selector/ValueType;)Z"⟩ : MethodName)) hown (mvT hZ (hw _ (List.mem_of_getElem? (i := 9) rfl))) (mvT hZ (hw _ (List.mem_of_getElem? (i := 10) rfl))) (notFace_of_selects (args := #[]) (mvT hZ (hw _ (List.mem_of_getElem? (i := 12) rfl)))) (mvT hZ (hw _ (List.mem_of_getElem? (i := 12) rfl))) (mvT hZ (hw _ (List.mem_of_getElem? (i := 11) rfl))) (by decide) (backOf (W := 0) (rm2_5 l Z a0 hw [] w0 w1 w2 w3 h0 n0 Z0 K0) hZ (hw _ (List.mem_of_getElem? (i := 13) rfl)) (hw _ (List.mem_of_getElem? (i := 5) rfl)) (by decide) (by decide)) q84a q84c (g := (mkF m 33 #[.val (.int p0), .val (.int p1), .val (.int (3 : Int32)), .val (.int (0 : Int32)), .val (.ref w1), .val (.ref w0), .val (.int (1 : Int32)), .unset, .unset] [(.ref w1), (.ref w0)])) rfl (by rw [hml]; rfl) (Steps.refl _) (argsL := [(.ref w1)]) (rest := []) (lenOf pd1 rfl) rfl (by show 2 * 0 + _ ≤ _; exact Nat.le_of_eq rfl) (hb hby at_33) (fun _ _ => ⟨rfl, e83, (by decide : 0 + 0 ≤ _), (by decide : 0 + 0 ≤ _)⟩)
      dsimp only [Pt.U, Pt.locs, Pt.cells, Pt.slots] at X84 l84 y84 z84 st84 hQ84
      subst l84 y84 z84
      obtain ⟨rfl, e84, hO84⟩ := hQ84
      obtain rfl := hO84
      refine own_tr st84 ?_
      show own_Go p e below s _ _ _ (T84.setTop (mkF m 36 #[.val (.int p0), .val (.int p1), .val (.int (3 : Int32)), .val (.int (0 : Int32)), .val (.ref w1), .val (.ref w0), .val (.int (1 : Int32)), .unset, .unset] [(.int (1 : Int32))]))
      refine own_via (fun _ k => XS.istore X84.here hx rfl (hb hby at_36) rfl (l' := #[.val (.int p0), .val (.int p1), .val (.int (3 : Int32)), .val (.int (0 : Int32)), .val (.ref w1), .val (.ref w0), .val (.int (1 : Int32)), .val (.int (1 : Int32)), .unset]) rfl k) ?_
      show own_Go p e below s _ _ _ (T84.setTop (mkF m 38 #[.val (.int p0), .val (.int p1), .val (.int (3 : Int32)), .val (.int (0 : Int32)), .val (.ref w1), .val (.ref w0), .val (.int (1 : Int32)), .val (.int (1 : Int32)), .unset] []))
      refine own_via (fun _ k => XS.iloadN X84.here hx rfl (hb hby at_38) rfl k) ?_
      show own_Go p e below s _ _ _ (T84.setTop (mkF m 39 #[.val (.int p0), .val (.int p1), .val (.int (3 : Int32)), .val (.int (0 : Int32)), .val (.ref w1), .val (.ref w0), .val (.int (1 : Int32)), .val (.int (1 : Int32)), .unset] [(.int (3 : Int32))]))
      refine own_via (fun _ k => XS.iloadN X84.here hx rfl (hb hby at_39) rfl k) ?_
      show own_Go p e below s _ _ _ (T84.setTop (mkF m 40 #[.val (.int p0), .val (.int p1), .val (.int (3 : Int32)), .val (.int (0 : Int32)), .val (.ref w1), .val (.ref w0), .val (.int (1 : Int32)), .val (.int (1 : Int32)), .unset] [(.int (0 : Int32)), (.int (3 : Int32))]))
      obtain ⟨_, _, ⟨T85, L85, k85, n85⟩, -, X85, ⟨Lc85, hQ85, l85, y85, z85⟩, st85⟩ := Jvm.LawKit.callS X84 hx (y := (⟨"com/example/bericht/bericht/selector/ValueTypeAdmitsPinLaw", "expected", "(II)Z"⟩ : MethodName)) hown (mvT hZ (hw _ (List.mem_of_getElem? (i := 15) rfl))) (mvT hZ (hw _ (List.mem_of_getElem? (i := 16) rfl))) (mvT hZ (hw _ (List.mem_of_getElem? (i := 2) rfl))) (mvT hZ (hw _ (List.mem_of_getElem? (i := 17) rfl))) (by decide) (backOf (W := 0) (rm3_12 l Z a0 hw [] w0 w1 w2 w3 h0 n0 Z0 K0) hZ (hw _ (List.mem_of_getElem? (i := 17) rfl)) (hw _ (List.mem_of_getElem? (i := 2) rfl)) (by decide) (by decide)) (g := (mkF m 40 #[.val (.int p0), .val (.int p1), .val (.int (3 : Int32)), .val (.int (0 : Int32)), .val (.ref w1), .val (.ref w0), .val (.int (1 : Int32)), .val (.int (1 : Int32)), .unset] [(.int (0 : Int32)), (.int (3 : Int32))])) rfl (by rw [hml]; rfl) (argsL := [(.int (3 : Int32)), (.int (0 : Int32))]) (rest := []) (lenOf pd2 rfl) rfl (by show 2 * 0 + _ ≤ _; exact Nat.le_of_eq rfl) (hb hby at_40) (fun _ _ => ⟨rfl, e84, (by decide : 0 + 0 ≤ _), (by decide : 0 + 0 ≤ _)⟩)
      dsimp only [Pt.U, Pt.locs, Pt.cells, Pt.slots] at X85 l85 y85 z85 st85 hQ85
      subst l85 y85 z85
      obtain ⟨rfl, e85, hO85⟩ := hQ85
      obtain rfl := hO85
      refine own_via st85 ?_
      show own_Go p e below s _ _ _ (T85.setTop (mkF m 43 #[.val (.int p0), .val (.int p1), .val (.int (3 : Int32)), .val (.int (0 : Int32)), .val (.ref w1), .val (.ref w0), .val (.int (1 : Int32)), .val (.int (1 : Int32)), .unset] [(.int (1 : Int32))]))
      refine own_via (fun _ k => XS.istore X85.here hx rfl (hb hby at_43) rfl (l' := #[.val (.int p0), .val (.int p1), .val (.int (3 : Int32)), .val (.int (0 : Int32)), .val (.ref w1), .val (.ref w0), .val (.int (1 : Int32)), .val (.int (1 : Int32)), .val (.int (1 : Int32))]) rfl k) ?_
      show own_Go p e below s _ _ _ (T85.setTop (mkF m 45 #[.val (.int p0), .val (.int p1), .val (.int (3 : Int32)), .val (.int (0 : Int32)), .val (.ref w1), .val (.ref w0), .val (.int (1 : Int32)), .val (.int (1 : Int32)), .val (.int (1 : Int32))] []))
      refine own_via (fun _ k => XS.iload X85.here hx rfl (hb hby at_45) rfl k) ?_
      show own_Go p e below s _ _ _ (T85.setTop (mkF m 47 #[.val (.int p0), .val (.int p1), .val (.int (3 : Int32)), .val (.int (0 : Int32)), .val (.ref w1), .val (.ref w0), .val (.int (1 : Int32)), .val (.int (1 : Int32)), .val (.int (1 : Int32))] [(.int (1 : Int32))]))
      refine own_via (fun _ k => XS.iload X85.here hx rfl (hb hby at_47) rfl k) ?_
      show own_Go p e below s _ _ _ (T85.setTop (mkF m 49 #[.val (.int p0), .val (.int p1), .val (.int (3 : Int32)), .val (.int (0 : Int32)), .val (.ref w1), .val (.ref w0), .val (.int (1 : Int32)), .val (.int (1 : Int32)), .val (.int (1 : Int32))] [(.int (1 : Int32)), (.int (1 : Int32))]))
      refine own_via (fun _ k => XS.icmpNo X85.here hx rfl (hb hby at_49) rfl (teq (by decide : (1 : Int32) = (1 : Int32))).2 k) ?_
      show own_Go p e below s _ _ _ (T85.setTop (mkF m 52 #[.val (.int p0), .val (.int p1), .val (.int (3 : Int32)), .val (.int (0 : Int32)), .val (.ref w1), .val (.ref w0), .val (.int (1 : Int32)), .val (.int (1 : Int32)), .val (.int (1 : Int32))] []))
      refine own_via (fun _ k => XS.iload X85.here hx rfl (hb hby at_52) rfl k) ?_
      show own_Go p e below s _ _ _ (T85.setTop (mkF m 54 #[.val (.int p0), .val (.int p1), .val (.int (3 : Int32)), .val (.int (0 : Int32)), .val (.ref w1), .val (.ref w0), .val (.int (1 : Int32)), .val (.int (1 : Int32)), .val (.int (1 : Int32))] [(.int (1 : Int32))]))
      refine own_via (fun _ k => XS.iload X85.here hx rfl (hb hby at_54) rfl k) ?_
      show own_Go p e below s _ _ _ (T85.setTop (mkF m 56 #[.val (.int p0), .val (.int p1), .val (.int (3 : Int32)), .val (.int (0 : Int32)), .val (.ref w1), .val (.ref w0), .val (.int (1 : Int32)), .val (.int (1 : Int32)), .val (.int (1 : Int32))] [(.int (1 : Int32)), (.int (1 : Int32))]))
      refine own_via (fun _ k => XS.icmpNo X85.here hx rfl (hb hby at_56) rfl (teq (by decide : (1 : Int32) = (1 : Int32))).2 k) ?_
      show own_Go p e below s _ _ _ (T85.setTop (mkF m 59 #[.val (.int p0), .val (.int p1), .val (.int (3 : Int32)), .val (.int (0 : Int32)), .val (.ref w1), .val (.ref w0), .val (.int (1 : Int32)), .val (.int (1 : Int32)), .val (.int (1 : Int32))] []))
      refine own_via (fun _ k => XS.iconst X85.here hx rfl (hb hby at_59) k) ?_
      show own_Go p e below s _ _ _ (T85.setTop (mkF m 60 #[.val (.int p0), .val (.int p1), .val (.int (3 : Int32)), .val (.int (0 : Int32)), .val (.ref w1), .val (.ref w0), .val (.int (1 : Int32)), .val (.int (1 : Int32)), .val (.int (1 : Int32))] [(.int (1 : Int32))]))
      refine own_via (fun _ k => XS.goto X85.here hx rfl (pc0 := 60) (pc' := 64) rfl (hb hby at_60) (by decide) (by decide) k) ?_
      show own_Go p e below s _ _ _ (T85.setTop (mkF m 64 #[.val (.int p0), .val (.int p1), .val (.int (3 : Int32)), .val (.int (0 : Int32)), .val (.ref w1), .val (.ref w0), .val (.int (1 : Int32)), .val (.int (1 : Int32)), .val (.int (1 : Int32))] [(.int (1 : Int32))]))
      exact own_retZ X85 hx hlk (t := .boolean) Bd.returns (by simp) (hb hby at_64) (z' := (1 : Int32)) (by first | rfl | decide) ⟨rfl, (Fr.nil n0)⟩ (by decide) (by decide)
    · rw [hk78]
      show own_Go p e below s _ _ _ (s₁.setTop (mkF m 7 #[.val (.int p0), .val (.int p1), .val (.int (3 : Int32)), .unset, .unset, .unset, .unset, .unset, .unset] [(.int (1 : Int32))]))
      refine own_via (fun _ k => XS.istoreN X0.here hx rfl (hb hby at_7) rfl (l' := #[.val (.int p0), .val (.int p1), .val (.int (3 : Int32)), .val (.int (1 : Int32)), .unset, .unset, .unset, .unset, .unset]) rfl k) ?_
      show own_Go p e below s _ _ _ (s₁.setTop (mkF m 8 #[.val (.int p0), .val (.int p1), .val (.int (3 : Int32)), .val (.int (1 : Int32)), .unset, .unset, .unset, .unset, .unset] []))
      refine own_via (fun _ k => XS.iloadN X0.here hx rfl (hb hby at_8) rfl k) ?_
      show own_Go p e below s _ _ _ (s₁.setTop (mkF m 9 #[.val (.int p0), .val (.int p1), .val (.int (3 : Int32)), .val (.int (1 : Int32)), .unset, .unset, .unset, .unset, .unset] [(.int (3 : Int32))]))
      obtain ⟨_, _, ⟨T86, L86, k86, n86⟩, -, X86, ⟨Lc86, hQ86, l86, y86, z86⟩, st86⟩ := Jvm.LawKit.callS X0 hx (y := (⟨"com/example/bericht/bericht/selector/ValueTypeAdmitsPinLaw", "pick", "(I)Lcom/example/bericht/bericht/selector/ValueType;"⟩ : MethodName)) hown (mvT hZ (hw _ (List.mem_of_getElem? (i := 0) rfl))) (mvT hZ (hw _ (List.mem_of_getElem? (i := 1) rfl))) (mvT hZ (hw _ (List.mem_of_getElem? (i := 2) rfl))) (mvT hZ (hw _ (List.mem_of_getElem? (i := 3) rfl))) (by decide) (backOf (W := 0) (rm1_3 l Z a0 hw [] w0 w1 w2 w3 h0 n0 Z0 K0) hZ (hw _ (List.mem_of_getElem? (i := 3) rfl)) (hw _ (List.mem_of_getElem? (i := 2) rfl)) (by decide) (by decide)) (g := (mkF m 9 #[.val (.int p0), .val (.int p1), .val (.int (3 : Int32)), .val (.int (1 : Int32)), .unset, .unset, .unset, .unset, .unset] [(.int (3 : Int32))])) rfl (by rw [hml]; rfl) (argsL := [(.int (3 : Int32))]) (rest := []) (lenOf pd0 rfl) rfl (by show 2 * 0 + _ ≤ _; exact Nat.le_of_eq rfl) (hb hby at_9) (fun _ _ => ⟨rfl, e0, (by decide : 0 + 0 ≤ _), (by decide : 0 + 0 ≤ _)⟩)
      dsimp only [Pt.U, Pt.locs, Pt.cells, Pt.slots] at X86 l86 y86 z86 st86 hQ86
      subst l86 y86 z86
      obtain ⟨rfl, e86, hO86⟩ := hQ86
      obtain rfl := hO86
      refine own_via st86 ?_
      show own_Go p e below s _ _ _ (T86.setTop (mkF m 12 #[.val (.int p0), .val (.int p1), .val (.int (3 : Int32)), .val (.int (1 : Int32)), .unset, .unset, .unset, .unset, .unset] [(.ref w1)]))
      refine own_via (fun _ k => XS.astore X86.here hx rfl (hb hby at_12) rfl rfl (l' := #[.val (.int p0), .val (.int p1), .val (.int (3 : Int32)), .val (.int (1 : Int32)), .val (.ref w1), .unset, .unset, .unset, .unset]) rfl k) ?_
      show own_Go p e below s _ _ _ (T86.setTop (mkF m 14 #[.val (.int p0), .val (.int p1), .val (.int (3 : Int32)), .val (.int (1 : Int32)), .val (.ref w1), .unset, .unset, .unset, .unset] []))
      refine own_via (fun _ k => XS.iloadN X86.here hx rfl (hb hby at_14) rfl k) ?_
      show own_Go p e below s _ _ _ (T86.setTop (mkF m 15 #[.val (.int p0), .val (.int p1), .val (.int (3 : Int32)), .val (.int (1 : Int32)), .val (.ref w1), .unset, .unset, .unset, .unset] [(.int (1 : Int32))]))
      obtain ⟨_, _, ⟨T87, L87, k87, n87⟩, -, X87, ⟨Lc87, hQ87, l87, y87, z87⟩, st87⟩ := Jvm.LawKit.callS X86 hx (y := (⟨"com/example/bericht/bericht/selector/ValueTypeAdmitsPinLaw", "pick", "(I)Lcom/example/bericht/bericht/selector/ValueType;"⟩ : MethodName)) hown (mvT hZ (hw _ (List.mem_of_getElem? (i := 0) rfl))) (mvT hZ (hw _ (List.mem_of_getElem? (i := 1) rfl))) (mvT hZ (hw _ (List.mem_of_getElem? (i := 2) rfl))) (mvT hZ (hw _ (List.mem_of_getElem? (i := 3) rfl))) (by decide) (backOf (W := 0) (rm1_1 l Z a0 hw [] w0 w1 w2 w3 h0 n0 Z0 K0) hZ (hw _ (List.mem_of_getElem? (i := 3) rfl)) (hw _ (List.mem_of_getElem? (i := 2) rfl)) (by decide) (by decide)) (g := (mkF m 15 #[.val (.int p0), .val (.int p1), .val (.int (3 : Int32)), .val (.int (1 : Int32)), .val (.ref w1), .unset, .unset, .unset, .unset] [(.int (1 : Int32))])) rfl (by rw [hml]; rfl) (argsL := [(.int (1 : Int32))]) (rest := []) (lenOf pd0 rfl) rfl (by show 2 * 0 + _ ≤ _; exact Nat.le_of_eq rfl) (hb hby at_15) (fun _ _ => ⟨rfl, e86, (by decide : 0 + 0 ≤ _), (by decide : 0 + 0 ≤ _)⟩)
      dsimp only [Pt.U, Pt.locs, Pt.cells, Pt.slots] at X87 l87 y87 z87 st87 hQ87
      subst l87 y87 z87
      obtain ⟨rfl, e87, hO87⟩ := hQ87
      obtain rfl := hO87
      refine own_via st87 ?_
      show own_Go p e below s _ _ _ (T87.setTop (mkF m 18 #[.val (.int p0), .val (.int p1), .val (.int (3 : Int32)), .val (.int (1 : Int32)), .val (.ref w1), .unset, .unset, .unset, .unset] [(.ref w3)]))
      refine own_via (fun _ k => XS.astore X87.here hx rfl (hb hby at_18) rfl rfl (l' := #[.val (.int p0), .val (.int p1), .val (.int (3 : Int32)), .val (.int (1 : Int32)), .val (.ref w1), .val (.ref w3), .unset, .unset, .unset]) rfl k) ?_
      show own_Go p e below s _ _ _ (T87.setTop (mkF m 20 #[.val (.int p0), .val (.int p1), .val (.int (3 : Int32)), .val (.int (1 : Int32)), .val (.ref w1), .val (.ref w3), .unset, .unset, .unset] []))
      refine own_via (fun _ k => XS.aload X87.here hx rfl (hb hby at_20) rfl rfl k) ?_
      show own_Go p e below s _ _ _ (T87.setTop (mkF m 22 #[.val (.int p0), .val (.int p1), .val (.int (3 : Int32)), .val (.int (1 : Int32)), .val (.ref w1), .val (.ref w3), .unset, .unset, .unset] [(.ref w1)]))
      refine own_via (fun _ k => XS.aload X87.here hx rfl (hb hby at_22) rfl rfl k) ?_
      show own_Go p e below s _ _ _ (T87.setTop (mkF m 24 #[.val (.int p0), .val (.int p1), .val (.int (3 : Int32)), .val (.int (1 : Int32)), .val (.ref w1), .val (.ref w3), .unset, .unset, .unset] [(.ref w3), (.ref w1)]))
      obtain ⟨cq88, kq88, q88a, q88b, q88c⟩ := isOf hZ e87 E_w1
      obtain ⟨_, _, ⟨T88, L88, k88, n88⟩, -, X88, ⟨Lc88, hQ88, l88, y88, z88⟩, st88⟩ := X87.virtualBack hx (y := (⟨"com/example/bericht/bericht/selector/ValueType", "admits", "(Lcom/example/bericht/bericht/selector/ValueType;)Z"⟩ : MethodName)) (z := (⟨"com/example/bericht/bericht/selector/ValueType", "admits", "(Lcom/example/bericht/bericht/selector/ValueType;)Z"⟩ : MethodName)) hown (mvT hZ (hw _ (List.mem_of_getElem? (i := 9) rfl))) (mvT hZ (hw _ (List.mem_of_getElem? (i := 10) rfl))) (notFace_of_selects (args := #[]) (mvT hZ (hw _ (List.mem_of_getElem? (i := 12) rfl)))) (mvT hZ (hw _ (List.mem_of_getElem? (i := 12) rfl))) (mvT hZ (hw _ (List.mem_of_getElem? (i := 11) rfl))) (by decide) (backOf (W := 0) (rm2_11 l Z a0 hw [] w0 w1 w2 w3 h0 n0 Z0 K0) hZ (hw _ (List.mem_of_getElem? (i := 13) rfl)) (hw _ (List.mem_of_getElem? (i := 5) rfl)) (by decide) (by decide)) q88a q88c (g := (mkF m 24 #[.val (.int p0), .val (.int p1), .val (.int (3 : Int32)), .val (.int (1 : Int32)), .val (.ref w1), .val (.ref w3), .unset, .unset, .unset] [(.ref w3), (.ref w1)])) rfl (by rw [hml]; rfl) (Steps.refl _) (argsL := [(.ref w3)]) (rest := []) (lenOf pd1 rfl) rfl (by show 2 * 0 + _ ≤ _; exact Nat.le_of_eq rfl) (hb hby at_24) (fun _ _ => ⟨rfl, e87, (by decide : 0 + 0 ≤ _), (by decide : 0 + 0 ≤ _)⟩)
      dsimp only [Pt.U, Pt.locs, Pt.cells, Pt.slots] at X88 l88 y88 z88 st88 hQ88
      subst l88 y88 z88
      obtain ⟨rfl, e88, hO88⟩ := hQ88
      obtain rfl := hO88
      refine own_tr st88 ?_
      show own_Go p e below s _ _ _ (T88.setTop (mkF m 27 #[.val (.int p0), .val (.int p1), .val (.int (3 : Int32)), .val (.int (1 : Int32)), .val (.ref w1), .val (.ref w3), .unset, .unset, .unset] [(.int (1 : Int32))]))
      refine own_via (fun _ k => XS.istore X88.here hx rfl (hb hby at_27) rfl (l' := #[.val (.int p0), .val (.int p1), .val (.int (3 : Int32)), .val (.int (1 : Int32)), .val (.ref w1), .val (.ref w3), .val (.int (1 : Int32)), .unset, .unset]) rfl k) ?_
      show own_Go p e below s _ _ _ (T88.setTop (mkF m 29 #[.val (.int p0), .val (.int p1), .val (.int (3 : Int32)), .val (.int (1 : Int32)), .val (.ref w1), .val (.ref w3), .val (.int (1 : Int32)), .unset, .unset] []))
      refine own_via (fun _ k => XS.aload X88.here hx rfl (hb hby at_29) rfl rfl k) ?_
      show own_Go p e below s _ _ _ (T88.setTop (mkF m 31 #[.val (.int p0), .val (.int p1), .val (.int (3 : Int32)), .val (.int (1 : Int32)), .val (.ref w1), .val (.ref w3), .val (.int (1 : Int32)), .unset, .unset] [(.ref w3)]))
      refine own_via (fun _ k => XS.aload X88.here hx rfl (hb hby at_31) rfl rfl k) ?_
      show own_Go p e below s _ _ _ (T88.setTop (mkF m 33 #[.val (.int p0), .val (.int p1), .val (.int (3 : Int32)), .val (.int (1 : Int32)), .val (.ref w1), .val (.ref w3), .val (.int (1 : Int32)), .unset, .unset] [(.ref w1), (.ref w3)]))
      obtain ⟨cq89, kq89, q89a, q89b, q89c⟩ := isOf hZ e88 E_w3
      obtain ⟨_, _, ⟨T89, L89, k89, n89⟩, -, X89, ⟨Lc89, hQ89, l89, y89, z89⟩, st89⟩ := X88.virtualBack hx (y := (⟨"com/example/bericht/bericht/selector/ValueType", "admits", "(Lcom/example/bericht/bericht/selector/ValueType;)Z"⟩ : MethodName)) (z := (⟨"com/example/bericht/bericht/selector/ValueType", "admits", "(Lcom/example/bericht/bericht/selector/ValueType;)Z"⟩ : MethodName)) hown (mvT hZ (hw _ (List.mem_of_getElem? (i := 9) rfl))) (mvT hZ (hw _ (List.mem_of_getElem? (i := 10) rfl))) (notFace_of_selects (args := #[]) (mvT hZ (hw _ (List.mem_of_getElem? (i := 12) rfl)))) (mvT hZ (hw _ (List.mem_of_getElem? (i := 12) rfl))) (mvT hZ (hw _ (List.mem_of_getElem? (i := 11) rfl))) (by decide) (backOf (W := 0) (rm2_10 l Z a0 hw [] w0 w1 w2 w3 h0 n0 Z0 K0) hZ (hw _ (List.mem_of_getElem? (i := 13) rfl)) (hw _ (List.mem_of_getElem? (i := 5) rfl)) (by decide) (by decide)) q89a q89c (g := (mkF m 33 #[.val (.int p0), .val (.int p1), .val (.int (3 : Int32)), .val (.int (1 : Int32)), .val (.ref w1), .val (.ref w3), .val (.int (1 : Int32)), .unset, .unset] [(.ref w1), (.ref w3)])) rfl (by rw [hml]; rfl) (Steps.refl _) (argsL := [(.ref w1)]) (rest := []) (lenOf pd1 rfl) rfl (by show 2 * 0 + _ ≤ _; exact Nat.le_of_eq rfl) (hb hby at_33) (fun _ _ => ⟨rfl, e88, (by decide : 0 + 0 ≤ _), (by decide : 0 + 0 ≤ _)⟩)
      dsimp only [Pt.U, Pt.locs, Pt.cells, Pt.slots] at X89 l89 y89 z89 st89 hQ89
      subst l89 y89 z89
      obtain ⟨rfl, e89, hO89⟩ := hQ89
      obtain rfl := hO89
      refine own_tr st89 ?_
      show own_Go p e below s _ _ _ (T89.setTop (mkF m 36 #[.val (.int p0), .val (.int p1), .val (.int (3 : Int32)), .val (.int (1 : Int32)), .val (.ref w1), .val (.ref w3), .val (.int (1 : Int32)), .unset, .unset] [(.int (1 : Int32))]))
      refine own_via (fun _ k => XS.istore X89.here hx rfl (hb hby at_36) rfl (l' := #[.val (.int p0), .val (.int p1), .val (.int (3 : Int32)), .val (.int (1 : Int32)), .val (.ref w1), .val (.ref w3), .val (.int (1 : Int32)), .val (.int (1 : Int32)), .unset]) rfl k) ?_
      show own_Go p e below s _ _ _ (T89.setTop (mkF m 38 #[.val (.int p0), .val (.int p1), .val (.int (3 : Int32)), .val (.int (1 : Int32)), .val (.ref w1), .val (.ref w3), .val (.int (1 : Int32)), .val (.int (1 : Int32)), .unset] []))
      refine own_via (fun _ k => XS.iloadN X89.here hx rfl (hb hby at_38) rfl k) ?_
      show own_Go p e below s _ _ _ (T89.setTop (mkF m 39 #[.val (.int p0), .val (.int p1), .val (.int (3 : Int32)), .val (.int (1 : Int32)), .val (.ref w1), .val (.ref w3), .val (.int (1 : Int32)), .val (.int (1 : Int32)), .unset] [(.int (3 : Int32))]))
      refine own_via (fun _ k => XS.iloadN X89.here hx rfl (hb hby at_39) rfl k) ?_
      show own_Go p e below s _ _ _ (T89.setTop (mkF m 40 #[.val (.int p0), .val (.int p1), .val (.int (3 : Int32)), .val (.int (1 : Int32)), .val (.ref w1), .val (.ref w3), .val (.int (1 : Int32)), .val (.int (1 : Int32)), .unset] [(.int (1 : Int32)), (.int (3 : Int32))]))
      obtain ⟨_, _, ⟨T90, L90, k90, n90⟩, -, X90, ⟨Lc90, hQ90, l90, y90, z90⟩, st90⟩ := Jvm.LawKit.callS X89 hx (y := (⟨"com/example/bericht/bericht/selector/ValueTypeAdmitsPinLaw", "expected", "(II)Z"⟩ : MethodName)) hown (mvT hZ (hw _ (List.mem_of_getElem? (i := 15) rfl))) (mvT hZ (hw _ (List.mem_of_getElem? (i := 16) rfl))) (mvT hZ (hw _ (List.mem_of_getElem? (i := 2) rfl))) (mvT hZ (hw _ (List.mem_of_getElem? (i := 17) rfl))) (by decide) (backOf (W := 0) (rm3_13 l Z a0 hw [] w0 w1 w2 w3 h0 n0 Z0 K0) hZ (hw _ (List.mem_of_getElem? (i := 17) rfl)) (hw _ (List.mem_of_getElem? (i := 2) rfl)) (by decide) (by decide)) (g := (mkF m 40 #[.val (.int p0), .val (.int p1), .val (.int (3 : Int32)), .val (.int (1 : Int32)), .val (.ref w1), .val (.ref w3), .val (.int (1 : Int32)), .val (.int (1 : Int32)), .unset] [(.int (1 : Int32)), (.int (3 : Int32))])) rfl (by rw [hml]; rfl) (argsL := [(.int (3 : Int32)), (.int (1 : Int32))]) (rest := []) (lenOf pd2 rfl) rfl (by show 2 * 0 + _ ≤ _; exact Nat.le_of_eq rfl) (hb hby at_40) (fun _ _ => ⟨rfl, e89, (by decide : 0 + 0 ≤ _), (by decide : 0 + 0 ≤ _)⟩)
      dsimp only [Pt.U, Pt.locs, Pt.cells, Pt.slots] at X90 l90 y90 z90 st90 hQ90
      subst l90 y90 z90
      obtain ⟨rfl, e90, hO90⟩ := hQ90
      obtain rfl := hO90
      refine own_via st90 ?_
      show own_Go p e below s _ _ _ (T90.setTop (mkF m 43 #[.val (.int p0), .val (.int p1), .val (.int (3 : Int32)), .val (.int (1 : Int32)), .val (.ref w1), .val (.ref w3), .val (.int (1 : Int32)), .val (.int (1 : Int32)), .unset] [(.int (1 : Int32))]))
      refine own_via (fun _ k => XS.istore X90.here hx rfl (hb hby at_43) rfl (l' := #[.val (.int p0), .val (.int p1), .val (.int (3 : Int32)), .val (.int (1 : Int32)), .val (.ref w1), .val (.ref w3), .val (.int (1 : Int32)), .val (.int (1 : Int32)), .val (.int (1 : Int32))]) rfl k) ?_
      show own_Go p e below s _ _ _ (T90.setTop (mkF m 45 #[.val (.int p0), .val (.int p1), .val (.int (3 : Int32)), .val (.int (1 : Int32)), .val (.ref w1), .val (.ref w3), .val (.int (1 : Int32)), .val (.int (1 : Int32)), .val (.int (1 : Int32))] []))
      refine own_via (fun _ k => XS.iload X90.here hx rfl (hb hby at_45) rfl k) ?_
      show own_Go p e below s _ _ _ (T90.setTop (mkF m 47 #[.val (.int p0), .val (.int p1), .val (.int (3 : Int32)), .val (.int (1 : Int32)), .val (.ref w1), .val (.ref w3), .val (.int (1 : Int32)), .val (.int (1 : Int32)), .val (.int (1 : Int32))] [(.int (1 : Int32))]))
      refine own_via (fun _ k => XS.iload X90.here hx rfl (hb hby at_47) rfl k) ?_
      show own_Go p e below s _ _ _ (T90.setTop (mkF m 49 #[.val (.int p0), .val (.int p1), .val (.int (3 : Int32)), .val (.int (1 : Int32)), .val (.ref w1), .val (.ref w3), .val (.int (1 : Int32)), .val (.int (1 : Int32)), .val (.int (1 : Int32))] [(.int (1 : Int32)), (.int (1 : Int32))]))
      refine own_via (fun _ k => XS.icmpNo X90.here hx rfl (hb hby at_49) rfl (teq (by decide : (1 : Int32) = (1 : Int32))).2 k) ?_
      show own_Go p e below s _ _ _ (T90.setTop (mkF m 52 #[.val (.int p0), .val (.int p1), .val (.int (3 : Int32)), .val (.int (1 : Int32)), .val (.ref w1), .val (.ref w3), .val (.int (1 : Int32)), .val (.int (1 : Int32)), .val (.int (1 : Int32))] []))
      refine own_via (fun _ k => XS.iload X90.here hx rfl (hb hby at_52) rfl k) ?_
      show own_Go p e below s _ _ _ (T90.setTop (mkF m 54 #[.val (.int p0), .val (.int p1), .val (.int (3 : Int32)), .val (.int (1 : Int32)), .val (.ref w1), .val (.ref w3), .val (.int (1 : Int32)), .val (.int (1 : Int32)), .val (.int (1 : Int32))] [(.int (1 : Int32))]))
      refine own_via (fun _ k => XS.iload X90.here hx rfl (hb hby at_54) rfl k) ?_
      show own_Go p e below s _ _ _ (T90.setTop (mkF m 56 #[.val (.int p0), .val (.int p1), .val (.int (3 : Int32)), .val (.int (1 : Int32)), .val (.ref w1), .val (.ref w3), .val (.int (1 : Int32)), .val (.int (1 : Int32)), .val (.int (1 : Int32))] [(.int (1 : Int32)), (.int (1 : Int32))]))
      refine own_via (fun _ k => XS.icmpNo X90.here hx rfl (hb hby at_56) rfl (teq (by decide : (1 : Int32) = (1 : Int32))).2 k) ?_
      show own_Go p e below s _ _ _ (T90.setTop (mkF m 59 #[.val (.int p0), .val (.int p1), .val (.int (3 : Int32)), .val (.int (1 : Int32)), .val (.ref w1), .val (.ref w3), .val (.int (1 : Int32)), .val (.int (1 : Int32)), .val (.int (1 : Int32))] []))
      refine own_via (fun _ k => XS.iconst X90.here hx rfl (hb hby at_59) k) ?_
      show own_Go p e below s _ _ _ (T90.setTop (mkF m 60 #[.val (.int p0), .val (.int p1), .val (.int (3 : Int32)), .val (.int (1 : Int32)), .val (.ref w1), .val (.ref w3), .val (.int (1 : Int32)), .val (.int (1 : Int32)), .val (.int (1 : Int32))] [(.int (1 : Int32))]))
      refine own_via (fun _ k => XS.goto X90.here hx rfl (pc0 := 60) (pc' := 64) rfl (hb hby at_60) (by decide) (by decide) k) ?_
      show own_Go p e below s _ _ _ (T90.setTop (mkF m 64 #[.val (.int p0), .val (.int p1), .val (.int (3 : Int32)), .val (.int (1 : Int32)), .val (.ref w1), .val (.ref w3), .val (.int (1 : Int32)), .val (.int (1 : Int32)), .val (.int (1 : Int32))] [(.int (1 : Int32))]))
      exact own_retZ X90 hx hlk (t := .boolean) Bd.returns (by simp) (hb hby at_64) (z' := (1 : Int32)) (by first | rfl | decide) ⟨rfl, (Fr.nil n0)⟩ (by decide) (by decide)
    · rw [hk79]
      show own_Go p e below s _ _ _ (s₁.setTop (mkF m 7 #[.val (.int p0), .val (.int p1), .val (.int (3 : Int32)), .unset, .unset, .unset, .unset, .unset, .unset] [(.int (2 : Int32))]))
      refine own_via (fun _ k => XS.istoreN X0.here hx rfl (hb hby at_7) rfl (l' := #[.val (.int p0), .val (.int p1), .val (.int (3 : Int32)), .val (.int (2 : Int32)), .unset, .unset, .unset, .unset, .unset]) rfl k) ?_
      show own_Go p e below s _ _ _ (s₁.setTop (mkF m 8 #[.val (.int p0), .val (.int p1), .val (.int (3 : Int32)), .val (.int (2 : Int32)), .unset, .unset, .unset, .unset, .unset] []))
      refine own_via (fun _ k => XS.iloadN X0.here hx rfl (hb hby at_8) rfl k) ?_
      show own_Go p e below s _ _ _ (s₁.setTop (mkF m 9 #[.val (.int p0), .val (.int p1), .val (.int (3 : Int32)), .val (.int (2 : Int32)), .unset, .unset, .unset, .unset, .unset] [(.int (3 : Int32))]))
      obtain ⟨_, _, ⟨T91, L91, k91, n91⟩, -, X91, ⟨Lc91, hQ91, l91, y91, z91⟩, st91⟩ := Jvm.LawKit.callS X0 hx (y := (⟨"com/example/bericht/bericht/selector/ValueTypeAdmitsPinLaw", "pick", "(I)Lcom/example/bericht/bericht/selector/ValueType;"⟩ : MethodName)) hown (mvT hZ (hw _ (List.mem_of_getElem? (i := 0) rfl))) (mvT hZ (hw _ (List.mem_of_getElem? (i := 1) rfl))) (mvT hZ (hw _ (List.mem_of_getElem? (i := 2) rfl))) (mvT hZ (hw _ (List.mem_of_getElem? (i := 3) rfl))) (by decide) (backOf (W := 0) (rm1_3 l Z a0 hw [] w0 w1 w2 w3 h0 n0 Z0 K0) hZ (hw _ (List.mem_of_getElem? (i := 3) rfl)) (hw _ (List.mem_of_getElem? (i := 2) rfl)) (by decide) (by decide)) (g := (mkF m 9 #[.val (.int p0), .val (.int p1), .val (.int (3 : Int32)), .val (.int (2 : Int32)), .unset, .unset, .unset, .unset, .unset] [(.int (3 : Int32))])) rfl (by rw [hml]; rfl) (argsL := [(.int (3 : Int32))]) (rest := []) (lenOf pd0 rfl) rfl (by show 2 * 0 + _ ≤ _; exact Nat.le_of_eq rfl) (hb hby at_9) (fun _ _ => ⟨rfl, e0, (by decide : 0 + 0 ≤ _), (by decide : 0 + 0 ≤ _)⟩)
      dsimp only [Pt.U, Pt.locs, Pt.cells, Pt.slots] at X91 l91 y91 z91 st91 hQ91
      subst l91 y91 z91
      obtain ⟨rfl, e91, hO91⟩ := hQ91
      obtain rfl := hO91
      refine own_via st91 ?_
      show own_Go p e below s _ _ _ (T91.setTop (mkF m 12 #[.val (.int p0), .val (.int p1), .val (.int (3 : Int32)), .val (.int (2 : Int32)), .unset, .unset, .unset, .unset, .unset] [(.ref w1)]))
      refine own_via (fun _ k => XS.astore X91.here hx rfl (hb hby at_12) rfl rfl (l' := #[.val (.int p0), .val (.int p1), .val (.int (3 : Int32)), .val (.int (2 : Int32)), .val (.ref w1), .unset, .unset, .unset, .unset]) rfl k) ?_
      show own_Go p e below s _ _ _ (T91.setTop (mkF m 14 #[.val (.int p0), .val (.int p1), .val (.int (3 : Int32)), .val (.int (2 : Int32)), .val (.ref w1), .unset, .unset, .unset, .unset] []))
      refine own_via (fun _ k => XS.iloadN X91.here hx rfl (hb hby at_14) rfl k) ?_
      show own_Go p e below s _ _ _ (T91.setTop (mkF m 15 #[.val (.int p0), .val (.int p1), .val (.int (3 : Int32)), .val (.int (2 : Int32)), .val (.ref w1), .unset, .unset, .unset, .unset] [(.int (2 : Int32))]))
      obtain ⟨_, _, ⟨T92, L92, k92, n92⟩, -, X92, ⟨Lc92, hQ92, l92, y92, z92⟩, st92⟩ := Jvm.LawKit.callS X91 hx (y := (⟨"com/example/bericht/bericht/selector/ValueTypeAdmitsPinLaw", "pick", "(I)Lcom/example/bericht/bericht/selector/ValueType;"⟩ : MethodName)) hown (mvT hZ (hw _ (List.mem_of_getElem? (i := 0) rfl))) (mvT hZ (hw _ (List.mem_of_getElem? (i := 1) rfl))) (mvT hZ (hw _ (List.mem_of_getElem? (i := 2) rfl))) (mvT hZ (hw _ (List.mem_of_getElem? (i := 3) rfl))) (by decide) (backOf (W := 0) (rm1_2 l Z a0 hw [] w0 w1 w2 w3 h0 n0 Z0 K0) hZ (hw _ (List.mem_of_getElem? (i := 3) rfl)) (hw _ (List.mem_of_getElem? (i := 2) rfl)) (by decide) (by decide)) (g := (mkF m 15 #[.val (.int p0), .val (.int p1), .val (.int (3 : Int32)), .val (.int (2 : Int32)), .val (.ref w1), .unset, .unset, .unset, .unset] [(.int (2 : Int32))])) rfl (by rw [hml]; rfl) (argsL := [(.int (2 : Int32))]) (rest := []) (lenOf pd0 rfl) rfl (by show 2 * 0 + _ ≤ _; exact Nat.le_of_eq rfl) (hb hby at_15) (fun _ _ => ⟨rfl, e91, (by decide : 0 + 0 ≤ _), (by decide : 0 + 0 ≤ _)⟩)
      dsimp only [Pt.U, Pt.locs, Pt.cells, Pt.slots] at X92 l92 y92 z92 st92 hQ92
      subst l92 y92 z92
      obtain ⟨rfl, e92, hO92⟩ := hQ92
      obtain rfl := hO92
      refine own_via st92 ?_
      show own_Go p e below s _ _ _ (T92.setTop (mkF m 18 #[.val (.int p0), .val (.int p1), .val (.int (3 : Int32)), .val (.int (2 : Int32)), .val (.ref w1), .unset, .unset, .unset, .unset] [(.ref w2)]))
      refine own_via (fun _ k => XS.astore X92.here hx rfl (hb hby at_18) rfl rfl (l' := #[.val (.int p0), .val (.int p1), .val (.int (3 : Int32)), .val (.int (2 : Int32)), .val (.ref w1), .val (.ref w2), .unset, .unset, .unset]) rfl k) ?_
      show own_Go p e below s _ _ _ (T92.setTop (mkF m 20 #[.val (.int p0), .val (.int p1), .val (.int (3 : Int32)), .val (.int (2 : Int32)), .val (.ref w1), .val (.ref w2), .unset, .unset, .unset] []))
      refine own_via (fun _ k => XS.aload X92.here hx rfl (hb hby at_20) rfl rfl k) ?_
      show own_Go p e below s _ _ _ (T92.setTop (mkF m 22 #[.val (.int p0), .val (.int p1), .val (.int (3 : Int32)), .val (.int (2 : Int32)), .val (.ref w1), .val (.ref w2), .unset, .unset, .unset] [(.ref w1)]))
      refine own_via (fun _ k => XS.aload X92.here hx rfl (hb hby at_22) rfl rfl k) ?_
      show own_Go p e below s _ _ _ (T92.setTop (mkF m 24 #[.val (.int p0), .val (.int p1), .val (.int (3 : Int32)), .val (.int (2 : Int32)), .val (.ref w1), .val (.ref w2), .unset, .unset, .unset] [(.ref w2), (.ref w1)]))
      obtain ⟨cq93, kq93, q93a, q93b, q93c⟩ := isOf hZ e92 E_w1
      obtain ⟨_, _, ⟨T93, L93, k93, n93⟩, -, X93, ⟨Lc93, hQ93, l93, y93, z93⟩, st93⟩ := X92.virtualBack hx (y := (⟨"com/example/bericht/bericht/selector/ValueType", "admits", "(Lcom/example/bericht/bericht/selector/ValueType;)Z"⟩ : MethodName)) (z := (⟨"com/example/bericht/bericht/selector/ValueType", "admits", "(Lcom/example/bericht/bericht/selector/ValueType;)Z"⟩ : MethodName)) hown (mvT hZ (hw _ (List.mem_of_getElem? (i := 9) rfl))) (mvT hZ (hw _ (List.mem_of_getElem? (i := 10) rfl))) (notFace_of_selects (args := #[]) (mvT hZ (hw _ (List.mem_of_getElem? (i := 12) rfl)))) (mvT hZ (hw _ (List.mem_of_getElem? (i := 12) rfl))) (mvT hZ (hw _ (List.mem_of_getElem? (i := 11) rfl))) (by decide) (backOf (W := 0) (rm2_14 l Z a0 hw [] w0 w1 w2 w3 h0 n0 Z0 K0) hZ (hw _ (List.mem_of_getElem? (i := 13) rfl)) (hw _ (List.mem_of_getElem? (i := 5) rfl)) (by decide) (by decide)) q93a q93c (g := (mkF m 24 #[.val (.int p0), .val (.int p1), .val (.int (3 : Int32)), .val (.int (2 : Int32)), .val (.ref w1), .val (.ref w2), .unset, .unset, .unset] [(.ref w2), (.ref w1)])) rfl (by rw [hml]; rfl) (Steps.refl _) (argsL := [(.ref w2)]) (rest := []) (lenOf pd1 rfl) rfl (by show 2 * 0 + _ ≤ _; exact Nat.le_of_eq rfl) (hb hby at_24) (fun _ _ => ⟨rfl, e92, (by decide : 0 + 0 ≤ _), (by decide : 0 + 0 ≤ _)⟩)
      dsimp only [Pt.U, Pt.locs, Pt.cells, Pt.slots] at X93 l93 y93 z93 st93 hQ93
      subst l93 y93 z93
      obtain ⟨rfl, e93, hO93⟩ := hQ93
      obtain rfl := hO93
      refine own_tr st93 ?_
      show own_Go p e below s _ _ _ (T93.setTop (mkF m 27 #[.val (.int p0), .val (.int p1), .val (.int (3 : Int32)), .val (.int (2 : Int32)), .val (.ref w1), .val (.ref w2), .unset, .unset, .unset] [(.int (1 : Int32))]))
      refine own_via (fun _ k => XS.istore X93.here hx rfl (hb hby at_27) rfl (l' := #[.val (.int p0), .val (.int p1), .val (.int (3 : Int32)), .val (.int (2 : Int32)), .val (.ref w1), .val (.ref w2), .val (.int (1 : Int32)), .unset, .unset]) rfl k) ?_
      show own_Go p e below s _ _ _ (T93.setTop (mkF m 29 #[.val (.int p0), .val (.int p1), .val (.int (3 : Int32)), .val (.int (2 : Int32)), .val (.ref w1), .val (.ref w2), .val (.int (1 : Int32)), .unset, .unset] []))
      refine own_via (fun _ k => XS.aload X93.here hx rfl (hb hby at_29) rfl rfl k) ?_
      show own_Go p e below s _ _ _ (T93.setTop (mkF m 31 #[.val (.int p0), .val (.int p1), .val (.int (3 : Int32)), .val (.int (2 : Int32)), .val (.ref w1), .val (.ref w2), .val (.int (1 : Int32)), .unset, .unset] [(.ref w2)]))
      refine own_via (fun _ k => XS.aload X93.here hx rfl (hb hby at_31) rfl rfl k) ?_
      show own_Go p e below s _ _ _ (T93.setTop (mkF m 33 #[.val (.int p0), .val (.int p1), .val (.int (3 : Int32)), .val (.int (2 : Int32)), .val (.ref w1), .val (.ref w2), .val (.int (1 : Int32)), .unset, .unset] [(.ref w1), (.ref w2)]))
      obtain ⟨cq94, kq94, q94a, q94b, q94c⟩ := isOf hZ e93 E_w2
      obtain ⟨_, _, ⟨T94, L94, k94, n94⟩, -, X94, ⟨Lc94, hQ94, l94, y94, z94⟩, st94⟩ := X93.virtualBack hx (y := (⟨"com/example/bericht/bericht/selector/ValueType", "admits", "(Lcom/example/bericht/bericht/selector/ValueType;)Z"⟩ : MethodName)) (z := (⟨"com/example/bericht/bericht/selector/ValueType", "admits", "(Lcom/example/bericht/bericht/selector/ValueType;)Z"⟩ : MethodName)) hown (mvT hZ (hw _ (List.mem_of_getElem? (i := 9) rfl))) (mvT hZ (hw _ (List.mem_of_getElem? (i := 10) rfl))) (notFace_of_selects (args := #[]) (mvT hZ (hw _ (List.mem_of_getElem? (i := 12) rfl)))) (mvT hZ (hw _ (List.mem_of_getElem? (i := 12) rfl))) (mvT hZ (hw _ (List.mem_of_getElem? (i := 11) rfl))) (by decide) (backOf (W := 0) (rm2_13 l Z a0 hw [] w0 w1 w2 w3 h0 n0 Z0 K0) hZ (hw _ (List.mem_of_getElem? (i := 13) rfl)) (hw _ (List.mem_of_getElem? (i := 5) rfl)) (by decide) (by decide)) q94a q94c (g := (mkF m 33 #[.val (.int p0), .val (.int p1), .val (.int (3 : Int32)), .val (.int (2 : Int32)), .val (.ref w1), .val (.ref w2), .val (.int (1 : Int32)), .unset, .unset] [(.ref w1), (.ref w2)])) rfl (by rw [hml]; rfl) (Steps.refl _) (argsL := [(.ref w1)]) (rest := []) (lenOf pd1 rfl) rfl (by show 2 * 0 + _ ≤ _; exact Nat.le_of_eq rfl) (hb hby at_33) (fun _ _ => ⟨rfl, e93, (by decide : 0 + 0 ≤ _), (by decide : 0 + 0 ≤ _)⟩)
      dsimp only [Pt.U, Pt.locs, Pt.cells, Pt.slots] at X94 l94 y94 z94 st94 hQ94
      subst l94 y94 z94
      obtain ⟨rfl, e94, hO94⟩ := hQ94
      obtain rfl := hO94
      refine own_tr st94 ?_
      show own_Go p e below s _ _ _ (T94.setTop (mkF m 36 #[.val (.int p0), .val (.int p1), .val (.int (3 : Int32)), .val (.int (2 : Int32)), .val (.ref w1), .val (.ref w2), .val (.int (1 : Int32)), .unset, .unset] [(.int (1 : Int32))]))
      refine own_via (fun _ k => XS.istore X94.here hx rfl (hb hby at_36) rfl (l' := #[.val (.int p0), .val (.int p1), .val (.int (3 : Int32)), .val (.int (2 : Int32)), .val (.ref w1), .val (.ref w2), .val (.int (1 : Int32)), .val (.int (1 : Int32)), .unset]) rfl k) ?_
      show own_Go p e below s _ _ _ (T94.setTop (mkF m 38 #[.val (.int p0), .val (.int p1), .val (.int (3 : Int32)), .val (.int (2 : Int32)), .val (.ref w1), .val (.ref w2), .val (.int (1 : Int32)), .val (.int (1 : Int32)), .unset] []))
      refine own_via (fun _ k => XS.iloadN X94.here hx rfl (hb hby at_38) rfl k) ?_
      show own_Go p e below s _ _ _ (T94.setTop (mkF m 39 #[.val (.int p0), .val (.int p1), .val (.int (3 : Int32)), .val (.int (2 : Int32)), .val (.ref w1), .val (.ref w2), .val (.int (1 : Int32)), .val (.int (1 : Int32)), .unset] [(.int (3 : Int32))]))
      refine own_via (fun _ k => XS.iloadN X94.here hx rfl (hb hby at_39) rfl k) ?_
      show own_Go p e below s _ _ _ (T94.setTop (mkF m 40 #[.val (.int p0), .val (.int p1), .val (.int (3 : Int32)), .val (.int (2 : Int32)), .val (.ref w1), .val (.ref w2), .val (.int (1 : Int32)), .val (.int (1 : Int32)), .unset] [(.int (2 : Int32)), (.int (3 : Int32))]))
      obtain ⟨_, _, ⟨T95, L95, k95, n95⟩, -, X95, ⟨Lc95, hQ95, l95, y95, z95⟩, st95⟩ := Jvm.LawKit.callS X94 hx (y := (⟨"com/example/bericht/bericht/selector/ValueTypeAdmitsPinLaw", "expected", "(II)Z"⟩ : MethodName)) hown (mvT hZ (hw _ (List.mem_of_getElem? (i := 15) rfl))) (mvT hZ (hw _ (List.mem_of_getElem? (i := 16) rfl))) (mvT hZ (hw _ (List.mem_of_getElem? (i := 2) rfl))) (mvT hZ (hw _ (List.mem_of_getElem? (i := 17) rfl))) (by decide) (backOf (W := 0) (rm3_14 l Z a0 hw [] w0 w1 w2 w3 h0 n0 Z0 K0) hZ (hw _ (List.mem_of_getElem? (i := 17) rfl)) (hw _ (List.mem_of_getElem? (i := 2) rfl)) (by decide) (by decide)) (g := (mkF m 40 #[.val (.int p0), .val (.int p1), .val (.int (3 : Int32)), .val (.int (2 : Int32)), .val (.ref w1), .val (.ref w2), .val (.int (1 : Int32)), .val (.int (1 : Int32)), .unset] [(.int (2 : Int32)), (.int (3 : Int32))])) rfl (by rw [hml]; rfl) (argsL := [(.int (3 : Int32)), (.int (2 : Int32))]) (rest := []) (lenOf pd2 rfl) rfl (by show 2 * 0 + _ ≤ _; exact Nat.le_of_eq rfl) (hb hby at_40) (fun _ _ => ⟨rfl, e94, (by decide : 0 + 0 ≤ _), (by decide : 0 + 0 ≤ _)⟩)
      dsimp only [Pt.U, Pt.locs, Pt.cells, Pt.slots] at X95 l95 y95 z95 st95 hQ95
      subst l95 y95 z95
      obtain ⟨rfl, e95, hO95⟩ := hQ95
      obtain rfl := hO95
      refine own_via st95 ?_
      show own_Go p e below s _ _ _ (T95.setTop (mkF m 43 #[.val (.int p0), .val (.int p1), .val (.int (3 : Int32)), .val (.int (2 : Int32)), .val (.ref w1), .val (.ref w2), .val (.int (1 : Int32)), .val (.int (1 : Int32)), .unset] [(.int (1 : Int32))]))
      refine own_via (fun _ k => XS.istore X95.here hx rfl (hb hby at_43) rfl (l' := #[.val (.int p0), .val (.int p1), .val (.int (3 : Int32)), .val (.int (2 : Int32)), .val (.ref w1), .val (.ref w2), .val (.int (1 : Int32)), .val (.int (1 : Int32)), .val (.int (1 : Int32))]) rfl k) ?_
      show own_Go p e below s _ _ _ (T95.setTop (mkF m 45 #[.val (.int p0), .val (.int p1), .val (.int (3 : Int32)), .val (.int (2 : Int32)), .val (.ref w1), .val (.ref w2), .val (.int (1 : Int32)), .val (.int (1 : Int32)), .val (.int (1 : Int32))] []))
      refine own_via (fun _ k => XS.iload X95.here hx rfl (hb hby at_45) rfl k) ?_
      show own_Go p e below s _ _ _ (T95.setTop (mkF m 47 #[.val (.int p0), .val (.int p1), .val (.int (3 : Int32)), .val (.int (2 : Int32)), .val (.ref w1), .val (.ref w2), .val (.int (1 : Int32)), .val (.int (1 : Int32)), .val (.int (1 : Int32))] [(.int (1 : Int32))]))
      refine own_via (fun _ k => XS.iload X95.here hx rfl (hb hby at_47) rfl k) ?_
      show own_Go p e below s _ _ _ (T95.setTop (mkF m 49 #[.val (.int p0), .val (.int p1), .val (.int (3 : Int32)), .val (.int (2 : Int32)), .val (.ref w1), .val (.ref w2), .val (.int (1 : Int32)), .val (.int (1 : Int32)), .val (.int (1 : Int32))] [(.int (1 : Int32)), (.int (1 : Int32))]))
      refine own_via (fun _ k => XS.icmpNo X95.here hx rfl (hb hby at_49) rfl (teq (by decide : (1 : Int32) = (1 : Int32))).2 k) ?_
      show own_Go p e below s _ _ _ (T95.setTop (mkF m 52 #[.val (.int p0), .val (.int p1), .val (.int (3 : Int32)), .val (.int (2 : Int32)), .val (.ref w1), .val (.ref w2), .val (.int (1 : Int32)), .val (.int (1 : Int32)), .val (.int (1 : Int32))] []))
      refine own_via (fun _ k => XS.iload X95.here hx rfl (hb hby at_52) rfl k) ?_
      show own_Go p e below s _ _ _ (T95.setTop (mkF m 54 #[.val (.int p0), .val (.int p1), .val (.int (3 : Int32)), .val (.int (2 : Int32)), .val (.ref w1), .val (.ref w2), .val (.int (1 : Int32)), .val (.int (1 : Int32)), .val (.int (1 : Int32))] [(.int (1 : Int32))]))
      refine own_via (fun _ k => XS.iload X95.here hx rfl (hb hby at_54) rfl k) ?_
      show own_Go p e below s _ _ _ (T95.setTop (mkF m 56 #[.val (.int p0), .val (.int p1), .val (.int (3 : Int32)), .val (.int (2 : Int32)), .val (.ref w1), .val (.ref w2), .val (.int (1 : Int32)), .val (.int (1 : Int32)), .val (.int (1 : Int32))] [(.int (1 : Int32)), (.int (1 : Int32))]))
      refine own_via (fun _ k => XS.icmpNo X95.here hx rfl (hb hby at_56) rfl (teq (by decide : (1 : Int32) = (1 : Int32))).2 k) ?_
      show own_Go p e below s _ _ _ (T95.setTop (mkF m 59 #[.val (.int p0), .val (.int p1), .val (.int (3 : Int32)), .val (.int (2 : Int32)), .val (.ref w1), .val (.ref w2), .val (.int (1 : Int32)), .val (.int (1 : Int32)), .val (.int (1 : Int32))] []))
      refine own_via (fun _ k => XS.iconst X95.here hx rfl (hb hby at_59) k) ?_
      show own_Go p e below s _ _ _ (T95.setTop (mkF m 60 #[.val (.int p0), .val (.int p1), .val (.int (3 : Int32)), .val (.int (2 : Int32)), .val (.ref w1), .val (.ref w2), .val (.int (1 : Int32)), .val (.int (1 : Int32)), .val (.int (1 : Int32))] [(.int (1 : Int32))]))
      refine own_via (fun _ k => XS.goto X95.here hx rfl (pc0 := 60) (pc' := 64) rfl (hb hby at_60) (by decide) (by decide) k) ?_
      show own_Go p e below s _ _ _ (T95.setTop (mkF m 64 #[.val (.int p0), .val (.int p1), .val (.int (3 : Int32)), .val (.int (2 : Int32)), .val (.ref w1), .val (.ref w2), .val (.int (1 : Int32)), .val (.int (1 : Int32)), .val (.int (1 : Int32))] [(.int (1 : Int32))]))
      exact own_retZ X95 hx hlk (t := .boolean) Bd.returns (by simp) (hb hby at_64) (z' := (1 : Int32)) (by first | rfl | decide) ⟨rfl, (Fr.nil n0)⟩ (by decide) (by decide)
    · rw [hk80]
      show own_Go p e below s _ _ _ (s₁.setTop (mkF m 7 #[.val (.int p0), .val (.int p1), .val (.int (3 : Int32)), .unset, .unset, .unset, .unset, .unset, .unset] [(.int (3 : Int32))]))
      refine own_via (fun _ k => XS.istoreN X0.here hx rfl (hb hby at_7) rfl (l' := #[.val (.int p0), .val (.int p1), .val (.int (3 : Int32)), .val (.int (3 : Int32)), .unset, .unset, .unset, .unset, .unset]) rfl k) ?_
      show own_Go p e below s _ _ _ (s₁.setTop (mkF m 8 #[.val (.int p0), .val (.int p1), .val (.int (3 : Int32)), .val (.int (3 : Int32)), .unset, .unset, .unset, .unset, .unset] []))
      refine own_via (fun _ k => XS.iloadN X0.here hx rfl (hb hby at_8) rfl k) ?_
      show own_Go p e below s _ _ _ (s₁.setTop (mkF m 9 #[.val (.int p0), .val (.int p1), .val (.int (3 : Int32)), .val (.int (3 : Int32)), .unset, .unset, .unset, .unset, .unset] [(.int (3 : Int32))]))
      obtain ⟨_, _, ⟨T96, L96, k96, n96⟩, -, X96, ⟨Lc96, hQ96, l96, y96, z96⟩, st96⟩ := Jvm.LawKit.callS X0 hx (y := (⟨"com/example/bericht/bericht/selector/ValueTypeAdmitsPinLaw", "pick", "(I)Lcom/example/bericht/bericht/selector/ValueType;"⟩ : MethodName)) hown (mvT hZ (hw _ (List.mem_of_getElem? (i := 0) rfl))) (mvT hZ (hw _ (List.mem_of_getElem? (i := 1) rfl))) (mvT hZ (hw _ (List.mem_of_getElem? (i := 2) rfl))) (mvT hZ (hw _ (List.mem_of_getElem? (i := 3) rfl))) (by decide) (backOf (W := 0) (rm1_3 l Z a0 hw [] w0 w1 w2 w3 h0 n0 Z0 K0) hZ (hw _ (List.mem_of_getElem? (i := 3) rfl)) (hw _ (List.mem_of_getElem? (i := 2) rfl)) (by decide) (by decide)) (g := (mkF m 9 #[.val (.int p0), .val (.int p1), .val (.int (3 : Int32)), .val (.int (3 : Int32)), .unset, .unset, .unset, .unset, .unset] [(.int (3 : Int32))])) rfl (by rw [hml]; rfl) (argsL := [(.int (3 : Int32))]) (rest := []) (lenOf pd0 rfl) rfl (by show 2 * 0 + _ ≤ _; exact Nat.le_of_eq rfl) (hb hby at_9) (fun _ _ => ⟨rfl, e0, (by decide : 0 + 0 ≤ _), (by decide : 0 + 0 ≤ _)⟩)
      dsimp only [Pt.U, Pt.locs, Pt.cells, Pt.slots] at X96 l96 y96 z96 st96 hQ96
      subst l96 y96 z96
      obtain ⟨rfl, e96, hO96⟩ := hQ96
      obtain rfl := hO96
      refine own_via st96 ?_
      show own_Go p e below s _ _ _ (T96.setTop (mkF m 12 #[.val (.int p0), .val (.int p1), .val (.int (3 : Int32)), .val (.int (3 : Int32)), .unset, .unset, .unset, .unset, .unset] [(.ref w1)]))
      refine own_via (fun _ k => XS.astore X96.here hx rfl (hb hby at_12) rfl rfl (l' := #[.val (.int p0), .val (.int p1), .val (.int (3 : Int32)), .val (.int (3 : Int32)), .val (.ref w1), .unset, .unset, .unset, .unset]) rfl k) ?_
      show own_Go p e below s _ _ _ (T96.setTop (mkF m 14 #[.val (.int p0), .val (.int p1), .val (.int (3 : Int32)), .val (.int (3 : Int32)), .val (.ref w1), .unset, .unset, .unset, .unset] []))
      refine own_via (fun _ k => XS.iloadN X96.here hx rfl (hb hby at_14) rfl k) ?_
      show own_Go p e below s _ _ _ (T96.setTop (mkF m 15 #[.val (.int p0), .val (.int p1), .val (.int (3 : Int32)), .val (.int (3 : Int32)), .val (.ref w1), .unset, .unset, .unset, .unset] [(.int (3 : Int32))]))
      obtain ⟨_, _, ⟨T97, L97, k97, n97⟩, -, X97, ⟨Lc97, hQ97, l97, y97, z97⟩, st97⟩ := Jvm.LawKit.callS X96 hx (y := (⟨"com/example/bericht/bericht/selector/ValueTypeAdmitsPinLaw", "pick", "(I)Lcom/example/bericht/bericht/selector/ValueType;"⟩ : MethodName)) hown (mvT hZ (hw _ (List.mem_of_getElem? (i := 0) rfl))) (mvT hZ (hw _ (List.mem_of_getElem? (i := 1) rfl))) (mvT hZ (hw _ (List.mem_of_getElem? (i := 2) rfl))) (mvT hZ (hw _ (List.mem_of_getElem? (i := 3) rfl))) (by decide) (backOf (W := 0) (rm1_3 l Z a0 hw [] w0 w1 w2 w3 h0 n0 Z0 K0) hZ (hw _ (List.mem_of_getElem? (i := 3) rfl)) (hw _ (List.mem_of_getElem? (i := 2) rfl)) (by decide) (by decide)) (g := (mkF m 15 #[.val (.int p0), .val (.int p1), .val (.int (3 : Int32)), .val (.int (3 : Int32)), .val (.ref w1), .unset, .unset, .unset, .unset] [(.int (3 : Int32))])) rfl (by rw [hml]; rfl) (argsL := [(.int (3 : Int32))]) (rest := []) (lenOf pd0 rfl) rfl (by show 2 * 0 + _ ≤ _; exact Nat.le_of_eq rfl) (hb hby at_15) (fun _ _ => ⟨rfl, e96, (by decide : 0 + 0 ≤ _), (by decide : 0 + 0 ≤ _)⟩)
      dsimp only [Pt.U, Pt.locs, Pt.cells, Pt.slots] at X97 l97 y97 z97 st97 hQ97
      subst l97 y97 z97
      obtain ⟨rfl, e97, hO97⟩ := hQ97
      obtain rfl := hO97
      refine own_via st97 ?_
      show own_Go p e below s _ _ _ (T97.setTop (mkF m 18 #[.val (.int p0), .val (.int p1), .val (.int (3 : Int32)), .val (.int (3 : Int32)), .val (.ref w1), .unset, .unset, .unset, .unset] [(.ref w1)]))
      refine own_via (fun _ k => XS.astore X97.here hx rfl (hb hby at_18) rfl rfl (l' := #[.val (.int p0), .val (.int p1), .val (.int (3 : Int32)), .val (.int (3 : Int32)), .val (.ref w1), .val (.ref w1), .unset, .unset, .unset]) rfl k) ?_
      show own_Go p e below s _ _ _ (T97.setTop (mkF m 20 #[.val (.int p0), .val (.int p1), .val (.int (3 : Int32)), .val (.int (3 : Int32)), .val (.ref w1), .val (.ref w1), .unset, .unset, .unset] []))
      refine own_via (fun _ k => XS.aload X97.here hx rfl (hb hby at_20) rfl rfl k) ?_
      show own_Go p e below s _ _ _ (T97.setTop (mkF m 22 #[.val (.int p0), .val (.int p1), .val (.int (3 : Int32)), .val (.int (3 : Int32)), .val (.ref w1), .val (.ref w1), .unset, .unset, .unset] [(.ref w1)]))
      refine own_via (fun _ k => XS.aload X97.here hx rfl (hb hby at_22) rfl rfl k) ?_
      show own_Go p e below s _ _ _ (T97.setTop (mkF m 24 #[.val (.int p0), .val (.int p1), .val (.int (3 : Int32)), .val (.int (3 : Int32)), .val (.ref w1), .val (.ref w1), .unset, .unset, .unset] [(.ref w1), (.ref w1)]))
      obtain ⟨cq98, kq98, q98a, q98b, q98c⟩ := isOf hZ e97 E_w1
      obtain ⟨_, _, ⟨T98, L98, k98, n98⟩, -, X98, ⟨Lc98, hQ98, l98, y98, z98⟩, st98⟩ := X97.virtualBack hx (y := (⟨"com/example/bericht/bericht/selector/ValueType", "admits", "(Lcom/example/bericht/bericht/selector/ValueType;)Z"⟩ : MethodName)) (z := (⟨"com/example/bericht/bericht/selector/ValueType", "admits", "(Lcom/example/bericht/bericht/selector/ValueType;)Z"⟩ : MethodName)) hown (mvT hZ (hw _ (List.mem_of_getElem? (i := 9) rfl))) (mvT hZ (hw _ (List.mem_of_getElem? (i := 10) rfl))) (notFace_of_selects (args := #[]) (mvT hZ (hw _ (List.mem_of_getElem? (i := 12) rfl)))) (mvT hZ (hw _ (List.mem_of_getElem? (i := 12) rfl))) (mvT hZ (hw _ (List.mem_of_getElem? (i := 11) rfl))) (by decide) (backOf (W := 0) (rm2_15 l Z a0 hw [] w0 w1 w2 w3 h0 n0 Z0 K0) hZ (hw _ (List.mem_of_getElem? (i := 13) rfl)) (hw _ (List.mem_of_getElem? (i := 5) rfl)) (by decide) (by decide)) q98a q98c (g := (mkF m 24 #[.val (.int p0), .val (.int p1), .val (.int (3 : Int32)), .val (.int (3 : Int32)), .val (.ref w1), .val (.ref w1), .unset, .unset, .unset] [(.ref w1), (.ref w1)])) rfl (by rw [hml]; rfl) (Steps.refl _) (argsL := [(.ref w1)]) (rest := []) (lenOf pd1 rfl) rfl (by show 2 * 0 + _ ≤ _; exact Nat.le_of_eq rfl) (hb hby at_24) (fun _ _ => ⟨rfl, e97, (by decide : 0 + 0 ≤ _), (by decide : 0 + 0 ≤ _)⟩)
      dsimp only [Pt.U, Pt.locs, Pt.cells, Pt.slots] at X98 l98 y98 z98 st98 hQ98
      subst l98 y98 z98
      obtain ⟨rfl, e98, hO98⟩ := hQ98
      obtain rfl := hO98
      refine own_tr st98 ?_
      show own_Go p e below s _ _ _ (T98.setTop (mkF m 27 #[.val (.int p0), .val (.int p1), .val (.int (3 : Int32)), .val (.int (3 : Int32)), .val (.ref w1), .val (.ref w1), .unset, .unset, .unset] [(.int (1 : Int32))]))
      refine own_via (fun _ k => XS.istore X98.here hx rfl (hb hby at_27) rfl (l' := #[.val (.int p0), .val (.int p1), .val (.int (3 : Int32)), .val (.int (3 : Int32)), .val (.ref w1), .val (.ref w1), .val (.int (1 : Int32)), .unset, .unset]) rfl k) ?_
      show own_Go p e below s _ _ _ (T98.setTop (mkF m 29 #[.val (.int p0), .val (.int p1), .val (.int (3 : Int32)), .val (.int (3 : Int32)), .val (.ref w1), .val (.ref w1), .val (.int (1 : Int32)), .unset, .unset] []))
      refine own_via (fun _ k => XS.aload X98.here hx rfl (hb hby at_29) rfl rfl k) ?_
      show own_Go p e below s _ _ _ (T98.setTop (mkF m 31 #[.val (.int p0), .val (.int p1), .val (.int (3 : Int32)), .val (.int (3 : Int32)), .val (.ref w1), .val (.ref w1), .val (.int (1 : Int32)), .unset, .unset] [(.ref w1)]))
      refine own_via (fun _ k => XS.aload X98.here hx rfl (hb hby at_31) rfl rfl k) ?_
      show own_Go p e below s _ _ _ (T98.setTop (mkF m 33 #[.val (.int p0), .val (.int p1), .val (.int (3 : Int32)), .val (.int (3 : Int32)), .val (.ref w1), .val (.ref w1), .val (.int (1 : Int32)), .unset, .unset] [(.ref w1), (.ref w1)]))
      obtain ⟨cq99, kq99, q99a, q99b, q99c⟩ := isOf hZ e98 E_w1
      obtain ⟨_, _, ⟨T99, L99, k99, n99⟩, -, X99, ⟨Lc99, hQ99, l99, y99, z99⟩, st99⟩ := X98.virtualBack hx (y := (⟨"com/example/bericht/bericht/selector/ValueType", "admits", "(Lcom/example/bericht/bericht/selector/ValueType;)Z"⟩ : MethodName)) (z := (⟨"com/example/bericht/bericht/selector/ValueType", "admits", "(Lcom/example/bericht/bericht/selector/ValueType;)Z"⟩ : MethodName)) hown (mvT hZ (hw _ (List.mem_of_getElem? (i := 9) rfl))) (mvT hZ (hw _ (List.mem_of_getElem? (i := 10) rfl))) (notFace_of_selects (args := #[]) (mvT hZ (hw _ (List.mem_of_getElem? (i := 12) rfl)))) (mvT hZ (hw _ (List.mem_of_getElem? (i := 12) rfl))) (mvT hZ (hw _ (List.mem_of_getElem? (i := 11) rfl))) (by decide) (backOf (W := 0) (rm2_15 l Z a0 hw [] w0 w1 w2 w3 h0 n0 Z0 K0) hZ (hw _ (List.mem_of_getElem? (i := 13) rfl)) (hw _ (List.mem_of_getElem? (i := 5) rfl)) (by decide) (by decide)) q99a q99c (g := (mkF m 33 #[.val (.int p0), .val (.int p1), .val (.int (3 : Int32)), .val (.int (3 : Int32)), .val (.ref w1), .val (.ref w1), .val (.int (1 : Int32)), .unset, .unset] [(.ref w1), (.ref w1)])) rfl (by rw [hml]; rfl) (Steps.refl _) (argsL := [(.ref w1)]) (rest := []) (lenOf pd1 rfl) rfl (by show 2 * 0 + _ ≤ _; exact Nat.le_of_eq rfl) (hb hby at_33) (fun _ _ => ⟨rfl, e98, (by decide : 0 + 0 ≤ _), (by decide : 0 + 0 ≤ _)⟩)
      dsimp only [Pt.U, Pt.locs, Pt.cells, Pt.slots] at X99 l99 y99 z99 st99 hQ99
      subst l99 y99 z99
      obtain ⟨rfl, e99, hO99⟩ := hQ99
      obtain rfl := hO99
      refine own_tr st99 ?_
      show own_Go p e below s _ _ _ (T99.setTop (mkF m 36 #[.val (.int p0), .val (.int p1), .val (.int (3 : Int32)), .val (.int (3 : Int32)), .val (.ref w1), .val (.ref w1), .val (.int (1 : Int32)), .unset, .unset] [(.int (1 : Int32))]))
      refine own_via (fun _ k => XS.istore X99.here hx rfl (hb hby at_36) rfl (l' := #[.val (.int p0), .val (.int p1), .val (.int (3 : Int32)), .val (.int (3 : Int32)), .val (.ref w1), .val (.ref w1), .val (.int (1 : Int32)), .val (.int (1 : Int32)), .unset]) rfl k) ?_
      show own_Go p e below s _ _ _ (T99.setTop (mkF m 38 #[.val (.int p0), .val (.int p1), .val (.int (3 : Int32)), .val (.int (3 : Int32)), .val (.ref w1), .val (.ref w1), .val (.int (1 : Int32)), .val (.int (1 : Int32)), .unset] []))
      refine own_via (fun _ k => XS.iloadN X99.here hx rfl (hb hby at_38) rfl k) ?_
      show own_Go p e below s _ _ _ (T99.setTop (mkF m 39 #[.val (.int p0), .val (.int p1), .val (.int (3 : Int32)), .val (.int (3 : Int32)), .val (.ref w1), .val (.ref w1), .val (.int (1 : Int32)), .val (.int (1 : Int32)), .unset] [(.int (3 : Int32))]))
      refine own_via (fun _ k => XS.iloadN X99.here hx rfl (hb hby at_39) rfl k) ?_
      show own_Go p e below s _ _ _ (T99.setTop (mkF m 40 #[.val (.int p0), .val (.int p1), .val (.int (3 : Int32)), .val (.int (3 : Int32)), .val (.ref w1), .val (.ref w1), .val (.int (1 : Int32)), .val (.int (1 : Int32)), .unset] [(.int (3 : Int32)), (.int (3 : Int32))]))
      obtain ⟨_, _, ⟨T100, L100, k100, n100⟩, -, X100, ⟨Lc100, hQ100, l100, y100, z100⟩, st100⟩ := Jvm.LawKit.callS X99 hx (y := (⟨"com/example/bericht/bericht/selector/ValueTypeAdmitsPinLaw", "expected", "(II)Z"⟩ : MethodName)) hown (mvT hZ (hw _ (List.mem_of_getElem? (i := 15) rfl))) (mvT hZ (hw _ (List.mem_of_getElem? (i := 16) rfl))) (mvT hZ (hw _ (List.mem_of_getElem? (i := 2) rfl))) (mvT hZ (hw _ (List.mem_of_getElem? (i := 17) rfl))) (by decide) (backOf (W := 0) (rm3_15 l Z a0 hw [] w0 w1 w2 w3 h0 n0 Z0 K0) hZ (hw _ (List.mem_of_getElem? (i := 17) rfl)) (hw _ (List.mem_of_getElem? (i := 2) rfl)) (by decide) (by decide)) (g := (mkF m 40 #[.val (.int p0), .val (.int p1), .val (.int (3 : Int32)), .val (.int (3 : Int32)), .val (.ref w1), .val (.ref w1), .val (.int (1 : Int32)), .val (.int (1 : Int32)), .unset] [(.int (3 : Int32)), (.int (3 : Int32))])) rfl (by rw [hml]; rfl) (argsL := [(.int (3 : Int32)), (.int (3 : Int32))]) (rest := []) (lenOf pd2 rfl) rfl (by show 2 * 0 + _ ≤ _; exact Nat.le_of_eq rfl) (hb hby at_40) (fun _ _ => ⟨rfl, e99, (by decide : 0 + 0 ≤ _), (by decide : 0 + 0 ≤ _)⟩)
      dsimp only [Pt.U, Pt.locs, Pt.cells, Pt.slots] at X100 l100 y100 z100 st100 hQ100
      subst l100 y100 z100
      obtain ⟨rfl, e100, hO100⟩ := hQ100
      obtain rfl := hO100
      refine own_via st100 ?_
      show own_Go p e below s _ _ _ (T100.setTop (mkF m 43 #[.val (.int p0), .val (.int p1), .val (.int (3 : Int32)), .val (.int (3 : Int32)), .val (.ref w1), .val (.ref w1), .val (.int (1 : Int32)), .val (.int (1 : Int32)), .unset] [(.int (1 : Int32))]))
      refine own_via (fun _ k => XS.istore X100.here hx rfl (hb hby at_43) rfl (l' := #[.val (.int p0), .val (.int p1), .val (.int (3 : Int32)), .val (.int (3 : Int32)), .val (.ref w1), .val (.ref w1), .val (.int (1 : Int32)), .val (.int (1 : Int32)), .val (.int (1 : Int32))]) rfl k) ?_
      show own_Go p e below s _ _ _ (T100.setTop (mkF m 45 #[.val (.int p0), .val (.int p1), .val (.int (3 : Int32)), .val (.int (3 : Int32)), .val (.ref w1), .val (.ref w1), .val (.int (1 : Int32)), .val (.int (1 : Int32)), .val (.int (1 : Int32))] []))
      refine own_via (fun _ k => XS.iload X100.here hx rfl (hb hby at_45) rfl k) ?_
      show own_Go p e below s _ _ _ (T100.setTop (mkF m 47 #[.val (.int p0), .val (.int p1), .val (.int (3 : Int32)), .val (.int (3 : Int32)), .val (.ref w1), .val (.ref w1), .val (.int (1 : Int32)), .val (.int (1 : Int32)), .val (.int (1 : Int32))] [(.int (1 : Int32))]))
      refine own_via (fun _ k => XS.iload X100.here hx rfl (hb hby at_47) rfl k) ?_
      show own_Go p e below s _ _ _ (T100.setTop (mkF m 49 #[.val (.int p0), .val (.int p1), .val (.int (3 : Int32)), .val (.int (3 : Int32)), .val (.ref w1), .val (.ref w1), .val (.int (1 : Int32)), .val (.int (1 : Int32)), .val (.int (1 : Int32))] [(.int (1 : Int32)), (.int (1 : Int32))]))
      refine own_via (fun _ k => XS.icmpNo X100.here hx rfl (hb hby at_49) rfl (teq (by decide : (1 : Int32) = (1 : Int32))).2 k) ?_
      show own_Go p e below s _ _ _ (T100.setTop (mkF m 52 #[.val (.int p0), .val (.int p1), .val (.int (3 : Int32)), .val (.int (3 : Int32)), .val (.ref w1), .val (.ref w1), .val (.int (1 : Int32)), .val (.int (1 : Int32)), .val (.int (1 : Int32))] []))
      refine own_via (fun _ k => XS.iload X100.here hx rfl (hb hby at_52) rfl k) ?_
      show own_Go p e below s _ _ _ (T100.setTop (mkF m 54 #[.val (.int p0), .val (.int p1), .val (.int (3 : Int32)), .val (.int (3 : Int32)), .val (.ref w1), .val (.ref w1), .val (.int (1 : Int32)), .val (.int (1 : Int32)), .val (.int (1 : Int32))] [(.int (1 : Int32))]))
      refine own_via (fun _ k => XS.iload X100.here hx rfl (hb hby at_54) rfl k) ?_
      show own_Go p e below s _ _ _ (T100.setTop (mkF m 56 #[.val (.int p0), .val (.int p1), .val (.int (3 : Int32)), .val (.int (3 : Int32)), .val (.ref w1), .val (.ref w1), .val (.int (1 : Int32)), .val (.int (1 : Int32)), .val (.int (1 : Int32))] [(.int (1 : Int32)), (.int (1 : Int32))]))
      refine own_via (fun _ k => XS.icmpNo X100.here hx rfl (hb hby at_56) rfl (teq (by decide : (1 : Int32) = (1 : Int32))).2 k) ?_
      show own_Go p e below s _ _ _ (T100.setTop (mkF m 59 #[.val (.int p0), .val (.int p1), .val (.int (3 : Int32)), .val (.int (3 : Int32)), .val (.ref w1), .val (.ref w1), .val (.int (1 : Int32)), .val (.int (1 : Int32)), .val (.int (1 : Int32))] []))
      refine own_via (fun _ k => XS.iconst X100.here hx rfl (hb hby at_59) k) ?_
      show own_Go p e below s _ _ _ (T100.setTop (mkF m 60 #[.val (.int p0), .val (.int p1), .val (.int (3 : Int32)), .val (.int (3 : Int32)), .val (.ref w1), .val (.ref w1), .val (.int (1 : Int32)), .val (.int (1 : Int32)), .val (.int (1 : Int32))] [(.int (1 : Int32))]))
      refine own_via (fun _ k => XS.goto X100.here hx rfl (pc0 := 60) (pc' := 64) rfl (hb hby at_60) (by decide) (by decide) k) ?_
      show own_Go p e below s _ _ _ (T100.setTop (mkF m 64 #[.val (.int p0), .val (.int p1), .val (.int (3 : Int32)), .val (.int (3 : Int32)), .val (.ref w1), .val (.ref w1), .val (.int (1 : Int32)), .val (.int (1 : Int32)), .val (.int (1 : Int32))] [(.int (1 : Int32))]))
      exact own_retZ X100 hx hlk (t := .boolean) Bd.returns (by simp) (hb hby at_64) (z' := (1 : Int32)) (by first | rfl | decide) ⟨rfl, (Fr.nil n0)⟩ (by decide) (by decide)
set_option maxRecDepth 65536 in
set_option maxHeartbeats 40000000 in
theorem comes_1 {Post : Tables → Env → Array Value → State → Outcome → State → Prop} (hpost : ∀ tb e args s v u, (limb_1_1.after args s (.returned v) u = true ∧ limb_1_2.after args s (.returned v) u = true ∧ True) → FrameEnd s (.returned v) u (Jvm.fieldLocs frame_1_writes args s ++ Jvm.arrayLocs frame_1_arrays args s ++ Jvm.staticLocs frame_1_statics s) 0 0 → Post tb e args s (.returned v) u) :
    ArmFor flags0 classFile x code maxLocals ret World_1 tables_1 room_1 Calls_1 rest_1 Pre_1 Post := by
  intro l hfl _ _ p e ha hc hk s m args below hf hA hF happ hP
  obtain ⟨hcalls, hrest, hpre⟩ := hP
  obtain ⟨-, -, -, hnamed, -, -, -, hat⟩ := (Spec.applies_iff hf).mp happ
  obtain ⟨hg, hn⟩ := and_e (Cond.before_iff.mp (show (Jvm.Cond.and given_1 narrow_1).before args s = true from hpre))
  obtain ⟨g0, hg0⟩ := and_e hg
  obtain ⟨g1, hg1⟩ := and_e hg0
  obtain ⟨u0, u1, rfl⟩ : ∃ u0 u1 : Value, args = #[u0, u1] := by
    have hs : args.size = 2 := by simpa [Cond.value, given_1] using g0
    obtain ⟨L⟩ := args
    match L, hs with
    | [u0, u1], _ => exact ⟨u0, u1, rfl⟩
  have hw := fun d (hd : d ∈ tables_1) => atoms_spec (ws := Jvm.Cond.code x code maxLocals ret :: tables_1) hat d (List.mem_cons_of_mem _ hd)
  obtain ⟨i0, ei0⟩ := is_v g1
  obtain rfl : u0 = (.int i0) := Option.some.inj ei0
  obtain ⟨i1, ei1⟩ := is_v hg1
  obtain rfl : u1 = (.int i1) := Option.some.inj ei1
  obtain ⟨t0, hn0⟩ := and_e hn
  obtain ⟨t1, hn1⟩ := and_e hn0
  obtain ⟨t2, hn2⟩ := and_e hn1
  obtain ⟨t3, hn3⟩ := and_e hn2
  obtain ⟨t4, hn4⟩ := and_e hn3
  obtain ⟨t5, hn5⟩ := and_e hn4
  obtain ⟨t6, hn6⟩ := and_e hn5
  obtain ⟨w0, v_w0⟩ := exa_v t0
  have E_w0 := Exa.start v_w0 t0
  have S_w0 := Sta.start v_w0 (Or.inr ⟨(hw _ (List.mem_of_getElem? (i := 5) rfl)), (hw _ (List.mem_of_getElem? (i := 6) rfl))⟩)
  obtain ⟨w1, v_w1⟩ := exa_v t1
  have E_w1 := Exa.start v_w1 t1
  have S_w1 := Sta.start v_w1 (Or.inr ⟨(hw _ (List.mem_of_getElem? (i := 5) rfl)), (hw _ (List.mem_of_getElem? (i := 8) rfl))⟩)
  obtain ⟨w2, v_w2⟩ := exa_v t4
  have E_w2 := Exa.start v_w2 t4
  have S_w2 := Sta.start v_w2 (Or.inr ⟨(hw _ (List.mem_of_getElem? (i := 5) rfl)), (hw _ (List.mem_of_getElem? (i := 19) rfl))⟩)
  obtain ⟨w3, v_w3⟩ := exa_v t5
  have E_w3 := Exa.start v_w3 t5
  have S_w3 := Sta.start v_w3 (Or.inr ⟨(hw _ (List.mem_of_getElem? (i := 5) rfl)), (hw _ (List.mem_of_getElem? (i := 21) rfl))⟩)
  have F_w0_ordinal := own_fld v_w0 t2
  have F_w1_ordinal := own_fld v_w1 t3
  have F_w2_ordinal := own_fld v_w2 t6
  have F_w3_ordinal := own_fld v_w3 hn6
  have n_w0_w1 : ¬ (w0 = w1) := Fld.ne F_w0_ordinal F_w1_ordinal (by decide)
  have n_w0_w2 : ¬ (w0 = w2) := Fld.ne F_w0_ordinal F_w2_ordinal (by decide)
  have n_w0_w3 : ¬ (w0 = w3) := Fld.ne F_w0_ordinal F_w3_ordinal (by decide)
  have n_w1_w2 : ¬ (w1 = w2) := Fld.ne F_w1_ordinal F_w2_ordinal (by decide)
  have n_w1_w3 : ¬ (w1 = w3) := Fld.ne F_w1_ordinal F_w3_ordinal (by decide)
  have n_w2_w3 : ¬ (w2 = w3) := Fld.ne F_w2_ordinal F_w3_ordinal (by decide)
  obtain ⟨n, o, h1, h2, h3, _, L, rfl, ⟨rfl, N⟩, hq⟩ := rm0 l s _ hw tables_1 i0 i1 w0 w1 w2 w3 s.heap s.heap.size (Nat.le_refl _) ⟨S_w0, S_w1, S_w2, S_w3, E_w0, E_w1, E_w2, E_w3, F_w0_ordinal, F_w1_ordinal, F_w2_ordinal, F_w3_ordinal, n_w0_w1, n_w0_w2, n_w0_w3, n_w1_w2, n_w1_w3, n_w2_w3⟩ p e ha hc hk s m _ below hf ((Spec.applies_iff_loose hf).mp happ).1 ⟨rfl, State.Warmed39.refl s, rfl⟩ trivial
  refine ⟨n, _, h1, h2, h3, hpost _ _ _ _ _ _ ⟨Cond.after_iff.mpr rfl, Cond.after_iff.mpr (eq_i res_at (Term.int_eval (1)) rfl), trivial⟩ ⟨hq.1, hq.2.1, (hq.2.2.sift fun y hy => Or.inr (N y hy)).mono (by decide) (by decide)⟩⟩
theorem main_1_1 : Claimed_1_1 := comes_1 fun _ _ _ _ _ _ h hF => ⟨h.1, hF⟩
theorem main_1_2 : Claimed_1_2 := comes_1 fun _ _ _ _ _ _ h hF => ⟨h.2.1, hF⟩
end Jvm.Pilot.@@N@@
namespace Jvm.Pilot.@@N@@
open Jvm Jvm.ClassFile Sem Op Lib Jvm.Free Jvm.Stand Jvm.Pilot.@@N@@.Jvm.D
/-! MADE BY PROGRAM (witnessworld.py) out of the Statement's table words and the real class files: 12 classes; the members and pool entries that the words name. The judged class is class 1, her method 3. -/
namespace start1
open Jvm.ClassFile
def u (s : String) : CpInfo := .utf8 (stringToUtf16 s)
/-- a pool by its gaps: so many unusable entries, then the entry; so many at the end -/
def gap : Nat → List CpInfo → List CpInfo
  | 0, r => r
  | n + 1, r => .unusable :: gap n r
def poolList (es : List (Nat × CpInfo)) (last : Nat) : List CpInfo := es.foldr (fun e r => gap e.1 (e.2 :: r)) (gap last [])
def pool (es : List (Nat × CpInfo)) (last : Nat) : Array CpInfo := ⟨poolList es last⟩
def fileOf (pool : Array CpInfo) (this : Nat) (attrs : Array Attribute := #[]) (ms : Array MethodInfo := #[]) (fl : Nat := 33) (sup : Nat := 0) (ifs : Array Nat := #[]) (fds : Array FieldInfo := #[]) : ClassFile where
  minorVersion := 0
  majorVersion := 65
  constantPool := pool
  accessFlags := fl
  thisClass := this
  superClass := sup
  interfaces := ifs
  fields := fds
  methods := ms
  attributes := attrs
def plain (name : String) (sup : Option ClassId) : Class where
  name := name
  kind := .ordinary
  loader := none
  accessFlags := 33
  super := sup
  interfaces := #[]
  cf := none
  fields := #[]
  methods := #[]
  instanceTypes := #[]
  staticTypes := #[]
  resolved := #[]
  callSites := []
  init := .initialized
  statics := none
  mirror := none

def pool0 : Array CpInfo := pool [(5, u "<init>"), (0, u "()V"), (1, .class_ 10), (1, u "java/lang/Object")] 113

def k0m0 : Method := { name := "<init>", desc := "()V", sig := { parameters := [], returnType := none }, accessFlags := 1, code := none }
/-- java/lang/Object -/
def k0 : Class := { plain "java/lang/Object" none with
  accessFlags := 33
  interfaces := #[]
  cf := some (fileOf pool0 8 #[] #[{ accessFlags := 1, nameIndex := 5, descriptorIndex := 6, attributes := #[] }] 33 0 #[] #[])
  fields := #[]
  methods := #[k0m0]
  instanceTypes := #[]
  staticTypes := #[]
  resolved := Array.replicate 124 none
  statics := none }

def pool1 : Array CpInfo := pool [(2, .class_ 4), (1, u "java/lang/Object"), (0, u "<init>"), (0, u "()V"), (0, .fieldref 8 9), (0, .class_ 10), (0, .nameAndType 11 12), (0, u "com/example/bericht/bericht/selector/ValueType"), (0, u "NUMBER"), (0, u "Lcom/example/bericht/bericht/selector/ValueType;"), (0, .fieldref 8 14), (0, .nameAndType 15 12), (0, u "STRING"), (0, .fieldref 8 17), (0, .nameAndType 18 12), (0, u "BOOLEAN"), (0, .fieldref 8 20), (0, .nameAndType 21 12), (0, u "ANY"), (0, .methodref 23 24), (0, .class_ 25), (0, .nameAndType 26 27), (0, u "com/example/bericht/bericht/selector/ValueTypeAdmitsPinLaw"), (0, u "pick"), (0, u "(I)Lcom/example/bericht/bericht/selector/ValueType;"), (0, .methodref 8 29), (0, .nameAndType 30 31), (0, u "admits"), (0, u "(Lcom/example/bericht/bericht/selector/ValueType;)Z"), (0, .methodref 23 33), (0, .nameAndType 34 35), (0, u "expected"), (0, u "(II)Z"), (3, u "law")] 2

def k1m0 : Method := { name := "<init>", desc := "()V", sig := { parameters := [], returnType := none }, accessFlags := 1, code := none }
def k1c1 : Code := { maxStack := 2, maxLocals := 1, code := method_2_code, exceptionTable := #[], attributes := #[] }
def k1m1 : Method := { name := "pick", desc := "(I)Lcom/example/bericht/bericht/selector/ValueType;", sig := { parameters := [.int], returnType := some (.object "com/example/bericht/bericht/selector/ValueType") }, accessFlags := 10, code := some k1c1 }
def k1c2 : Code := { maxStack := 2, maxLocals := 2, code := method_3_code, exceptionTable := #[], attributes := #[] }
def k1m2 : Method := { name := "expected", desc := "(II)Z", sig := { parameters := [.int, .int], returnType := some .boolean }, accessFlags := 10, code := some k1c2 }
def k1c3 : Code := { maxStack := 2, maxLocals := 9, code := code, exceptionTable := #[], attributes := #[] }
def k1m3 : Method := { name := "law", desc := "(II)Z", sig := { parameters := [.int, .int], returnType := some .boolean }, accessFlags := 9, code := some k1c3 }
/-- com/example/bericht/bericht/selector/ValueTypeAdmitsPinLaw -/
def k1 : Class := { plain "com/example/bericht/bericht/selector/ValueTypeAdmitsPinLaw" (some 0) with
  accessFlags := 49
  interfaces := #[]
  cf := some (fileOf pool1 23 #[] #[{ accessFlags := 1, nameIndex := 5, descriptorIndex := 6, attributes := #[] }, { accessFlags := 10, nameIndex := 26, descriptorIndex := 27, attributes := #[] }, { accessFlags := 10, nameIndex := 34, descriptorIndex := 35, attributes := #[] }, { accessFlags := 9, nameIndex := 39, descriptorIndex := 35, attributes := #[] }] 49 2 #[] #[])
  fields := #[]
  methods := #[k1m0, k1m1, k1m2, k1m3]
  instanceTypes := #[]
  staticTypes := #[]
  resolved := Array.replicate 42 none
  statics := none }

def pool2 : Array CpInfo := pool [(1, .class_ 2), (0, u "java/lang/constant/Constable"), (0, .class_ 4), (0, u "java/lang/Object")] 6

/-- java/lang/constant/Constable -/
def k2 : Class := { plain "java/lang/constant/Constable" (some 0) with
  accessFlags := 1537
  interfaces := #[]
  cf := some (fileOf pool2 1 #[] #[] 1537 3 #[] #[])
  fields := #[]
  methods := #[]
  instanceTypes := #[]
  staticTypes := #[]
  resolved := Array.replicate 11 none
  statics := none }

def pool3 : Array CpInfo := pool [(1, .class_ 2), (0, u "java/lang/Comparable"), (0, .class_ 4), (0, u "java/lang/Object")] 7

/-- java/lang/Comparable -/
def k3 : Class := { plain "java/lang/Comparable" (some 0) with
  accessFlags := 1537
  interfaces := #[]
  cf := some (fileOf pool3 1 #[] #[] 1537 3 #[] #[])
  fields := #[]
  methods := #[]
  instanceTypes := #[]
  staticTypes := #[]
  resolved := Array.replicate 12 none
  statics := none }

def pool4 : Array CpInfo := pool [(1, .class_ 2), (0, u "java/io/Serializable"), (0, .class_ 4), (0, u "java/lang/Object")] 2

/-- java/io/Serializable -/
def k4 : Class := { plain "java/io/Serializable" (some 0) with
  accessFlags := 1537
  interfaces := #[]
  cf := some (fileOf pool4 1 #[] #[] 1537 3 #[] #[])
  fields := #[]
  methods := #[]
  instanceTypes := #[]
  staticTypes := #[]
  resolved := Array.replicate 7 none
  statics := none }

def pool5 : Array CpInfo := pool [(2, .class_ 4), (1, u "java/lang/Enum"), (0, u "name"), (0, u "Ljava/lang/String;"), (2, u "ordinal"), (0, u "I"), (1, .class_ 14), (1, u "java/lang/Object"), (4, u "hash"), (86, .class_ 108), (1, u "java/lang/Enum$EnumDesc"), (2, .class_ 112), (0, u "java/lang/constant/Constable"), (0, .class_ 114), (0, u "java/lang/Comparable"), (0, .class_ 116), (0, u "java/io/Serializable")] 87

/-- java/lang/Enum -/
def k5 : Class := { plain "java/lang/Enum" (some 0) with
  accessFlags := 1057
  interfaces := #[2, 3, 4]
  cf := some (fileOf pool5 2 #[.nestMembers #[106]] #[] 1057 12 #[111, 113, 115] #[{ accessFlags := 18, nameIndex := 5, descriptorIndex := 6, attributes := #[] }, { accessFlags := 18, nameIndex := 9, descriptorIndex := 10, attributes := #[] }, { accessFlags := 2, nameIndex := 19, descriptorIndex := 10, attributes := #[] }])
  fields := #[{ name := "name", type := (.object "java/lang/String"), accessFlags := 18, slot := 0, constantValue := 0 }, { name := "ordinal", type := .int, accessFlags := 18, slot := 1, constantValue := 0 }, { name := "hash", type := .int, accessFlags := 2, slot := 2, constantValue := 0 }]
  methods := #[]
  instanceTypes := #[(.object "java/lang/String"), .int, .int]
  staticTypes := #[]
  resolved := Array.replicate 204 none
  statics := none }

def pool6 : Array CpInfo := pool [(1, .class_ 2), (0, u "com/example/bericht/bericht/selector/ValueType"), (2, u "NUMBER"), (0, u "Lcom/example/bericht/bericht/selector/ValueType;"), (2, u "STRING"), (2, u "BOOLEAN"), (0, .fieldref 1 14), (0, .nameAndType 15 6), (0, u "ANY"), (2, u "$VALUES"), (0, u "[Lcom/example/bericht/bericht/selector/ValueType;"), (6, .class_ 28), (1, u "java/lang/Enum"), (8, u "description"), (0, u "Ljava/lang/String;"), (38, u "admits"), (0, u "(Lcom/example/bericht/bericht/selector/ValueType;)Z")] 6

def k6c0 : Code := { maxStack := 2, maxLocals := 2, code := prog_94_method_5_code, exceptionTable := #[], attributes := #[] }
def k6m0 : Method := { name := "admits", desc := "(Lcom/example/bericht/bericht/selector/ValueType;)Z", sig := { parameters := [(.object "com/example/bericht/bericht/selector/ValueType")], returnType := some .boolean }, accessFlags := 0, code := some k6c0 }
/-- com/example/bericht/bericht/selector/ValueType -/
def k6 : Class := { plain "com/example/bericht/bericht/selector/ValueType" (some 5) with
  accessFlags := 16432
  interfaces := #[]
  cf := some (fileOf pool6 1 #[] #[{ accessFlags := 0, nameIndex := 77, descriptorIndex := 78, attributes := #[] }] 16432 26 #[] #[{ accessFlags := 16409, nameIndex := 5, descriptorIndex := 6, attributes := #[] }, { accessFlags := 16409, nameIndex := 9, descriptorIndex := 6, attributes := #[] }, { accessFlags := 16409, nameIndex := 12, descriptorIndex := 6, attributes := #[] }, { accessFlags := 16409, nameIndex := 15, descriptorIndex := 6, attributes := #[] }, { accessFlags := 18, nameIndex := 37, descriptorIndex := 38, attributes := #[] }, { accessFlags := 4122, nameIndex := 18, descriptorIndex := 19, attributes := #[] }])
  fields := #[{ name := "NUMBER", type := (.object "com/example/bericht/bericht/selector/ValueType"), accessFlags := 16409, slot := 0, constantValue := 0 }, { name := "STRING", type := (.object "com/example/bericht/bericht/selector/ValueType"), accessFlags := 16409, slot := 1, constantValue := 0 }, { name := "BOOLEAN", type := (.object "com/example/bericht/bericht/selector/ValueType"), accessFlags := 16409, slot := 2, constantValue := 0 }, { name := "ANY", type := (.object "com/example/bericht/bericht/selector/ValueType"), accessFlags := 16409, slot := 3, constantValue := 0 }, { name := "description", type := (.object "java/lang/String"), accessFlags := 18, slot := 3, constantValue := 0 }, { name := "$VALUES", type := (.array (.object "com/example/bericht/bericht/selector/ValueType")), accessFlags := 4122, slot := 4, constantValue := 0 }]
  methods := #[k6m0]
  instanceTypes := #[(.object "java/lang/String"), .int, .int, (.object "java/lang/String")]
  staticTypes := #[(.object "com/example/bericht/bericht/selector/ValueType"), (.object "com/example/bericht/bericht/selector/ValueType"), (.object "com/example/bericht/bericht/selector/ValueType"), (.object "com/example/bericht/bericht/selector/ValueType"), (.array (.object "com/example/bericht/bericht/selector/ValueType"))]
  resolved := Array.replicate 85 none
  statics := some 0 }

def pool7 : Array CpInfo := pool [(1, u "java/lang/Cloneable"), (0, .class_ 1), (0, u "java/lang/Object"), (0, .class_ 3)] 3

/-- java/lang/Cloneable -/
def k7 : Class := { plain "java/lang/Cloneable" (some 0) with
  accessFlags := 1537
  interfaces := #[]
  cf := some (fileOf pool7 2 #[] #[] 1537 4 #[] #[])
  fields := #[]
  methods := #[]
  instanceTypes := #[]
  staticTypes := #[]
  resolved := Array.replicate 8 none
  statics := none }

/-- the primitive byte -/
def k8 : Class := { plain "byte" none with kind := .primitive 'B', accessFlags := 0x411 }
/-- [B -/
def k9 : Class := { plain "[B" (some 0) with kind := .array 8 .byte, interfaces := #[7, 4], accessFlags := 1041 }

/-- the primitive int -/
def k10 : Class := { plain "int" none with kind := .primitive 'I', accessFlags := 0x411 }
/-- [I -/
def k11 : Class := { plain "[I" (some 0) with kind := .array 10 .int, interfaces := #[7, 4], accessFlags := 1041 }

def heap : Heap := #[{ cls := 6, slots := #[.ref 1, .ref 4, .ref 3, .ref 2, .null], vm := .statics 6 },
  { cls := 6, slots := #[.null, .int 0, .int 0, .null], vm := .none },
  { cls := 6, slots := #[.null, .int 3, .int 0, .null], vm := .none },
  { cls := 6, slots := #[.null, .int 2, .int 0, .null], vm := .none },
  { cls := 6, slots := #[.null, .int 1, .int 0, .null], vm := .none }]
def classes : Array Class := #[k0, k1, k2, k3, k4, k5, k6, k7, k8, k9, k10, k11]
def interned : List (Array UInt16 × Addr) := []
def slotsUsed : Nat := 21
def theMethod : MethodId := ⟨1, 3⟩
def args0 : Array Value := #[.int 5, .int 5]
def aboutOver (below : List Frame) : State where
  vm := { classes := classes, interned := interned.toArray }
  heap := heap
  slotsUsed := slotsUsed
  threads := #[{ frames := .invoking theMethod args0 :: below }]
def below0 : List Frame := [.native { method := ⟨0, 0⟩, args := #[] }]
def about1 : State := aboutOver below0
def p0 : Program := .bare "" "" ""
def e0 : Env := launch0.env 0 0 0
theorem w_frames : about1.frames = Frame.invoking theMethod args0 :: below0 := rfl
set_option maxRecDepth 65536 in
theorem w_args : argsFit about1.vm theMethod args0 = true := by decide +kernel
set_option maxRecDepth 65536 in
theorem w_heap : heapFits about1 = true := by decide +kernel
set_option maxRecDepth 65536 in
theorem w_runnable : about1.curStatus? = some .runnable := by decide +kernel
set_option maxRecDepth 65536 in
theorem w_alone : about1.alone = true := by decide +kernel
set_option maxRecDepth 65536 in
theorem w_named : about1.methodNamed? x = some theMethod := by decide +kernel
set_option maxRecDepth 65536 in
theorem w_hears : about1.hears theMethod below0 = true := by decide +kernel
set_option maxRecDepth 65536 in
theorem w_ripe : about1.ripe theMethod args0 below0 = true := by decide +kernel
theorem w_running : about1.status = .running := rfl
set_option maxRecDepth 65536 in
theorem w_room : about1.hasRoom e0.platform room_1 = true :=
  launch0.hasRoom_least _ room_1 (by decide +kernel) (by decide +kernel) (by decide +kernel) (by decide +kernel) (by decide +kernel) (by decide +kernel)
theorem allAtoms_all (ts : List Jvm.Cond) (a : Array Jvm.Value) (st : Jvm.State) : (allAtoms ts).before a st = ts.all (fun c => c.before a st) := by
  induction ts with
  | nil => rfl
  | cons c t ih =>
    show (Jvm.Cond.and c (allAtoms t)).before a st = _
    rw [Jvm.Cond.before_and, ih, List.all_cons]
def words1 : List Jvm.Cond := Jvm.Cond.code x code maxLocals ret :: tables_1
/-- a 'code' word, met by the world's own term for the bytes: nothing is compared byte by byte -/
theorem code_word {y : MethodName} {bytes : ByteArray} {mx : Nat} {rt : Option FieldType} {a : Array Value} {s : State} {m : MethodId} {meth : Method} {c : Code} (h1 : s.methodNamed? y = some m) (h2 : s.vm.method? m = some meth) (h3 : meth.code = some c) (h4 : c.code = bytes)
    (h5 : (c.maxLocals == mx && c.exceptionTable.isEmpty && decide (c.maxStack ≤ mostOperands) && decide (meth.sig.returnType = rt) && !meth.locks && decide (parseMethodDescriptor y.desc = some meth.sig)) = true) : (Jvm.Cond.code y bytes mx rt).before a s = true := by
  simp only [Bool.and_eq_true, beq_iff_eq, Bool.not_eq_true', decide_eq_true_eq] at h5
  obtain ⟨⟨⟨⟨⟨g1, g2⟩, g3⟩, g4⟩, g5⟩, g6⟩ := h5
  simp [Cond.before, Cond.holds, Cond.value, h1, h2, h3, h4, g1, g2, g3, g4, g5, g6]
def isCode : Jvm.Cond → Bool
  | .code _ _ _ _ => true
  | _ => false
theorem all_split {L : List Jvm.Cond} {P : Jvm.Cond → Bool} (h1 : L.all (fun c => isCode c || P c) = true) (h2 : ∀ c ∈ L.filter isCode, P c = true) : L.all P = true := by
  refine List.all_eq_true.mpr fun c hc => ?_
  have h := List.all_eq_true.mp h1 c hc
  rcases Bool.eq_false_or_eq_true (isCode c) with hi | hi
  · exact h2 c (List.mem_filter.mpr ⟨hc, hi⟩)
  · simpa [hi] using h
set_option maxRecDepth 65536 in
theorem w_c0 : (Jvm.Cond.code x code maxLocals ret).before args0 about1 = true := code_word (m := ⟨1, 3⟩) (meth := k1m3) (c := k1c3) (by decide +kernel) rfl rfl rfl (by decide +kernel)
set_option maxRecDepth 65536 in
theorem w_c1 : (Jvm.Cond.code ({ cls := "com/example/bericht/bericht/selector/ValueTypeAdmitsPinLaw", name := "pick", desc := "(I)Lcom/example/bericht/bericht/selector/ValueType;" } : Jvm.MethodName) method_2_code (1 : Nat) (Option.some (Jvm.ClassFile.FieldType.object "com/example/bericht/bericht/selector/ValueType"))).before args0 about1 = true := code_word (m := ⟨1, 1⟩) (meth := k1m1) (c := k1c1) (by decide +kernel) rfl rfl rfl (by decide +kernel)
set_option maxRecDepth 65536 in
theorem w_c2 : (Jvm.Cond.code ({ cls := "com/example/bericht/bericht/selector/ValueType", name := "admits", desc := "(Lcom/example/bericht/bericht/selector/ValueType;)Z" } : Jvm.MethodName) prog_94_method_5_code (2 : Nat) (Option.some Jvm.ClassFile.FieldType.boolean)).before args0 about1 = true := code_word (m := ⟨6, 0⟩) (meth := k6m0) (c := k6c0) (by decide +kernel) rfl rfl rfl (by decide +kernel)
set_option maxRecDepth 65536 in
theorem w_c3 : (Jvm.Cond.code ({ cls := "com/example/bericht/bericht/selector/ValueTypeAdmitsPinLaw", name := "expected", desc := "(II)Z" } : Jvm.MethodName) method_3_code (2 : Nat) (Option.some Jvm.ClassFile.FieldType.boolean)).before args0 about1 = true := code_word (m := ⟨1, 2⟩) (meth := k1m2) (c := k1c2) (by decide +kernel) rfl rfl rfl (by decide +kernel)
def codes1 : List Jvm.Cond := [Jvm.Cond.code x code maxLocals ret, Jvm.Cond.code ({ cls := "com/example/bericht/bericht/selector/ValueTypeAdmitsPinLaw", name := "pick", desc := "(I)Lcom/example/bericht/bericht/selector/ValueType;" } : Jvm.MethodName) method_2_code (1 : Nat) (Option.some (Jvm.ClassFile.FieldType.object "com/example/bericht/bericht/selector/ValueType")), Jvm.Cond.code ({ cls := "com/example/bericht/bericht/selector/ValueType", name := "admits", desc := "(Lcom/example/bericht/bericht/selector/ValueType;)Z" } : Jvm.MethodName) prog_94_method_5_code (2 : Nat) (Option.some Jvm.ClassFile.FieldType.boolean), Jvm.Cond.code ({ cls := "com/example/bericht/bericht/selector/ValueTypeAdmitsPinLaw", name := "expected", desc := "(II)Z" } : Jvm.MethodName) method_3_code (2 : Nat) (Option.some Jvm.ClassFile.FieldType.boolean)]
set_option maxRecDepth 65536 in
theorem codes_eq : words1.filter isCode = codes1 := rfl
theorem w_codes : ∀ c ∈ words1.filter isCode, c.before args0 about1 = true := by
  rw [codes_eq]
  intro c hc
  simp only [codes1, List.mem_cons, List.not_mem_nil, or_false] at hc
  rcases hc with rfl | rfl | rfl | rfl
  · exact w_c0
  · exact w_c1
  · exact w_c2
  · exact w_c3
set_option maxRecDepth 65536 in
theorem w_t1 : words1.all (fun c => isCode c || c.before args0 about1) = true := by decide +kernel
theorem w_tables : (allAtoms (Jvm.Cond.code x code maxLocals ret :: tables_1)).before args0 about1 = true := by
  rw [allAtoms_all]
  show words1.all (fun c => c.before args0 about1) = true
  refine all_split ?_ w_codes
  rw [w_t1]
set_option maxRecDepth 65536 in
theorem w_case : (Jvm.Cond.and given_1 narrow_1).before args0 about1 = true := by decide +kernel
theorem w_applies : (headSpec (Jvm.Cond.code x code maxLocals ret :: tables_1) room_1).applies x e0.platform about1 = true :=
  (Spec.applies_iff w_frames).mpr ⟨w_running, w_runnable, w_alone, w_named, w_hears, w_ripe, w_room, w_tables⟩
theorem atStart : AtStart classFile x code maxLocals ret World_1 tables_1 room_1 Calls_1 rest_1 Pre_1 launch0 p0 e0 about1 theMethod args0 below0 :=
  ⟨lists_1, trivial, launch0.admits_env _ _ _, launch0.least_env, fairChoices_fair.cas, fairChoices_fair.clock, w_frames, w_args, w_heap, w_applies, trivial, trivial, w_case⟩
end start1
theorem witness_1 : WitnessClaimed_1 := ⟨start1.p0, start1.e0, start1.about1, start1.theMethod, start1.args0, start1.below0, start1.atStart⟩
end Jvm.Pilot.@@N@@
