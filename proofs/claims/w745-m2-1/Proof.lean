import JvmDerived
import JvmDerived.Pilot.@@N@@Statement
import JvmDerived.Pilot.@@N@@Code
set_option linter.unusedVariables false
set_option linter.unusedSimpArgs false
namespace Jvm.Pilot.@@N@@
open Jvm Jvm.ClassFile Sem Op Lib Jvm.Free Jvm.Stand Jvm.LawKit Jvm.RoadKit Bundle Jvm.Pilot.@@N@@.Jvm.D
def own_Go (p : Program) (e : Env) (below : List Frame) (s : State) (Q : Option Value → Heap → List Loc → Prop) (kc ks : Nat) (A : State) : Prop :=
  ∃ s₂ o, Steps p.tables e below A s₂ ∧ s₂.status = .running ∧ Ended s₂ below o ∧ ∃ v L, o = .returned v ∧ Q v s₂.heap L ∧ FrameEnd s o s₂ L kc ks
section OwnLayer
variable {p : Program} {l : Launch} {e : Env} {R : Room} {s : State} {m : MethodId} {args : Array Value} {below : List Frame} {meth : Method} {c : Code} {T : State} {locs : List Loc} {cells slots : Nat}
variable {Q : Option Value → Heap → List Loc → Prop} {kc ks : Nat} {A B : State}
theorem own_via (h : ∀ t, Steps p.tables e below B t → Steps p.tables e below A t) (g : own_Go p e below s Q kc ks B) : own_Go p e below s Q kc ks A := by
  obtain ⟨t, o, h1, r⟩ := g
  exact ⟨t, o, h _ h1, r⟩
theorem own_tr (h : Steps p.tables e below A B) (g : own_Go p e below s Q kc ks B) : own_Go p e below s Q kc ks A := by
  obtain ⟨t, o, h1, r⟩ := g
  exact ⟨t, o, h.trans h1, r⟩
theorem own_end (X : Stand p l e R s m args below meth c T locs cells slots) (hlk : meth.locks = false) {v : Option Value} (hv : meth.sig.returnType = none → v = none) {A : State}
    (hstep : ∀ fs, (∀ (f : JFrame) (acts : List Action), f.method = m → f.locked = none → f.entered = [] → (doReturn e (T.setTop f) acts v).1 = T.setFrames fs) → Steps p.tables e below A (T.setFrames fs))
    (hQ : Q v T.heap locs) (hc : cells ≤ kc) (hs : slots ≤ ks) : own_Go p e below s Q kc ks A := by
  obtain ⟨fs, hr, hrun, hended, hW, hsame⟩ := X.leave (v := v) hv hlk
  exact ⟨_, _, hstep fs hr, hrun, hended, _, _, rfl, hQ, ⟨_, rfl⟩, hW, hsame.mono hc hs⟩
theorem own_retZ (X : Stand p l e R s m args below meth c T locs cells slots) (hx : p.tables.exec = Jvm.exec) (hlk : meth.locks = false) {pc : Nat} {Ls : Array Slot} {z z' : Int32} {t : FieldType} {rest : List Value} (hret : meth.sig.returnType = some t) (ht : t = .boolean ∨ t = .byte ∨ t = .char ∨ t = .short)
    (hd : decode c.code pc = .ok (.ireturn, 1)) (hz : nar t z = z') (hQ : Q (some (.int z')) T.heap locs) (hc : cells ≤ kc) (hs : slots ≤ ks) : own_Go p e below s Q kc ks (T.setTop (mkF m pc Ls (.int z :: rest))) := by
  subst hz
  exact own_end X hlk (fun h => by rw [hret] at h; cases h) (fun fs hr => retN X hx hret ht hd hr) hQ hc hs
theorem own_retO (X : Stand p l e R s m args below meth c T locs cells slots) (hx : p.tables.exec = Jvm.exec) (hlk : meth.locks = false) {pc : Nat} {Ls : Array Slot} {w : Value} {t : FieldType} {i : Instr} {rest : List Value} (hret : meth.sig.returnType = some t) (hn : narrow t w = w)
    (hi : (i = .ireturn ∧ (t = .int ∨ t = .boolean ∨ t = .byte ∨ t = .char ∨ t = .short) ∧ ∃ z, w = .int z) ∨ (i = .lreturn ∧ t = .long ∧ ∃ z, w = .long z) ∨ (i = .dreturn ∧ t = .double ∧ ∃ z, w = .double z) ∨ (i = .freturn ∧ t = .float ∧ ∃ z, w = .float z) ∨ (i = .areturn ∧ t.isReference = true ∧ w.isRef = true))
    (hd : decode c.code pc = .ok (i, 1)) (hQ : Q (some w) T.heap locs) (hc : cells ≤ kc) (hs : slots ≤ ks) : own_Go p e below s Q kc ks (T.setTop (mkF m pc Ls (w :: rest))) :=
  own_end X hlk (fun h => by rw [hret] at h; cases h) (fun fs hr => retOut X hx hret hn hi hd hr) hQ hc hs
theorem own_retI (X : Stand p l e R s m args below meth c T locs cells slots) (hx : p.tables.exec = Jvm.exec) (hlk : meth.locks = false) {pc : Nat} {Ls : Array Slot} {z : Int32} {rest : List Value} (hret : meth.sig.returnType = some .int)
    (hd : decode c.code pc = .ok (.ireturn, 1)) (hQ : Q (some (.int z)) T.heap locs) (hc : cells ≤ kc) (hs : slots ≤ ks) : own_Go p e below s Q kc ks (T.setTop (mkF m pc Ls (.int z :: rest))) :=
  own_retO X hx hlk hret rfl (Or.inl ⟨rfl, Or.inl rfl, _, rfl⟩) hd hQ hc hs
theorem own_retJ (X : Stand p l e R s m args below meth c T locs cells slots) (hx : p.tables.exec = Jvm.exec) (hlk : meth.locks = false) {pc : Nat} {Ls : Array Slot} {z : Int64} {rest : List Value} (hret : meth.sig.returnType = some .long)
    (hd : decode c.code pc = .ok (.lreturn, 1)) (hQ : Q (some (.long z)) T.heap locs) (hc : cells ≤ kc) (hs : slots ≤ ks) : own_Go p e below s Q kc ks (T.setTop (mkF m pc Ls (.long z :: rest))) :=
  own_retO X hx hlk hret rfl (Or.inr (Or.inl ⟨rfl, rfl, _, rfl⟩)) hd hQ hc hs
theorem own_retR (X : Stand p l e R s m args below meth c T locs cells slots) (hx : p.tables.exec = Jvm.exec) (hlk : meth.locks = false) {pc : Nat} {Ls : Array Slot} {w : Value} {t : FieldType} {rest : List Value} (hret : meth.sig.returnType = some t) (ht : t.isReference = true) (hw : w.isRef = true)
    (hd : decode c.code pc = .ok (.areturn, 1)) (hQ : Q (some w) T.heap locs) (hc : cells ≤ kc) (hs : slots ≤ ks) : own_Go p e below s Q kc ks (T.setTop (mkF m pc Ls (w :: rest))) :=
  own_retO X hx hlk hret (by cases t <;> first | (cases ht; done) | rfl) (Or.inr (Or.inr (Or.inr (Or.inr ⟨rfl, ht, hw⟩)))) hd hQ hc hs
theorem own_retV (X : Stand p l e R s m args below meth c T locs cells slots) (hx : p.tables.exec = Jvm.exec) (hlk : meth.locks = false) {pc : Nat} {Ls : Array Slot} (hret : meth.sig.returnType = none)
    (hd : decode c.code pc = .ok (.return_, 1)) (hQ : Q none T.heap locs) (hc : cells ≤ kc) (hs : slots ≤ ks) : own_Go p e below s Q kc ks (T.setTop (mkF m pc Ls [])) :=
  own_end X hlk (fun _ => rfl) (fun fs hr => X.returnOut hx hret hd hr) hQ hc hs
end OwnLayer
theorem own_eqv {args : Array Value} {Z : State} {t : Term} {k : Int32} (h : (Jvm.Cond.eq t (Term.int k)).value args Z none Z [] = some true) : t.eval args Z none [] Z = some (.int k) := by
  simp only [Jvm.Cond.value, Term.eval] at h
  cases ht : t.eval args Z none [] Z with
  | none => simp [ht] at h
  | some x => cases x <;> simp [ht] at h ⊢; exact h
theorem own_eqvL {args : Array Value} {Z : State} {t : Term} {k : Int64} (h : (Jvm.Cond.eq t (Term.long k)).value args Z none Z [] = some true) : t.eval args Z none [] Z = some (.long k) := by
  simp only [Jvm.Cond.value, Term.eval] at h
  cases ht : t.eval args Z none [] Z with
  | none => simp [ht] at h
  | some x => cases x <;> simp [ht] at h ⊢; exact h
theorem own_fld {args : Array Value} {Z : State} {t : Term} {C n d : String} {a : Addr} {k : Int32} (ev : t.eval args Z none [] Z = some (.ref a)) (h : (Jvm.Cond.eq (Term.field t C n d) (Term.int k)).value args Z none Z [] = some true) : Fld Z Z.heap a C n d (.int k) :=
  Fld.start ((fld_at ev).symm.trans (own_eqv h))
theorem own_fldL {args : Array Value} {Z : State} {t : Term} {C n d : String} {a : Addr} {k : Int64} (ev : t.eval args Z none [] Z = some (.ref a)) (h : (Jvm.Cond.eq (Term.field t C n d) (Term.long k)).value args Z none Z [] = some true) : Fld Z Z.heap a C n d (.long k) :=
  Fld.start ((fld_at ev).symm.trans (own_eqvL h))
theorem own_mod (x : Int32) (n : Int32) (k : Int) (hn : n.toInt = k) (hk : 0 < k) : 0 ≤ ((x &&& 2147483647) % n).toInt ∧ ((x &&& 2147483647) % n).toInt < k := by
  have h := (c_and x 2147483647 (by decide)).1
  rw [Int32.toInt_mod, hn, Int.tmod_eq_emod_of_nonneg h]
  exact ⟨Int.emod_nonneg _ (by omega), Int.emod_lt_of_pos _ hk⟩
theorem own_z {x y : Int32} (h : x.toInt = y.toInt) : x = y := Int32.toInt_inj.mp h
theorem own_mod3 (x : Int32) : (x &&& 2147483647) % 3 = 0 ∨ (x &&& 2147483647) % 3 = 1 ∨ (x &&& 2147483647) % 3 = 2 := by
  have h := own_mod x 3 3 rfl (by decide)
  simp only [← Int32.toInt_inj, show (0 : Int32).toInt = 0 from rfl, show (1 : Int32).toInt = 1 from rfl, show (2 : Int32).toInt = 2 from rfl]
  omega
theorem own_mod5 (x : Int32) : (x &&& 2147483647) % 5 = 0 ∨ (x &&& 2147483647) % 5 = 1 ∨ (x &&& 2147483647) % 5 = 2 ∨ (x &&& 2147483647) % 5 = 3 ∨ (x &&& 2147483647) % 5 = 4 := by
  have h := own_mod x 5 5 rfl (by decide)
  simp only [← Int32.toInt_inj, show (0 : Int32).toInt = 0 from rfl, show (1 : Int32).toInt = 1 from rfl, show (2 : Int32).toInt = 2 from rfl, show (3 : Int32).toInt = 3 from rfl, show (4 : Int32).toInt = 4 from rfl]
  omega
theorem own_mod6 (x : Int32) : (x &&& 2147483647) % 6 = 0 ∨ (x &&& 2147483647) % 6 = 1 ∨ (x &&& 2147483647) % 6 = 2 ∨ (x &&& 2147483647) % 6 = 3 ∨ (x &&& 2147483647) % 6 = 4 ∨ (x &&& 2147483647) % 6 = 5 := by
  have h := own_mod x 6 6 rfl (by decide)
  simp only [← Int32.toInt_inj, show (0 : Int32).toInt = 0 from rfl, show (1 : Int32).toInt = 1 from rfl, show (2 : Int32).toInt = 2 from rfl, show (3 : Int32).toInt = 3 from rfl, show (4 : Int32).toInt = 4 from rfl, show (5 : Int32).toInt = 5 from rfl]
  omega
theorem own_and1 (x : Int32) : x &&& 1 = 0 ∨ x &&& 1 = 1 := by
  have h := c_and x 1 (by decide)
  simp only [← Int32.toInt_inj, show (0 : Int32).toInt = 0 from rfl, show (1 : Int32).toInt = 1 from rfl] at *
  omega
theorem own_and3 (x : Int32) : x &&& 3 = 0 ∨ x &&& 3 = 1 ∨ x &&& 3 = 2 ∨ x &&& 3 = 3 := by
  have h := c_and x 3 (by decide)
  simp only [← Int32.toInt_inj, show (0 : Int32).toInt = 0 from rfl, show (1 : Int32).toInt = 1 from rfl, show (2 : Int32).toInt = 2 from rfl, show (3 : Int32).toInt = 3 from rfl] at *
  omega
def own_K (Z : State) (h0 : Heap) (w0 : Addr) (w1 : Addr) (w2 : Addr) (w3 : Addr) (w4 : Addr) (w5 : Addr) : Prop :=
  Sta Z h0 "com/example/bericht/bericht/selector/Comparison$Operator" "EQUAL" "Lcom/example/bericht/bericht/selector/Comparison$Operator;" (.ref w0) ∧
  Sta Z h0 "com/example/bericht/bericht/selector/Comparison$Operator" "GREATER" "Lcom/example/bericht/bericht/selector/Comparison$Operator;" (.ref w1) ∧
  Sta Z h0 "com/example/bericht/bericht/selector/Comparison$Operator" "NOT_EQUAL" "Lcom/example/bericht/bericht/selector/Comparison$Operator;" (.ref w2) ∧
  Sta Z h0 "com/example/bericht/bericht/selector/Comparison$Operator" "LESS" "Lcom/example/bericht/bericht/selector/Comparison$Operator;" (.ref w3) ∧
  Sta Z h0 "com/example/bericht/bericht/selector/Comparison$Operator" "LESS_OR_EQUAL" "Lcom/example/bericht/bericht/selector/Comparison$Operator;" (.ref w4) ∧
  Sta Z h0 "com/example/bericht/bericht/selector/Comparison$Operator" "GREATER_OR_EQUAL" "Lcom/example/bericht/bericht/selector/Comparison$Operator;" (.ref w5) ∧
  Exa Z h0 w0 "com/example/bericht/bericht/selector/Comparison$Operator" ∧
  Exa Z h0 w1 "com/example/bericht/bericht/selector/Comparison$Operator" ∧
  Exa Z h0 w2 "com/example/bericht/bericht/selector/Comparison$Operator" ∧
  Exa Z h0 w3 "com/example/bericht/bericht/selector/Comparison$Operator" ∧
  Exa Z h0 w4 "com/example/bericht/bericht/selector/Comparison$Operator" ∧
  Exa Z h0 w5 "com/example/bericht/bericht/selector/Comparison$Operator" ∧
  Fld Z h0 w0 "java/lang/Enum" "ordinal" "I" (.int (0 : Int32)) ∧
  Fld Z h0 w1 "java/lang/Enum" "ordinal" "I" (.int (4 : Int32)) ∧
  Fld Z h0 w2 "java/lang/Enum" "ordinal" "I" (.int (1 : Int32)) ∧
  Fld Z h0 w3 "java/lang/Enum" "ordinal" "I" (.int (2 : Int32)) ∧
  Fld Z h0 w4 "java/lang/Enum" "ordinal" "I" (.int (3 : Int32)) ∧
  Fld Z h0 w5 "java/lang/Enum" "ordinal" "I" (.int (5 : Int32)) ∧
  ¬ (w0 = w1) ∧
  ¬ (w0 = w2) ∧
  ¬ (w0 = w3) ∧
  ¬ (w0 = w4) ∧
  ¬ (w0 = w5) ∧
  ¬ (w1 = w2) ∧
  ¬ (w1 = w3) ∧
  ¬ (w1 = w4) ∧
  ¬ (w1 = w5) ∧
  ¬ (w2 = w3) ∧
  ¬ (w2 = w4) ∧
  ¬ (w2 = w5) ∧
  ¬ (w3 = w4) ∧
  ¬ (w3 = w5) ∧
  ¬ (w4 = w5)
theorem pn0 : plainName "com/example/bericht/bericht/selector/OperatorIsEqualityPinLaw" = true := by first | (simp [plainName, overriddenIn]; done) | decide +kernel
theorem pn1 : plainName "com/example/bericht/bericht/selector/Comparison$Operator" = true := by first | (simp [plainName, overriddenIn]; done) | decide +kernel
theorem pn2 : plainName "java/lang/Enum" = true := by first | (simp [plainName, overriddenIn]; done) | decide +kernel
theorem pd0 : parseMethodDescriptor "(I)Lcom/example/bericht/bericht/selector/Comparison$Operator;" = some ⟨[.int], some (.object "com/example/bericht/bericht/selector/Comparison$Operator")⟩ := by decide +kernel
theorem pd1 : parseMethodDescriptor "()Z" = some ⟨[], some .boolean⟩ := by decide +kernel
theorem pd2 : parseMethodDescriptor "()I" = some ⟨[], some .int⟩ := by decide +kernel
theorem pd3 : parseMethodDescriptor "(JJ)Z" = some ⟨[.long, .long], some .boolean⟩ := by decide +kernel
theorem pd4 : parseMethodDescriptor "()Lcom/example/bericht/bericht/selector/Comparison$Operator;" = some ⟨[], some (.object "com/example/bericht/bericht/selector/Comparison$Operator")⟩ := by decide +kernel
theorem d1_0 : decode method_2_code 0 = .ok (.iload_n 0, 1) := by decide +kernel
theorem d1_1 : decode method_2_code 1 = .ok (.ldc 7, 2) := by decide +kernel
theorem d1_3 : decode method_2_code 3 = .ok (.iand, 1) := by decide +kernel
theorem d1_4 : decode method_2_code 4 = .ok (.bipush 6, 2) := by decide +kernel
theorem d1_6 : decode method_2_code 6 = .ok (.irem, 1) := by decide +kernel
theorem d1_7 : decode method_2_code 7 = .ok (.istore_n 1, 1) := by decide +kernel
theorem d1_8 : decode method_2_code 8 = .ok (.iload_n 1, 1) := by decide +kernel
theorem d1_9 : decode method_2_code 9 = .ok (.ifCond .ne 7, 3) := by decide +kernel
theorem d1_12 : decode method_2_code 12 = .ok (.getstatic 8, 3) := by decide +kernel
theorem d1_15 : decode method_2_code 15 = .ok (.areturn, 1) := by decide +kernel
theorem d1_16 : decode method_2_code 16 = .ok (.iload_n 1, 1) := by decide +kernel
theorem d1_17 : decode method_2_code 17 = .ok (.iconst 1, 1) := by decide +kernel
theorem d1_18 : decode method_2_code 18 = .ok (.if_icmp .ne 7, 3) := by decide +kernel
theorem d1_21 : decode method_2_code 21 = .ok (.getstatic 14, 3) := by decide +kernel
theorem d1_24 : decode method_2_code 24 = .ok (.areturn, 1) := by decide +kernel
theorem d1_25 : decode method_2_code 25 = .ok (.iload_n 1, 1) := by decide +kernel
theorem d1_26 : decode method_2_code 26 = .ok (.iconst 2, 1) := by decide +kernel
theorem d1_27 : decode method_2_code 27 = .ok (.if_icmp .ne 7, 3) := by decide +kernel
theorem d1_30 : decode method_2_code 30 = .ok (.getstatic 17, 3) := by decide +kernel
theorem d1_33 : decode method_2_code 33 = .ok (.areturn, 1) := by decide +kernel
theorem d1_34 : decode method_2_code 34 = .ok (.iload_n 1, 1) := by decide +kernel
theorem d1_35 : decode method_2_code 35 = .ok (.iconst 3, 1) := by decide +kernel
theorem d1_36 : decode method_2_code 36 = .ok (.if_icmp .ne 7, 3) := by decide +kernel
theorem d1_39 : decode method_2_code 39 = .ok (.getstatic 20, 3) := by decide +kernel
theorem d1_42 : decode method_2_code 42 = .ok (.areturn, 1) := by decide +kernel
theorem d1_43 : decode method_2_code 43 = .ok (.iload_n 1, 1) := by decide +kernel
theorem d1_44 : decode method_2_code 44 = .ok (.iconst 4, 1) := by decide +kernel
theorem d1_45 : decode method_2_code 45 = .ok (.if_icmp .ne 7, 3) := by decide +kernel
theorem d1_48 : decode method_2_code 48 = .ok (.getstatic 23, 3) := by decide +kernel
theorem d1_51 : decode method_2_code 51 = .ok (.areturn, 1) := by decide +kernel
theorem d1_52 : decode method_2_code 52 = .ok (.getstatic 26, 3) := by decide +kernel
theorem d1_55 : decode method_2_code 55 = .ok (.areturn, 1) := by decide +kernel
theorem d2_0 : decode prog_22_method_8_code 0 = .ok (.aload_n 0, 1) := by decide +kernel
theorem d2_1 : decode prog_22_method_8_code 1 = .ok (.getstatic 3, 3) := by decide +kernel
theorem d2_4 : decode prog_22_method_8_code 4 = .ok (.if_acmp .eq 10, 3) := by decide +kernel
theorem d2_7 : decode prog_22_method_8_code 7 = .ok (.aload_n 0, 1) := by decide +kernel
theorem d2_8 : decode prog_22_method_8_code 8 = .ok (.getstatic 7, 3) := by decide +kernel
theorem d2_11 : decode prog_22_method_8_code 11 = .ok (.if_acmp .ne 7, 3) := by decide +kernel
theorem d2_14 : decode prog_22_method_8_code 14 = .ok (.iconst 1, 1) := by decide +kernel
theorem d2_15 : decode prog_22_method_8_code 15 = .ok (.goto 4, 3) := by decide +kernel
theorem d2_18 : decode prog_22_method_8_code 18 = .ok (.iconst 0, 1) := by decide +kernel
theorem d2_19 : decode prog_22_method_8_code 19 = .ok (.ireturn, 1) := by decide +kernel
theorem d3_0 : decode prog_22_method_5_code 0 = .ok (.aload_n 0, 1) := by decide +kernel
theorem d3_1 : decode prog_22_method_5_code 1 = .ok (.invokevirtual 64, 3) := by decide +kernel
theorem d3_4 : decode prog_22_method_5_code 4 = .ok (.tableswitch 40 0 5 #[50, 64, 78, 92, 106, 120], 40) := by decide +kernel
theorem d3_54 : decode prog_22_method_5_code 54 = .ok (.lload_n 1, 1) := by decide +kernel
theorem d3_55 : decode prog_22_method_5_code 55 = .ok (.lload_n 3, 1) := by decide +kernel
theorem d3_56 : decode prog_22_method_5_code 56 = .ok (.lcmp, 1) := by decide +kernel
theorem d3_57 : decode prog_22_method_5_code 57 = .ok (.ifCond .ne 7, 3) := by decide +kernel
theorem d3_60 : decode prog_22_method_5_code 60 = .ok (.iconst 1, 1) := by decide +kernel
theorem d3_61 : decode prog_22_method_5_code 61 = .ok (.goto 74, 3) := by decide +kernel
theorem d3_64 : decode prog_22_method_5_code 64 = .ok (.iconst 0, 1) := by decide +kernel
theorem d3_65 : decode prog_22_method_5_code 65 = .ok (.goto 70, 3) := by decide +kernel
theorem d3_68 : decode prog_22_method_5_code 68 = .ok (.lload_n 1, 1) := by decide +kernel
theorem d3_69 : decode prog_22_method_5_code 69 = .ok (.lload_n 3, 1) := by decide +kernel
theorem d3_70 : decode prog_22_method_5_code 70 = .ok (.lcmp, 1) := by decide +kernel
theorem d3_71 : decode prog_22_method_5_code 71 = .ok (.ifCond .eq 7, 3) := by decide +kernel
theorem d3_74 : decode prog_22_method_5_code 74 = .ok (.iconst 1, 1) := by decide +kernel
theorem d3_75 : decode prog_22_method_5_code 75 = .ok (.goto 60, 3) := by decide +kernel
theorem d3_78 : decode prog_22_method_5_code 78 = .ok (.iconst 0, 1) := by decide +kernel
theorem d3_79 : decode prog_22_method_5_code 79 = .ok (.goto 56, 3) := by decide +kernel
theorem d3_82 : decode prog_22_method_5_code 82 = .ok (.lload_n 1, 1) := by decide +kernel
theorem d3_83 : decode prog_22_method_5_code 83 = .ok (.lload_n 3, 1) := by decide +kernel
theorem d3_84 : decode prog_22_method_5_code 84 = .ok (.lcmp, 1) := by decide +kernel
theorem d3_85 : decode prog_22_method_5_code 85 = .ok (.ifCond .ge 7, 3) := by decide +kernel
theorem d3_88 : decode prog_22_method_5_code 88 = .ok (.iconst 1, 1) := by decide +kernel
theorem d3_89 : decode prog_22_method_5_code 89 = .ok (.goto 46, 3) := by decide +kernel
theorem d3_92 : decode prog_22_method_5_code 92 = .ok (.iconst 0, 1) := by decide +kernel
theorem d3_93 : decode prog_22_method_5_code 93 = .ok (.goto 42, 3) := by decide +kernel
theorem d3_96 : decode prog_22_method_5_code 96 = .ok (.lload_n 1, 1) := by decide +kernel
theorem d3_97 : decode prog_22_method_5_code 97 = .ok (.lload_n 3, 1) := by decide +kernel
theorem d3_98 : decode prog_22_method_5_code 98 = .ok (.lcmp, 1) := by decide +kernel
theorem d3_99 : decode prog_22_method_5_code 99 = .ok (.ifCond .gt 7, 3) := by decide +kernel
theorem d3_102 : decode prog_22_method_5_code 102 = .ok (.iconst 1, 1) := by decide +kernel
theorem d3_103 : decode prog_22_method_5_code 103 = .ok (.goto 32, 3) := by decide +kernel
theorem d3_106 : decode prog_22_method_5_code 106 = .ok (.iconst 0, 1) := by decide +kernel
theorem d3_107 : decode prog_22_method_5_code 107 = .ok (.goto 28, 3) := by decide +kernel
theorem d3_110 : decode prog_22_method_5_code 110 = .ok (.lload_n 1, 1) := by decide +kernel
theorem d3_111 : decode prog_22_method_5_code 111 = .ok (.lload_n 3, 1) := by decide +kernel
theorem d3_112 : decode prog_22_method_5_code 112 = .ok (.lcmp, 1) := by decide +kernel
theorem d3_113 : decode prog_22_method_5_code 113 = .ok (.ifCond .le 7, 3) := by decide +kernel
theorem d3_116 : decode prog_22_method_5_code 116 = .ok (.iconst 1, 1) := by decide +kernel
theorem d3_117 : decode prog_22_method_5_code 117 = .ok (.goto 18, 3) := by decide +kernel
theorem d3_120 : decode prog_22_method_5_code 120 = .ok (.iconst 0, 1) := by decide +kernel
theorem d3_121 : decode prog_22_method_5_code 121 = .ok (.goto 14, 3) := by decide +kernel
theorem d3_124 : decode prog_22_method_5_code 124 = .ok (.lload_n 1, 1) := by decide +kernel
theorem d3_125 : decode prog_22_method_5_code 125 = .ok (.lload_n 3, 1) := by decide +kernel
theorem d3_126 : decode prog_22_method_5_code 126 = .ok (.lcmp, 1) := by decide +kernel
theorem d3_127 : decode prog_22_method_5_code 127 = .ok (.ifCond .lt 7, 3) := by decide +kernel
theorem d3_130 : decode prog_22_method_5_code 130 = .ok (.iconst 1, 1) := by decide +kernel
theorem d3_131 : decode prog_22_method_5_code 131 = .ok (.goto 4, 3) := by decide +kernel
theorem d3_134 : decode prog_22_method_5_code 134 = .ok (.iconst 0, 1) := by decide +kernel
theorem d3_135 : decode prog_22_method_5_code 135 = .ok (.ireturn, 1) := by decide +kernel
theorem d4_0 : decode jdk_37_method_2_code 0 = .ok (.aload_n 0, 1) := by decide +kernel
theorem d4_1 : decode jdk_37_method_2_code 1 = .ok (.getfield 7, 3) := by decide +kernel
theorem d4_4 : decode jdk_37_method_2_code 4 = .ok (.ireturn, 1) := by decide +kernel
theorem d5_0 : decode prog_22_method_7_code 0 = .ok (.aload_n 0, 1) := by decide +kernel
theorem d5_1 : decode prog_22_method_7_code 1 = .ok (.invokevirtual 64, 3) := by decide +kernel
theorem d5_4 : decode prog_22_method_7_code 4 = .ok (.tableswitch 40 0 5 #[50, 50, 54, 60, 66, 72], 40) := by decide +kernel
theorem d5_54 : decode prog_22_method_7_code 54 = .ok (.aload_n 0, 1) := by decide +kernel
theorem d5_55 : decode prog_22_method_7_code 55 = .ok (.goto 24, 3) := by decide +kernel
theorem d5_58 : decode prog_22_method_7_code 58 = .ok (.getstatic 16, 3) := by decide +kernel
theorem d5_61 : decode prog_22_method_7_code 61 = .ok (.goto 18, 3) := by decide +kernel
theorem d5_64 : decode prog_22_method_7_code 64 = .ok (.getstatic 19, 3) := by decide +kernel
theorem d5_67 : decode prog_22_method_7_code 67 = .ok (.goto 12, 3) := by decide +kernel
theorem d5_70 : decode prog_22_method_7_code 70 = .ok (.getstatic 10, 3) := by decide +kernel
theorem d5_73 : decode prog_22_method_7_code 73 = .ok (.goto 6, 3) := by decide +kernel
theorem d5_76 : decode prog_22_method_7_code 76 = .ok (.getstatic 13, 3) := by decide +kernel
theorem d5_79 : decode prog_22_method_7_code 79 = .ok (.areturn, 1) := by decide +kernel
def Q1_0 (x0 : Int32) (w0 : Addr) (w1 : Addr) (w2 : Addr) (w3 : Addr) (w4 : Addr) (w5 : Addr) (h0 : Heap) (v : Option Value) (h : Heap) (L : List Loc) : Prop := L = [] ∧ h = h0 ∧ ((v = some (.ref w0)) ∨ (v = some (.ref w2)) ∨ (v = some (.ref w3)) ∨ (v = some (.ref w4)) ∨ (v = some (.ref w1)) ∨ (v = some (.ref w5)))
set_option maxRecDepth 65536 in
set_option maxHeartbeats 40000000 in
theorem rm1_0 (l : Launch) (Z : State) (a0 : Array Value) (hw : ∀ d ∈ tables_1, d.before a0 Z = true) (ws : List Jvm.Cond) (x0 : Int32) (w0 : Addr) (w1 : Addr) (w2 : Addr) (w3 : Addr) (w4 : Addr) (w5 : Addr) (h0 : Heap) (n0 : Nat) (Z0 : n0 ≤ h0.size) (K : own_K Z h0 w0 w1 w2 w3 w4 w5) :
    MetFree l (⟨"com/example/bericht/bericht/selector/OperatorIsEqualityPinLaw", "pick", "(I)Lcom/example/bericht/bericht/selector/Comparison$Operator;"⟩ : MethodName) (head1 (Jvm.Cond.code (⟨"com/example/bericht/bericht/selector/OperatorIsEqualityPinLaw", "pick", "(I)Lcom/example/bericht/bericht/selector/Comparison$Operator;"⟩ : MethodName) method_2_code 2 (some (.object "com/example/bericht/bericht/selector/Comparison$Operator")) :: ws) ({ frames := 0, cells := 0, slots := 0, locals := 0 } : Room)) (fun a U => a = #[(.int x0)] ∧ Z.Warmed39 U.vm ∧ U.heap = h0) (fun _ _ _ _ _ => True) (fun _ U o U' => ∃ v L, o = .returned v ∧ Q1_0 x0 w0 w1 w2 w3 w4 w5 h0 v U'.heap L ∧ FrameEnd U o U' L ({ frames := 0, cells := 0, slots := 0, locals := 0 } : Room).cells ({ frames := 0, cells := 0, slots := 0, locals := 0 } : Room).slots) := by
  refine MetFree.of_bodySF (plainFor_of_name pn0) hisR ?_
  intro p e s m args below meth c s₁ Bd hml0 hP hK
  obtain ⟨rfl, hZ, hh⟩ := hP
  have hx := Bd.exec
  have hby := Bd.bytes
  have hml : c.maxLocals = 2 := hml0
  have hown : s.vm.findClass "com/example/bericht/bericht/selector/OperatorIsEqualityPinLaw" = some m.cls := findClass_of_methodNamed Bd.named
  have hnm := (name_of_methodNamed Bd.named Bd.method).1
  have hlk := Bd.notSynchronized
  have X0 : Stand p l e ({ frames := 0, cells := 0, slots := 0, locals := 0 } : Room) s m #[(.int x0)] below meth c s₁ [] 0 0 := Stand.of_body Bd
  have e0 : s₁.heap = h0 := by rw [← hh, Bd.state]; rfl
  have K0 := K
  obtain ⟨S_w0, S_w1, S_w2, S_w3, S_w4, S_w5, E_w0, E_w1, E_w2, E_w3, E_w4, E_w5, F_w0_ordinal, F_w1_ordinal, F_w2_ordinal, F_w3_ordinal, F_w4_ordinal, F_w5_ordinal, n_w0_w1, n_w0_w2, n_w0_w3, n_w0_w4, n_w0_w5, n_w1_w2, n_w1_w3, n_w1_w4, n_w1_w5, n_w2_w3, n_w2_w4, n_w2_w5, n_w3_w4, n_w3_w5, n_w4_w5⟩ := K
  show own_Go p e below s (Q1_0 x0 w0 w1 w2 w3 w4 w5 h0) 0 0 (s₁.setTop (entryFrame m #[(.int x0)] 2))
  rw [show entryFrame m #[(.int x0)] 2 = mkF m 0 #[.val (.int x0), .unset] [] from by first | (simp [entryFrame, mkF, argsToLocals, Value.category]; done) | rfl]
  show own_Go p e below s _ _ _ (s₁.setTop (mkF m 0 #[.val (.int x0), .unset] []))
  refine own_via (fun _ k => XS.iloadN X0.here hx rfl (hb hby d1_0) rfl k) ?_
  show own_Go p e below s _ _ _ (s₁.setTop (mkF m 1 #[.val (.int x0), .unset] [(.int x0)]))
  refine own_via (fun _ k => X0.ldcInt hx hown (mvT hZ (hw _ (List.mem_of_getElem? (i := 4) rfl))) (g := (mkF m 1 #[.val (.int x0), .unset] [(.int x0)])) rfl (hb hby d1_1) _ k) ?_
  show own_Go p e below s _ _ _ (s₁.setTop (mkF m 3 #[.val (.int x0), .unset] [(.int (2147483647 : Int32)), (.int x0)]))
  refine own_via (fun _ k => XS.iand X0.here hx rfl (hb hby d1_3) rfl k) ?_
  show own_Go p e below s _ _ _ (s₁.setTop (mkF m 4 #[.val (.int x0), .unset] [(.int (x0 &&& (2147483647 : Int32)))]))
  refine own_via (fun _ k => XS.bipush X0.here hx rfl (hb hby d1_4) k) ?_
  show own_Go p e below s _ _ _ (s₁.setTop (mkF m 6 #[.val (.int x0), .unset] [(.int (6 : Int32)), (.int (x0 &&& (2147483647 : Int32)))]))
  refine own_via (fun _ k => iremM X0 hx rfl (hb hby d1_6) rfl (by decide : ¬ ((6 : Int32) = (0 : Int32))) k) ?_
  rcases (own_mod6 _ : ((x0 &&& (2147483647 : Int32)) % (6 : Int32)) = (0 : Int32) ∨ ((x0 &&& (2147483647 : Int32)) % (6 : Int32)) = (1 : Int32) ∨ ((x0 &&& (2147483647 : Int32)) % (6 : Int32)) = (2 : Int32) ∨ ((x0 &&& (2147483647 : Int32)) % (6 : Int32)) = (3 : Int32) ∨ ((x0 &&& (2147483647 : Int32)) % (6 : Int32)) = (4 : Int32) ∨ ((x0 &&& (2147483647 : Int32)) % (6 : Int32)) = (5 : Int32)) with hk1 | hk2 | hk3 | hk4 | hk5 | hk6
  · rw [hk1]
    show own_Go p e below s _ _ _ (s₁.setTop (mkF m 7 #[.val (.int x0), .unset] [(.int (0 : Int32))]))
    refine own_via (fun _ k => XS.istoreN X0.here hx rfl (hb hby d1_7) rfl (l' := #[.val (.int x0), .val (.int (0 : Int32))]) rfl k) ?_
    show own_Go p e below s _ _ _ (s₁.setTop (mkF m 8 #[.val (.int x0), .val (.int (0 : Int32))] []))
    refine own_via (fun _ k => XS.iloadN X0.here hx rfl (hb hby d1_8) rfl k) ?_
    show own_Go p e below s _ _ _ (s₁.setTop (mkF m 9 #[.val (.int x0), .val (.int (0 : Int32))] [(.int (0 : Int32))]))
    refine own_via (fun _ k => XS.ifNo X0.here hx rfl (hb hby d1_9) rfl ((if0 _ _).trans (teq (by decide : (0 : Int32) = (0 : Int32))).2) k) ?_
    show own_Go p e below s _ _ _ (s₁.setTop (mkF m 12 #[.val (.int x0), .val (.int (0 : Int32))] []))
    obtain ⟨T7, X7, e7, st7⟩ := getS2 X0 hx hZ hown (host := "") (Or.inl (hw _ (List.mem_of_getElem? (i := 5) rfl))) Via.refl e0 S_w0 (g := (mkF m 12 #[.val (.int x0), .val (.int (0 : Int32))] [])) rfl (hb hby d1_12)
    refine own_via st7 ?_
    show own_Go p e below s _ _ _ (T7.setTop (mkF m 15 #[.val (.int x0), .val (.int (0 : Int32))] [(.ref w0)]))
    exact own_retR X7 hx hlk Bd.returns rfl rfl (hb hby d1_15) ⟨rfl, e7, Or.inl rfl⟩ (by decide) (by decide)
  · rw [hk2]
    show own_Go p e below s _ _ _ (s₁.setTop (mkF m 7 #[.val (.int x0), .unset] [(.int (1 : Int32))]))
    refine own_via (fun _ k => XS.istoreN X0.here hx rfl (hb hby d1_7) rfl (l' := #[.val (.int x0), .val (.int (1 : Int32))]) rfl k) ?_
    show own_Go p e below s _ _ _ (s₁.setTop (mkF m 8 #[.val (.int x0), .val (.int (1 : Int32))] []))
    refine own_via (fun _ k => XS.iloadN X0.here hx rfl (hb hby d1_8) rfl k) ?_
    show own_Go p e below s _ _ _ (s₁.setTop (mkF m 9 #[.val (.int x0), .val (.int (1 : Int32))] [(.int (1 : Int32))]))
    refine own_via (fun _ k => XS.ifYes X0.here hx rfl (pc0 := 9) (pc' := 16) rfl (hb hby d1_9) rfl ((if0 _ _).trans (feq (by decide : ¬ ((1 : Int32) = (0 : Int32)))).2) (by decide) (by decide) k) ?_
    show own_Go p e below s _ _ _ (s₁.setTop (mkF m 16 #[.val (.int x0), .val (.int (1 : Int32))] []))
    refine own_via (fun _ k => XS.iloadN X0.here hx rfl (hb hby d1_16) rfl k) ?_
    show own_Go p e below s _ _ _ (s₁.setTop (mkF m 17 #[.val (.int x0), .val (.int (1 : Int32))] [(.int (1 : Int32))]))
    refine own_via (fun _ k => XS.iconst X0.here hx rfl (hb hby d1_17) k) ?_
    show own_Go p e below s _ _ _ (s₁.setTop (mkF m 18 #[.val (.int x0), .val (.int (1 : Int32))] [(.int (1 : Int32)), (.int (1 : Int32))]))
    refine own_via (fun _ k => XS.icmpNo X0.here hx rfl (hb hby d1_18) rfl (teq (by decide : (1 : Int32) = (1 : Int32))).2 k) ?_
    show own_Go p e below s _ _ _ (s₁.setTop (mkF m 21 #[.val (.int x0), .val (.int (1 : Int32))] []))
    obtain ⟨T8, X8, e8, st8⟩ := getS2 X0 hx hZ hown (host := "") (Or.inl (hw _ (List.mem_of_getElem? (i := 45) rfl))) Via.refl e0 S_w2 (g := (mkF m 21 #[.val (.int x0), .val (.int (1 : Int32))] [])) rfl (hb hby d1_21)
    refine own_via st8 ?_
    show own_Go p e below s _ _ _ (T8.setTop (mkF m 24 #[.val (.int x0), .val (.int (1 : Int32))] [(.ref w2)]))
    exact own_retR X8 hx hlk Bd.returns rfl rfl (hb hby d1_24) ⟨rfl, e8, Or.inr (Or.inl rfl)⟩ (by decide) (by decide)
  · rw [hk3]
    show own_Go p e below s _ _ _ (s₁.setTop (mkF m 7 #[.val (.int x0), .unset] [(.int (2 : Int32))]))
    refine own_via (fun _ k => XS.istoreN X0.here hx rfl (hb hby d1_7) rfl (l' := #[.val (.int x0), .val (.int (2 : Int32))]) rfl k) ?_
    show own_Go p e below s _ _ _ (s₁.setTop (mkF m 8 #[.val (.int x0), .val (.int (2 : Int32))] []))
    refine own_via (fun _ k => XS.iloadN X0.here hx rfl (hb hby d1_8) rfl k) ?_
    show own_Go p e below s _ _ _ (s₁.setTop (mkF m 9 #[.val (.int x0), .val (.int (2 : Int32))] [(.int (2 : Int32))]))
    refine own_via (fun _ k => XS.ifYes X0.here hx rfl (pc0 := 9) (pc' := 16) rfl (hb hby d1_9) rfl ((if0 _ _).trans (feq (by decide : ¬ ((2 : Int32) = (0 : Int32)))).2) (by decide) (by decide) k) ?_
    show own_Go p e below s _ _ _ (s₁.setTop (mkF m 16 #[.val (.int x0), .val (.int (2 : Int32))] []))
    refine own_via (fun _ k => XS.iloadN X0.here hx rfl (hb hby d1_16) rfl k) ?_
    show own_Go p e below s _ _ _ (s₁.setTop (mkF m 17 #[.val (.int x0), .val (.int (2 : Int32))] [(.int (2 : Int32))]))
    refine own_via (fun _ k => XS.iconst X0.here hx rfl (hb hby d1_17) k) ?_
    show own_Go p e below s _ _ _ (s₁.setTop (mkF m 18 #[.val (.int x0), .val (.int (2 : Int32))] [(.int (1 : Int32)), (.int (2 : Int32))]))
    refine own_via (fun _ k => XS.icmpYes X0.here hx rfl (pc0 := 18) (pc' := 25) rfl (hb hby d1_18) rfl (feq (by decide : ¬ ((2 : Int32) = (1 : Int32)))).2 (by decide) (by decide) k) ?_
    show own_Go p e below s _ _ _ (s₁.setTop (mkF m 25 #[.val (.int x0), .val (.int (2 : Int32))] []))
    refine own_via (fun _ k => XS.iloadN X0.here hx rfl (hb hby d1_25) rfl k) ?_
    show own_Go p e below s _ _ _ (s₁.setTop (mkF m 26 #[.val (.int x0), .val (.int (2 : Int32))] [(.int (2 : Int32))]))
    refine own_via (fun _ k => XS.iconst X0.here hx rfl (hb hby d1_26) k) ?_
    show own_Go p e below s _ _ _ (s₁.setTop (mkF m 27 #[.val (.int x0), .val (.int (2 : Int32))] [(.int (2 : Int32)), (.int (2 : Int32))]))
    refine own_via (fun _ k => XS.icmpNo X0.here hx rfl (hb hby d1_27) rfl (teq (by decide : (2 : Int32) = (2 : Int32))).2 k) ?_
    show own_Go p e below s _ _ _ (s₁.setTop (mkF m 30 #[.val (.int x0), .val (.int (2 : Int32))] []))
    obtain ⟨T9, X9, e9, st9⟩ := getS2 X0 hx hZ hown (host := "") (Or.inl (hw _ (List.mem_of_getElem? (i := 43) rfl))) Via.refl e0 S_w3 (g := (mkF m 30 #[.val (.int x0), .val (.int (2 : Int32))] [])) rfl (hb hby d1_30)
    refine own_via st9 ?_
    show own_Go p e below s _ _ _ (T9.setTop (mkF m 33 #[.val (.int x0), .val (.int (2 : Int32))] [(.ref w3)]))
    exact own_retR X9 hx hlk Bd.returns rfl rfl (hb hby d1_33) ⟨rfl, e9, Or.inr (Or.inr (Or.inl rfl))⟩ (by decide) (by decide)
  · rw [hk4]
    show own_Go p e below s _ _ _ (s₁.setTop (mkF m 7 #[.val (.int x0), .unset] [(.int (3 : Int32))]))
    refine own_via (fun _ k => XS.istoreN X0.here hx rfl (hb hby d1_7) rfl (l' := #[.val (.int x0), .val (.int (3 : Int32))]) rfl k) ?_
    show own_Go p e below s _ _ _ (s₁.setTop (mkF m 8 #[.val (.int x0), .val (.int (3 : Int32))] []))
    refine own_via (fun _ k => XS.iloadN X0.here hx rfl (hb hby d1_8) rfl k) ?_
    show own_Go p e below s _ _ _ (s₁.setTop (mkF m 9 #[.val (.int x0), .val (.int (3 : Int32))] [(.int (3 : Int32))]))
    refine own_via (fun _ k => XS.ifYes X0.here hx rfl (pc0 := 9) (pc' := 16) rfl (hb hby d1_9) rfl ((if0 _ _).trans (feq (by decide : ¬ ((3 : Int32) = (0 : Int32)))).2) (by decide) (by decide) k) ?_
    show own_Go p e below s _ _ _ (s₁.setTop (mkF m 16 #[.val (.int x0), .val (.int (3 : Int32))] []))
    refine own_via (fun _ k => XS.iloadN X0.here hx rfl (hb hby d1_16) rfl k) ?_
    show own_Go p e below s _ _ _ (s₁.setTop (mkF m 17 #[.val (.int x0), .val (.int (3 : Int32))] [(.int (3 : Int32))]))
    refine own_via (fun _ k => XS.iconst X0.here hx rfl (hb hby d1_17) k) ?_
    show own_Go p e below s _ _ _ (s₁.setTop (mkF m 18 #[.val (.int x0), .val (.int (3 : Int32))] [(.int (1 : Int32)), (.int (3 : Int32))]))
    refine own_via (fun _ k => XS.icmpYes X0.here hx rfl (pc0 := 18) (pc' := 25) rfl (hb hby d1_18) rfl (feq (by decide : ¬ ((3 : Int32) = (1 : Int32)))).2 (by decide) (by decide) k) ?_
    show own_Go p e below s _ _ _ (s₁.setTop (mkF m 25 #[.val (.int x0), .val (.int (3 : Int32))] []))
    refine own_via (fun _ k => XS.iloadN X0.here hx rfl (hb hby d1_25) rfl k) ?_
    show own_Go p e below s _ _ _ (s₁.setTop (mkF m 26 #[.val (.int x0), .val (.int (3 : Int32))] [(.int (3 : Int32))]))
    refine own_via (fun _ k => XS.iconst X0.here hx rfl (hb hby d1_26) k) ?_
    show own_Go p e below s _ _ _ (s₁.setTop (mkF m 27 #[.val (.int x0), .val (.int (3 : Int32))] [(.int (2 : Int32)), (.int (3 : Int32))]))
    refine own_via (fun _ k => XS.icmpYes X0.here hx rfl (pc0 := 27) (pc' := 34) rfl (hb hby d1_27) rfl (feq (by decide : ¬ ((3 : Int32) = (2 : Int32)))).2 (by decide) (by decide) k) ?_
    show own_Go p e below s _ _ _ (s₁.setTop (mkF m 34 #[.val (.int x0), .val (.int (3 : Int32))] []))
    refine own_via (fun _ k => XS.iloadN X0.here hx rfl (hb hby d1_34) rfl k) ?_
    show own_Go p e below s _ _ _ (s₁.setTop (mkF m 35 #[.val (.int x0), .val (.int (3 : Int32))] [(.int (3 : Int32))]))
    refine own_via (fun _ k => XS.iconst X0.here hx rfl (hb hby d1_35) k) ?_
    show own_Go p e below s _ _ _ (s₁.setTop (mkF m 36 #[.val (.int x0), .val (.int (3 : Int32))] [(.int (3 : Int32)), (.int (3 : Int32))]))
    refine own_via (fun _ k => XS.icmpNo X0.here hx rfl (hb hby d1_36) rfl (teq (by decide : (3 : Int32) = (3 : Int32))).2 k) ?_
    show own_Go p e below s _ _ _ (s₁.setTop (mkF m 39 #[.val (.int x0), .val (.int (3 : Int32))] []))
    obtain ⟨T10, X10, e10, st10⟩ := getS2 X0 hx hZ hown (host := "") (Or.inl (hw _ (List.mem_of_getElem? (i := 39) rfl))) Via.refl e0 S_w4 (g := (mkF m 39 #[.val (.int x0), .val (.int (3 : Int32))] [])) rfl (hb hby d1_39)
    refine own_via st10 ?_
    show own_Go p e below s _ _ _ (T10.setTop (mkF m 42 #[.val (.int x0), .val (.int (3 : Int32))] [(.ref w4)]))
    exact own_retR X10 hx hlk Bd.returns rfl rfl (hb hby d1_42) ⟨rfl, e10, Or.inr (Or.inr (Or.inr (Or.inl rfl)))⟩ (by decide) (by decide)
  · rw [hk5]
    show own_Go p e below s _ _ _ (s₁.setTop (mkF m 7 #[.val (.int x0), .unset] [(.int (4 : Int32))]))
    refine own_via (fun _ k => XS.istoreN X0.here hx rfl (hb hby d1_7) rfl (l' := #[.val (.int x0), .val (.int (4 : Int32))]) rfl k) ?_
    show own_Go p e below s _ _ _ (s₁.setTop (mkF m 8 #[.val (.int x0), .val (.int (4 : Int32))] []))
    refine own_via (fun _ k => XS.iloadN X0.here hx rfl (hb hby d1_8) rfl k) ?_
    show own_Go p e below s _ _ _ (s₁.setTop (mkF m 9 #[.val (.int x0), .val (.int (4 : Int32))] [(.int (4 : Int32))]))
    refine own_via (fun _ k => XS.ifYes X0.here hx rfl (pc0 := 9) (pc' := 16) rfl (hb hby d1_9) rfl ((if0 _ _).trans (feq (by decide : ¬ ((4 : Int32) = (0 : Int32)))).2) (by decide) (by decide) k) ?_
    show own_Go p e below s _ _ _ (s₁.setTop (mkF m 16 #[.val (.int x0), .val (.int (4 : Int32))] []))
    refine own_via (fun _ k => XS.iloadN X0.here hx rfl (hb hby d1_16) rfl k) ?_
    show own_Go p e below s _ _ _ (s₁.setTop (mkF m 17 #[.val (.int x0), .val (.int (4 : Int32))] [(.int (4 : Int32))]))
    refine own_via (fun _ k => XS.iconst X0.here hx rfl (hb hby d1_17) k) ?_
    show own_Go p e below s _ _ _ (s₁.setTop (mkF m 18 #[.val (.int x0), .val (.int (4 : Int32))] [(.int (1 : Int32)), (.int (4 : Int32))]))
    refine own_via (fun _ k => XS.icmpYes X0.here hx rfl (pc0 := 18) (pc' := 25) rfl (hb hby d1_18) rfl (feq (by decide : ¬ ((4 : Int32) = (1 : Int32)))).2 (by decide) (by decide) k) ?_
    show own_Go p e below s _ _ _ (s₁.setTop (mkF m 25 #[.val (.int x0), .val (.int (4 : Int32))] []))
    refine own_via (fun _ k => XS.iloadN X0.here hx rfl (hb hby d1_25) rfl k) ?_
    show own_Go p e below s _ _ _ (s₁.setTop (mkF m 26 #[.val (.int x0), .val (.int (4 : Int32))] [(.int (4 : Int32))]))
    refine own_via (fun _ k => XS.iconst X0.here hx rfl (hb hby d1_26) k) ?_
    show own_Go p e below s _ _ _ (s₁.setTop (mkF m 27 #[.val (.int x0), .val (.int (4 : Int32))] [(.int (2 : Int32)), (.int (4 : Int32))]))
    refine own_via (fun _ k => XS.icmpYes X0.here hx rfl (pc0 := 27) (pc' := 34) rfl (hb hby d1_27) rfl (feq (by decide : ¬ ((4 : Int32) = (2 : Int32)))).2 (by decide) (by decide) k) ?_
    show own_Go p e below s _ _ _ (s₁.setTop (mkF m 34 #[.val (.int x0), .val (.int (4 : Int32))] []))
    refine own_via (fun _ k => XS.iloadN X0.here hx rfl (hb hby d1_34) rfl k) ?_
    show own_Go p e below s _ _ _ (s₁.setTop (mkF m 35 #[.val (.int x0), .val (.int (4 : Int32))] [(.int (4 : Int32))]))
    refine own_via (fun _ k => XS.iconst X0.here hx rfl (hb hby d1_35) k) ?_
    show own_Go p e below s _ _ _ (s₁.setTop (mkF m 36 #[.val (.int x0), .val (.int (4 : Int32))] [(.int (3 : Int32)), (.int (4 : Int32))]))
    refine own_via (fun _ k => XS.icmpYes X0.here hx rfl (pc0 := 36) (pc' := 43) rfl (hb hby d1_36) rfl (feq (by decide : ¬ ((4 : Int32) = (3 : Int32)))).2 (by decide) (by decide) k) ?_
    show own_Go p e below s _ _ _ (s₁.setTop (mkF m 43 #[.val (.int x0), .val (.int (4 : Int32))] []))
    refine own_via (fun _ k => XS.iloadN X0.here hx rfl (hb hby d1_43) rfl k) ?_
    show own_Go p e below s _ _ _ (s₁.setTop (mkF m 44 #[.val (.int x0), .val (.int (4 : Int32))] [(.int (4 : Int32))]))
    refine own_via (fun _ k => XS.iconst X0.here hx rfl (hb hby d1_44) k) ?_
    show own_Go p e below s _ _ _ (s₁.setTop (mkF m 45 #[.val (.int x0), .val (.int (4 : Int32))] [(.int (4 : Int32)), (.int (4 : Int32))]))
    refine own_via (fun _ k => XS.icmpNo X0.here hx rfl (hb hby d1_45) rfl (teq (by decide : (4 : Int32) = (4 : Int32))).2 k) ?_
    show own_Go p e below s _ _ _ (s₁.setTop (mkF m 48 #[.val (.int x0), .val (.int (4 : Int32))] []))
    obtain ⟨T11, X11, e11, st11⟩ := getS2 X0 hx hZ hown (host := "") (Or.inl (hw _ (List.mem_of_getElem? (i := 33) rfl))) Via.refl e0 S_w1 (g := (mkF m 48 #[.val (.int x0), .val (.int (4 : Int32))] [])) rfl (hb hby d1_48)
    refine own_via st11 ?_
    show own_Go p e below s _ _ _ (T11.setTop (mkF m 51 #[.val (.int x0), .val (.int (4 : Int32))] [(.ref w1)]))
    exact own_retR X11 hx hlk Bd.returns rfl rfl (hb hby d1_51) ⟨rfl, e11, Or.inr (Or.inr (Or.inr (Or.inr (Or.inl rfl))))⟩ (by decide) (by decide)
  · rw [hk6]
    show own_Go p e below s _ _ _ (s₁.setTop (mkF m 7 #[.val (.int x0), .unset] [(.int (5 : Int32))]))
    refine own_via (fun _ k => XS.istoreN X0.here hx rfl (hb hby d1_7) rfl (l' := #[.val (.int x0), .val (.int (5 : Int32))]) rfl k) ?_
    show own_Go p e below s _ _ _ (s₁.setTop (mkF m 8 #[.val (.int x0), .val (.int (5 : Int32))] []))
    refine own_via (fun _ k => XS.iloadN X0.here hx rfl (hb hby d1_8) rfl k) ?_
    show own_Go p e below s _ _ _ (s₁.setTop (mkF m 9 #[.val (.int x0), .val (.int (5 : Int32))] [(.int (5 : Int32))]))
    refine own_via (fun _ k => XS.ifYes X0.here hx rfl (pc0 := 9) (pc' := 16) rfl (hb hby d1_9) rfl ((if0 _ _).trans (feq (by decide : ¬ ((5 : Int32) = (0 : Int32)))).2) (by decide) (by decide) k) ?_
    show own_Go p e below s _ _ _ (s₁.setTop (mkF m 16 #[.val (.int x0), .val (.int (5 : Int32))] []))
    refine own_via (fun _ k => XS.iloadN X0.here hx rfl (hb hby d1_16) rfl k) ?_
    show own_Go p e below s _ _ _ (s₁.setTop (mkF m 17 #[.val (.int x0), .val (.int (5 : Int32))] [(.int (5 : Int32))]))
    refine own_via (fun _ k => XS.iconst X0.here hx rfl (hb hby d1_17) k) ?_
    show own_Go p e below s _ _ _ (s₁.setTop (mkF m 18 #[.val (.int x0), .val (.int (5 : Int32))] [(.int (1 : Int32)), (.int (5 : Int32))]))
    refine own_via (fun _ k => XS.icmpYes X0.here hx rfl (pc0 := 18) (pc' := 25) rfl (hb hby d1_18) rfl (feq (by decide : ¬ ((5 : Int32) = (1 : Int32)))).2 (by decide) (by decide) k) ?_
    show own_Go p e below s _ _ _ (s₁.setTop (mkF m 25 #[.val (.int x0), .val (.int (5 : Int32))] []))
    refine own_via (fun _ k => XS.iloadN X0.here hx rfl (hb hby d1_25) rfl k) ?_
    show own_Go p e below s _ _ _ (s₁.setTop (mkF m 26 #[.val (.int x0), .val (.int (5 : Int32))] [(.int (5 : Int32))]))
    refine own_via (fun _ k => XS.iconst X0.here hx rfl (hb hby d1_26) k) ?_
    show own_Go p e below s _ _ _ (s₁.setTop (mkF m 27 #[.val (.int x0), .val (.int (5 : Int32))] [(.int (2 : Int32)), (.int (5 : Int32))]))
    refine own_via (fun _ k => XS.icmpYes X0.here hx rfl (pc0 := 27) (pc' := 34) rfl (hb hby d1_27) rfl (feq (by decide : ¬ ((5 : Int32) = (2 : Int32)))).2 (by decide) (by decide) k) ?_
    show own_Go p e below s _ _ _ (s₁.setTop (mkF m 34 #[.val (.int x0), .val (.int (5 : Int32))] []))
    refine own_via (fun _ k => XS.iloadN X0.here hx rfl (hb hby d1_34) rfl k) ?_
    show own_Go p e below s _ _ _ (s₁.setTop (mkF m 35 #[.val (.int x0), .val (.int (5 : Int32))] [(.int (5 : Int32))]))
    refine own_via (fun _ k => XS.iconst X0.here hx rfl (hb hby d1_35) k) ?_
    show own_Go p e below s _ _ _ (s₁.setTop (mkF m 36 #[.val (.int x0), .val (.int (5 : Int32))] [(.int (3 : Int32)), (.int (5 : Int32))]))
    refine own_via (fun _ k => XS.icmpYes X0.here hx rfl (pc0 := 36) (pc' := 43) rfl (hb hby d1_36) rfl (feq (by decide : ¬ ((5 : Int32) = (3 : Int32)))).2 (by decide) (by decide) k) ?_
    show own_Go p e below s _ _ _ (s₁.setTop (mkF m 43 #[.val (.int x0), .val (.int (5 : Int32))] []))
    refine own_via (fun _ k => XS.iloadN X0.here hx rfl (hb hby d1_43) rfl k) ?_
    show own_Go p e below s _ _ _ (s₁.setTop (mkF m 44 #[.val (.int x0), .val (.int (5 : Int32))] [(.int (5 : Int32))]))
    refine own_via (fun _ k => XS.iconst X0.here hx rfl (hb hby d1_44) k) ?_
    show own_Go p e below s _ _ _ (s₁.setTop (mkF m 45 #[.val (.int x0), .val (.int (5 : Int32))] [(.int (4 : Int32)), (.int (5 : Int32))]))
    refine own_via (fun _ k => XS.icmpYes X0.here hx rfl (pc0 := 45) (pc' := 52) rfl (hb hby d1_45) rfl (feq (by decide : ¬ ((5 : Int32) = (4 : Int32)))).2 (by decide) (by decide) k) ?_
    show own_Go p e below s _ _ _ (s₁.setTop (mkF m 52 #[.val (.int x0), .val (.int (5 : Int32))] []))
    obtain ⟨T12, X12, e12, st12⟩ := getS2 X0 hx hZ hown (host := "") (Or.inl (hw _ (List.mem_of_getElem? (i := 46) rfl))) Via.refl e0 S_w5 (g := (mkF m 52 #[.val (.int x0), .val (.int (5 : Int32))] [])) rfl (hb hby d1_52)
    refine own_via st12 ?_
    show own_Go p e below s _ _ _ (T12.setTop (mkF m 55 #[.val (.int x0), .val (.int (5 : Int32))] [(.ref w5)]))
    exact own_retR X12 hx hlk Bd.returns rfl rfl (hb hby d1_55) ⟨rfl, e12, Or.inr (Or.inr (Or.inr (Or.inr (Or.inr (rfl)))))⟩ (by decide) (by decide)
def Q2_0 (w0 : Addr) (w1 : Addr) (w2 : Addr) (w3 : Addr) (w4 : Addr) (w5 : Addr) (h0 : Heap) (v : Option Value) (h : Heap) (L : List Loc) : Prop := L = [] ∧ h = h0 ∧ ((v = some (.int (1 : Int32))))
set_option maxRecDepth 65536 in
set_option maxHeartbeats 40000000 in
theorem rm2_0 (l : Launch) (Z : State) (a0 : Array Value) (hw : ∀ d ∈ tables_1, d.before a0 Z = true) (ws : List Jvm.Cond) (w0 : Addr) (w1 : Addr) (w2 : Addr) (w3 : Addr) (w4 : Addr) (w5 : Addr) (h0 : Heap) (n0 : Nat) (Z0 : n0 ≤ h0.size) (K : own_K Z h0 w0 w1 w2 w3 w4 w5) :
    MetFree l (⟨"com/example/bericht/bericht/selector/Comparison$Operator", "isEquality", "()Z"⟩ : MethodName) (head1 (Jvm.Cond.code (⟨"com/example/bericht/bericht/selector/Comparison$Operator", "isEquality", "()Z"⟩ : MethodName) prog_22_method_8_code 1 (some .boolean) :: ws) ({ frames := 0, cells := 0, slots := 0, locals := 0 } : Room)) (fun a U => a = #[(.ref w0)] ∧ Z.Warmed39 U.vm ∧ U.heap = h0) (fun _ _ _ _ _ => True) (fun _ U o U' => ∃ v L, o = .returned v ∧ Q2_0 w0 w1 w2 w3 w4 w5 h0 v U'.heap L ∧ FrameEnd U o U' L ({ frames := 0, cells := 0, slots := 0, locals := 0 } : Room).cells ({ frames := 0, cells := 0, slots := 0, locals := 0 } : Room).slots) := by
  refine MetFree.of_bodySF (plainFor_of_name pn1) hisR ?_
  intro p e s m args below meth c s₁ Bd hml0 hP hK
  obtain ⟨rfl, hZ, hh⟩ := hP
  have hx := Bd.exec
  have hby := Bd.bytes
  have hml : c.maxLocals = 1 := hml0
  have hown : s.vm.findClass "com/example/bericht/bericht/selector/Comparison$Operator" = some m.cls := findClass_of_methodNamed Bd.named
  have hnm := (name_of_methodNamed Bd.named Bd.method).1
  have hlk := Bd.notSynchronized
  have X0 : Stand p l e ({ frames := 0, cells := 0, slots := 0, locals := 0 } : Room) s m #[(.ref w0)] below meth c s₁ [] 0 0 := Stand.of_body Bd
  have e0 : s₁.heap = h0 := by rw [← hh, Bd.state]; rfl
  have K0 := K
  obtain ⟨S_w0, S_w1, S_w2, S_w3, S_w4, S_w5, E_w0, E_w1, E_w2, E_w3, E_w4, E_w5, F_w0_ordinal, F_w1_ordinal, F_w2_ordinal, F_w3_ordinal, F_w4_ordinal, F_w5_ordinal, n_w0_w1, n_w0_w2, n_w0_w3, n_w0_w4, n_w0_w5, n_w1_w2, n_w1_w3, n_w1_w4, n_w1_w5, n_w2_w3, n_w2_w4, n_w2_w5, n_w3_w4, n_w3_w5, n_w4_w5⟩ := K
  show own_Go p e below s (Q2_0 w0 w1 w2 w3 w4 w5 h0) 0 0 (s₁.setTop (entryFrame m #[(.ref w0)] 1))
  rw [show entryFrame m #[(.ref w0)] 1 = mkF m 0 #[.val (.ref w0)] [] from by first | (simp [entryFrame, mkF, argsToLocals, Value.category]; done) | rfl]
  show own_Go p e below s _ _ _ (s₁.setTop (mkF m 0 #[.val (.ref w0)] []))
  refine own_via (fun _ k => XS.aloadN X0.here hx rfl (hb hby d2_0) rfl rfl k) ?_
  show own_Go p e below s _ _ _ (s₁.setTop (mkF m 1 #[.val (.ref w0)] [(.ref w0)]))
  obtain ⟨T1, X1, e1, st1⟩ := getS2 X0 hx hZ hown (host := "") (Or.inl (hw _ (List.mem_of_getElem? (i := 13) rfl))) Via.refl e0 S_w0 (g := (mkF m 1 #[.val (.ref w0)] [(.ref w0)])) rfl (hb hby d2_1)
  refine own_via st1 ?_
  show own_Go p e below s _ _ _ (T1.setTop (mkF m 4 #[.val (.ref w0)] [(.ref w0), (.ref w0)]))
  refine own_via (fun _ k => Jvm.RoadKit.acmp (g := (mkF m 4 #[.val (.ref w0)] [(.ref w0), (.ref w0)])) X1 hx rfl rfl rfl (pc0 := 4) (pc' := 14) (same := true) rfl (hb hby d2_4) rfl (decide_eq_true rfl) (by decide) (by decide) k) ?_
  show own_Go p e below s _ _ _ (T1.setTop (mkF m 14 #[.val (.ref w0)] []))
  refine own_via (fun _ k => XS.iconst X1.here hx rfl (hb hby d2_14) k) ?_
  show own_Go p e below s _ _ _ (T1.setTop (mkF m 15 #[.val (.ref w0)] [(.int (1 : Int32))]))
  refine own_via (fun _ k => XS.goto X1.here hx rfl (pc0 := 15) (pc' := 19) rfl (hb hby d2_15) (by decide) (by decide) k) ?_
  show own_Go p e below s _ _ _ (T1.setTop (mkF m 19 #[.val (.ref w0)] [(.int (1 : Int32))]))
  exact own_retZ X1 hx hlk (t := .boolean) Bd.returns (by simp) (hb hby d2_19) (z' := (1 : Int32)) (by first | rfl | decide) ⟨rfl, e1, rfl⟩ (by decide) (by decide)
def Q4_0 (w0 : Addr) (w1 : Addr) (w2 : Addr) (w3 : Addr) (w4 : Addr) (w5 : Addr) (h0 : Heap) (v : Option Value) (h : Heap) (L : List Loc) : Prop := L = [] ∧ h = h0 ∧ ((v = some (.int (0 : Int32))))
set_option maxRecDepth 65536 in
set_option maxHeartbeats 40000000 in
theorem rm4_0 (l : Launch) (Z : State) (a0 : Array Value) (hw : ∀ d ∈ tables_1, d.before a0 Z = true) (ws : List Jvm.Cond) (w0 : Addr) (w1 : Addr) (w2 : Addr) (w3 : Addr) (w4 : Addr) (w5 : Addr) (h0 : Heap) (n0 : Nat) (Z0 : n0 ≤ h0.size) (K : own_K Z h0 w0 w1 w2 w3 w4 w5) :
    MetFree l (⟨"java/lang/Enum", "ordinal", "()I"⟩ : MethodName) (head1 (Jvm.Cond.code (⟨"java/lang/Enum", "ordinal", "()I"⟩ : MethodName) jdk_37_method_2_code 1 (some .int) :: ws) ({ frames := 0, cells := 0, slots := 0, locals := 0 } : Room)) (fun a U => a = #[(.ref w0)] ∧ Z.Warmed39 U.vm ∧ U.heap = h0) (fun _ _ _ _ _ => True) (fun _ U o U' => ∃ v L, o = .returned v ∧ Q4_0 w0 w1 w2 w3 w4 w5 h0 v U'.heap L ∧ FrameEnd U o U' L ({ frames := 0, cells := 0, slots := 0, locals := 0 } : Room).cells ({ frames := 0, cells := 0, slots := 0, locals := 0 } : Room).slots) := by
  refine MetFree.of_bodySF (plainFor_of_name pn2) hisR ?_
  intro p e s m args below meth c s₁ Bd hml0 hP hK
  obtain ⟨rfl, hZ, hh⟩ := hP
  have hx := Bd.exec
  have hby := Bd.bytes
  have hml : c.maxLocals = 1 := hml0
  have hown : s.vm.findClass "java/lang/Enum" = some m.cls := findClass_of_methodNamed Bd.named
  have hnm := (name_of_methodNamed Bd.named Bd.method).1
  have hlk := Bd.notSynchronized
  have X0 : Stand p l e ({ frames := 0, cells := 0, slots := 0, locals := 0 } : Room) s m #[(.ref w0)] below meth c s₁ [] 0 0 := Stand.of_body Bd
  have e0 : s₁.heap = h0 := by rw [← hh, Bd.state]; rfl
  have K0 := K
  obtain ⟨S_w0, S_w1, S_w2, S_w3, S_w4, S_w5, E_w0, E_w1, E_w2, E_w3, E_w4, E_w5, F_w0_ordinal, F_w1_ordinal, F_w2_ordinal, F_w3_ordinal, F_w4_ordinal, F_w5_ordinal, n_w0_w1, n_w0_w2, n_w0_w3, n_w0_w4, n_w0_w5, n_w1_w2, n_w1_w3, n_w1_w4, n_w1_w5, n_w2_w3, n_w2_w4, n_w2_w5, n_w3_w4, n_w3_w5, n_w4_w5⟩ := K
  show own_Go p e below s (Q4_0 w0 w1 w2 w3 w4 w5 h0) 0 0 (s₁.setTop (entryFrame m #[(.ref w0)] 1))
  rw [show entryFrame m #[(.ref w0)] 1 = mkF m 0 #[.val (.ref w0)] [] from by first | (simp [entryFrame, mkF, argsToLocals, Value.category]; done) | rfl]
  show own_Go p e below s _ _ _ (s₁.setTop (mkF m 0 #[.val (.ref w0)] []))
  refine own_via (fun _ k => XS.aloadN X0.here hx rfl (hb hby d4_0) rfl rfl k) ?_
  show own_Go p e below s _ _ _ (s₁.setTop (mkF m 1 #[.val (.ref w0)] [(.ref w0)]))
  obtain ⟨T1, X1, e1, st1⟩ := getF X0 hx hZ hown (host := "") (Or.inl (hw _ (List.mem_of_getElem? (i := 26) rfl))) Via.refl e0 F_w0_ordinal (g := (mkF m 1 #[.val (.ref w0)] [(.ref w0)])) rfl rfl (hb hby d4_1)
  refine own_via st1 ?_
  show own_Go p e below s _ _ _ (T1.setTop (mkF m 4 #[.val (.ref w0)] [(.int (0 : Int32))]))
  exact own_retI X1 hx hlk Bd.returns (hb hby d4_4) ⟨rfl, e1, rfl⟩ (by decide) (by decide)
def Q3_0 (x1 : Int64) (x2 : Int64) (w0 : Addr) (w1 : Addr) (w2 : Addr) (w3 : Addr) (w4 : Addr) (w5 : Addr) (h0 : Heap) (v : Option Value) (h : Heap) (L : List Loc) : Prop := L = [] ∧ h = h0 ∧ ((x1 = x2 ∧ v = some (.int (1 : Int32))) ∨ (¬ (x1 = x2) ∧ v = some (.int (0 : Int32))))
set_option maxRecDepth 65536 in
set_option maxHeartbeats 40000000 in
theorem rm3_0 (l : Launch) (Z : State) (a0 : Array Value) (hw : ∀ d ∈ tables_1, d.before a0 Z = true) (ws : List Jvm.Cond) (x1 : Int64) (x2 : Int64) (w0 : Addr) (w1 : Addr) (w2 : Addr) (w3 : Addr) (w4 : Addr) (w5 : Addr) (h0 : Heap) (n0 : Nat) (Z0 : n0 ≤ h0.size) (K : own_K Z h0 w0 w1 w2 w3 w4 w5) :
    MetFree l (⟨"com/example/bericht/bericht/selector/Comparison$Operator", "holds", "(JJ)Z"⟩ : MethodName) (head1 (Jvm.Cond.code (⟨"com/example/bericht/bericht/selector/Comparison$Operator", "holds", "(JJ)Z"⟩ : MethodName) prog_22_method_5_code 5 (some .boolean) :: ws) ({ frames := 1, cells := 0, slots := 0, locals := 12 } : Room)) (fun a U => a = #[(.ref w0), (.long x1), (.long x2)] ∧ Z.Warmed39 U.vm ∧ U.heap = h0) (fun _ _ _ _ _ => True) (fun _ U o U' => ∃ v L, o = .returned v ∧ Q3_0 x1 x2 w0 w1 w2 w3 w4 w5 h0 v U'.heap L ∧ FrameEnd U o U' L ({ frames := 1, cells := 0, slots := 0, locals := 12 } : Room).cells ({ frames := 1, cells := 0, slots := 0, locals := 12 } : Room).slots) := by
  refine MetFree.of_bodySF (plainFor_of_name pn1) hisR ?_
  intro p e s m args below meth c s₁ Bd hml0 hP hK
  obtain ⟨rfl, hZ, hh⟩ := hP
  have hx := Bd.exec
  have hby := Bd.bytes
  have hml : c.maxLocals = 5 := hml0
  have hown : s.vm.findClass "com/example/bericht/bericht/selector/Comparison$Operator" = some m.cls := findClass_of_methodNamed Bd.named
  have hnm := (name_of_methodNamed Bd.named Bd.method).1
  have hlk := Bd.notSynchronized
  have X0 : Stand p l e ({ frames := 1, cells := 0, slots := 0, locals := 12 } : Room) s m #[(.ref w0), (.long x1), (.long x2)] below meth c s₁ [] 0 0 := Stand.of_body Bd
  have e0 : s₁.heap = h0 := by rw [← hh, Bd.state]; rfl
  have K0 := K
  obtain ⟨S_w0, S_w1, S_w2, S_w3, S_w4, S_w5, E_w0, E_w1, E_w2, E_w3, E_w4, E_w5, F_w0_ordinal, F_w1_ordinal, F_w2_ordinal, F_w3_ordinal, F_w4_ordinal, F_w5_ordinal, n_w0_w1, n_w0_w2, n_w0_w3, n_w0_w4, n_w0_w5, n_w1_w2, n_w1_w3, n_w1_w4, n_w1_w5, n_w2_w3, n_w2_w4, n_w2_w5, n_w3_w4, n_w3_w5, n_w4_w5⟩ := K
  show own_Go p e below s (Q3_0 x1 x2 w0 w1 w2 w3 w4 w5 h0) 0 0 (s₁.setTop (entryFrame m #[(.ref w0), (.long x1), (.long x2)] 5))
  rw [show entryFrame m #[(.ref w0), (.long x1), (.long x2)] 5 = mkF m 0 #[.val (.ref w0), .val (.long x1), .second, .val (.long x2), .second] [] from by first | (simp [entryFrame, mkF, argsToLocals, Value.category]; done) | rfl]
  show own_Go p e below s _ _ _ (s₁.setTop (mkF m 0 #[.val (.ref w0), .val (.long x1), .second, .val (.long x2), .second] []))
  refine own_via (fun _ k => XS.aloadN X0.here hx rfl (hb hby d3_0) rfl rfl k) ?_
  show own_Go p e below s _ _ _ (s₁.setTop (mkF m 1 #[.val (.ref w0), .val (.long x1), .second, .val (.long x2), .second] [(.ref w0)]))
  obtain ⟨cq1, kq1, q1a, q1b, q1c⟩ := isOf hZ e0 E_w0
  obtain ⟨_, _, ⟨T1, L1, k1, n1⟩, -, X1, ⟨Lc1, hQ1, l1, y1, z1⟩, st1⟩ := X0.virtualBackUp hx (x := (⟨"com/example/bericht/bericht/selector/Comparison$Operator", "ordinal", "()I"⟩ : MethodName)) (y := (⟨"java/lang/Enum", "ordinal", "()I"⟩ : MethodName)) (owner := "java/lang/Enum") hown (mvT hZ (hw _ (List.mem_of_getElem? (i := 19) rfl))) (mvT hZ (hw _ (List.mem_of_getElem? (i := 20) rfl))) (mvT hZ (hw _ (List.mem_of_getElem? (i := 21) rfl))) (by decide) (mvT hZ (hw _ (List.mem_of_getElem? (i := 23) rfl))) (mvT hZ (hw _ (List.mem_of_getElem? (i := 22) rfl))) (backOf (W := 0) (rm4_0 l Z a0 hw [] w0 w1 w2 w3 w4 w5 h0 n0 Z0 K0) hZ (hw _ (List.mem_of_getElem? (i := 25) rfl)) (hw _ (List.mem_of_getElem? (i := 24) rfl)) (by decide) (by decide)) q1a q1c (g := (mkF m 1 #[.val (.ref w0), .val (.long x1), .second, .val (.long x2), .second] [(.ref w0)])) rfl (by rw [hml]; rfl) (Steps.refl _) (argsL := []) (rest := []) (lenOf pd2 rfl) rfl (by show 2 * 0 + _ ≤ _; exact Nat.le_of_eq rfl) (hb hby d3_1) (fun _ _ => ⟨rfl, e0, (by decide : 0 + 0 ≤ _), (by decide : 0 + 0 ≤ _)⟩)
  dsimp only [Pt.U, Pt.locs, Pt.cells, Pt.slots] at X1 l1 y1 z1 st1 hQ1
  subst l1 y1 z1
  obtain ⟨rfl, e1, hO1⟩ := hQ1
  obtain rfl := hO1
  refine own_tr st1 ?_
  show own_Go p e below s _ _ _ (T1.setTop (mkF m 4 #[.val (.ref w0), .val (.long x1), .second, .val (.long x2), .second] [(.int (0 : Int32))]))
  refine own_via (fun _ k => XS.tswIn X1.here hx rfl (o := 50) (pc0 := 4) (pc' := 54) rfl (hb hby d3_4) rfl (by decide) (by decide) (by decide) (by decide) k) ?_
  show own_Go p e below s _ _ _ (T1.setTop (mkF m 54 #[.val (.ref w0), .val (.long x1), .second, .val (.long x2), .second] []))
  refine own_via (fun _ k => XS.lloadN X1.here hx rfl (hb hby d3_54) rfl k) ?_
  show own_Go p e below s _ _ _ (T1.setTop (mkF m 55 #[.val (.ref w0), .val (.long x1), .second, .val (.long x2), .second] [(.long x1)]))
  refine own_via (fun _ k => XS.lloadN X1.here hx rfl (hb hby d3_55) rfl k) ?_
  show own_Go p e below s _ _ _ (T1.setTop (mkF m 56 #[.val (.ref w0), .val (.long x1), .second, .val (.long x2), .second] [(.long x2), (.long x1)]))
  refine own_via (fun _ k => XS.lcmp X1.here hx rfl (hb hby d3_56) rfl k) ?_
  show own_Go p e below s _ _ _ (T1.setTop (mkF m 57 #[.val (.ref w0), .val (.long x1), .second, .val (.long x2), .second] [(.int (lcmpW x1 x2))]))
  by_cases hc2 : x1 = x2
  · refine own_via (fun _ k => XS.ifNo X1.here hx rfl (hb hby d3_57) rfl ((if0 _ _).trans (teq ((lw_eq x1 x2).mpr hc2)).2) k) ?_
    show own_Go p e below s _ _ _ (T1.setTop (mkF m 60 #[.val (.ref w0), .val (.long x1), .second, .val (.long x2), .second] []))
    refine own_via (fun _ k => XS.iconst X1.here hx rfl (hb hby d3_60) k) ?_
    show own_Go p e below s _ _ _ (T1.setTop (mkF m 61 #[.val (.ref w0), .val (.long x1), .second, .val (.long x2), .second] [(.int (1 : Int32))]))
    refine own_via (fun _ k => XS.goto X1.here hx rfl (pc0 := 61) (pc' := 135) rfl (hb hby d3_61) (by decide) (by decide) k) ?_
    show own_Go p e below s _ _ _ (T1.setTop (mkF m 135 #[.val (.ref w0), .val (.long x1), .second, .val (.long x2), .second] [(.int (1 : Int32))]))
    exact own_retZ X1 hx hlk (t := .boolean) Bd.returns (by simp) (hb hby d3_135) (z' := (1 : Int32)) (by first | rfl | decide) ⟨rfl, e1, Or.inl ⟨hc2, rfl⟩⟩ (by decide) (by decide)
  · refine own_via (fun _ k => XS.ifYes X1.here hx rfl (pc0 := 57) (pc' := 64) rfl (hb hby d3_57) rfl ((if0 _ _).trans (feq (mt (lw_eq x1 x2).mp hc2)).2) (by decide) (by decide) k) ?_
    show own_Go p e below s _ _ _ (T1.setTop (mkF m 64 #[.val (.ref w0), .val (.long x1), .second, .val (.long x2), .second] []))
    refine own_via (fun _ k => XS.iconst X1.here hx rfl (hb hby d3_64) k) ?_
    show own_Go p e below s _ _ _ (T1.setTop (mkF m 65 #[.val (.ref w0), .val (.long x1), .second, .val (.long x2), .second] [(.int (0 : Int32))]))
    refine own_via (fun _ k => XS.goto X1.here hx rfl (pc0 := 65) (pc' := 135) rfl (hb hby d3_65) (by decide) (by decide) k) ?_
    show own_Go p e below s _ _ _ (T1.setTop (mkF m 135 #[.val (.ref w0), .val (.long x1), .second, .val (.long x2), .second] [(.int (0 : Int32))]))
    exact own_retZ X1 hx hlk (t := .boolean) Bd.returns (by simp) (hb hby d3_135) (z' := (0 : Int32)) (by first | rfl | decide) ⟨rfl, e1, Or.inr (⟨hc2, rfl⟩)⟩ (by decide) (by decide)
def Q3_1 (w0 : Addr) (w1 : Addr) (w2 : Addr) (w3 : Addr) (w4 : Addr) (w5 : Addr) (h0 : Heap) (v : Option Value) (h : Heap) (L : List Loc) : Prop := L = [] ∧ h = h0 ∧ ((v = some (.int (0 : Int32))))
set_option maxRecDepth 65536 in
set_option maxHeartbeats 40000000 in
theorem rm3_1 (l : Launch) (Z : State) (a0 : Array Value) (hw : ∀ d ∈ tables_1, d.before a0 Z = true) (ws : List Jvm.Cond) (w0 : Addr) (w1 : Addr) (w2 : Addr) (w3 : Addr) (w4 : Addr) (w5 : Addr) (h0 : Heap) (n0 : Nat) (Z0 : n0 ≤ h0.size) (K : own_K Z h0 w0 w1 w2 w3 w4 w5) :
    MetFree l (⟨"com/example/bericht/bericht/selector/Comparison$Operator", "holds", "(JJ)Z"⟩ : MethodName) (head1 (Jvm.Cond.code (⟨"com/example/bericht/bericht/selector/Comparison$Operator", "holds", "(JJ)Z"⟩ : MethodName) prog_22_method_5_code 5 (some .boolean) :: ws) ({ frames := 1, cells := 0, slots := 0, locals := 12 } : Room)) (fun a U => a = #[(.ref w0), (.long (0 : Int64)), (.long (1 : Int64))] ∧ Z.Warmed39 U.vm ∧ U.heap = h0) (fun _ _ _ _ _ => True) (fun _ U o U' => ∃ v L, o = .returned v ∧ Q3_1 w0 w1 w2 w3 w4 w5 h0 v U'.heap L ∧ FrameEnd U o U' L ({ frames := 1, cells := 0, slots := 0, locals := 12 } : Room).cells ({ frames := 1, cells := 0, slots := 0, locals := 12 } : Room).slots) := by
  refine MetFree.of_bodySF (plainFor_of_name pn1) hisR ?_
  intro p e s m args below meth c s₁ Bd hml0 hP hK
  obtain ⟨rfl, hZ, hh⟩ := hP
  have hx := Bd.exec
  have hby := Bd.bytes
  have hml : c.maxLocals = 5 := hml0
  have hown : s.vm.findClass "com/example/bericht/bericht/selector/Comparison$Operator" = some m.cls := findClass_of_methodNamed Bd.named
  have hnm := (name_of_methodNamed Bd.named Bd.method).1
  have hlk := Bd.notSynchronized
  have X0 : Stand p l e ({ frames := 1, cells := 0, slots := 0, locals := 12 } : Room) s m #[(.ref w0), (.long (0 : Int64)), (.long (1 : Int64))] below meth c s₁ [] 0 0 := Stand.of_body Bd
  have e0 : s₁.heap = h0 := by rw [← hh, Bd.state]; rfl
  have K0 := K
  obtain ⟨S_w0, S_w1, S_w2, S_w3, S_w4, S_w5, E_w0, E_w1, E_w2, E_w3, E_w4, E_w5, F_w0_ordinal, F_w1_ordinal, F_w2_ordinal, F_w3_ordinal, F_w4_ordinal, F_w5_ordinal, n_w0_w1, n_w0_w2, n_w0_w3, n_w0_w4, n_w0_w5, n_w1_w2, n_w1_w3, n_w1_w4, n_w1_w5, n_w2_w3, n_w2_w4, n_w2_w5, n_w3_w4, n_w3_w5, n_w4_w5⟩ := K
  show own_Go p e below s (Q3_1 w0 w1 w2 w3 w4 w5 h0) 0 0 (s₁.setTop (entryFrame m #[(.ref w0), (.long (0 : Int64)), (.long (1 : Int64))] 5))
  rw [show entryFrame m #[(.ref w0), (.long (0 : Int64)), (.long (1 : Int64))] 5 = mkF m 0 #[.val (.ref w0), .val (.long (0 : Int64)), .second, .val (.long (1 : Int64)), .second] [] from by first | (simp [entryFrame, mkF, argsToLocals, Value.category]; done) | rfl]
  show own_Go p e below s _ _ _ (s₁.setTop (mkF m 0 #[.val (.ref w0), .val (.long (0 : Int64)), .second, .val (.long (1 : Int64)), .second] []))
  refine own_via (fun _ k => XS.aloadN X0.here hx rfl (hb hby d3_0) rfl rfl k) ?_
  show own_Go p e below s _ _ _ (s₁.setTop (mkF m 1 #[.val (.ref w0), .val (.long (0 : Int64)), .second, .val (.long (1 : Int64)), .second] [(.ref w0)]))
  obtain ⟨cq1, kq1, q1a, q1b, q1c⟩ := isOf hZ e0 E_w0
  obtain ⟨_, _, ⟨T1, L1, k1, n1⟩, -, X1, ⟨Lc1, hQ1, l1, y1, z1⟩, st1⟩ := X0.virtualBackUp hx (x := (⟨"com/example/bericht/bericht/selector/Comparison$Operator", "ordinal", "()I"⟩ : MethodName)) (y := (⟨"java/lang/Enum", "ordinal", "()I"⟩ : MethodName)) (owner := "java/lang/Enum") hown (mvT hZ (hw _ (List.mem_of_getElem? (i := 19) rfl))) (mvT hZ (hw _ (List.mem_of_getElem? (i := 20) rfl))) (mvT hZ (hw _ (List.mem_of_getElem? (i := 21) rfl))) (by decide) (mvT hZ (hw _ (List.mem_of_getElem? (i := 23) rfl))) (mvT hZ (hw _ (List.mem_of_getElem? (i := 22) rfl))) (backOf (W := 0) (rm4_0 l Z a0 hw [] w0 w1 w2 w3 w4 w5 h0 n0 Z0 K0) hZ (hw _ (List.mem_of_getElem? (i := 25) rfl)) (hw _ (List.mem_of_getElem? (i := 24) rfl)) (by decide) (by decide)) q1a q1c (g := (mkF m 1 #[.val (.ref w0), .val (.long (0 : Int64)), .second, .val (.long (1 : Int64)), .second] [(.ref w0)])) rfl (by rw [hml]; rfl) (Steps.refl _) (argsL := []) (rest := []) (lenOf pd2 rfl) rfl (by show 2 * 0 + _ ≤ _; exact Nat.le_of_eq rfl) (hb hby d3_1) (fun _ _ => ⟨rfl, e0, (by decide : 0 + 0 ≤ _), (by decide : 0 + 0 ≤ _)⟩)
  dsimp only [Pt.U, Pt.locs, Pt.cells, Pt.slots] at X1 l1 y1 z1 st1 hQ1
  subst l1 y1 z1
  obtain ⟨rfl, e1, hO1⟩ := hQ1
  obtain rfl := hO1
  refine own_tr st1 ?_
  show own_Go p e below s _ _ _ (T1.setTop (mkF m 4 #[.val (.ref w0), .val (.long (0 : Int64)), .second, .val (.long (1 : Int64)), .second] [(.int (0 : Int32))]))
  refine own_via (fun _ k => XS.tswIn X1.here hx rfl (o := 50) (pc0 := 4) (pc' := 54) rfl (hb hby d3_4) rfl (by decide) (by decide) (by decide) (by decide) k) ?_
  show own_Go p e below s _ _ _ (T1.setTop (mkF m 54 #[.val (.ref w0), .val (.long (0 : Int64)), .second, .val (.long (1 : Int64)), .second] []))
  refine own_via (fun _ k => XS.lloadN X1.here hx rfl (hb hby d3_54) rfl k) ?_
  show own_Go p e below s _ _ _ (T1.setTop (mkF m 55 #[.val (.ref w0), .val (.long (0 : Int64)), .second, .val (.long (1 : Int64)), .second] [(.long (0 : Int64))]))
  refine own_via (fun _ k => XS.lloadN X1.here hx rfl (hb hby d3_55) rfl k) ?_
  show own_Go p e below s _ _ _ (T1.setTop (mkF m 56 #[.val (.ref w0), .val (.long (0 : Int64)), .second, .val (.long (1 : Int64)), .second] [(.long (1 : Int64)), (.long (0 : Int64))]))
  refine own_via (fun _ k => XS.lcmp X1.here hx rfl (hb hby d3_56) rfl k) ?_
  show own_Go p e below s _ _ _ (T1.setTop (mkF m 57 #[.val (.ref w0), .val (.long (0 : Int64)), .second, .val (.long (1 : Int64)), .second] [(.int (lcmpW (0 : Int64) (1 : Int64)))]))
  refine own_via (fun _ k => XS.ifYes X1.here hx rfl (pc0 := 57) (pc' := 64) rfl (hb hby d3_57) rfl ((if0 _ _).trans (feq (by decide : ¬ ((lcmpW (0 : Int64) (1 : Int64)) = (0 : Int32)))).2) (by decide) (by decide) k) ?_
  show own_Go p e below s _ _ _ (T1.setTop (mkF m 64 #[.val (.ref w0), .val (.long (0 : Int64)), .second, .val (.long (1 : Int64)), .second] []))
  refine own_via (fun _ k => XS.iconst X1.here hx rfl (hb hby d3_64) k) ?_
  show own_Go p e below s _ _ _ (T1.setTop (mkF m 65 #[.val (.ref w0), .val (.long (0 : Int64)), .second, .val (.long (1 : Int64)), .second] [(.int (0 : Int32))]))
  refine own_via (fun _ k => XS.goto X1.here hx rfl (pc0 := 65) (pc' := 135) rfl (hb hby d3_65) (by decide) (by decide) k) ?_
  show own_Go p e below s _ _ _ (T1.setTop (mkF m 135 #[.val (.ref w0), .val (.long (0 : Int64)), .second, .val (.long (1 : Int64)), .second] [(.int (0 : Int32))]))
  exact own_retZ X1 hx hlk (t := .boolean) Bd.returns (by simp) (hb hby d3_135) (z' := (0 : Int32)) (by first | rfl | decide) ⟨rfl, e1, rfl⟩ (by decide) (by decide)
def Q3_2 (w0 : Addr) (w1 : Addr) (w2 : Addr) (w3 : Addr) (w4 : Addr) (w5 : Addr) (h0 : Heap) (v : Option Value) (h : Heap) (L : List Loc) : Prop := L = [] ∧ h = h0 ∧ ((v = some (.int (0 : Int32))))
set_option maxRecDepth 65536 in
set_option maxHeartbeats 40000000 in
theorem rm3_2 (l : Launch) (Z : State) (a0 : Array Value) (hw : ∀ d ∈ tables_1, d.before a0 Z = true) (ws : List Jvm.Cond) (w0 : Addr) (w1 : Addr) (w2 : Addr) (w3 : Addr) (w4 : Addr) (w5 : Addr) (h0 : Heap) (n0 : Nat) (Z0 : n0 ≤ h0.size) (K : own_K Z h0 w0 w1 w2 w3 w4 w5) :
    MetFree l (⟨"com/example/bericht/bericht/selector/Comparison$Operator", "holds", "(JJ)Z"⟩ : MethodName) (head1 (Jvm.Cond.code (⟨"com/example/bericht/bericht/selector/Comparison$Operator", "holds", "(JJ)Z"⟩ : MethodName) prog_22_method_5_code 5 (some .boolean) :: ws) ({ frames := 1, cells := 0, slots := 0, locals := 12 } : Room)) (fun a U => a = #[(.ref w0), (.long (1 : Int64)), (.long (0 : Int64))] ∧ Z.Warmed39 U.vm ∧ U.heap = h0) (fun _ _ _ _ _ => True) (fun _ U o U' => ∃ v L, o = .returned v ∧ Q3_2 w0 w1 w2 w3 w4 w5 h0 v U'.heap L ∧ FrameEnd U o U' L ({ frames := 1, cells := 0, slots := 0, locals := 12 } : Room).cells ({ frames := 1, cells := 0, slots := 0, locals := 12 } : Room).slots) := by
  refine MetFree.of_bodySF (plainFor_of_name pn1) hisR ?_
  intro p e s m args below meth c s₁ Bd hml0 hP hK
  obtain ⟨rfl, hZ, hh⟩ := hP
  have hx := Bd.exec
  have hby := Bd.bytes
  have hml : c.maxLocals = 5 := hml0
  have hown : s.vm.findClass "com/example/bericht/bericht/selector/Comparison$Operator" = some m.cls := findClass_of_methodNamed Bd.named
  have hnm := (name_of_methodNamed Bd.named Bd.method).1
  have hlk := Bd.notSynchronized
  have X0 : Stand p l e ({ frames := 1, cells := 0, slots := 0, locals := 12 } : Room) s m #[(.ref w0), (.long (1 : Int64)), (.long (0 : Int64))] below meth c s₁ [] 0 0 := Stand.of_body Bd
  have e0 : s₁.heap = h0 := by rw [← hh, Bd.state]; rfl
  have K0 := K
  obtain ⟨S_w0, S_w1, S_w2, S_w3, S_w4, S_w5, E_w0, E_w1, E_w2, E_w3, E_w4, E_w5, F_w0_ordinal, F_w1_ordinal, F_w2_ordinal, F_w3_ordinal, F_w4_ordinal, F_w5_ordinal, n_w0_w1, n_w0_w2, n_w0_w3, n_w0_w4, n_w0_w5, n_w1_w2, n_w1_w3, n_w1_w4, n_w1_w5, n_w2_w3, n_w2_w4, n_w2_w5, n_w3_w4, n_w3_w5, n_w4_w5⟩ := K
  show own_Go p e below s (Q3_2 w0 w1 w2 w3 w4 w5 h0) 0 0 (s₁.setTop (entryFrame m #[(.ref w0), (.long (1 : Int64)), (.long (0 : Int64))] 5))
  rw [show entryFrame m #[(.ref w0), (.long (1 : Int64)), (.long (0 : Int64))] 5 = mkF m 0 #[.val (.ref w0), .val (.long (1 : Int64)), .second, .val (.long (0 : Int64)), .second] [] from by first | (simp [entryFrame, mkF, argsToLocals, Value.category]; done) | rfl]
  show own_Go p e below s _ _ _ (s₁.setTop (mkF m 0 #[.val (.ref w0), .val (.long (1 : Int64)), .second, .val (.long (0 : Int64)), .second] []))
  refine own_via (fun _ k => XS.aloadN X0.here hx rfl (hb hby d3_0) rfl rfl k) ?_
  show own_Go p e below s _ _ _ (s₁.setTop (mkF m 1 #[.val (.ref w0), .val (.long (1 : Int64)), .second, .val (.long (0 : Int64)), .second] [(.ref w0)]))
  obtain ⟨cq1, kq1, q1a, q1b, q1c⟩ := isOf hZ e0 E_w0
  obtain ⟨_, _, ⟨T1, L1, k1, n1⟩, -, X1, ⟨Lc1, hQ1, l1, y1, z1⟩, st1⟩ := X0.virtualBackUp hx (x := (⟨"com/example/bericht/bericht/selector/Comparison$Operator", "ordinal", "()I"⟩ : MethodName)) (y := (⟨"java/lang/Enum", "ordinal", "()I"⟩ : MethodName)) (owner := "java/lang/Enum") hown (mvT hZ (hw _ (List.mem_of_getElem? (i := 19) rfl))) (mvT hZ (hw _ (List.mem_of_getElem? (i := 20) rfl))) (mvT hZ (hw _ (List.mem_of_getElem? (i := 21) rfl))) (by decide) (mvT hZ (hw _ (List.mem_of_getElem? (i := 23) rfl))) (mvT hZ (hw _ (List.mem_of_getElem? (i := 22) rfl))) (backOf (W := 0) (rm4_0 l Z a0 hw [] w0 w1 w2 w3 w4 w5 h0 n0 Z0 K0) hZ (hw _ (List.mem_of_getElem? (i := 25) rfl)) (hw _ (List.mem_of_getElem? (i := 24) rfl)) (by decide) (by decide)) q1a q1c (g := (mkF m 1 #[.val (.ref w0), .val (.long (1 : Int64)), .second, .val (.long (0 : Int64)), .second] [(.ref w0)])) rfl (by rw [hml]; rfl) (Steps.refl _) (argsL := []) (rest := []) (lenOf pd2 rfl) rfl (by show 2 * 0 + _ ≤ _; exact Nat.le_of_eq rfl) (hb hby d3_1) (fun _ _ => ⟨rfl, e0, (by decide : 0 + 0 ≤ _), (by decide : 0 + 0 ≤ _)⟩)
  dsimp only [Pt.U, Pt.locs, Pt.cells, Pt.slots] at X1 l1 y1 z1 st1 hQ1
  subst l1 y1 z1
  obtain ⟨rfl, e1, hO1⟩ := hQ1
  obtain rfl := hO1
  refine own_tr st1 ?_
  show own_Go p e below s _ _ _ (T1.setTop (mkF m 4 #[.val (.ref w0), .val (.long (1 : Int64)), .second, .val (.long (0 : Int64)), .second] [(.int (0 : Int32))]))
  refine own_via (fun _ k => XS.tswIn X1.here hx rfl (o := 50) (pc0 := 4) (pc' := 54) rfl (hb hby d3_4) rfl (by decide) (by decide) (by decide) (by decide) k) ?_
  show own_Go p e below s _ _ _ (T1.setTop (mkF m 54 #[.val (.ref w0), .val (.long (1 : Int64)), .second, .val (.long (0 : Int64)), .second] []))
  refine own_via (fun _ k => XS.lloadN X1.here hx rfl (hb hby d3_54) rfl k) ?_
  show own_Go p e below s _ _ _ (T1.setTop (mkF m 55 #[.val (.ref w0), .val (.long (1 : Int64)), .second, .val (.long (0 : Int64)), .second] [(.long (1 : Int64))]))
  refine own_via (fun _ k => XS.lloadN X1.here hx rfl (hb hby d3_55) rfl k) ?_
  show own_Go p e below s _ _ _ (T1.setTop (mkF m 56 #[.val (.ref w0), .val (.long (1 : Int64)), .second, .val (.long (0 : Int64)), .second] [(.long (0 : Int64)), (.long (1 : Int64))]))
  refine own_via (fun _ k => XS.lcmp X1.here hx rfl (hb hby d3_56) rfl k) ?_
  show own_Go p e below s _ _ _ (T1.setTop (mkF m 57 #[.val (.ref w0), .val (.long (1 : Int64)), .second, .val (.long (0 : Int64)), .second] [(.int (lcmpW (1 : Int64) (0 : Int64)))]))
  refine own_via (fun _ k => XS.ifYes X1.here hx rfl (pc0 := 57) (pc' := 64) rfl (hb hby d3_57) rfl ((if0 _ _).trans (feq (by decide : ¬ ((lcmpW (1 : Int64) (0 : Int64)) = (0 : Int32)))).2) (by decide) (by decide) k) ?_
  show own_Go p e below s _ _ _ (T1.setTop (mkF m 64 #[.val (.ref w0), .val (.long (1 : Int64)), .second, .val (.long (0 : Int64)), .second] []))
  refine own_via (fun _ k => XS.iconst X1.here hx rfl (hb hby d3_64) k) ?_
  show own_Go p e below s _ _ _ (T1.setTop (mkF m 65 #[.val (.ref w0), .val (.long (1 : Int64)), .second, .val (.long (0 : Int64)), .second] [(.int (0 : Int32))]))
  refine own_via (fun _ k => XS.goto X1.here hx rfl (pc0 := 65) (pc' := 135) rfl (hb hby d3_65) (by decide) (by decide) k) ?_
  show own_Go p e below s _ _ _ (T1.setTop (mkF m 135 #[.val (.ref w0), .val (.long (1 : Int64)), .second, .val (.long (0 : Int64)), .second] [(.int (0 : Int32))]))
  exact own_retZ X1 hx hlk (t := .boolean) Bd.returns (by simp) (hb hby d3_135) (z' := (0 : Int32)) (by first | rfl | decide) ⟨rfl, e1, rfl⟩ (by decide) (by decide)
def Q5_0 (w0 : Addr) (w1 : Addr) (w2 : Addr) (w3 : Addr) (w4 : Addr) (w5 : Addr) (h0 : Heap) (v : Option Value) (h : Heap) (L : List Loc) : Prop := L = [] ∧ h = h0 ∧ ((v = some (.ref w0)))
set_option maxRecDepth 65536 in
set_option maxHeartbeats 40000000 in
theorem rm5_0 (l : Launch) (Z : State) (a0 : Array Value) (hw : ∀ d ∈ tables_1, d.before a0 Z = true) (ws : List Jvm.Cond) (w0 : Addr) (w1 : Addr) (w2 : Addr) (w3 : Addr) (w4 : Addr) (w5 : Addr) (h0 : Heap) (n0 : Nat) (Z0 : n0 ≤ h0.size) (K : own_K Z h0 w0 w1 w2 w3 w4 w5) :
    MetFree l (⟨"com/example/bericht/bericht/selector/Comparison$Operator", "flipped", "()Lcom/example/bericht/bericht/selector/Comparison$Operator;"⟩ : MethodName) (head1 (Jvm.Cond.code (⟨"com/example/bericht/bericht/selector/Comparison$Operator", "flipped", "()Lcom/example/bericht/bericht/selector/Comparison$Operator;"⟩ : MethodName) prog_22_method_7_code 1 (some (.object "com/example/bericht/bericht/selector/Comparison$Operator")) :: ws) ({ frames := 1, cells := 0, slots := 0, locals := 12 } : Room)) (fun a U => a = #[(.ref w0)] ∧ Z.Warmed39 U.vm ∧ U.heap = h0) (fun _ _ _ _ _ => True) (fun _ U o U' => ∃ v L, o = .returned v ∧ Q5_0 w0 w1 w2 w3 w4 w5 h0 v U'.heap L ∧ FrameEnd U o U' L ({ frames := 1, cells := 0, slots := 0, locals := 12 } : Room).cells ({ frames := 1, cells := 0, slots := 0, locals := 12 } : Room).slots) := by
  refine MetFree.of_bodySF (plainFor_of_name pn1) hisR ?_
  intro p e s m args below meth c s₁ Bd hml0 hP hK
  obtain ⟨rfl, hZ, hh⟩ := hP
  have hx := Bd.exec
  have hby := Bd.bytes
  have hml : c.maxLocals = 1 := hml0
  have hown : s.vm.findClass "com/example/bericht/bericht/selector/Comparison$Operator" = some m.cls := findClass_of_methodNamed Bd.named
  have hnm := (name_of_methodNamed Bd.named Bd.method).1
  have hlk := Bd.notSynchronized
  have X0 : Stand p l e ({ frames := 1, cells := 0, slots := 0, locals := 12 } : Room) s m #[(.ref w0)] below meth c s₁ [] 0 0 := Stand.of_body Bd
  have e0 : s₁.heap = h0 := by rw [← hh, Bd.state]; rfl
  have K0 := K
  obtain ⟨S_w0, S_w1, S_w2, S_w3, S_w4, S_w5, E_w0, E_w1, E_w2, E_w3, E_w4, E_w5, F_w0_ordinal, F_w1_ordinal, F_w2_ordinal, F_w3_ordinal, F_w4_ordinal, F_w5_ordinal, n_w0_w1, n_w0_w2, n_w0_w3, n_w0_w4, n_w0_w5, n_w1_w2, n_w1_w3, n_w1_w4, n_w1_w5, n_w2_w3, n_w2_w4, n_w2_w5, n_w3_w4, n_w3_w5, n_w4_w5⟩ := K
  show own_Go p e below s (Q5_0 w0 w1 w2 w3 w4 w5 h0) 0 0 (s₁.setTop (entryFrame m #[(.ref w0)] 1))
  rw [show entryFrame m #[(.ref w0)] 1 = mkF m 0 #[.val (.ref w0)] [] from by first | (simp [entryFrame, mkF, argsToLocals, Value.category]; done) | rfl]
  show own_Go p e below s _ _ _ (s₁.setTop (mkF m 0 #[.val (.ref w0)] []))
  refine own_via (fun _ k => XS.aloadN X0.here hx rfl (hb hby d5_0) rfl rfl k) ?_
  show own_Go p e below s _ _ _ (s₁.setTop (mkF m 1 #[.val (.ref w0)] [(.ref w0)]))
  obtain ⟨cq1, kq1, q1a, q1b, q1c⟩ := isOf hZ e0 E_w0
  obtain ⟨_, _, ⟨T1, L1, k1, n1⟩, -, X1, ⟨Lc1, hQ1, l1, y1, z1⟩, st1⟩ := X0.virtualBackUp hx (x := (⟨"com/example/bericht/bericht/selector/Comparison$Operator", "ordinal", "()I"⟩ : MethodName)) (y := (⟨"java/lang/Enum", "ordinal", "()I"⟩ : MethodName)) (owner := "java/lang/Enum") hown (mvT hZ (hw _ (List.mem_of_getElem? (i := 19) rfl))) (mvT hZ (hw _ (List.mem_of_getElem? (i := 20) rfl))) (mvT hZ (hw _ (List.mem_of_getElem? (i := 21) rfl))) (by decide) (mvT hZ (hw _ (List.mem_of_getElem? (i := 23) rfl))) (mvT hZ (hw _ (List.mem_of_getElem? (i := 22) rfl))) (backOf (W := 0) (rm4_0 l Z a0 hw [] w0 w1 w2 w3 w4 w5 h0 n0 Z0 K0) hZ (hw _ (List.mem_of_getElem? (i := 25) rfl)) (hw _ (List.mem_of_getElem? (i := 24) rfl)) (by decide) (by decide)) q1a q1c (g := (mkF m 1 #[.val (.ref w0)] [(.ref w0)])) rfl (by rw [hml]; rfl) (Steps.refl _) (argsL := []) (rest := []) (lenOf pd2 rfl) rfl (by show 2 * 0 + _ ≤ _; exact Nat.le_of_eq rfl) (hb hby d5_1) (fun _ _ => ⟨rfl, e0, (by decide : 0 + 0 ≤ _), (by decide : 0 + 0 ≤ _)⟩)
  dsimp only [Pt.U, Pt.locs, Pt.cells, Pt.slots] at X1 l1 y1 z1 st1 hQ1
  subst l1 y1 z1
  obtain ⟨rfl, e1, hO1⟩ := hQ1
  obtain rfl := hO1
  refine own_tr st1 ?_
  show own_Go p e below s _ _ _ (T1.setTop (mkF m 4 #[.val (.ref w0)] [(.int (0 : Int32))]))
  refine own_via (fun _ k => XS.tswIn X1.here hx rfl (o := 50) (pc0 := 4) (pc' := 54) rfl (hb hby d5_4) rfl (by decide) (by decide) (by decide) (by decide) k) ?_
  show own_Go p e below s _ _ _ (T1.setTop (mkF m 54 #[.val (.ref w0)] []))
  refine own_via (fun _ k => XS.aloadN X1.here hx rfl (hb hby d5_54) rfl rfl k) ?_
  show own_Go p e below s _ _ _ (T1.setTop (mkF m 55 #[.val (.ref w0)] [(.ref w0)]))
  refine own_via (fun _ k => XS.goto X1.here hx rfl (pc0 := 55) (pc' := 79) rfl (hb hby d5_55) (by decide) (by decide) k) ?_
  show own_Go p e below s _ _ _ (T1.setTop (mkF m 79 #[.val (.ref w0)] [(.ref w0)]))
  exact own_retR X1 hx hlk Bd.returns rfl rfl (hb hby d5_79) ⟨rfl, e1, rfl⟩ (by decide) (by decide)
def Q2_1 (w0 : Addr) (w1 : Addr) (w2 : Addr) (w3 : Addr) (w4 : Addr) (w5 : Addr) (h0 : Heap) (v : Option Value) (h : Heap) (L : List Loc) : Prop := L = [] ∧ h = h0 ∧ ((v = some (.int (1 : Int32))))
set_option maxRecDepth 65536 in
set_option maxHeartbeats 40000000 in
theorem rm2_1 (l : Launch) (Z : State) (a0 : Array Value) (hw : ∀ d ∈ tables_1, d.before a0 Z = true) (ws : List Jvm.Cond) (w0 : Addr) (w1 : Addr) (w2 : Addr) (w3 : Addr) (w4 : Addr) (w5 : Addr) (h0 : Heap) (n0 : Nat) (Z0 : n0 ≤ h0.size) (K : own_K Z h0 w0 w1 w2 w3 w4 w5) :
    MetFree l (⟨"com/example/bericht/bericht/selector/Comparison$Operator", "isEquality", "()Z"⟩ : MethodName) (head1 (Jvm.Cond.code (⟨"com/example/bericht/bericht/selector/Comparison$Operator", "isEquality", "()Z"⟩ : MethodName) prog_22_method_8_code 1 (some .boolean) :: ws) ({ frames := 0, cells := 0, slots := 0, locals := 0 } : Room)) (fun a U => a = #[(.ref w2)] ∧ Z.Warmed39 U.vm ∧ U.heap = h0) (fun _ _ _ _ _ => True) (fun _ U o U' => ∃ v L, o = .returned v ∧ Q2_1 w0 w1 w2 w3 w4 w5 h0 v U'.heap L ∧ FrameEnd U o U' L ({ frames := 0, cells := 0, slots := 0, locals := 0 } : Room).cells ({ frames := 0, cells := 0, slots := 0, locals := 0 } : Room).slots) := by
  refine MetFree.of_bodySF (plainFor_of_name pn1) hisR ?_
  intro p e s m args below meth c s₁ Bd hml0 hP hK
  obtain ⟨rfl, hZ, hh⟩ := hP
  have hx := Bd.exec
  have hby := Bd.bytes
  have hml : c.maxLocals = 1 := hml0
  have hown : s.vm.findClass "com/example/bericht/bericht/selector/Comparison$Operator" = some m.cls := findClass_of_methodNamed Bd.named
  have hnm := (name_of_methodNamed Bd.named Bd.method).1
  have hlk := Bd.notSynchronized
  have X0 : Stand p l e ({ frames := 0, cells := 0, slots := 0, locals := 0 } : Room) s m #[(.ref w2)] below meth c s₁ [] 0 0 := Stand.of_body Bd
  have e0 : s₁.heap = h0 := by rw [← hh, Bd.state]; rfl
  have K0 := K
  obtain ⟨S_w0, S_w1, S_w2, S_w3, S_w4, S_w5, E_w0, E_w1, E_w2, E_w3, E_w4, E_w5, F_w0_ordinal, F_w1_ordinal, F_w2_ordinal, F_w3_ordinal, F_w4_ordinal, F_w5_ordinal, n_w0_w1, n_w0_w2, n_w0_w3, n_w0_w4, n_w0_w5, n_w1_w2, n_w1_w3, n_w1_w4, n_w1_w5, n_w2_w3, n_w2_w4, n_w2_w5, n_w3_w4, n_w3_w5, n_w4_w5⟩ := K
  show own_Go p e below s (Q2_1 w0 w1 w2 w3 w4 w5 h0) 0 0 (s₁.setTop (entryFrame m #[(.ref w2)] 1))
  rw [show entryFrame m #[(.ref w2)] 1 = mkF m 0 #[.val (.ref w2)] [] from by first | (simp [entryFrame, mkF, argsToLocals, Value.category]; done) | rfl]
  show own_Go p e below s _ _ _ (s₁.setTop (mkF m 0 #[.val (.ref w2)] []))
  refine own_via (fun _ k => XS.aloadN X0.here hx rfl (hb hby d2_0) rfl rfl k) ?_
  show own_Go p e below s _ _ _ (s₁.setTop (mkF m 1 #[.val (.ref w2)] [(.ref w2)]))
  obtain ⟨T1, X1, e1, st1⟩ := getS2 X0 hx hZ hown (host := "") (Or.inl (hw _ (List.mem_of_getElem? (i := 13) rfl))) Via.refl e0 S_w0 (g := (mkF m 1 #[.val (.ref w2)] [(.ref w2)])) rfl (hb hby d2_1)
  refine own_via st1 ?_
  show own_Go p e below s _ _ _ (T1.setTop (mkF m 4 #[.val (.ref w2)] [(.ref w0), (.ref w2)]))
  refine own_via (fun _ k => Jvm.RoadKit.acmp (g := (mkF m 4 #[.val (.ref w2)] [(.ref w0), (.ref w2)])) X1 hx rfl rfl rfl (pc0 := 4) (pc' := 7) (same := false) rfl (hb hby d2_4) rfl (decide_eq_false fun q => (fun q => n_w0_w2 q.symm) (Value.ref.inj q)) (by decide) (by decide) k) ?_
  show own_Go p e below s _ _ _ (T1.setTop (mkF m 7 #[.val (.ref w2)] []))
  refine own_via (fun _ k => XS.aloadN X1.here hx rfl (hb hby d2_7) rfl rfl k) ?_
  show own_Go p e below s _ _ _ (T1.setTop (mkF m 8 #[.val (.ref w2)] [(.ref w2)]))
  obtain ⟨T2, X2, e2, st2⟩ := getS2 X1 hx hZ hown (host := "") (Or.inl (hw _ (List.mem_of_getElem? (i := 35) rfl))) Via.refl e1 S_w2 (g := (mkF m 8 #[.val (.ref w2)] [(.ref w2)])) rfl (hb hby d2_8)
  refine own_via st2 ?_
  show own_Go p e below s _ _ _ (T2.setTop (mkF m 11 #[.val (.ref w2)] [(.ref w2), (.ref w2)]))
  refine own_via (fun _ k => Jvm.RoadKit.acmp (g := (mkF m 11 #[.val (.ref w2)] [(.ref w2), (.ref w2)])) X2 hx rfl rfl rfl (pc0 := 11) (pc' := 14) (same := true) rfl (hb hby d2_11) rfl (decide_eq_true rfl) (by decide) (by decide) k) ?_
  show own_Go p e below s _ _ _ (T2.setTop (mkF m 14 #[.val (.ref w2)] []))
  refine own_via (fun _ k => XS.iconst X2.here hx rfl (hb hby d2_14) k) ?_
  show own_Go p e below s _ _ _ (T2.setTop (mkF m 15 #[.val (.ref w2)] [(.int (1 : Int32))]))
  refine own_via (fun _ k => XS.goto X2.here hx rfl (pc0 := 15) (pc' := 19) rfl (hb hby d2_15) (by decide) (by decide) k) ?_
  show own_Go p e below s _ _ _ (T2.setTop (mkF m 19 #[.val (.ref w2)] [(.int (1 : Int32))]))
  exact own_retZ X2 hx hlk (t := .boolean) Bd.returns (by simp) (hb hby d2_19) (z' := (1 : Int32)) (by first | rfl | decide) ⟨rfl, e2, rfl⟩ (by decide) (by decide)
def Q4_1 (w0 : Addr) (w1 : Addr) (w2 : Addr) (w3 : Addr) (w4 : Addr) (w5 : Addr) (h0 : Heap) (v : Option Value) (h : Heap) (L : List Loc) : Prop := L = [] ∧ h = h0 ∧ ((v = some (.int (1 : Int32))))
set_option maxRecDepth 65536 in
set_option maxHeartbeats 40000000 in
theorem rm4_1 (l : Launch) (Z : State) (a0 : Array Value) (hw : ∀ d ∈ tables_1, d.before a0 Z = true) (ws : List Jvm.Cond) (w0 : Addr) (w1 : Addr) (w2 : Addr) (w3 : Addr) (w4 : Addr) (w5 : Addr) (h0 : Heap) (n0 : Nat) (Z0 : n0 ≤ h0.size) (K : own_K Z h0 w0 w1 w2 w3 w4 w5) :
    MetFree l (⟨"java/lang/Enum", "ordinal", "()I"⟩ : MethodName) (head1 (Jvm.Cond.code (⟨"java/lang/Enum", "ordinal", "()I"⟩ : MethodName) jdk_37_method_2_code 1 (some .int) :: ws) ({ frames := 0, cells := 0, slots := 0, locals := 0 } : Room)) (fun a U => a = #[(.ref w2)] ∧ Z.Warmed39 U.vm ∧ U.heap = h0) (fun _ _ _ _ _ => True) (fun _ U o U' => ∃ v L, o = .returned v ∧ Q4_1 w0 w1 w2 w3 w4 w5 h0 v U'.heap L ∧ FrameEnd U o U' L ({ frames := 0, cells := 0, slots := 0, locals := 0 } : Room).cells ({ frames := 0, cells := 0, slots := 0, locals := 0 } : Room).slots) := by
  refine MetFree.of_bodySF (plainFor_of_name pn2) hisR ?_
  intro p e s m args below meth c s₁ Bd hml0 hP hK
  obtain ⟨rfl, hZ, hh⟩ := hP
  have hx := Bd.exec
  have hby := Bd.bytes
  have hml : c.maxLocals = 1 := hml0
  have hown : s.vm.findClass "java/lang/Enum" = some m.cls := findClass_of_methodNamed Bd.named
  have hnm := (name_of_methodNamed Bd.named Bd.method).1
  have hlk := Bd.notSynchronized
  have X0 : Stand p l e ({ frames := 0, cells := 0, slots := 0, locals := 0 } : Room) s m #[(.ref w2)] below meth c s₁ [] 0 0 := Stand.of_body Bd
  have e0 : s₁.heap = h0 := by rw [← hh, Bd.state]; rfl
  have K0 := K
  obtain ⟨S_w0, S_w1, S_w2, S_w3, S_w4, S_w5, E_w0, E_w1, E_w2, E_w3, E_w4, E_w5, F_w0_ordinal, F_w1_ordinal, F_w2_ordinal, F_w3_ordinal, F_w4_ordinal, F_w5_ordinal, n_w0_w1, n_w0_w2, n_w0_w3, n_w0_w4, n_w0_w5, n_w1_w2, n_w1_w3, n_w1_w4, n_w1_w5, n_w2_w3, n_w2_w4, n_w2_w5, n_w3_w4, n_w3_w5, n_w4_w5⟩ := K
  show own_Go p e below s (Q4_1 w0 w1 w2 w3 w4 w5 h0) 0 0 (s₁.setTop (entryFrame m #[(.ref w2)] 1))
  rw [show entryFrame m #[(.ref w2)] 1 = mkF m 0 #[.val (.ref w2)] [] from by first | (simp [entryFrame, mkF, argsToLocals, Value.category]; done) | rfl]
  show own_Go p e below s _ _ _ (s₁.setTop (mkF m 0 #[.val (.ref w2)] []))
  refine own_via (fun _ k => XS.aloadN X0.here hx rfl (hb hby d4_0) rfl rfl k) ?_
  show own_Go p e below s _ _ _ (s₁.setTop (mkF m 1 #[.val (.ref w2)] [(.ref w2)]))
  obtain ⟨T1, X1, e1, st1⟩ := getF X0 hx hZ hown (host := "") (Or.inl (hw _ (List.mem_of_getElem? (i := 26) rfl))) Via.refl e0 F_w2_ordinal (g := (mkF m 1 #[.val (.ref w2)] [(.ref w2)])) rfl rfl (hb hby d4_1)
  refine own_via st1 ?_
  show own_Go p e below s _ _ _ (T1.setTop (mkF m 4 #[.val (.ref w2)] [(.int (1 : Int32))]))
  exact own_retI X1 hx hlk Bd.returns (hb hby d4_4) ⟨rfl, e1, rfl⟩ (by decide) (by decide)
def Q3_3 (x1 : Int64) (x2 : Int64) (w0 : Addr) (w1 : Addr) (w2 : Addr) (w3 : Addr) (w4 : Addr) (w5 : Addr) (h0 : Heap) (v : Option Value) (h : Heap) (L : List Loc) : Prop := L = [] ∧ h = h0 ∧ ((x1 = x2 ∧ v = some (.int (0 : Int32))) ∨ (¬ (x1 = x2) ∧ v = some (.int (1 : Int32))))
set_option maxRecDepth 65536 in
set_option maxHeartbeats 40000000 in
theorem rm3_3 (l : Launch) (Z : State) (a0 : Array Value) (hw : ∀ d ∈ tables_1, d.before a0 Z = true) (ws : List Jvm.Cond) (x1 : Int64) (x2 : Int64) (w0 : Addr) (w1 : Addr) (w2 : Addr) (w3 : Addr) (w4 : Addr) (w5 : Addr) (h0 : Heap) (n0 : Nat) (Z0 : n0 ≤ h0.size) (K : own_K Z h0 w0 w1 w2 w3 w4 w5) :
    MetFree l (⟨"com/example/bericht/bericht/selector/Comparison$Operator", "holds", "(JJ)Z"⟩ : MethodName) (head1 (Jvm.Cond.code (⟨"com/example/bericht/bericht/selector/Comparison$Operator", "holds", "(JJ)Z"⟩ : MethodName) prog_22_method_5_code 5 (some .boolean) :: ws) ({ frames := 1, cells := 0, slots := 0, locals := 12 } : Room)) (fun a U => a = #[(.ref w2), (.long x1), (.long x2)] ∧ Z.Warmed39 U.vm ∧ U.heap = h0) (fun _ _ _ _ _ => True) (fun _ U o U' => ∃ v L, o = .returned v ∧ Q3_3 x1 x2 w0 w1 w2 w3 w4 w5 h0 v U'.heap L ∧ FrameEnd U o U' L ({ frames := 1, cells := 0, slots := 0, locals := 12 } : Room).cells ({ frames := 1, cells := 0, slots := 0, locals := 12 } : Room).slots) := by
  refine MetFree.of_bodySF (plainFor_of_name pn1) hisR ?_
  intro p e s m args below meth c s₁ Bd hml0 hP hK
  obtain ⟨rfl, hZ, hh⟩ := hP
  have hx := Bd.exec
  have hby := Bd.bytes
  have hml : c.maxLocals = 5 := hml0
  have hown : s.vm.findClass "com/example/bericht/bericht/selector/Comparison$Operator" = some m.cls := findClass_of_methodNamed Bd.named
  have hnm := (name_of_methodNamed Bd.named Bd.method).1
  have hlk := Bd.notSynchronized
  have X0 : Stand p l e ({ frames := 1, cells := 0, slots := 0, locals := 12 } : Room) s m #[(.ref w2), (.long x1), (.long x2)] below meth c s₁ [] 0 0 := Stand.of_body Bd
  have e0 : s₁.heap = h0 := by rw [← hh, Bd.state]; rfl
  have K0 := K
  obtain ⟨S_w0, S_w1, S_w2, S_w3, S_w4, S_w5, E_w0, E_w1, E_w2, E_w3, E_w4, E_w5, F_w0_ordinal, F_w1_ordinal, F_w2_ordinal, F_w3_ordinal, F_w4_ordinal, F_w5_ordinal, n_w0_w1, n_w0_w2, n_w0_w3, n_w0_w4, n_w0_w5, n_w1_w2, n_w1_w3, n_w1_w4, n_w1_w5, n_w2_w3, n_w2_w4, n_w2_w5, n_w3_w4, n_w3_w5, n_w4_w5⟩ := K
  show own_Go p e below s (Q3_3 x1 x2 w0 w1 w2 w3 w4 w5 h0) 0 0 (s₁.setTop (entryFrame m #[(.ref w2), (.long x1), (.long x2)] 5))
  rw [show entryFrame m #[(.ref w2), (.long x1), (.long x2)] 5 = mkF m 0 #[.val (.ref w2), .val (.long x1), .second, .val (.long x2), .second] [] from by first | (simp [entryFrame, mkF, argsToLocals, Value.category]; done) | rfl]
  show own_Go p e below s _ _ _ (s₁.setTop (mkF m 0 #[.val (.ref w2), .val (.long x1), .second, .val (.long x2), .second] []))
  refine own_via (fun _ k => XS.aloadN X0.here hx rfl (hb hby d3_0) rfl rfl k) ?_
  show own_Go p e below s _ _ _ (s₁.setTop (mkF m 1 #[.val (.ref w2), .val (.long x1), .second, .val (.long x2), .second] [(.ref w2)]))
  obtain ⟨cq1, kq1, q1a, q1b, q1c⟩ := isOf hZ e0 E_w2
  obtain ⟨_, _, ⟨T1, L1, k1, n1⟩, -, X1, ⟨Lc1, hQ1, l1, y1, z1⟩, st1⟩ := X0.virtualBackUp hx (x := (⟨"com/example/bericht/bericht/selector/Comparison$Operator", "ordinal", "()I"⟩ : MethodName)) (y := (⟨"java/lang/Enum", "ordinal", "()I"⟩ : MethodName)) (owner := "java/lang/Enum") hown (mvT hZ (hw _ (List.mem_of_getElem? (i := 19) rfl))) (mvT hZ (hw _ (List.mem_of_getElem? (i := 20) rfl))) (mvT hZ (hw _ (List.mem_of_getElem? (i := 21) rfl))) (by decide) (mvT hZ (hw _ (List.mem_of_getElem? (i := 23) rfl))) (mvT hZ (hw _ (List.mem_of_getElem? (i := 22) rfl))) (backOf (W := 0) (rm4_1 l Z a0 hw [] w0 w1 w2 w3 w4 w5 h0 n0 Z0 K0) hZ (hw _ (List.mem_of_getElem? (i := 25) rfl)) (hw _ (List.mem_of_getElem? (i := 24) rfl)) (by decide) (by decide)) q1a q1c (g := (mkF m 1 #[.val (.ref w2), .val (.long x1), .second, .val (.long x2), .second] [(.ref w2)])) rfl (by rw [hml]; rfl) (Steps.refl _) (argsL := []) (rest := []) (lenOf pd2 rfl) rfl (by show 2 * 0 + _ ≤ _; exact Nat.le_of_eq rfl) (hb hby d3_1) (fun _ _ => ⟨rfl, e0, (by decide : 0 + 0 ≤ _), (by decide : 0 + 0 ≤ _)⟩)
  dsimp only [Pt.U, Pt.locs, Pt.cells, Pt.slots] at X1 l1 y1 z1 st1 hQ1
  subst l1 y1 z1
  obtain ⟨rfl, e1, hO1⟩ := hQ1
  obtain rfl := hO1
  refine own_tr st1 ?_
  show own_Go p e below s _ _ _ (T1.setTop (mkF m 4 #[.val (.ref w2), .val (.long x1), .second, .val (.long x2), .second] [(.int (1 : Int32))]))
  refine own_via (fun _ k => XS.tswIn X1.here hx rfl (o := 64) (pc0 := 4) (pc' := 68) rfl (hb hby d3_4) rfl (by decide) (by decide) (by decide) (by decide) k) ?_
  show own_Go p e below s _ _ _ (T1.setTop (mkF m 68 #[.val (.ref w2), .val (.long x1), .second, .val (.long x2), .second] []))
  refine own_via (fun _ k => XS.lloadN X1.here hx rfl (hb hby d3_68) rfl k) ?_
  show own_Go p e below s _ _ _ (T1.setTop (mkF m 69 #[.val (.ref w2), .val (.long x1), .second, .val (.long x2), .second] [(.long x1)]))
  refine own_via (fun _ k => XS.lloadN X1.here hx rfl (hb hby d3_69) rfl k) ?_
  show own_Go p e below s _ _ _ (T1.setTop (mkF m 70 #[.val (.ref w2), .val (.long x1), .second, .val (.long x2), .second] [(.long x2), (.long x1)]))
  refine own_via (fun _ k => XS.lcmp X1.here hx rfl (hb hby d3_70) rfl k) ?_
  show own_Go p e below s _ _ _ (T1.setTop (mkF m 71 #[.val (.ref w2), .val (.long x1), .second, .val (.long x2), .second] [(.int (lcmpW x1 x2))]))
  by_cases hc2 : x1 = x2
  · refine own_via (fun _ k => XS.ifYes X1.here hx rfl (pc0 := 71) (pc' := 78) rfl (hb hby d3_71) rfl ((if0 _ _).trans (teq ((lw_eq x1 x2).mpr hc2)).1) (by decide) (by decide) k) ?_
    show own_Go p e below s _ _ _ (T1.setTop (mkF m 78 #[.val (.ref w2), .val (.long x1), .second, .val (.long x2), .second] []))
    refine own_via (fun _ k => XS.iconst X1.here hx rfl (hb hby d3_78) k) ?_
    show own_Go p e below s _ _ _ (T1.setTop (mkF m 79 #[.val (.ref w2), .val (.long x1), .second, .val (.long x2), .second] [(.int (0 : Int32))]))
    refine own_via (fun _ k => XS.goto X1.here hx rfl (pc0 := 79) (pc' := 135) rfl (hb hby d3_79) (by decide) (by decide) k) ?_
    show own_Go p e below s _ _ _ (T1.setTop (mkF m 135 #[.val (.ref w2), .val (.long x1), .second, .val (.long x2), .second] [(.int (0 : Int32))]))
    exact own_retZ X1 hx hlk (t := .boolean) Bd.returns (by simp) (hb hby d3_135) (z' := (0 : Int32)) (by first | rfl | decide) ⟨rfl, e1, Or.inl ⟨hc2, rfl⟩⟩ (by decide) (by decide)
  · refine own_via (fun _ k => XS.ifNo X1.here hx rfl (hb hby d3_71) rfl ((if0 _ _).trans (feq (mt (lw_eq x1 x2).mp hc2)).1) k) ?_
    show own_Go p e below s _ _ _ (T1.setTop (mkF m 74 #[.val (.ref w2), .val (.long x1), .second, .val (.long x2), .second] []))
    refine own_via (fun _ k => XS.iconst X1.here hx rfl (hb hby d3_74) k) ?_
    show own_Go p e below s _ _ _ (T1.setTop (mkF m 75 #[.val (.ref w2), .val (.long x1), .second, .val (.long x2), .second] [(.int (1 : Int32))]))
    refine own_via (fun _ k => XS.goto X1.here hx rfl (pc0 := 75) (pc' := 135) rfl (hb hby d3_75) (by decide) (by decide) k) ?_
    show own_Go p e below s _ _ _ (T1.setTop (mkF m 135 #[.val (.ref w2), .val (.long x1), .second, .val (.long x2), .second] [(.int (1 : Int32))]))
    exact own_retZ X1 hx hlk (t := .boolean) Bd.returns (by simp) (hb hby d3_135) (z' := (1 : Int32)) (by first | rfl | decide) ⟨rfl, e1, Or.inr (⟨hc2, rfl⟩)⟩ (by decide) (by decide)
def Q3_4 (w0 : Addr) (w1 : Addr) (w2 : Addr) (w3 : Addr) (w4 : Addr) (w5 : Addr) (h0 : Heap) (v : Option Value) (h : Heap) (L : List Loc) : Prop := L = [] ∧ h = h0 ∧ ((v = some (.int (1 : Int32))))
set_option maxRecDepth 65536 in
set_option maxHeartbeats 40000000 in
theorem rm3_4 (l : Launch) (Z : State) (a0 : Array Value) (hw : ∀ d ∈ tables_1, d.before a0 Z = true) (ws : List Jvm.Cond) (w0 : Addr) (w1 : Addr) (w2 : Addr) (w3 : Addr) (w4 : Addr) (w5 : Addr) (h0 : Heap) (n0 : Nat) (Z0 : n0 ≤ h0.size) (K : own_K Z h0 w0 w1 w2 w3 w4 w5) :
    MetFree l (⟨"com/example/bericht/bericht/selector/Comparison$Operator", "holds", "(JJ)Z"⟩ : MethodName) (head1 (Jvm.Cond.code (⟨"com/example/bericht/bericht/selector/Comparison$Operator", "holds", "(JJ)Z"⟩ : MethodName) prog_22_method_5_code 5 (some .boolean) :: ws) ({ frames := 1, cells := 0, slots := 0, locals := 12 } : Room)) (fun a U => a = #[(.ref w2), (.long (0 : Int64)), (.long (1 : Int64))] ∧ Z.Warmed39 U.vm ∧ U.heap = h0) (fun _ _ _ _ _ => True) (fun _ U o U' => ∃ v L, o = .returned v ∧ Q3_4 w0 w1 w2 w3 w4 w5 h0 v U'.heap L ∧ FrameEnd U o U' L ({ frames := 1, cells := 0, slots := 0, locals := 12 } : Room).cells ({ frames := 1, cells := 0, slots := 0, locals := 12 } : Room).slots) := by
  refine MetFree.of_bodySF (plainFor_of_name pn1) hisR ?_
  intro p e s m args below meth c s₁ Bd hml0 hP hK
  obtain ⟨rfl, hZ, hh⟩ := hP
  have hx := Bd.exec
  have hby := Bd.bytes
  have hml : c.maxLocals = 5 := hml0
  have hown : s.vm.findClass "com/example/bericht/bericht/selector/Comparison$Operator" = some m.cls := findClass_of_methodNamed Bd.named
  have hnm := (name_of_methodNamed Bd.named Bd.method).1
  have hlk := Bd.notSynchronized
  have X0 : Stand p l e ({ frames := 1, cells := 0, slots := 0, locals := 12 } : Room) s m #[(.ref w2), (.long (0 : Int64)), (.long (1 : Int64))] below meth c s₁ [] 0 0 := Stand.of_body Bd
  have e0 : s₁.heap = h0 := by rw [← hh, Bd.state]; rfl
  have K0 := K
  obtain ⟨S_w0, S_w1, S_w2, S_w3, S_w4, S_w5, E_w0, E_w1, E_w2, E_w3, E_w4, E_w5, F_w0_ordinal, F_w1_ordinal, F_w2_ordinal, F_w3_ordinal, F_w4_ordinal, F_w5_ordinal, n_w0_w1, n_w0_w2, n_w0_w3, n_w0_w4, n_w0_w5, n_w1_w2, n_w1_w3, n_w1_w4, n_w1_w5, n_w2_w3, n_w2_w4, n_w2_w5, n_w3_w4, n_w3_w5, n_w4_w5⟩ := K
  show own_Go p e below s (Q3_4 w0 w1 w2 w3 w4 w5 h0) 0 0 (s₁.setTop (entryFrame m #[(.ref w2), (.long (0 : Int64)), (.long (1 : Int64))] 5))
  rw [show entryFrame m #[(.ref w2), (.long (0 : Int64)), (.long (1 : Int64))] 5 = mkF m 0 #[.val (.ref w2), .val (.long (0 : Int64)), .second, .val (.long (1 : Int64)), .second] [] from by first | (simp [entryFrame, mkF, argsToLocals, Value.category]; done) | rfl]
  show own_Go p e below s _ _ _ (s₁.setTop (mkF m 0 #[.val (.ref w2), .val (.long (0 : Int64)), .second, .val (.long (1 : Int64)), .second] []))
  refine own_via (fun _ k => XS.aloadN X0.here hx rfl (hb hby d3_0) rfl rfl k) ?_
  show own_Go p e below s _ _ _ (s₁.setTop (mkF m 1 #[.val (.ref w2), .val (.long (0 : Int64)), .second, .val (.long (1 : Int64)), .second] [(.ref w2)]))
  obtain ⟨cq1, kq1, q1a, q1b, q1c⟩ := isOf hZ e0 E_w2
  obtain ⟨_, _, ⟨T1, L1, k1, n1⟩, -, X1, ⟨Lc1, hQ1, l1, y1, z1⟩, st1⟩ := X0.virtualBackUp hx (x := (⟨"com/example/bericht/bericht/selector/Comparison$Operator", "ordinal", "()I"⟩ : MethodName)) (y := (⟨"java/lang/Enum", "ordinal", "()I"⟩ : MethodName)) (owner := "java/lang/Enum") hown (mvT hZ (hw _ (List.mem_of_getElem? (i := 19) rfl))) (mvT hZ (hw _ (List.mem_of_getElem? (i := 20) rfl))) (mvT hZ (hw _ (List.mem_of_getElem? (i := 21) rfl))) (by decide) (mvT hZ (hw _ (List.mem_of_getElem? (i := 23) rfl))) (mvT hZ (hw _ (List.mem_of_getElem? (i := 22) rfl))) (backOf (W := 0) (rm4_1 l Z a0 hw [] w0 w1 w2 w3 w4 w5 h0 n0 Z0 K0) hZ (hw _ (List.mem_of_getElem? (i := 25) rfl)) (hw _ (List.mem_of_getElem? (i := 24) rfl)) (by decide) (by decide)) q1a q1c (g := (mkF m 1 #[.val (.ref w2), .val (.long (0 : Int64)), .second, .val (.long (1 : Int64)), .second] [(.ref w2)])) rfl (by rw [hml]; rfl) (Steps.refl _) (argsL := []) (rest := []) (lenOf pd2 rfl) rfl (by show 2 * 0 + _ ≤ _; exact Nat.le_of_eq rfl) (hb hby d3_1) (fun _ _ => ⟨rfl, e0, (by decide : 0 + 0 ≤ _), (by decide : 0 + 0 ≤ _)⟩)
  dsimp only [Pt.U, Pt.locs, Pt.cells, Pt.slots] at X1 l1 y1 z1 st1 hQ1
  subst l1 y1 z1
  obtain ⟨rfl, e1, hO1⟩ := hQ1
  obtain rfl := hO1
  refine own_tr st1 ?_
  show own_Go p e below s _ _ _ (T1.setTop (mkF m 4 #[.val (.ref w2), .val (.long (0 : Int64)), .second, .val (.long (1 : Int64)), .second] [(.int (1 : Int32))]))
  refine own_via (fun _ k => XS.tswIn X1.here hx rfl (o := 64) (pc0 := 4) (pc' := 68) rfl (hb hby d3_4) rfl (by decide) (by decide) (by decide) (by decide) k) ?_
  show own_Go p e below s _ _ _ (T1.setTop (mkF m 68 #[.val (.ref w2), .val (.long (0 : Int64)), .second, .val (.long (1 : Int64)), .second] []))
  refine own_via (fun _ k => XS.lloadN X1.here hx rfl (hb hby d3_68) rfl k) ?_
  show own_Go p e below s _ _ _ (T1.setTop (mkF m 69 #[.val (.ref w2), .val (.long (0 : Int64)), .second, .val (.long (1 : Int64)), .second] [(.long (0 : Int64))]))
  refine own_via (fun _ k => XS.lloadN X1.here hx rfl (hb hby d3_69) rfl k) ?_
  show own_Go p e below s _ _ _ (T1.setTop (mkF m 70 #[.val (.ref w2), .val (.long (0 : Int64)), .second, .val (.long (1 : Int64)), .second] [(.long (1 : Int64)), (.long (0 : Int64))]))
  refine own_via (fun _ k => XS.lcmp X1.here hx rfl (hb hby d3_70) rfl k) ?_
  show own_Go p e below s _ _ _ (T1.setTop (mkF m 71 #[.val (.ref w2), .val (.long (0 : Int64)), .second, .val (.long (1 : Int64)), .second] [(.int (lcmpW (0 : Int64) (1 : Int64)))]))
  refine own_via (fun _ k => XS.ifNo X1.here hx rfl (hb hby d3_71) rfl ((if0 _ _).trans (feq (by decide : ¬ ((lcmpW (0 : Int64) (1 : Int64)) = (0 : Int32)))).1) k) ?_
  show own_Go p e below s _ _ _ (T1.setTop (mkF m 74 #[.val (.ref w2), .val (.long (0 : Int64)), .second, .val (.long (1 : Int64)), .second] []))
  refine own_via (fun _ k => XS.iconst X1.here hx rfl (hb hby d3_74) k) ?_
  show own_Go p e below s _ _ _ (T1.setTop (mkF m 75 #[.val (.ref w2), .val (.long (0 : Int64)), .second, .val (.long (1 : Int64)), .second] [(.int (1 : Int32))]))
  refine own_via (fun _ k => XS.goto X1.here hx rfl (pc0 := 75) (pc' := 135) rfl (hb hby d3_75) (by decide) (by decide) k) ?_
  show own_Go p e below s _ _ _ (T1.setTop (mkF m 135 #[.val (.ref w2), .val (.long (0 : Int64)), .second, .val (.long (1 : Int64)), .second] [(.int (1 : Int32))]))
  exact own_retZ X1 hx hlk (t := .boolean) Bd.returns (by simp) (hb hby d3_135) (z' := (1 : Int32)) (by first | rfl | decide) ⟨rfl, e1, rfl⟩ (by decide) (by decide)
def Q3_5 (w0 : Addr) (w1 : Addr) (w2 : Addr) (w3 : Addr) (w4 : Addr) (w5 : Addr) (h0 : Heap) (v : Option Value) (h : Heap) (L : List Loc) : Prop := L = [] ∧ h = h0 ∧ ((v = some (.int (1 : Int32))))
set_option maxRecDepth 65536 in
set_option maxHeartbeats 40000000 in
theorem rm3_5 (l : Launch) (Z : State) (a0 : Array Value) (hw : ∀ d ∈ tables_1, d.before a0 Z = true) (ws : List Jvm.Cond) (w0 : Addr) (w1 : Addr) (w2 : Addr) (w3 : Addr) (w4 : Addr) (w5 : Addr) (h0 : Heap) (n0 : Nat) (Z0 : n0 ≤ h0.size) (K : own_K Z h0 w0 w1 w2 w3 w4 w5) :
    MetFree l (⟨"com/example/bericht/bericht/selector/Comparison$Operator", "holds", "(JJ)Z"⟩ : MethodName) (head1 (Jvm.Cond.code (⟨"com/example/bericht/bericht/selector/Comparison$Operator", "holds", "(JJ)Z"⟩ : MethodName) prog_22_method_5_code 5 (some .boolean) :: ws) ({ frames := 1, cells := 0, slots := 0, locals := 12 } : Room)) (fun a U => a = #[(.ref w2), (.long (1 : Int64)), (.long (0 : Int64))] ∧ Z.Warmed39 U.vm ∧ U.heap = h0) (fun _ _ _ _ _ => True) (fun _ U o U' => ∃ v L, o = .returned v ∧ Q3_5 w0 w1 w2 w3 w4 w5 h0 v U'.heap L ∧ FrameEnd U o U' L ({ frames := 1, cells := 0, slots := 0, locals := 12 } : Room).cells ({ frames := 1, cells := 0, slots := 0, locals := 12 } : Room).slots) := by
  refine MetFree.of_bodySF (plainFor_of_name pn1) hisR ?_
  intro p e s m args below meth c s₁ Bd hml0 hP hK
  obtain ⟨rfl, hZ, hh⟩ := hP
  have hx := Bd.exec
  have hby := Bd.bytes
  have hml : c.maxLocals = 5 := hml0
  have hown : s.vm.findClass "com/example/bericht/bericht/selector/Comparison$Operator" = some m.cls := findClass_of_methodNamed Bd.named
  have hnm := (name_of_methodNamed Bd.named Bd.method).1
  have hlk := Bd.notSynchronized
  have X0 : Stand p l e ({ frames := 1, cells := 0, slots := 0, locals := 12 } : Room) s m #[(.ref w2), (.long (1 : Int64)), (.long (0 : Int64))] below meth c s₁ [] 0 0 := Stand.of_body Bd
  have e0 : s₁.heap = h0 := by rw [← hh, Bd.state]; rfl
  have K0 := K
  obtain ⟨S_w0, S_w1, S_w2, S_w3, S_w4, S_w5, E_w0, E_w1, E_w2, E_w3, E_w4, E_w5, F_w0_ordinal, F_w1_ordinal, F_w2_ordinal, F_w3_ordinal, F_w4_ordinal, F_w5_ordinal, n_w0_w1, n_w0_w2, n_w0_w3, n_w0_w4, n_w0_w5, n_w1_w2, n_w1_w3, n_w1_w4, n_w1_w5, n_w2_w3, n_w2_w4, n_w2_w5, n_w3_w4, n_w3_w5, n_w4_w5⟩ := K
  show own_Go p e below s (Q3_5 w0 w1 w2 w3 w4 w5 h0) 0 0 (s₁.setTop (entryFrame m #[(.ref w2), (.long (1 : Int64)), (.long (0 : Int64))] 5))
  rw [show entryFrame m #[(.ref w2), (.long (1 : Int64)), (.long (0 : Int64))] 5 = mkF m 0 #[.val (.ref w2), .val (.long (1 : Int64)), .second, .val (.long (0 : Int64)), .second] [] from by first | (simp [entryFrame, mkF, argsToLocals, Value.category]; done) | rfl]
  show own_Go p e below s _ _ _ (s₁.setTop (mkF m 0 #[.val (.ref w2), .val (.long (1 : Int64)), .second, .val (.long (0 : Int64)), .second] []))
  refine own_via (fun _ k => XS.aloadN X0.here hx rfl (hb hby d3_0) rfl rfl k) ?_
  show own_Go p e below s _ _ _ (s₁.setTop (mkF m 1 #[.val (.ref w2), .val (.long (1 : Int64)), .second, .val (.long (0 : Int64)), .second] [(.ref w2)]))
  obtain ⟨cq1, kq1, q1a, q1b, q1c⟩ := isOf hZ e0 E_w2
  obtain ⟨_, _, ⟨T1, L1, k1, n1⟩, -, X1, ⟨Lc1, hQ1, l1, y1, z1⟩, st1⟩ := X0.virtualBackUp hx (x := (⟨"com/example/bericht/bericht/selector/Comparison$Operator", "ordinal", "()I"⟩ : MethodName)) (y := (⟨"java/lang/Enum", "ordinal", "()I"⟩ : MethodName)) (owner := "java/lang/Enum") hown (mvT hZ (hw _ (List.mem_of_getElem? (i := 19) rfl))) (mvT hZ (hw _ (List.mem_of_getElem? (i := 20) rfl))) (mvT hZ (hw _ (List.mem_of_getElem? (i := 21) rfl))) (by decide) (mvT hZ (hw _ (List.mem_of_getElem? (i := 23) rfl))) (mvT hZ (hw _ (List.mem_of_getElem? (i := 22) rfl))) (backOf (W := 0) (rm4_1 l Z a0 hw [] w0 w1 w2 w3 w4 w5 h0 n0 Z0 K0) hZ (hw _ (List.mem_of_getElem? (i := 25) rfl)) (hw _ (List.mem_of_getElem? (i := 24) rfl)) (by decide) (by decide)) q1a q1c (g := (mkF m 1 #[.val (.ref w2), .val (.long (1 : Int64)), .second, .val (.long (0 : Int64)), .second] [(.ref w2)])) rfl (by rw [hml]; rfl) (Steps.refl _) (argsL := []) (rest := []) (lenOf pd2 rfl) rfl (by show 2 * 0 + _ ≤ _; exact Nat.le_of_eq rfl) (hb hby d3_1) (fun _ _ => ⟨rfl, e0, (by decide : 0 + 0 ≤ _), (by decide : 0 + 0 ≤ _)⟩)
  dsimp only [Pt.U, Pt.locs, Pt.cells, Pt.slots] at X1 l1 y1 z1 st1 hQ1
  subst l1 y1 z1
  obtain ⟨rfl, e1, hO1⟩ := hQ1
  obtain rfl := hO1
  refine own_tr st1 ?_
  show own_Go p e below s _ _ _ (T1.setTop (mkF m 4 #[.val (.ref w2), .val (.long (1 : Int64)), .second, .val (.long (0 : Int64)), .second] [(.int (1 : Int32))]))
  refine own_via (fun _ k => XS.tswIn X1.here hx rfl (o := 64) (pc0 := 4) (pc' := 68) rfl (hb hby d3_4) rfl (by decide) (by decide) (by decide) (by decide) k) ?_
  show own_Go p e below s _ _ _ (T1.setTop (mkF m 68 #[.val (.ref w2), .val (.long (1 : Int64)), .second, .val (.long (0 : Int64)), .second] []))
  refine own_via (fun _ k => XS.lloadN X1.here hx rfl (hb hby d3_68) rfl k) ?_
  show own_Go p e below s _ _ _ (T1.setTop (mkF m 69 #[.val (.ref w2), .val (.long (1 : Int64)), .second, .val (.long (0 : Int64)), .second] [(.long (1 : Int64))]))
  refine own_via (fun _ k => XS.lloadN X1.here hx rfl (hb hby d3_69) rfl k) ?_
  show own_Go p e below s _ _ _ (T1.setTop (mkF m 70 #[.val (.ref w2), .val (.long (1 : Int64)), .second, .val (.long (0 : Int64)), .second] [(.long (0 : Int64)), (.long (1 : Int64))]))
  refine own_via (fun _ k => XS.lcmp X1.here hx rfl (hb hby d3_70) rfl k) ?_
  show own_Go p e below s _ _ _ (T1.setTop (mkF m 71 #[.val (.ref w2), .val (.long (1 : Int64)), .second, .val (.long (0 : Int64)), .second] [(.int (lcmpW (1 : Int64) (0 : Int64)))]))
  refine own_via (fun _ k => XS.ifNo X1.here hx rfl (hb hby d3_71) rfl ((if0 _ _).trans (feq (by decide : ¬ ((lcmpW (1 : Int64) (0 : Int64)) = (0 : Int32)))).1) k) ?_
  show own_Go p e below s _ _ _ (T1.setTop (mkF m 74 #[.val (.ref w2), .val (.long (1 : Int64)), .second, .val (.long (0 : Int64)), .second] []))
  refine own_via (fun _ k => XS.iconst X1.here hx rfl (hb hby d3_74) k) ?_
  show own_Go p e below s _ _ _ (T1.setTop (mkF m 75 #[.val (.ref w2), .val (.long (1 : Int64)), .second, .val (.long (0 : Int64)), .second] [(.int (1 : Int32))]))
  refine own_via (fun _ k => XS.goto X1.here hx rfl (pc0 := 75) (pc' := 135) rfl (hb hby d3_75) (by decide) (by decide) k) ?_
  show own_Go p e below s _ _ _ (T1.setTop (mkF m 135 #[.val (.ref w2), .val (.long (1 : Int64)), .second, .val (.long (0 : Int64)), .second] [(.int (1 : Int32))]))
  exact own_retZ X1 hx hlk (t := .boolean) Bd.returns (by simp) (hb hby d3_135) (z' := (1 : Int32)) (by first | rfl | decide) ⟨rfl, e1, rfl⟩ (by decide) (by decide)
def Q5_1 (w0 : Addr) (w1 : Addr) (w2 : Addr) (w3 : Addr) (w4 : Addr) (w5 : Addr) (h0 : Heap) (v : Option Value) (h : Heap) (L : List Loc) : Prop := L = [] ∧ h = h0 ∧ ((v = some (.ref w2)))
set_option maxRecDepth 65536 in
set_option maxHeartbeats 40000000 in
theorem rm5_1 (l : Launch) (Z : State) (a0 : Array Value) (hw : ∀ d ∈ tables_1, d.before a0 Z = true) (ws : List Jvm.Cond) (w0 : Addr) (w1 : Addr) (w2 : Addr) (w3 : Addr) (w4 : Addr) (w5 : Addr) (h0 : Heap) (n0 : Nat) (Z0 : n0 ≤ h0.size) (K : own_K Z h0 w0 w1 w2 w3 w4 w5) :
    MetFree l (⟨"com/example/bericht/bericht/selector/Comparison$Operator", "flipped", "()Lcom/example/bericht/bericht/selector/Comparison$Operator;"⟩ : MethodName) (head1 (Jvm.Cond.code (⟨"com/example/bericht/bericht/selector/Comparison$Operator", "flipped", "()Lcom/example/bericht/bericht/selector/Comparison$Operator;"⟩ : MethodName) prog_22_method_7_code 1 (some (.object "com/example/bericht/bericht/selector/Comparison$Operator")) :: ws) ({ frames := 1, cells := 0, slots := 0, locals := 12 } : Room)) (fun a U => a = #[(.ref w2)] ∧ Z.Warmed39 U.vm ∧ U.heap = h0) (fun _ _ _ _ _ => True) (fun _ U o U' => ∃ v L, o = .returned v ∧ Q5_1 w0 w1 w2 w3 w4 w5 h0 v U'.heap L ∧ FrameEnd U o U' L ({ frames := 1, cells := 0, slots := 0, locals := 12 } : Room).cells ({ frames := 1, cells := 0, slots := 0, locals := 12 } : Room).slots) := by
  refine MetFree.of_bodySF (plainFor_of_name pn1) hisR ?_
  intro p e s m args below meth c s₁ Bd hml0 hP hK
  obtain ⟨rfl, hZ, hh⟩ := hP
  have hx := Bd.exec
  have hby := Bd.bytes
  have hml : c.maxLocals = 1 := hml0
  have hown : s.vm.findClass "com/example/bericht/bericht/selector/Comparison$Operator" = some m.cls := findClass_of_methodNamed Bd.named
  have hnm := (name_of_methodNamed Bd.named Bd.method).1
  have hlk := Bd.notSynchronized
  have X0 : Stand p l e ({ frames := 1, cells := 0, slots := 0, locals := 12 } : Room) s m #[(.ref w2)] below meth c s₁ [] 0 0 := Stand.of_body Bd
  have e0 : s₁.heap = h0 := by rw [← hh, Bd.state]; rfl
  have K0 := K
  obtain ⟨S_w0, S_w1, S_w2, S_w3, S_w4, S_w5, E_w0, E_w1, E_w2, E_w3, E_w4, E_w5, F_w0_ordinal, F_w1_ordinal, F_w2_ordinal, F_w3_ordinal, F_w4_ordinal, F_w5_ordinal, n_w0_w1, n_w0_w2, n_w0_w3, n_w0_w4, n_w0_w5, n_w1_w2, n_w1_w3, n_w1_w4, n_w1_w5, n_w2_w3, n_w2_w4, n_w2_w5, n_w3_w4, n_w3_w5, n_w4_w5⟩ := K
  show own_Go p e below s (Q5_1 w0 w1 w2 w3 w4 w5 h0) 0 0 (s₁.setTop (entryFrame m #[(.ref w2)] 1))
  rw [show entryFrame m #[(.ref w2)] 1 = mkF m 0 #[.val (.ref w2)] [] from by first | (simp [entryFrame, mkF, argsToLocals, Value.category]; done) | rfl]
  show own_Go p e below s _ _ _ (s₁.setTop (mkF m 0 #[.val (.ref w2)] []))
  refine own_via (fun _ k => XS.aloadN X0.here hx rfl (hb hby d5_0) rfl rfl k) ?_
  show own_Go p e below s _ _ _ (s₁.setTop (mkF m 1 #[.val (.ref w2)] [(.ref w2)]))
  obtain ⟨cq1, kq1, q1a, q1b, q1c⟩ := isOf hZ e0 E_w2
  obtain ⟨_, _, ⟨T1, L1, k1, n1⟩, -, X1, ⟨Lc1, hQ1, l1, y1, z1⟩, st1⟩ := X0.virtualBackUp hx (x := (⟨"com/example/bericht/bericht/selector/Comparison$Operator", "ordinal", "()I"⟩ : MethodName)) (y := (⟨"java/lang/Enum", "ordinal", "()I"⟩ : MethodName)) (owner := "java/lang/Enum") hown (mvT hZ (hw _ (List.mem_of_getElem? (i := 19) rfl))) (mvT hZ (hw _ (List.mem_of_getElem? (i := 20) rfl))) (mvT hZ (hw _ (List.mem_of_getElem? (i := 21) rfl))) (by decide) (mvT hZ (hw _ (List.mem_of_getElem? (i := 23) rfl))) (mvT hZ (hw _ (List.mem_of_getElem? (i := 22) rfl))) (backOf (W := 0) (rm4_1 l Z a0 hw [] w0 w1 w2 w3 w4 w5 h0 n0 Z0 K0) hZ (hw _ (List.mem_of_getElem? (i := 25) rfl)) (hw _ (List.mem_of_getElem? (i := 24) rfl)) (by decide) (by decide)) q1a q1c (g := (mkF m 1 #[.val (.ref w2)] [(.ref w2)])) rfl (by rw [hml]; rfl) (Steps.refl _) (argsL := []) (rest := []) (lenOf pd2 rfl) rfl (by show 2 * 0 + _ ≤ _; exact Nat.le_of_eq rfl) (hb hby d5_1) (fun _ _ => ⟨rfl, e0, (by decide : 0 + 0 ≤ _), (by decide : 0 + 0 ≤ _)⟩)
  dsimp only [Pt.U, Pt.locs, Pt.cells, Pt.slots] at X1 l1 y1 z1 st1 hQ1
  subst l1 y1 z1
  obtain ⟨rfl, e1, hO1⟩ := hQ1
  obtain rfl := hO1
  refine own_tr st1 ?_
  show own_Go p e below s _ _ _ (T1.setTop (mkF m 4 #[.val (.ref w2)] [(.int (1 : Int32))]))
  refine own_via (fun _ k => XS.tswIn X1.here hx rfl (o := 50) (pc0 := 4) (pc' := 54) rfl (hb hby d5_4) rfl (by decide) (by decide) (by decide) (by decide) k) ?_
  show own_Go p e below s _ _ _ (T1.setTop (mkF m 54 #[.val (.ref w2)] []))
  refine own_via (fun _ k => XS.aloadN X1.here hx rfl (hb hby d5_54) rfl rfl k) ?_
  show own_Go p e below s _ _ _ (T1.setTop (mkF m 55 #[.val (.ref w2)] [(.ref w2)]))
  refine own_via (fun _ k => XS.goto X1.here hx rfl (pc0 := 55) (pc' := 79) rfl (hb hby d5_55) (by decide) (by decide) k) ?_
  show own_Go p e below s _ _ _ (T1.setTop (mkF m 79 #[.val (.ref w2)] [(.ref w2)]))
  exact own_retR X1 hx hlk Bd.returns rfl rfl (hb hby d5_79) ⟨rfl, e1, rfl⟩ (by decide) (by decide)
def Q2_2 (w0 : Addr) (w1 : Addr) (w2 : Addr) (w3 : Addr) (w4 : Addr) (w5 : Addr) (h0 : Heap) (v : Option Value) (h : Heap) (L : List Loc) : Prop := L = [] ∧ h = h0 ∧ ((v = some (.int (0 : Int32))))
set_option maxRecDepth 65536 in
set_option maxHeartbeats 40000000 in
theorem rm2_2 (l : Launch) (Z : State) (a0 : Array Value) (hw : ∀ d ∈ tables_1, d.before a0 Z = true) (ws : List Jvm.Cond) (w0 : Addr) (w1 : Addr) (w2 : Addr) (w3 : Addr) (w4 : Addr) (w5 : Addr) (h0 : Heap) (n0 : Nat) (Z0 : n0 ≤ h0.size) (K : own_K Z h0 w0 w1 w2 w3 w4 w5) :
    MetFree l (⟨"com/example/bericht/bericht/selector/Comparison$Operator", "isEquality", "()Z"⟩ : MethodName) (head1 (Jvm.Cond.code (⟨"com/example/bericht/bericht/selector/Comparison$Operator", "isEquality", "()Z"⟩ : MethodName) prog_22_method_8_code 1 (some .boolean) :: ws) ({ frames := 0, cells := 0, slots := 0, locals := 0 } : Room)) (fun a U => a = #[(.ref w3)] ∧ Z.Warmed39 U.vm ∧ U.heap = h0) (fun _ _ _ _ _ => True) (fun _ U o U' => ∃ v L, o = .returned v ∧ Q2_2 w0 w1 w2 w3 w4 w5 h0 v U'.heap L ∧ FrameEnd U o U' L ({ frames := 0, cells := 0, slots := 0, locals := 0 } : Room).cells ({ frames := 0, cells := 0, slots := 0, locals := 0 } : Room).slots) := by
  refine MetFree.of_bodySF (plainFor_of_name pn1) hisR ?_
  intro p e s m args below meth c s₁ Bd hml0 hP hK
  obtain ⟨rfl, hZ, hh⟩ := hP
  have hx := Bd.exec
  have hby := Bd.bytes
  have hml : c.maxLocals = 1 := hml0
  have hown : s.vm.findClass "com/example/bericht/bericht/selector/Comparison$Operator" = some m.cls := findClass_of_methodNamed Bd.named
  have hnm := (name_of_methodNamed Bd.named Bd.method).1
  have hlk := Bd.notSynchronized
  have X0 : Stand p l e ({ frames := 0, cells := 0, slots := 0, locals := 0 } : Room) s m #[(.ref w3)] below meth c s₁ [] 0 0 := Stand.of_body Bd
  have e0 : s₁.heap = h0 := by rw [← hh, Bd.state]; rfl
  have K0 := K
  obtain ⟨S_w0, S_w1, S_w2, S_w3, S_w4, S_w5, E_w0, E_w1, E_w2, E_w3, E_w4, E_w5, F_w0_ordinal, F_w1_ordinal, F_w2_ordinal, F_w3_ordinal, F_w4_ordinal, F_w5_ordinal, n_w0_w1, n_w0_w2, n_w0_w3, n_w0_w4, n_w0_w5, n_w1_w2, n_w1_w3, n_w1_w4, n_w1_w5, n_w2_w3, n_w2_w4, n_w2_w5, n_w3_w4, n_w3_w5, n_w4_w5⟩ := K
  show own_Go p e below s (Q2_2 w0 w1 w2 w3 w4 w5 h0) 0 0 (s₁.setTop (entryFrame m #[(.ref w3)] 1))
  rw [show entryFrame m #[(.ref w3)] 1 = mkF m 0 #[.val (.ref w3)] [] from by first | (simp [entryFrame, mkF, argsToLocals, Value.category]; done) | rfl]
  show own_Go p e below s _ _ _ (s₁.setTop (mkF m 0 #[.val (.ref w3)] []))
  refine own_via (fun _ k => XS.aloadN X0.here hx rfl (hb hby d2_0) rfl rfl k) ?_
  show own_Go p e below s _ _ _ (s₁.setTop (mkF m 1 #[.val (.ref w3)] [(.ref w3)]))
  obtain ⟨T1, X1, e1, st1⟩ := getS2 X0 hx hZ hown (host := "") (Or.inl (hw _ (List.mem_of_getElem? (i := 13) rfl))) Via.refl e0 S_w0 (g := (mkF m 1 #[.val (.ref w3)] [(.ref w3)])) rfl (hb hby d2_1)
  refine own_via st1 ?_
  show own_Go p e below s _ _ _ (T1.setTop (mkF m 4 #[.val (.ref w3)] [(.ref w0), (.ref w3)]))
  refine own_via (fun _ k => Jvm.RoadKit.acmp (g := (mkF m 4 #[.val (.ref w3)] [(.ref w0), (.ref w3)])) X1 hx rfl rfl rfl (pc0 := 4) (pc' := 7) (same := false) rfl (hb hby d2_4) rfl (decide_eq_false fun q => (fun q => n_w0_w3 q.symm) (Value.ref.inj q)) (by decide) (by decide) k) ?_
  show own_Go p e below s _ _ _ (T1.setTop (mkF m 7 #[.val (.ref w3)] []))
  refine own_via (fun _ k => XS.aloadN X1.here hx rfl (hb hby d2_7) rfl rfl k) ?_
  show own_Go p e below s _ _ _ (T1.setTop (mkF m 8 #[.val (.ref w3)] [(.ref w3)]))
  obtain ⟨T2, X2, e2, st2⟩ := getS2 X1 hx hZ hown (host := "") (Or.inl (hw _ (List.mem_of_getElem? (i := 35) rfl))) Via.refl e1 S_w2 (g := (mkF m 8 #[.val (.ref w3)] [(.ref w3)])) rfl (hb hby d2_8)
  refine own_via st2 ?_
  show own_Go p e below s _ _ _ (T2.setTop (mkF m 11 #[.val (.ref w3)] [(.ref w2), (.ref w3)]))
  refine own_via (fun _ k => Jvm.RoadKit.acmp (g := (mkF m 11 #[.val (.ref w3)] [(.ref w2), (.ref w3)])) X2 hx rfl rfl rfl (pc0 := 11) (pc' := 18) (same := false) rfl (hb hby d2_11) rfl (decide_eq_false fun q => (fun q => n_w2_w3 q.symm) (Value.ref.inj q)) (by decide) (by decide) k) ?_
  show own_Go p e below s _ _ _ (T2.setTop (mkF m 18 #[.val (.ref w3)] []))
  refine own_via (fun _ k => XS.iconst X2.here hx rfl (hb hby d2_18) k) ?_
  show own_Go p e below s _ _ _ (T2.setTop (mkF m 19 #[.val (.ref w3)] [(.int (0 : Int32))]))
  exact own_retZ X2 hx hlk (t := .boolean) Bd.returns (by simp) (hb hby d2_19) (z' := (0 : Int32)) (by first | rfl | decide) ⟨rfl, e2, rfl⟩ (by decide) (by decide)
def Q4_2 (w0 : Addr) (w1 : Addr) (w2 : Addr) (w3 : Addr) (w4 : Addr) (w5 : Addr) (h0 : Heap) (v : Option Value) (h : Heap) (L : List Loc) : Prop := L = [] ∧ h = h0 ∧ ((v = some (.int (2 : Int32))))
set_option maxRecDepth 65536 in
set_option maxHeartbeats 40000000 in
theorem rm4_2 (l : Launch) (Z : State) (a0 : Array Value) (hw : ∀ d ∈ tables_1, d.before a0 Z = true) (ws : List Jvm.Cond) (w0 : Addr) (w1 : Addr) (w2 : Addr) (w3 : Addr) (w4 : Addr) (w5 : Addr) (h0 : Heap) (n0 : Nat) (Z0 : n0 ≤ h0.size) (K : own_K Z h0 w0 w1 w2 w3 w4 w5) :
    MetFree l (⟨"java/lang/Enum", "ordinal", "()I"⟩ : MethodName) (head1 (Jvm.Cond.code (⟨"java/lang/Enum", "ordinal", "()I"⟩ : MethodName) jdk_37_method_2_code 1 (some .int) :: ws) ({ frames := 0, cells := 0, slots := 0, locals := 0 } : Room)) (fun a U => a = #[(.ref w3)] ∧ Z.Warmed39 U.vm ∧ U.heap = h0) (fun _ _ _ _ _ => True) (fun _ U o U' => ∃ v L, o = .returned v ∧ Q4_2 w0 w1 w2 w3 w4 w5 h0 v U'.heap L ∧ FrameEnd U o U' L ({ frames := 0, cells := 0, slots := 0, locals := 0 } : Room).cells ({ frames := 0, cells := 0, slots := 0, locals := 0 } : Room).slots) := by
  refine MetFree.of_bodySF (plainFor_of_name pn2) hisR ?_
  intro p e s m args below meth c s₁ Bd hml0 hP hK
  obtain ⟨rfl, hZ, hh⟩ := hP
  have hx := Bd.exec
  have hby := Bd.bytes
  have hml : c.maxLocals = 1 := hml0
  have hown : s.vm.findClass "java/lang/Enum" = some m.cls := findClass_of_methodNamed Bd.named
  have hnm := (name_of_methodNamed Bd.named Bd.method).1
  have hlk := Bd.notSynchronized
  have X0 : Stand p l e ({ frames := 0, cells := 0, slots := 0, locals := 0 } : Room) s m #[(.ref w3)] below meth c s₁ [] 0 0 := Stand.of_body Bd
  have e0 : s₁.heap = h0 := by rw [← hh, Bd.state]; rfl
  have K0 := K
  obtain ⟨S_w0, S_w1, S_w2, S_w3, S_w4, S_w5, E_w0, E_w1, E_w2, E_w3, E_w4, E_w5, F_w0_ordinal, F_w1_ordinal, F_w2_ordinal, F_w3_ordinal, F_w4_ordinal, F_w5_ordinal, n_w0_w1, n_w0_w2, n_w0_w3, n_w0_w4, n_w0_w5, n_w1_w2, n_w1_w3, n_w1_w4, n_w1_w5, n_w2_w3, n_w2_w4, n_w2_w5, n_w3_w4, n_w3_w5, n_w4_w5⟩ := K
  show own_Go p e below s (Q4_2 w0 w1 w2 w3 w4 w5 h0) 0 0 (s₁.setTop (entryFrame m #[(.ref w3)] 1))
  rw [show entryFrame m #[(.ref w3)] 1 = mkF m 0 #[.val (.ref w3)] [] from by first | (simp [entryFrame, mkF, argsToLocals, Value.category]; done) | rfl]
  show own_Go p e below s _ _ _ (s₁.setTop (mkF m 0 #[.val (.ref w3)] []))
  refine own_via (fun _ k => XS.aloadN X0.here hx rfl (hb hby d4_0) rfl rfl k) ?_
  show own_Go p e below s _ _ _ (s₁.setTop (mkF m 1 #[.val (.ref w3)] [(.ref w3)]))
  obtain ⟨T1, X1, e1, st1⟩ := getF X0 hx hZ hown (host := "") (Or.inl (hw _ (List.mem_of_getElem? (i := 26) rfl))) Via.refl e0 F_w3_ordinal (g := (mkF m 1 #[.val (.ref w3)] [(.ref w3)])) rfl rfl (hb hby d4_1)
  refine own_via st1 ?_
  show own_Go p e below s _ _ _ (T1.setTop (mkF m 4 #[.val (.ref w3)] [(.int (2 : Int32))]))
  exact own_retI X1 hx hlk Bd.returns (hb hby d4_4) ⟨rfl, e1, rfl⟩ (by decide) (by decide)
def Q3_6 (x1 : Int64) (x2 : Int64) (w0 : Addr) (w1 : Addr) (w2 : Addr) (w3 : Addr) (w4 : Addr) (w5 : Addr) (h0 : Heap) (v : Option Value) (h : Heap) (L : List Loc) : Prop := L = [] ∧ h = h0 ∧ ((x1 < x2 ∧ v = some (.int (1 : Int32))) ∨ (¬ (x1 < x2) ∧ v = some (.int (0 : Int32))))
set_option maxRecDepth 65536 in
set_option maxHeartbeats 40000000 in
theorem rm3_6 (l : Launch) (Z : State) (a0 : Array Value) (hw : ∀ d ∈ tables_1, d.before a0 Z = true) (ws : List Jvm.Cond) (x1 : Int64) (x2 : Int64) (w0 : Addr) (w1 : Addr) (w2 : Addr) (w3 : Addr) (w4 : Addr) (w5 : Addr) (h0 : Heap) (n0 : Nat) (Z0 : n0 ≤ h0.size) (K : own_K Z h0 w0 w1 w2 w3 w4 w5) :
    MetFree l (⟨"com/example/bericht/bericht/selector/Comparison$Operator", "holds", "(JJ)Z"⟩ : MethodName) (head1 (Jvm.Cond.code (⟨"com/example/bericht/bericht/selector/Comparison$Operator", "holds", "(JJ)Z"⟩ : MethodName) prog_22_method_5_code 5 (some .boolean) :: ws) ({ frames := 1, cells := 0, slots := 0, locals := 12 } : Room)) (fun a U => a = #[(.ref w3), (.long x1), (.long x2)] ∧ Z.Warmed39 U.vm ∧ U.heap = h0) (fun _ _ _ _ _ => True) (fun _ U o U' => ∃ v L, o = .returned v ∧ Q3_6 x1 x2 w0 w1 w2 w3 w4 w5 h0 v U'.heap L ∧ FrameEnd U o U' L ({ frames := 1, cells := 0, slots := 0, locals := 12 } : Room).cells ({ frames := 1, cells := 0, slots := 0, locals := 12 } : Room).slots) := by
  refine MetFree.of_bodySF (plainFor_of_name pn1) hisR ?_
  intro p e s m args below meth c s₁ Bd hml0 hP hK
  obtain ⟨rfl, hZ, hh⟩ := hP
  have hx := Bd.exec
  have hby := Bd.bytes
  have hml : c.maxLocals = 5 := hml0
  have hown : s.vm.findClass "com/example/bericht/bericht/selector/Comparison$Operator" = some m.cls := findClass_of_methodNamed Bd.named
  have hnm := (name_of_methodNamed Bd.named Bd.method).1
  have hlk := Bd.notSynchronized
  have X0 : Stand p l e ({ frames := 1, cells := 0, slots := 0, locals := 12 } : Room) s m #[(.ref w3), (.long x1), (.long x2)] below meth c s₁ [] 0 0 := Stand.of_body Bd
  have e0 : s₁.heap = h0 := by rw [← hh, Bd.state]; rfl
  have K0 := K
  obtain ⟨S_w0, S_w1, S_w2, S_w3, S_w4, S_w5, E_w0, E_w1, E_w2, E_w3, E_w4, E_w5, F_w0_ordinal, F_w1_ordinal, F_w2_ordinal, F_w3_ordinal, F_w4_ordinal, F_w5_ordinal, n_w0_w1, n_w0_w2, n_w0_w3, n_w0_w4, n_w0_w5, n_w1_w2, n_w1_w3, n_w1_w4, n_w1_w5, n_w2_w3, n_w2_w4, n_w2_w5, n_w3_w4, n_w3_w5, n_w4_w5⟩ := K
  show own_Go p e below s (Q3_6 x1 x2 w0 w1 w2 w3 w4 w5 h0) 0 0 (s₁.setTop (entryFrame m #[(.ref w3), (.long x1), (.long x2)] 5))
  rw [show entryFrame m #[(.ref w3), (.long x1), (.long x2)] 5 = mkF m 0 #[.val (.ref w3), .val (.long x1), .second, .val (.long x2), .second] [] from by first | (simp [entryFrame, mkF, argsToLocals, Value.category]; done) | rfl]
  show own_Go p e below s _ _ _ (s₁.setTop (mkF m 0 #[.val (.ref w3), .val (.long x1), .second, .val (.long x2), .second] []))
  refine own_via (fun _ k => XS.aloadN X0.here hx rfl (hb hby d3_0) rfl rfl k) ?_
  show own_Go p e below s _ _ _ (s₁.setTop (mkF m 1 #[.val (.ref w3), .val (.long x1), .second, .val (.long x2), .second] [(.ref w3)]))
  obtain ⟨cq1, kq1, q1a, q1b, q1c⟩ := isOf hZ e0 E_w3
  obtain ⟨_, _, ⟨T1, L1, k1, n1⟩, -, X1, ⟨Lc1, hQ1, l1, y1, z1⟩, st1⟩ := X0.virtualBackUp hx (x := (⟨"com/example/bericht/bericht/selector/Comparison$Operator", "ordinal", "()I"⟩ : MethodName)) (y := (⟨"java/lang/Enum", "ordinal", "()I"⟩ : MethodName)) (owner := "java/lang/Enum") hown (mvT hZ (hw _ (List.mem_of_getElem? (i := 19) rfl))) (mvT hZ (hw _ (List.mem_of_getElem? (i := 20) rfl))) (mvT hZ (hw _ (List.mem_of_getElem? (i := 21) rfl))) (by decide) (mvT hZ (hw _ (List.mem_of_getElem? (i := 23) rfl))) (mvT hZ (hw _ (List.mem_of_getElem? (i := 22) rfl))) (backOf (W := 0) (rm4_2 l Z a0 hw [] w0 w1 w2 w3 w4 w5 h0 n0 Z0 K0) hZ (hw _ (List.mem_of_getElem? (i := 25) rfl)) (hw _ (List.mem_of_getElem? (i := 24) rfl)) (by decide) (by decide)) q1a q1c (g := (mkF m 1 #[.val (.ref w3), .val (.long x1), .second, .val (.long x2), .second] [(.ref w3)])) rfl (by rw [hml]; rfl) (Steps.refl _) (argsL := []) (rest := []) (lenOf pd2 rfl) rfl (by show 2 * 0 + _ ≤ _; exact Nat.le_of_eq rfl) (hb hby d3_1) (fun _ _ => ⟨rfl, e0, (by decide : 0 + 0 ≤ _), (by decide : 0 + 0 ≤ _)⟩)
  dsimp only [Pt.U, Pt.locs, Pt.cells, Pt.slots] at X1 l1 y1 z1 st1 hQ1
  subst l1 y1 z1
  obtain ⟨rfl, e1, hO1⟩ := hQ1
  obtain rfl := hO1
  refine own_tr st1 ?_
  show own_Go p e below s _ _ _ (T1.setTop (mkF m 4 #[.val (.ref w3), .val (.long x1), .second, .val (.long x2), .second] [(.int (2 : Int32))]))
  refine own_via (fun _ k => XS.tswIn X1.here hx rfl (o := 78) (pc0 := 4) (pc' := 82) rfl (hb hby d3_4) rfl (by decide) (by decide) (by decide) (by decide) k) ?_
  show own_Go p e below s _ _ _ (T1.setTop (mkF m 82 #[.val (.ref w3), .val (.long x1), .second, .val (.long x2), .second] []))
  refine own_via (fun _ k => XS.lloadN X1.here hx rfl (hb hby d3_82) rfl k) ?_
  show own_Go p e below s _ _ _ (T1.setTop (mkF m 83 #[.val (.ref w3), .val (.long x1), .second, .val (.long x2), .second] [(.long x1)]))
  refine own_via (fun _ k => XS.lloadN X1.here hx rfl (hb hby d3_83) rfl k) ?_
  show own_Go p e below s _ _ _ (T1.setTop (mkF m 84 #[.val (.ref w3), .val (.long x1), .second, .val (.long x2), .second] [(.long x2), (.long x1)]))
  refine own_via (fun _ k => XS.lcmp X1.here hx rfl (hb hby d3_84) rfl k) ?_
  show own_Go p e below s _ _ _ (T1.setTop (mkF m 85 #[.val (.ref w3), .val (.long x1), .second, .val (.long x2), .second] [(.int (lcmpW x1 x2))]))
  by_cases hc2 : x1 < x2
  · refine own_via (fun _ k => XS.ifNo X1.here hx rfl (hb hby d3_85) rfl ((if0 _ _).trans (tlt ((lw_lt x1 x2).mpr hc2)).2.1) k) ?_
    show own_Go p e below s _ _ _ (T1.setTop (mkF m 88 #[.val (.ref w3), .val (.long x1), .second, .val (.long x2), .second] []))
    refine own_via (fun _ k => XS.iconst X1.here hx rfl (hb hby d3_88) k) ?_
    show own_Go p e below s _ _ _ (T1.setTop (mkF m 89 #[.val (.ref w3), .val (.long x1), .second, .val (.long x2), .second] [(.int (1 : Int32))]))
    refine own_via (fun _ k => XS.goto X1.here hx rfl (pc0 := 89) (pc' := 135) rfl (hb hby d3_89) (by decide) (by decide) k) ?_
    show own_Go p e below s _ _ _ (T1.setTop (mkF m 135 #[.val (.ref w3), .val (.long x1), .second, .val (.long x2), .second] [(.int (1 : Int32))]))
    exact own_retZ X1 hx hlk (t := .boolean) Bd.returns (by simp) (hb hby d3_135) (z' := (1 : Int32)) (by first | rfl | decide) ⟨rfl, e1, Or.inl ⟨hc2, rfl⟩⟩ (by decide) (by decide)
  · refine own_via (fun _ k => XS.ifYes X1.here hx rfl (pc0 := 85) (pc' := 92) rfl (hb hby d3_85) rfl ((if0 _ _).trans (flt (mt (lw_lt x1 x2).mp hc2)).2.1) (by decide) (by decide) k) ?_
    show own_Go p e below s _ _ _ (T1.setTop (mkF m 92 #[.val (.ref w3), .val (.long x1), .second, .val (.long x2), .second] []))
    refine own_via (fun _ k => XS.iconst X1.here hx rfl (hb hby d3_92) k) ?_
    show own_Go p e below s _ _ _ (T1.setTop (mkF m 93 #[.val (.ref w3), .val (.long x1), .second, .val (.long x2), .second] [(.int (0 : Int32))]))
    refine own_via (fun _ k => XS.goto X1.here hx rfl (pc0 := 93) (pc' := 135) rfl (hb hby d3_93) (by decide) (by decide) k) ?_
    show own_Go p e below s _ _ _ (T1.setTop (mkF m 135 #[.val (.ref w3), .val (.long x1), .second, .val (.long x2), .second] [(.int (0 : Int32))]))
    exact own_retZ X1 hx hlk (t := .boolean) Bd.returns (by simp) (hb hby d3_135) (z' := (0 : Int32)) (by first | rfl | decide) ⟨rfl, e1, Or.inr (⟨hc2, rfl⟩)⟩ (by decide) (by decide)
def Q3_7 (w0 : Addr) (w1 : Addr) (w2 : Addr) (w3 : Addr) (w4 : Addr) (w5 : Addr) (h0 : Heap) (v : Option Value) (h : Heap) (L : List Loc) : Prop := L = [] ∧ h = h0 ∧ ((v = some (.int (1 : Int32))))
set_option maxRecDepth 65536 in
set_option maxHeartbeats 40000000 in
theorem rm3_7 (l : Launch) (Z : State) (a0 : Array Value) (hw : ∀ d ∈ tables_1, d.before a0 Z = true) (ws : List Jvm.Cond) (w0 : Addr) (w1 : Addr) (w2 : Addr) (w3 : Addr) (w4 : Addr) (w5 : Addr) (h0 : Heap) (n0 : Nat) (Z0 : n0 ≤ h0.size) (K : own_K Z h0 w0 w1 w2 w3 w4 w5) :
    MetFree l (⟨"com/example/bericht/bericht/selector/Comparison$Operator", "holds", "(JJ)Z"⟩ : MethodName) (head1 (Jvm.Cond.code (⟨"com/example/bericht/bericht/selector/Comparison$Operator", "holds", "(JJ)Z"⟩ : MethodName) prog_22_method_5_code 5 (some .boolean) :: ws) ({ frames := 1, cells := 0, slots := 0, locals := 12 } : Room)) (fun a U => a = #[(.ref w3), (.long (0 : Int64)), (.long (1 : Int64))] ∧ Z.Warmed39 U.vm ∧ U.heap = h0) (fun _ _ _ _ _ => True) (fun _ U o U' => ∃ v L, o = .returned v ∧ Q3_7 w0 w1 w2 w3 w4 w5 h0 v U'.heap L ∧ FrameEnd U o U' L ({ frames := 1, cells := 0, slots := 0, locals := 12 } : Room).cells ({ frames := 1, cells := 0, slots := 0, locals := 12 } : Room).slots) := by
  refine MetFree.of_bodySF (plainFor_of_name pn1) hisR ?_
  intro p e s m args below meth c s₁ Bd hml0 hP hK
  obtain ⟨rfl, hZ, hh⟩ := hP
  have hx := Bd.exec
  have hby := Bd.bytes
  have hml : c.maxLocals = 5 := hml0
  have hown : s.vm.findClass "com/example/bericht/bericht/selector/Comparison$Operator" = some m.cls := findClass_of_methodNamed Bd.named
  have hnm := (name_of_methodNamed Bd.named Bd.method).1
  have hlk := Bd.notSynchronized
  have X0 : Stand p l e ({ frames := 1, cells := 0, slots := 0, locals := 12 } : Room) s m #[(.ref w3), (.long (0 : Int64)), (.long (1 : Int64))] below meth c s₁ [] 0 0 := Stand.of_body Bd
  have e0 : s₁.heap = h0 := by rw [← hh, Bd.state]; rfl
  have K0 := K
  obtain ⟨S_w0, S_w1, S_w2, S_w3, S_w4, S_w5, E_w0, E_w1, E_w2, E_w3, E_w4, E_w5, F_w0_ordinal, F_w1_ordinal, F_w2_ordinal, F_w3_ordinal, F_w4_ordinal, F_w5_ordinal, n_w0_w1, n_w0_w2, n_w0_w3, n_w0_w4, n_w0_w5, n_w1_w2, n_w1_w3, n_w1_w4, n_w1_w5, n_w2_w3, n_w2_w4, n_w2_w5, n_w3_w4, n_w3_w5, n_w4_w5⟩ := K
  show own_Go p e below s (Q3_7 w0 w1 w2 w3 w4 w5 h0) 0 0 (s₁.setTop (entryFrame m #[(.ref w3), (.long (0 : Int64)), (.long (1 : Int64))] 5))
  rw [show entryFrame m #[(.ref w3), (.long (0 : Int64)), (.long (1 : Int64))] 5 = mkF m 0 #[.val (.ref w3), .val (.long (0 : Int64)), .second, .val (.long (1 : Int64)), .second] [] from by first | (simp [entryFrame, mkF, argsToLocals, Value.category]; done) | rfl]
  show own_Go p e below s _ _ _ (s₁.setTop (mkF m 0 #[.val (.ref w3), .val (.long (0 : Int64)), .second, .val (.long (1 : Int64)), .second] []))
  refine own_via (fun _ k => XS.aloadN X0.here hx rfl (hb hby d3_0) rfl rfl k) ?_
  show own_Go p e below s _ _ _ (s₁.setTop (mkF m 1 #[.val (.ref w3), .val (.long (0 : Int64)), .second, .val (.long (1 : Int64)), .second] [(.ref w3)]))
  obtain ⟨cq1, kq1, q1a, q1b, q1c⟩ := isOf hZ e0 E_w3
  obtain ⟨_, _, ⟨T1, L1, k1, n1⟩, -, X1, ⟨Lc1, hQ1, l1, y1, z1⟩, st1⟩ := X0.virtualBackUp hx (x := (⟨"com/example/bericht/bericht/selector/Comparison$Operator", "ordinal", "()I"⟩ : MethodName)) (y := (⟨"java/lang/Enum", "ordinal", "()I"⟩ : MethodName)) (owner := "java/lang/Enum") hown (mvT hZ (hw _ (List.mem_of_getElem? (i := 19) rfl))) (mvT hZ (hw _ (List.mem_of_getElem? (i := 20) rfl))) (mvT hZ (hw _ (List.mem_of_getElem? (i := 21) rfl))) (by decide) (mvT hZ (hw _ (List.mem_of_getElem? (i := 23) rfl))) (mvT hZ (hw _ (List.mem_of_getElem? (i := 22) rfl))) (backOf (W := 0) (rm4_2 l Z a0 hw [] w0 w1 w2 w3 w4 w5 h0 n0 Z0 K0) hZ (hw _ (List.mem_of_getElem? (i := 25) rfl)) (hw _ (List.mem_of_getElem? (i := 24) rfl)) (by decide) (by decide)) q1a q1c (g := (mkF m 1 #[.val (.ref w3), .val (.long (0 : Int64)), .second, .val (.long (1 : Int64)), .second] [(.ref w3)])) rfl (by rw [hml]; rfl) (Steps.refl _) (argsL := []) (rest := []) (lenOf pd2 rfl) rfl (by show 2 * 0 + _ ≤ _; exact Nat.le_of_eq rfl) (hb hby d3_1) (fun _ _ => ⟨rfl, e0, (by decide : 0 + 0 ≤ _), (by decide : 0 + 0 ≤ _)⟩)
  dsimp only [Pt.U, Pt.locs, Pt.cells, Pt.slots] at X1 l1 y1 z1 st1 hQ1
  subst l1 y1 z1
  obtain ⟨rfl, e1, hO1⟩ := hQ1
  obtain rfl := hO1
  refine own_tr st1 ?_
  show own_Go p e below s _ _ _ (T1.setTop (mkF m 4 #[.val (.ref w3), .val (.long (0 : Int64)), .second, .val (.long (1 : Int64)), .second] [(.int (2 : Int32))]))
  refine own_via (fun _ k => XS.tswIn X1.here hx rfl (o := 78) (pc0 := 4) (pc' := 82) rfl (hb hby d3_4) rfl (by decide) (by decide) (by decide) (by decide) k) ?_
  show own_Go p e below s _ _ _ (T1.setTop (mkF m 82 #[.val (.ref w3), .val (.long (0 : Int64)), .second, .val (.long (1 : Int64)), .second] []))
  refine own_via (fun _ k => XS.lloadN X1.here hx rfl (hb hby d3_82) rfl k) ?_
  show own_Go p e below s _ _ _ (T1.setTop (mkF m 83 #[.val (.ref w3), .val (.long (0 : Int64)), .second, .val (.long (1 : Int64)), .second] [(.long (0 : Int64))]))
  refine own_via (fun _ k => XS.lloadN X1.here hx rfl (hb hby d3_83) rfl k) ?_
  show own_Go p e below s _ _ _ (T1.setTop (mkF m 84 #[.val (.ref w3), .val (.long (0 : Int64)), .second, .val (.long (1 : Int64)), .second] [(.long (1 : Int64)), (.long (0 : Int64))]))
  refine own_via (fun _ k => XS.lcmp X1.here hx rfl (hb hby d3_84) rfl k) ?_
  show own_Go p e below s _ _ _ (T1.setTop (mkF m 85 #[.val (.ref w3), .val (.long (0 : Int64)), .second, .val (.long (1 : Int64)), .second] [(.int (lcmpW (0 : Int64) (1 : Int64)))]))
  refine own_via (fun _ k => XS.ifNo X1.here hx rfl (hb hby d3_85) rfl ((if0 _ _).trans (tlt (by decide : (lcmpW (0 : Int64) (1 : Int64)) < (0 : Int32))).2.1) k) ?_
  show own_Go p e below s _ _ _ (T1.setTop (mkF m 88 #[.val (.ref w3), .val (.long (0 : Int64)), .second, .val (.long (1 : Int64)), .second] []))
  refine own_via (fun _ k => XS.iconst X1.here hx rfl (hb hby d3_88) k) ?_
  show own_Go p e below s _ _ _ (T1.setTop (mkF m 89 #[.val (.ref w3), .val (.long (0 : Int64)), .second, .val (.long (1 : Int64)), .second] [(.int (1 : Int32))]))
  refine own_via (fun _ k => XS.goto X1.here hx rfl (pc0 := 89) (pc' := 135) rfl (hb hby d3_89) (by decide) (by decide) k) ?_
  show own_Go p e below s _ _ _ (T1.setTop (mkF m 135 #[.val (.ref w3), .val (.long (0 : Int64)), .second, .val (.long (1 : Int64)), .second] [(.int (1 : Int32))]))
  exact own_retZ X1 hx hlk (t := .boolean) Bd.returns (by simp) (hb hby d3_135) (z' := (1 : Int32)) (by first | rfl | decide) ⟨rfl, e1, rfl⟩ (by decide) (by decide)
def Q3_8 (w0 : Addr) (w1 : Addr) (w2 : Addr) (w3 : Addr) (w4 : Addr) (w5 : Addr) (h0 : Heap) (v : Option Value) (h : Heap) (L : List Loc) : Prop := L = [] ∧ h = h0 ∧ ((v = some (.int (0 : Int32))))
set_option maxRecDepth 65536 in
set_option maxHeartbeats 40000000 in
theorem rm3_8 (l : Launch) (Z : State) (a0 : Array Value) (hw : ∀ d ∈ tables_1, d.before a0 Z = true) (ws : List Jvm.Cond) (w0 : Addr) (w1 : Addr) (w2 : Addr) (w3 : Addr) (w4 : Addr) (w5 : Addr) (h0 : Heap) (n0 : Nat) (Z0 : n0 ≤ h0.size) (K : own_K Z h0 w0 w1 w2 w3 w4 w5) :
    MetFree l (⟨"com/example/bericht/bericht/selector/Comparison$Operator", "holds", "(JJ)Z"⟩ : MethodName) (head1 (Jvm.Cond.code (⟨"com/example/bericht/bericht/selector/Comparison$Operator", "holds", "(JJ)Z"⟩ : MethodName) prog_22_method_5_code 5 (some .boolean) :: ws) ({ frames := 1, cells := 0, slots := 0, locals := 12 } : Room)) (fun a U => a = #[(.ref w3), (.long (1 : Int64)), (.long (0 : Int64))] ∧ Z.Warmed39 U.vm ∧ U.heap = h0) (fun _ _ _ _ _ => True) (fun _ U o U' => ∃ v L, o = .returned v ∧ Q3_8 w0 w1 w2 w3 w4 w5 h0 v U'.heap L ∧ FrameEnd U o U' L ({ frames := 1, cells := 0, slots := 0, locals := 12 } : Room).cells ({ frames := 1, cells := 0, slots := 0, locals := 12 } : Room).slots) := by
  refine MetFree.of_bodySF (plainFor_of_name pn1) hisR ?_
  intro p e s m args below meth c s₁ Bd hml0 hP hK
  obtain ⟨rfl, hZ, hh⟩ := hP
  have hx := Bd.exec
  have hby := Bd.bytes
  have hml : c.maxLocals = 5 := hml0
  have hown : s.vm.findClass "com/example/bericht/bericht/selector/Comparison$Operator" = some m.cls := findClass_of_methodNamed Bd.named
  have hnm := (name_of_methodNamed Bd.named Bd.method).1
  have hlk := Bd.notSynchronized
  have X0 : Stand p l e ({ frames := 1, cells := 0, slots := 0, locals := 12 } : Room) s m #[(.ref w3), (.long (1 : Int64)), (.long (0 : Int64))] below meth c s₁ [] 0 0 := Stand.of_body Bd
  have e0 : s₁.heap = h0 := by rw [← hh, Bd.state]; rfl
  have K0 := K
  obtain ⟨S_w0, S_w1, S_w2, S_w3, S_w4, S_w5, E_w0, E_w1, E_w2, E_w3, E_w4, E_w5, F_w0_ordinal, F_w1_ordinal, F_w2_ordinal, F_w3_ordinal, F_w4_ordinal, F_w5_ordinal, n_w0_w1, n_w0_w2, n_w0_w3, n_w0_w4, n_w0_w5, n_w1_w2, n_w1_w3, n_w1_w4, n_w1_w5, n_w2_w3, n_w2_w4, n_w2_w5, n_w3_w4, n_w3_w5, n_w4_w5⟩ := K
  show own_Go p e below s (Q3_8 w0 w1 w2 w3 w4 w5 h0) 0 0 (s₁.setTop (entryFrame m #[(.ref w3), (.long (1 : Int64)), (.long (0 : Int64))] 5))
  rw [show entryFrame m #[(.ref w3), (.long (1 : Int64)), (.long (0 : Int64))] 5 = mkF m 0 #[.val (.ref w3), .val (.long (1 : Int64)), .second, .val (.long (0 : Int64)), .second] [] from by first | (simp [entryFrame, mkF, argsToLocals, Value.category]; done) | rfl]
  show own_Go p e below s _ _ _ (s₁.setTop (mkF m 0 #[.val (.ref w3), .val (.long (1 : Int64)), .second, .val (.long (0 : Int64)), .second] []))
  refine own_via (fun _ k => XS.aloadN X0.here hx rfl (hb hby d3_0) rfl rfl k) ?_
  show own_Go p e below s _ _ _ (s₁.setTop (mkF m 1 #[.val (.ref w3), .val (.long (1 : Int64)), .second, .val (.long (0 : Int64)), .second] [(.ref w3)]))
  obtain ⟨cq1, kq1, q1a, q1b, q1c⟩ := isOf hZ e0 E_w3
  obtain ⟨_, _, ⟨T1, L1, k1, n1⟩, -, X1, ⟨Lc1, hQ1, l1, y1, z1⟩, st1⟩ := X0.virtualBackUp hx (x := (⟨"com/example/bericht/bericht/selector/Comparison$Operator", "ordinal", "()I"⟩ : MethodName)) (y := (⟨"java/lang/Enum", "ordinal", "()I"⟩ : MethodName)) (owner := "java/lang/Enum") hown (mvT hZ (hw _ (List.mem_of_getElem? (i := 19) rfl))) (mvT hZ (hw _ (List.mem_of_getElem? (i := 20) rfl))) (mvT hZ (hw _ (List.mem_of_getElem? (i := 21) rfl))) (by decide) (mvT hZ (hw _ (List.mem_of_getElem? (i := 23) rfl))) (mvT hZ (hw _ (List.mem_of_getElem? (i := 22) rfl))) (backOf (W := 0) (rm4_2 l Z a0 hw [] w0 w1 w2 w3 w4 w5 h0 n0 Z0 K0) hZ (hw _ (List.mem_of_getElem? (i := 25) rfl)) (hw _ (List.mem_of_getElem? (i := 24) rfl)) (by decide) (by decide)) q1a q1c (g := (mkF m 1 #[.val (.ref w3), .val (.long (1 : Int64)), .second, .val (.long (0 : Int64)), .second] [(.ref w3)])) rfl (by rw [hml]; rfl) (Steps.refl _) (argsL := []) (rest := []) (lenOf pd2 rfl) rfl (by show 2 * 0 + _ ≤ _; exact Nat.le_of_eq rfl) (hb hby d3_1) (fun _ _ => ⟨rfl, e0, (by decide : 0 + 0 ≤ _), (by decide : 0 + 0 ≤ _)⟩)
  dsimp only [Pt.U, Pt.locs, Pt.cells, Pt.slots] at X1 l1 y1 z1 st1 hQ1
  subst l1 y1 z1
  obtain ⟨rfl, e1, hO1⟩ := hQ1
  obtain rfl := hO1
  refine own_tr st1 ?_
  show own_Go p e below s _ _ _ (T1.setTop (mkF m 4 #[.val (.ref w3), .val (.long (1 : Int64)), .second, .val (.long (0 : Int64)), .second] [(.int (2 : Int32))]))
  refine own_via (fun _ k => XS.tswIn X1.here hx rfl (o := 78) (pc0 := 4) (pc' := 82) rfl (hb hby d3_4) rfl (by decide) (by decide) (by decide) (by decide) k) ?_
  show own_Go p e below s _ _ _ (T1.setTop (mkF m 82 #[.val (.ref w3), .val (.long (1 : Int64)), .second, .val (.long (0 : Int64)), .second] []))
  refine own_via (fun _ k => XS.lloadN X1.here hx rfl (hb hby d3_82) rfl k) ?_
  show own_Go p e below s _ _ _ (T1.setTop (mkF m 83 #[.val (.ref w3), .val (.long (1 : Int64)), .second, .val (.long (0 : Int64)), .second] [(.long (1 : Int64))]))
  refine own_via (fun _ k => XS.lloadN X1.here hx rfl (hb hby d3_83) rfl k) ?_
  show own_Go p e below s _ _ _ (T1.setTop (mkF m 84 #[.val (.ref w3), .val (.long (1 : Int64)), .second, .val (.long (0 : Int64)), .second] [(.long (0 : Int64)), (.long (1 : Int64))]))
  refine own_via (fun _ k => XS.lcmp X1.here hx rfl (hb hby d3_84) rfl k) ?_
  show own_Go p e below s _ _ _ (T1.setTop (mkF m 85 #[.val (.ref w3), .val (.long (1 : Int64)), .second, .val (.long (0 : Int64)), .second] [(.int (lcmpW (1 : Int64) (0 : Int64)))]))
  refine own_via (fun _ k => XS.ifYes X1.here hx rfl (pc0 := 85) (pc' := 92) rfl (hb hby d3_85) rfl ((if0 _ _).trans (flt (by decide : ¬ ((lcmpW (1 : Int64) (0 : Int64)) < (0 : Int32)))).2.1) (by decide) (by decide) k) ?_
  show own_Go p e below s _ _ _ (T1.setTop (mkF m 92 #[.val (.ref w3), .val (.long (1 : Int64)), .second, .val (.long (0 : Int64)), .second] []))
  refine own_via (fun _ k => XS.iconst X1.here hx rfl (hb hby d3_92) k) ?_
  show own_Go p e below s _ _ _ (T1.setTop (mkF m 93 #[.val (.ref w3), .val (.long (1 : Int64)), .second, .val (.long (0 : Int64)), .second] [(.int (0 : Int32))]))
  refine own_via (fun _ k => XS.goto X1.here hx rfl (pc0 := 93) (pc' := 135) rfl (hb hby d3_93) (by decide) (by decide) k) ?_
  show own_Go p e below s _ _ _ (T1.setTop (mkF m 135 #[.val (.ref w3), .val (.long (1 : Int64)), .second, .val (.long (0 : Int64)), .second] [(.int (0 : Int32))]))
  exact own_retZ X1 hx hlk (t := .boolean) Bd.returns (by simp) (hb hby d3_135) (z' := (0 : Int32)) (by first | rfl | decide) ⟨rfl, e1, rfl⟩ (by decide) (by decide)
def Q5_2 (w0 : Addr) (w1 : Addr) (w2 : Addr) (w3 : Addr) (w4 : Addr) (w5 : Addr) (h0 : Heap) (v : Option Value) (h : Heap) (L : List Loc) : Prop := L = [] ∧ h = h0 ∧ ((v = some (.ref w1)))
set_option maxRecDepth 65536 in
set_option maxHeartbeats 40000000 in
theorem rm5_2 (l : Launch) (Z : State) (a0 : Array Value) (hw : ∀ d ∈ tables_1, d.before a0 Z = true) (ws : List Jvm.Cond) (w0 : Addr) (w1 : Addr) (w2 : Addr) (w3 : Addr) (w4 : Addr) (w5 : Addr) (h0 : Heap) (n0 : Nat) (Z0 : n0 ≤ h0.size) (K : own_K Z h0 w0 w1 w2 w3 w4 w5) :
    MetFree l (⟨"com/example/bericht/bericht/selector/Comparison$Operator", "flipped", "()Lcom/example/bericht/bericht/selector/Comparison$Operator;"⟩ : MethodName) (head1 (Jvm.Cond.code (⟨"com/example/bericht/bericht/selector/Comparison$Operator", "flipped", "()Lcom/example/bericht/bericht/selector/Comparison$Operator;"⟩ : MethodName) prog_22_method_7_code 1 (some (.object "com/example/bericht/bericht/selector/Comparison$Operator")) :: ws) ({ frames := 1, cells := 0, slots := 0, locals := 12 } : Room)) (fun a U => a = #[(.ref w3)] ∧ Z.Warmed39 U.vm ∧ U.heap = h0) (fun _ _ _ _ _ => True) (fun _ U o U' => ∃ v L, o = .returned v ∧ Q5_2 w0 w1 w2 w3 w4 w5 h0 v U'.heap L ∧ FrameEnd U o U' L ({ frames := 1, cells := 0, slots := 0, locals := 12 } : Room).cells ({ frames := 1, cells := 0, slots := 0, locals := 12 } : Room).slots) := by
  refine MetFree.of_bodySF (plainFor_of_name pn1) hisR ?_
  intro p e s m args below meth c s₁ Bd hml0 hP hK
  obtain ⟨rfl, hZ, hh⟩ := hP
  have hx := Bd.exec
  have hby := Bd.bytes
  have hml : c.maxLocals = 1 := hml0
  have hown : s.vm.findClass "com/example/bericht/bericht/selector/Comparison$Operator" = some m.cls := findClass_of_methodNamed Bd.named
  have hnm := (name_of_methodNamed Bd.named Bd.method).1
  have hlk := Bd.notSynchronized
  have X0 : Stand p l e ({ frames := 1, cells := 0, slots := 0, locals := 12 } : Room) s m #[(.ref w3)] below meth c s₁ [] 0 0 := Stand.of_body Bd
  have e0 : s₁.heap = h0 := by rw [← hh, Bd.state]; rfl
  have K0 := K
  obtain ⟨S_w0, S_w1, S_w2, S_w3, S_w4, S_w5, E_w0, E_w1, E_w2, E_w3, E_w4, E_w5, F_w0_ordinal, F_w1_ordinal, F_w2_ordinal, F_w3_ordinal, F_w4_ordinal, F_w5_ordinal, n_w0_w1, n_w0_w2, n_w0_w3, n_w0_w4, n_w0_w5, n_w1_w2, n_w1_w3, n_w1_w4, n_w1_w5, n_w2_w3, n_w2_w4, n_w2_w5, n_w3_w4, n_w3_w5, n_w4_w5⟩ := K
  show own_Go p e below s (Q5_2 w0 w1 w2 w3 w4 w5 h0) 0 0 (s₁.setTop (entryFrame m #[(.ref w3)] 1))
  rw [show entryFrame m #[(.ref w3)] 1 = mkF m 0 #[.val (.ref w3)] [] from by first | (simp [entryFrame, mkF, argsToLocals, Value.category]; done) | rfl]
  show own_Go p e below s _ _ _ (s₁.setTop (mkF m 0 #[.val (.ref w3)] []))
  refine own_via (fun _ k => XS.aloadN X0.here hx rfl (hb hby d5_0) rfl rfl k) ?_
  show own_Go p e below s _ _ _ (s₁.setTop (mkF m 1 #[.val (.ref w3)] [(.ref w3)]))
  obtain ⟨cq1, kq1, q1a, q1b, q1c⟩ := isOf hZ e0 E_w3
  obtain ⟨_, _, ⟨T1, L1, k1, n1⟩, -, X1, ⟨Lc1, hQ1, l1, y1, z1⟩, st1⟩ := X0.virtualBackUp hx (x := (⟨"com/example/bericht/bericht/selector/Comparison$Operator", "ordinal", "()I"⟩ : MethodName)) (y := (⟨"java/lang/Enum", "ordinal", "()I"⟩ : MethodName)) (owner := "java/lang/Enum") hown (mvT hZ (hw _ (List.mem_of_getElem? (i := 19) rfl))) (mvT hZ (hw _ (List.mem_of_getElem? (i := 20) rfl))) (mvT hZ (hw _ (List.mem_of_getElem? (i := 21) rfl))) (by decide) (mvT hZ (hw _ (List.mem_of_getElem? (i := 23) rfl))) (mvT hZ (hw _ (List.mem_of_getElem? (i := 22) rfl))) (backOf (W := 0) (rm4_2 l Z a0 hw [] w0 w1 w2 w3 w4 w5 h0 n0 Z0 K0) hZ (hw _ (List.mem_of_getElem? (i := 25) rfl)) (hw _ (List.mem_of_getElem? (i := 24) rfl)) (by decide) (by decide)) q1a q1c (g := (mkF m 1 #[.val (.ref w3)] [(.ref w3)])) rfl (by rw [hml]; rfl) (Steps.refl _) (argsL := []) (rest := []) (lenOf pd2 rfl) rfl (by show 2 * 0 + _ ≤ _; exact Nat.le_of_eq rfl) (hb hby d5_1) (fun _ _ => ⟨rfl, e0, (by decide : 0 + 0 ≤ _), (by decide : 0 + 0 ≤ _)⟩)
  dsimp only [Pt.U, Pt.locs, Pt.cells, Pt.slots] at X1 l1 y1 z1 st1 hQ1
  subst l1 y1 z1
  obtain ⟨rfl, e1, hO1⟩ := hQ1
  obtain rfl := hO1
  refine own_tr st1 ?_
  show own_Go p e below s _ _ _ (T1.setTop (mkF m 4 #[.val (.ref w3)] [(.int (2 : Int32))]))
  refine own_via (fun _ k => XS.tswIn X1.here hx rfl (o := 54) (pc0 := 4) (pc' := 58) rfl (hb hby d5_4) rfl (by decide) (by decide) (by decide) (by decide) k) ?_
  show own_Go p e below s _ _ _ (T1.setTop (mkF m 58 #[.val (.ref w3)] []))
  obtain ⟨T2, X2, e2, st2⟩ := getS2 X1 hx hZ hown (host := "") (Or.inl (hw _ (List.mem_of_getElem? (i := 44) rfl))) Via.refl e1 S_w1 (g := (mkF m 58 #[.val (.ref w3)] [])) rfl (hb hby d5_58)
  refine own_via st2 ?_
  show own_Go p e below s _ _ _ (T2.setTop (mkF m 61 #[.val (.ref w3)] [(.ref w1)]))
  refine own_via (fun _ k => XS.goto X2.here hx rfl (pc0 := 61) (pc' := 79) rfl (hb hby d5_61) (by decide) (by decide) k) ?_
  show own_Go p e below s _ _ _ (T2.setTop (mkF m 79 #[.val (.ref w3)] [(.ref w1)]))
  exact own_retR X2 hx hlk Bd.returns rfl rfl (hb hby d5_79) ⟨rfl, e2, rfl⟩ (by decide) (by decide)
def Q2_3 (w0 : Addr) (w1 : Addr) (w2 : Addr) (w3 : Addr) (w4 : Addr) (w5 : Addr) (h0 : Heap) (v : Option Value) (h : Heap) (L : List Loc) : Prop := L = [] ∧ h = h0 ∧ ((v = some (.int (0 : Int32))))
set_option maxRecDepth 65536 in
set_option maxHeartbeats 40000000 in
theorem rm2_3 (l : Launch) (Z : State) (a0 : Array Value) (hw : ∀ d ∈ tables_1, d.before a0 Z = true) (ws : List Jvm.Cond) (w0 : Addr) (w1 : Addr) (w2 : Addr) (w3 : Addr) (w4 : Addr) (w5 : Addr) (h0 : Heap) (n0 : Nat) (Z0 : n0 ≤ h0.size) (K : own_K Z h0 w0 w1 w2 w3 w4 w5) :
    MetFree l (⟨"com/example/bericht/bericht/selector/Comparison$Operator", "isEquality", "()Z"⟩ : MethodName) (head1 (Jvm.Cond.code (⟨"com/example/bericht/bericht/selector/Comparison$Operator", "isEquality", "()Z"⟩ : MethodName) prog_22_method_8_code 1 (some .boolean) :: ws) ({ frames := 0, cells := 0, slots := 0, locals := 0 } : Room)) (fun a U => a = #[(.ref w4)] ∧ Z.Warmed39 U.vm ∧ U.heap = h0) (fun _ _ _ _ _ => True) (fun _ U o U' => ∃ v L, o = .returned v ∧ Q2_3 w0 w1 w2 w3 w4 w5 h0 v U'.heap L ∧ FrameEnd U o U' L ({ frames := 0, cells := 0, slots := 0, locals := 0 } : Room).cells ({ frames := 0, cells := 0, slots := 0, locals := 0 } : Room).slots) := by
  refine MetFree.of_bodySF (plainFor_of_name pn1) hisR ?_
  intro p e s m args below meth c s₁ Bd hml0 hP hK
  obtain ⟨rfl, hZ, hh⟩ := hP
  have hx := Bd.exec
  have hby := Bd.bytes
  have hml : c.maxLocals = 1 := hml0
  have hown : s.vm.findClass "com/example/bericht/bericht/selector/Comparison$Operator" = some m.cls := findClass_of_methodNamed Bd.named
  have hnm := (name_of_methodNamed Bd.named Bd.method).1
  have hlk := Bd.notSynchronized
  have X0 : Stand p l e ({ frames := 0, cells := 0, slots := 0, locals := 0 } : Room) s m #[(.ref w4)] below meth c s₁ [] 0 0 := Stand.of_body Bd
  have e0 : s₁.heap = h0 := by rw [← hh, Bd.state]; rfl
  have K0 := K
  obtain ⟨S_w0, S_w1, S_w2, S_w3, S_w4, S_w5, E_w0, E_w1, E_w2, E_w3, E_w4, E_w5, F_w0_ordinal, F_w1_ordinal, F_w2_ordinal, F_w3_ordinal, F_w4_ordinal, F_w5_ordinal, n_w0_w1, n_w0_w2, n_w0_w3, n_w0_w4, n_w0_w5, n_w1_w2, n_w1_w3, n_w1_w4, n_w1_w5, n_w2_w3, n_w2_w4, n_w2_w5, n_w3_w4, n_w3_w5, n_w4_w5⟩ := K
  show own_Go p e below s (Q2_3 w0 w1 w2 w3 w4 w5 h0) 0 0 (s₁.setTop (entryFrame m #[(.ref w4)] 1))
  rw [show entryFrame m #[(.ref w4)] 1 = mkF m 0 #[.val (.ref w4)] [] from by first | (simp [entryFrame, mkF, argsToLocals, Value.category]; done) | rfl]
  show own_Go p e below s _ _ _ (s₁.setTop (mkF m 0 #[.val (.ref w4)] []))
  refine own_via (fun _ k => XS.aloadN X0.here hx rfl (hb hby d2_0) rfl rfl k) ?_
  show own_Go p e below s _ _ _ (s₁.setTop (mkF m 1 #[.val (.ref w4)] [(.ref w4)]))
  obtain ⟨T1, X1, e1, st1⟩ := getS2 X0 hx hZ hown (host := "") (Or.inl (hw _ (List.mem_of_getElem? (i := 13) rfl))) Via.refl e0 S_w0 (g := (mkF m 1 #[.val (.ref w4)] [(.ref w4)])) rfl (hb hby d2_1)
  refine own_via st1 ?_
  show own_Go p e below s _ _ _ (T1.setTop (mkF m 4 #[.val (.ref w4)] [(.ref w0), (.ref w4)]))
  refine own_via (fun _ k => Jvm.RoadKit.acmp (g := (mkF m 4 #[.val (.ref w4)] [(.ref w0), (.ref w4)])) X1 hx rfl rfl rfl (pc0 := 4) (pc' := 7) (same := false) rfl (hb hby d2_4) rfl (decide_eq_false fun q => (fun q => n_w0_w4 q.symm) (Value.ref.inj q)) (by decide) (by decide) k) ?_
  show own_Go p e below s _ _ _ (T1.setTop (mkF m 7 #[.val (.ref w4)] []))
  refine own_via (fun _ k => XS.aloadN X1.here hx rfl (hb hby d2_7) rfl rfl k) ?_
  show own_Go p e below s _ _ _ (T1.setTop (mkF m 8 #[.val (.ref w4)] [(.ref w4)]))
  obtain ⟨T2, X2, e2, st2⟩ := getS2 X1 hx hZ hown (host := "") (Or.inl (hw _ (List.mem_of_getElem? (i := 35) rfl))) Via.refl e1 S_w2 (g := (mkF m 8 #[.val (.ref w4)] [(.ref w4)])) rfl (hb hby d2_8)
  refine own_via st2 ?_
  show own_Go p e below s _ _ _ (T2.setTop (mkF m 11 #[.val (.ref w4)] [(.ref w2), (.ref w4)]))
  refine own_via (fun _ k => Jvm.RoadKit.acmp (g := (mkF m 11 #[.val (.ref w4)] [(.ref w2), (.ref w4)])) X2 hx rfl rfl rfl (pc0 := 11) (pc' := 18) (same := false) rfl (hb hby d2_11) rfl (decide_eq_false fun q => (fun q => n_w2_w4 q.symm) (Value.ref.inj q)) (by decide) (by decide) k) ?_
  show own_Go p e below s _ _ _ (T2.setTop (mkF m 18 #[.val (.ref w4)] []))
  refine own_via (fun _ k => XS.iconst X2.here hx rfl (hb hby d2_18) k) ?_
  show own_Go p e below s _ _ _ (T2.setTop (mkF m 19 #[.val (.ref w4)] [(.int (0 : Int32))]))
  exact own_retZ X2 hx hlk (t := .boolean) Bd.returns (by simp) (hb hby d2_19) (z' := (0 : Int32)) (by first | rfl | decide) ⟨rfl, e2, rfl⟩ (by decide) (by decide)
def Q4_3 (w0 : Addr) (w1 : Addr) (w2 : Addr) (w3 : Addr) (w4 : Addr) (w5 : Addr) (h0 : Heap) (v : Option Value) (h : Heap) (L : List Loc) : Prop := L = [] ∧ h = h0 ∧ ((v = some (.int (3 : Int32))))
set_option maxRecDepth 65536 in
set_option maxHeartbeats 40000000 in
theorem rm4_3 (l : Launch) (Z : State) (a0 : Array Value) (hw : ∀ d ∈ tables_1, d.before a0 Z = true) (ws : List Jvm.Cond) (w0 : Addr) (w1 : Addr) (w2 : Addr) (w3 : Addr) (w4 : Addr) (w5 : Addr) (h0 : Heap) (n0 : Nat) (Z0 : n0 ≤ h0.size) (K : own_K Z h0 w0 w1 w2 w3 w4 w5) :
    MetFree l (⟨"java/lang/Enum", "ordinal", "()I"⟩ : MethodName) (head1 (Jvm.Cond.code (⟨"java/lang/Enum", "ordinal", "()I"⟩ : MethodName) jdk_37_method_2_code 1 (some .int) :: ws) ({ frames := 0, cells := 0, slots := 0, locals := 0 } : Room)) (fun a U => a = #[(.ref w4)] ∧ Z.Warmed39 U.vm ∧ U.heap = h0) (fun _ _ _ _ _ => True) (fun _ U o U' => ∃ v L, o = .returned v ∧ Q4_3 w0 w1 w2 w3 w4 w5 h0 v U'.heap L ∧ FrameEnd U o U' L ({ frames := 0, cells := 0, slots := 0, locals := 0 } : Room).cells ({ frames := 0, cells := 0, slots := 0, locals := 0 } : Room).slots) := by
  refine MetFree.of_bodySF (plainFor_of_name pn2) hisR ?_
  intro p e s m args below meth c s₁ Bd hml0 hP hK
  obtain ⟨rfl, hZ, hh⟩ := hP
  have hx := Bd.exec
  have hby := Bd.bytes
  have hml : c.maxLocals = 1 := hml0
  have hown : s.vm.findClass "java/lang/Enum" = some m.cls := findClass_of_methodNamed Bd.named
  have hnm := (name_of_methodNamed Bd.named Bd.method).1
  have hlk := Bd.notSynchronized
  have X0 : Stand p l e ({ frames := 0, cells := 0, slots := 0, locals := 0 } : Room) s m #[(.ref w4)] below meth c s₁ [] 0 0 := Stand.of_body Bd
  have e0 : s₁.heap = h0 := by rw [← hh, Bd.state]; rfl
  have K0 := K
  obtain ⟨S_w0, S_w1, S_w2, S_w3, S_w4, S_w5, E_w0, E_w1, E_w2, E_w3, E_w4, E_w5, F_w0_ordinal, F_w1_ordinal, F_w2_ordinal, F_w3_ordinal, F_w4_ordinal, F_w5_ordinal, n_w0_w1, n_w0_w2, n_w0_w3, n_w0_w4, n_w0_w5, n_w1_w2, n_w1_w3, n_w1_w4, n_w1_w5, n_w2_w3, n_w2_w4, n_w2_w5, n_w3_w4, n_w3_w5, n_w4_w5⟩ := K
  show own_Go p e below s (Q4_3 w0 w1 w2 w3 w4 w5 h0) 0 0 (s₁.setTop (entryFrame m #[(.ref w4)] 1))
  rw [show entryFrame m #[(.ref w4)] 1 = mkF m 0 #[.val (.ref w4)] [] from by first | (simp [entryFrame, mkF, argsToLocals, Value.category]; done) | rfl]
  show own_Go p e below s _ _ _ (s₁.setTop (mkF m 0 #[.val (.ref w4)] []))
  refine own_via (fun _ k => XS.aloadN X0.here hx rfl (hb hby d4_0) rfl rfl k) ?_
  show own_Go p e below s _ _ _ (s₁.setTop (mkF m 1 #[.val (.ref w4)] [(.ref w4)]))
  obtain ⟨T1, X1, e1, st1⟩ := getF X0 hx hZ hown (host := "") (Or.inl (hw _ (List.mem_of_getElem? (i := 26) rfl))) Via.refl e0 F_w4_ordinal (g := (mkF m 1 #[.val (.ref w4)] [(.ref w4)])) rfl rfl (hb hby d4_1)
  refine own_via st1 ?_
  show own_Go p e below s _ _ _ (T1.setTop (mkF m 4 #[.val (.ref w4)] [(.int (3 : Int32))]))
  exact own_retI X1 hx hlk Bd.returns (hb hby d4_4) ⟨rfl, e1, rfl⟩ (by decide) (by decide)
def Q3_9 (x1 : Int64) (x2 : Int64) (w0 : Addr) (w1 : Addr) (w2 : Addr) (w3 : Addr) (w4 : Addr) (w5 : Addr) (h0 : Heap) (v : Option Value) (h : Heap) (L : List Loc) : Prop := L = [] ∧ h = h0 ∧ ((x2 < x1 ∧ v = some (.int (0 : Int32))) ∨ (¬ (x2 < x1) ∧ v = some (.int (1 : Int32))))
set_option maxRecDepth 65536 in
set_option maxHeartbeats 40000000 in
theorem rm3_9 (l : Launch) (Z : State) (a0 : Array Value) (hw : ∀ d ∈ tables_1, d.before a0 Z = true) (ws : List Jvm.Cond) (x1 : Int64) (x2 : Int64) (w0 : Addr) (w1 : Addr) (w2 : Addr) (w3 : Addr) (w4 : Addr) (w5 : Addr) (h0 : Heap) (n0 : Nat) (Z0 : n0 ≤ h0.size) (K : own_K Z h0 w0 w1 w2 w3 w4 w5) :
    MetFree l (⟨"com/example/bericht/bericht/selector/Comparison$Operator", "holds", "(JJ)Z"⟩ : MethodName) (head1 (Jvm.Cond.code (⟨"com/example/bericht/bericht/selector/Comparison$Operator", "holds", "(JJ)Z"⟩ : MethodName) prog_22_method_5_code 5 (some .boolean) :: ws) ({ frames := 1, cells := 0, slots := 0, locals := 12 } : Room)) (fun a U => a = #[(.ref w4), (.long x1), (.long x2)] ∧ Z.Warmed39 U.vm ∧ U.heap = h0) (fun _ _ _ _ _ => True) (fun _ U o U' => ∃ v L, o = .returned v ∧ Q3_9 x1 x2 w0 w1 w2 w3 w4 w5 h0 v U'.heap L ∧ FrameEnd U o U' L ({ frames := 1, cells := 0, slots := 0, locals := 12 } : Room).cells ({ frames := 1, cells := 0, slots := 0, locals := 12 } : Room).slots) := by
  refine MetFree.of_bodySF (plainFor_of_name pn1) hisR ?_
  intro p e s m args below meth c s₁ Bd hml0 hP hK
  obtain ⟨rfl, hZ, hh⟩ := hP
  have hx := Bd.exec
  have hby := Bd.bytes
  have hml : c.maxLocals = 5 := hml0
  have hown : s.vm.findClass "com/example/bericht/bericht/selector/Comparison$Operator" = some m.cls := findClass_of_methodNamed Bd.named
  have hnm := (name_of_methodNamed Bd.named Bd.method).1
  have hlk := Bd.notSynchronized
  have X0 : Stand p l e ({ frames := 1, cells := 0, slots := 0, locals := 12 } : Room) s m #[(.ref w4), (.long x1), (.long x2)] below meth c s₁ [] 0 0 := Stand.of_body Bd
  have e0 : s₁.heap = h0 := by rw [← hh, Bd.state]; rfl
  have K0 := K
  obtain ⟨S_w0, S_w1, S_w2, S_w3, S_w4, S_w5, E_w0, E_w1, E_w2, E_w3, E_w4, E_w5, F_w0_ordinal, F_w1_ordinal, F_w2_ordinal, F_w3_ordinal, F_w4_ordinal, F_w5_ordinal, n_w0_w1, n_w0_w2, n_w0_w3, n_w0_w4, n_w0_w5, n_w1_w2, n_w1_w3, n_w1_w4, n_w1_w5, n_w2_w3, n_w2_w4, n_w2_w5, n_w3_w4, n_w3_w5, n_w4_w5⟩ := K
  show own_Go p e below s (Q3_9 x1 x2 w0 w1 w2 w3 w4 w5 h0) 0 0 (s₁.setTop (entryFrame m #[(.ref w4), (.long x1), (.long x2)] 5))
  rw [show entryFrame m #[(.ref w4), (.long x1), (.long x2)] 5 = mkF m 0 #[.val (.ref w4), .val (.long x1), .second, .val (.long x2), .second] [] from by first | (simp [entryFrame, mkF, argsToLocals, Value.category]; done) | rfl]
  show own_Go p e below s _ _ _ (s₁.setTop (mkF m 0 #[.val (.ref w4), .val (.long x1), .second, .val (.long x2), .second] []))
  refine own_via (fun _ k => XS.aloadN X0.here hx rfl (hb hby d3_0) rfl rfl k) ?_
  show own_Go p e below s _ _ _ (s₁.setTop (mkF m 1 #[.val (.ref w4), .val (.long x1), .second, .val (.long x2), .second] [(.ref w4)]))
  obtain ⟨cq1, kq1, q1a, q1b, q1c⟩ := isOf hZ e0 E_w4
  obtain ⟨_, _, ⟨T1, L1, k1, n1⟩, -, X1, ⟨Lc1, hQ1, l1, y1, z1⟩, st1⟩ := X0.virtualBackUp hx (x := (⟨"com/example/bericht/bericht/selector/Comparison$Operator", "ordinal", "()I"⟩ : MethodName)) (y := (⟨"java/lang/Enum", "ordinal", "()I"⟩ : MethodName)) (owner := "java/lang/Enum") hown (mvT hZ (hw _ (List.mem_of_getElem? (i := 19) rfl))) (mvT hZ (hw _ (List.mem_of_getElem? (i := 20) rfl))) (mvT hZ (hw _ (List.mem_of_getElem? (i := 21) rfl))) (by decide) (mvT hZ (hw _ (List.mem_of_getElem? (i := 23) rfl))) (mvT hZ (hw _ (List.mem_of_getElem? (i := 22) rfl))) (backOf (W := 0) (rm4_3 l Z a0 hw [] w0 w1 w2 w3 w4 w5 h0 n0 Z0 K0) hZ (hw _ (List.mem_of_getElem? (i := 25) rfl)) (hw _ (List.mem_of_getElem? (i := 24) rfl)) (by decide) (by decide)) q1a q1c (g := (mkF m 1 #[.val (.ref w4), .val (.long x1), .second, .val (.long x2), .second] [(.ref w4)])) rfl (by rw [hml]; rfl) (Steps.refl _) (argsL := []) (rest := []) (lenOf pd2 rfl) rfl (by show 2 * 0 + _ ≤ _; exact Nat.le_of_eq rfl) (hb hby d3_1) (fun _ _ => ⟨rfl, e0, (by decide : 0 + 0 ≤ _), (by decide : 0 + 0 ≤ _)⟩)
  dsimp only [Pt.U, Pt.locs, Pt.cells, Pt.slots] at X1 l1 y1 z1 st1 hQ1
  subst l1 y1 z1
  obtain ⟨rfl, e1, hO1⟩ := hQ1
  obtain rfl := hO1
  refine own_tr st1 ?_
  show own_Go p e below s _ _ _ (T1.setTop (mkF m 4 #[.val (.ref w4), .val (.long x1), .second, .val (.long x2), .second] [(.int (3 : Int32))]))
  refine own_via (fun _ k => XS.tswIn X1.here hx rfl (o := 92) (pc0 := 4) (pc' := 96) rfl (hb hby d3_4) rfl (by decide) (by decide) (by decide) (by decide) k) ?_
  show own_Go p e below s _ _ _ (T1.setTop (mkF m 96 #[.val (.ref w4), .val (.long x1), .second, .val (.long x2), .second] []))
  refine own_via (fun _ k => XS.lloadN X1.here hx rfl (hb hby d3_96) rfl k) ?_
  show own_Go p e below s _ _ _ (T1.setTop (mkF m 97 #[.val (.ref w4), .val (.long x1), .second, .val (.long x2), .second] [(.long x1)]))
  refine own_via (fun _ k => XS.lloadN X1.here hx rfl (hb hby d3_97) rfl k) ?_
  show own_Go p e below s _ _ _ (T1.setTop (mkF m 98 #[.val (.ref w4), .val (.long x1), .second, .val (.long x2), .second] [(.long x2), (.long x1)]))
  refine own_via (fun _ k => XS.lcmp X1.here hx rfl (hb hby d3_98) rfl k) ?_
  show own_Go p e below s _ _ _ (T1.setTop (mkF m 99 #[.val (.ref w4), .val (.long x1), .second, .val (.long x2), .second] [(.int (lcmpW x1 x2))]))
  by_cases hc2 : x2 < x1
  · refine own_via (fun _ k => XS.ifYes X1.here hx rfl (pc0 := 99) (pc' := 106) rfl (hb hby d3_99) rfl ((if0 _ _).trans (tlt ((lw_gt x1 x2).mpr hc2)).2.2.1) (by decide) (by decide) k) ?_
    show own_Go p e below s _ _ _ (T1.setTop (mkF m 106 #[.val (.ref w4), .val (.long x1), .second, .val (.long x2), .second] []))
    refine own_via (fun _ k => XS.iconst X1.here hx rfl (hb hby d3_106) k) ?_
    show own_Go p e below s _ _ _ (T1.setTop (mkF m 107 #[.val (.ref w4), .val (.long x1), .second, .val (.long x2), .second] [(.int (0 : Int32))]))
    refine own_via (fun _ k => XS.goto X1.here hx rfl (pc0 := 107) (pc' := 135) rfl (hb hby d3_107) (by decide) (by decide) k) ?_
    show own_Go p e below s _ _ _ (T1.setTop (mkF m 135 #[.val (.ref w4), .val (.long x1), .second, .val (.long x2), .second] [(.int (0 : Int32))]))
    exact own_retZ X1 hx hlk (t := .boolean) Bd.returns (by simp) (hb hby d3_135) (z' := (0 : Int32)) (by first | rfl | decide) ⟨rfl, e1, Or.inl ⟨hc2, rfl⟩⟩ (by decide) (by decide)
  · refine own_via (fun _ k => XS.ifNo X1.here hx rfl (hb hby d3_99) rfl ((if0 _ _).trans (flt (mt (lw_gt x1 x2).mp hc2)).2.2.1) k) ?_
    show own_Go p e below s _ _ _ (T1.setTop (mkF m 102 #[.val (.ref w4), .val (.long x1), .second, .val (.long x2), .second] []))
    refine own_via (fun _ k => XS.iconst X1.here hx rfl (hb hby d3_102) k) ?_
    show own_Go p e below s _ _ _ (T1.setTop (mkF m 103 #[.val (.ref w4), .val (.long x1), .second, .val (.long x2), .second] [(.int (1 : Int32))]))
    refine own_via (fun _ k => XS.goto X1.here hx rfl (pc0 := 103) (pc' := 135) rfl (hb hby d3_103) (by decide) (by decide) k) ?_
    show own_Go p e below s _ _ _ (T1.setTop (mkF m 135 #[.val (.ref w4), .val (.long x1), .second, .val (.long x2), .second] [(.int (1 : Int32))]))
    exact own_retZ X1 hx hlk (t := .boolean) Bd.returns (by simp) (hb hby d3_135) (z' := (1 : Int32)) (by first | rfl | decide) ⟨rfl, e1, Or.inr (⟨hc2, rfl⟩)⟩ (by decide) (by decide)
def Q3_10 (w0 : Addr) (w1 : Addr) (w2 : Addr) (w3 : Addr) (w4 : Addr) (w5 : Addr) (h0 : Heap) (v : Option Value) (h : Heap) (L : List Loc) : Prop := L = [] ∧ h = h0 ∧ ((v = some (.int (1 : Int32))))
set_option maxRecDepth 65536 in
set_option maxHeartbeats 40000000 in
theorem rm3_10 (l : Launch) (Z : State) (a0 : Array Value) (hw : ∀ d ∈ tables_1, d.before a0 Z = true) (ws : List Jvm.Cond) (w0 : Addr) (w1 : Addr) (w2 : Addr) (w3 : Addr) (w4 : Addr) (w5 : Addr) (h0 : Heap) (n0 : Nat) (Z0 : n0 ≤ h0.size) (K : own_K Z h0 w0 w1 w2 w3 w4 w5) :
    MetFree l (⟨"com/example/bericht/bericht/selector/Comparison$Operator", "holds", "(JJ)Z"⟩ : MethodName) (head1 (Jvm.Cond.code (⟨"com/example/bericht/bericht/selector/Comparison$Operator", "holds", "(JJ)Z"⟩ : MethodName) prog_22_method_5_code 5 (some .boolean) :: ws) ({ frames := 1, cells := 0, slots := 0, locals := 12 } : Room)) (fun a U => a = #[(.ref w4), (.long (0 : Int64)), (.long (1 : Int64))] ∧ Z.Warmed39 U.vm ∧ U.heap = h0) (fun _ _ _ _ _ => True) (fun _ U o U' => ∃ v L, o = .returned v ∧ Q3_10 w0 w1 w2 w3 w4 w5 h0 v U'.heap L ∧ FrameEnd U o U' L ({ frames := 1, cells := 0, slots := 0, locals := 12 } : Room).cells ({ frames := 1, cells := 0, slots := 0, locals := 12 } : Room).slots) := by
  refine MetFree.of_bodySF (plainFor_of_name pn1) hisR ?_
  intro p e s m args below meth c s₁ Bd hml0 hP hK
  obtain ⟨rfl, hZ, hh⟩ := hP
  have hx := Bd.exec
  have hby := Bd.bytes
  have hml : c.maxLocals = 5 := hml0
  have hown : s.vm.findClass "com/example/bericht/bericht/selector/Comparison$Operator" = some m.cls := findClass_of_methodNamed Bd.named
  have hnm := (name_of_methodNamed Bd.named Bd.method).1
  have hlk := Bd.notSynchronized
  have X0 : Stand p l e ({ frames := 1, cells := 0, slots := 0, locals := 12 } : Room) s m #[(.ref w4), (.long (0 : Int64)), (.long (1 : Int64))] below meth c s₁ [] 0 0 := Stand.of_body Bd
  have e0 : s₁.heap = h0 := by rw [← hh, Bd.state]; rfl
  have K0 := K
  obtain ⟨S_w0, S_w1, S_w2, S_w3, S_w4, S_w5, E_w0, E_w1, E_w2, E_w3, E_w4, E_w5, F_w0_ordinal, F_w1_ordinal, F_w2_ordinal, F_w3_ordinal, F_w4_ordinal, F_w5_ordinal, n_w0_w1, n_w0_w2, n_w0_w3, n_w0_w4, n_w0_w5, n_w1_w2, n_w1_w3, n_w1_w4, n_w1_w5, n_w2_w3, n_w2_w4, n_w2_w5, n_w3_w4, n_w3_w5, n_w4_w5⟩ := K
  show own_Go p e below s (Q3_10 w0 w1 w2 w3 w4 w5 h0) 0 0 (s₁.setTop (entryFrame m #[(.ref w4), (.long (0 : Int64)), (.long (1 : Int64))] 5))
  rw [show entryFrame m #[(.ref w4), (.long (0 : Int64)), (.long (1 : Int64))] 5 = mkF m 0 #[.val (.ref w4), .val (.long (0 : Int64)), .second, .val (.long (1 : Int64)), .second] [] from by first | (simp [entryFrame, mkF, argsToLocals, Value.category]; done) | rfl]
  show own_Go p e below s _ _ _ (s₁.setTop (mkF m 0 #[.val (.ref w4), .val (.long (0 : Int64)), .second, .val (.long (1 : Int64)), .second] []))
  refine own_via (fun _ k => XS.aloadN X0.here hx rfl (hb hby d3_0) rfl rfl k) ?_
  show own_Go p e below s _ _ _ (s₁.setTop (mkF m 1 #[.val (.ref w4), .val (.long (0 : Int64)), .second, .val (.long (1 : Int64)), .second] [(.ref w4)]))
  obtain ⟨cq1, kq1, q1a, q1b, q1c⟩ := isOf hZ e0 E_w4
  obtain ⟨_, _, ⟨T1, L1, k1, n1⟩, -, X1, ⟨Lc1, hQ1, l1, y1, z1⟩, st1⟩ := X0.virtualBackUp hx (x := (⟨"com/example/bericht/bericht/selector/Comparison$Operator", "ordinal", "()I"⟩ : MethodName)) (y := (⟨"java/lang/Enum", "ordinal", "()I"⟩ : MethodName)) (owner := "java/lang/Enum") hown (mvT hZ (hw _ (List.mem_of_getElem? (i := 19) rfl))) (mvT hZ (hw _ (List.mem_of_getElem? (i := 20) rfl))) (mvT hZ (hw _ (List.mem_of_getElem? (i := 21) rfl))) (by decide) (mvT hZ (hw _ (List.mem_of_getElem? (i := 23) rfl))) (mvT hZ (hw _ (List.mem_of_getElem? (i := 22) rfl))) (backOf (W := 0) (rm4_3 l Z a0 hw [] w0 w1 w2 w3 w4 w5 h0 n0 Z0 K0) hZ (hw _ (List.mem_of_getElem? (i := 25) rfl)) (hw _ (List.mem_of_getElem? (i := 24) rfl)) (by decide) (by decide)) q1a q1c (g := (mkF m 1 #[.val (.ref w4), .val (.long (0 : Int64)), .second, .val (.long (1 : Int64)), .second] [(.ref w4)])) rfl (by rw [hml]; rfl) (Steps.refl _) (argsL := []) (rest := []) (lenOf pd2 rfl) rfl (by show 2 * 0 + _ ≤ _; exact Nat.le_of_eq rfl) (hb hby d3_1) (fun _ _ => ⟨rfl, e0, (by decide : 0 + 0 ≤ _), (by decide : 0 + 0 ≤ _)⟩)
  dsimp only [Pt.U, Pt.locs, Pt.cells, Pt.slots] at X1 l1 y1 z1 st1 hQ1
  subst l1 y1 z1
  obtain ⟨rfl, e1, hO1⟩ := hQ1
  obtain rfl := hO1
  refine own_tr st1 ?_
  show own_Go p e below s _ _ _ (T1.setTop (mkF m 4 #[.val (.ref w4), .val (.long (0 : Int64)), .second, .val (.long (1 : Int64)), .second] [(.int (3 : Int32))]))
  refine own_via (fun _ k => XS.tswIn X1.here hx rfl (o := 92) (pc0 := 4) (pc' := 96) rfl (hb hby d3_4) rfl (by decide) (by decide) (by decide) (by decide) k) ?_
  show own_Go p e below s _ _ _ (T1.setTop (mkF m 96 #[.val (.ref w4), .val (.long (0 : Int64)), .second, .val (.long (1 : Int64)), .second] []))
  refine own_via (fun _ k => XS.lloadN X1.here hx rfl (hb hby d3_96) rfl k) ?_
  show own_Go p e below s _ _ _ (T1.setTop (mkF m 97 #[.val (.ref w4), .val (.long (0 : Int64)), .second, .val (.long (1 : Int64)), .second] [(.long (0 : Int64))]))
  refine own_via (fun _ k => XS.lloadN X1.here hx rfl (hb hby d3_97) rfl k) ?_
  show own_Go p e below s _ _ _ (T1.setTop (mkF m 98 #[.val (.ref w4), .val (.long (0 : Int64)), .second, .val (.long (1 : Int64)), .second] [(.long (1 : Int64)), (.long (0 : Int64))]))
  refine own_via (fun _ k => XS.lcmp X1.here hx rfl (hb hby d3_98) rfl k) ?_
  show own_Go p e below s _ _ _ (T1.setTop (mkF m 99 #[.val (.ref w4), .val (.long (0 : Int64)), .second, .val (.long (1 : Int64)), .second] [(.int (lcmpW (0 : Int64) (1 : Int64)))]))
  refine own_via (fun _ k => XS.ifNo X1.here hx rfl (hb hby d3_99) rfl ((if0 _ _).trans (flt (by decide : ¬ ((0 : Int32) < (lcmpW (0 : Int64) (1 : Int64))))).2.2.1) k) ?_
  show own_Go p e below s _ _ _ (T1.setTop (mkF m 102 #[.val (.ref w4), .val (.long (0 : Int64)), .second, .val (.long (1 : Int64)), .second] []))
  refine own_via (fun _ k => XS.iconst X1.here hx rfl (hb hby d3_102) k) ?_
  show own_Go p e below s _ _ _ (T1.setTop (mkF m 103 #[.val (.ref w4), .val (.long (0 : Int64)), .second, .val (.long (1 : Int64)), .second] [(.int (1 : Int32))]))
  refine own_via (fun _ k => XS.goto X1.here hx rfl (pc0 := 103) (pc' := 135) rfl (hb hby d3_103) (by decide) (by decide) k) ?_
  show own_Go p e below s _ _ _ (T1.setTop (mkF m 135 #[.val (.ref w4), .val (.long (0 : Int64)), .second, .val (.long (1 : Int64)), .second] [(.int (1 : Int32))]))
  exact own_retZ X1 hx hlk (t := .boolean) Bd.returns (by simp) (hb hby d3_135) (z' := (1 : Int32)) (by first | rfl | decide) ⟨rfl, e1, rfl⟩ (by decide) (by decide)
def Q3_11 (w0 : Addr) (w1 : Addr) (w2 : Addr) (w3 : Addr) (w4 : Addr) (w5 : Addr) (h0 : Heap) (v : Option Value) (h : Heap) (L : List Loc) : Prop := L = [] ∧ h = h0 ∧ ((v = some (.int (0 : Int32))))
set_option maxRecDepth 65536 in
set_option maxHeartbeats 40000000 in
theorem rm3_11 (l : Launch) (Z : State) (a0 : Array Value) (hw : ∀ d ∈ tables_1, d.before a0 Z = true) (ws : List Jvm.Cond) (w0 : Addr) (w1 : Addr) (w2 : Addr) (w3 : Addr) (w4 : Addr) (w5 : Addr) (h0 : Heap) (n0 : Nat) (Z0 : n0 ≤ h0.size) (K : own_K Z h0 w0 w1 w2 w3 w4 w5) :
    MetFree l (⟨"com/example/bericht/bericht/selector/Comparison$Operator", "holds", "(JJ)Z"⟩ : MethodName) (head1 (Jvm.Cond.code (⟨"com/example/bericht/bericht/selector/Comparison$Operator", "holds", "(JJ)Z"⟩ : MethodName) prog_22_method_5_code 5 (some .boolean) :: ws) ({ frames := 1, cells := 0, slots := 0, locals := 12 } : Room)) (fun a U => a = #[(.ref w4), (.long (1 : Int64)), (.long (0 : Int64))] ∧ Z.Warmed39 U.vm ∧ U.heap = h0) (fun _ _ _ _ _ => True) (fun _ U o U' => ∃ v L, o = .returned v ∧ Q3_11 w0 w1 w2 w3 w4 w5 h0 v U'.heap L ∧ FrameEnd U o U' L ({ frames := 1, cells := 0, slots := 0, locals := 12 } : Room).cells ({ frames := 1, cells := 0, slots := 0, locals := 12 } : Room).slots) := by
  refine MetFree.of_bodySF (plainFor_of_name pn1) hisR ?_
  intro p e s m args below meth c s₁ Bd hml0 hP hK
  obtain ⟨rfl, hZ, hh⟩ := hP
  have hx := Bd.exec
  have hby := Bd.bytes
  have hml : c.maxLocals = 5 := hml0
  have hown : s.vm.findClass "com/example/bericht/bericht/selector/Comparison$Operator" = some m.cls := findClass_of_methodNamed Bd.named
  have hnm := (name_of_methodNamed Bd.named Bd.method).1
  have hlk := Bd.notSynchronized
  have X0 : Stand p l e ({ frames := 1, cells := 0, slots := 0, locals := 12 } : Room) s m #[(.ref w4), (.long (1 : Int64)), (.long (0 : Int64))] below meth c s₁ [] 0 0 := Stand.of_body Bd
  have e0 : s₁.heap = h0 := by rw [← hh, Bd.state]; rfl
  have K0 := K
  obtain ⟨S_w0, S_w1, S_w2, S_w3, S_w4, S_w5, E_w0, E_w1, E_w2, E_w3, E_w4, E_w5, F_w0_ordinal, F_w1_ordinal, F_w2_ordinal, F_w3_ordinal, F_w4_ordinal, F_w5_ordinal, n_w0_w1, n_w0_w2, n_w0_w3, n_w0_w4, n_w0_w5, n_w1_w2, n_w1_w3, n_w1_w4, n_w1_w5, n_w2_w3, n_w2_w4, n_w2_w5, n_w3_w4, n_w3_w5, n_w4_w5⟩ := K
  show own_Go p e below s (Q3_11 w0 w1 w2 w3 w4 w5 h0) 0 0 (s₁.setTop (entryFrame m #[(.ref w4), (.long (1 : Int64)), (.long (0 : Int64))] 5))
  rw [show entryFrame m #[(.ref w4), (.long (1 : Int64)), (.long (0 : Int64))] 5 = mkF m 0 #[.val (.ref w4), .val (.long (1 : Int64)), .second, .val (.long (0 : Int64)), .second] [] from by first | (simp [entryFrame, mkF, argsToLocals, Value.category]; done) | rfl]
  show own_Go p e below s _ _ _ (s₁.setTop (mkF m 0 #[.val (.ref w4), .val (.long (1 : Int64)), .second, .val (.long (0 : Int64)), .second] []))
  refine own_via (fun _ k => XS.aloadN X0.here hx rfl (hb hby d3_0) rfl rfl k) ?_
  show own_Go p e below s _ _ _ (s₁.setTop (mkF m 1 #[.val (.ref w4), .val (.long (1 : Int64)), .second, .val (.long (0 : Int64)), .second] [(.ref w4)]))
  obtain ⟨cq1, kq1, q1a, q1b, q1c⟩ := isOf hZ e0 E_w4
  obtain ⟨_, _, ⟨T1, L1, k1, n1⟩, -, X1, ⟨Lc1, hQ1, l1, y1, z1⟩, st1⟩ := X0.virtualBackUp hx (x := (⟨"com/example/bericht/bericht/selector/Comparison$Operator", "ordinal", "()I"⟩ : MethodName)) (y := (⟨"java/lang/Enum", "ordinal", "()I"⟩ : MethodName)) (owner := "java/lang/Enum") hown (mvT hZ (hw _ (List.mem_of_getElem? (i := 19) rfl))) (mvT hZ (hw _ (List.mem_of_getElem? (i := 20) rfl))) (mvT hZ (hw _ (List.mem_of_getElem? (i := 21) rfl))) (by decide) (mvT hZ (hw _ (List.mem_of_getElem? (i := 23) rfl))) (mvT hZ (hw _ (List.mem_of_getElem? (i := 22) rfl))) (backOf (W := 0) (rm4_3 l Z a0 hw [] w0 w1 w2 w3 w4 w5 h0 n0 Z0 K0) hZ (hw _ (List.mem_of_getElem? (i := 25) rfl)) (hw _ (List.mem_of_getElem? (i := 24) rfl)) (by decide) (by decide)) q1a q1c (g := (mkF m 1 #[.val (.ref w4), .val (.long (1 : Int64)), .second, .val (.long (0 : Int64)), .second] [(.ref w4)])) rfl (by rw [hml]; rfl) (Steps.refl _) (argsL := []) (rest := []) (lenOf pd2 rfl) rfl (by show 2 * 0 + _ ≤ _; exact Nat.le_of_eq rfl) (hb hby d3_1) (fun _ _ => ⟨rfl, e0, (by decide : 0 + 0 ≤ _), (by decide : 0 + 0 ≤ _)⟩)
  dsimp only [Pt.U, Pt.locs, Pt.cells, Pt.slots] at X1 l1 y1 z1 st1 hQ1
  subst l1 y1 z1
  obtain ⟨rfl, e1, hO1⟩ := hQ1
  obtain rfl := hO1
  refine own_tr st1 ?_
  show own_Go p e below s _ _ _ (T1.setTop (mkF m 4 #[.val (.ref w4), .val (.long (1 : Int64)), .second, .val (.long (0 : Int64)), .second] [(.int (3 : Int32))]))
  refine own_via (fun _ k => XS.tswIn X1.here hx rfl (o := 92) (pc0 := 4) (pc' := 96) rfl (hb hby d3_4) rfl (by decide) (by decide) (by decide) (by decide) k) ?_
  show own_Go p e below s _ _ _ (T1.setTop (mkF m 96 #[.val (.ref w4), .val (.long (1 : Int64)), .second, .val (.long (0 : Int64)), .second] []))
  refine own_via (fun _ k => XS.lloadN X1.here hx rfl (hb hby d3_96) rfl k) ?_
  show own_Go p e below s _ _ _ (T1.setTop (mkF m 97 #[.val (.ref w4), .val (.long (1 : Int64)), .second, .val (.long (0 : Int64)), .second] [(.long (1 : Int64))]))
  refine own_via (fun _ k => XS.lloadN X1.here hx rfl (hb hby d3_97) rfl k) ?_
  show own_Go p e below s _ _ _ (T1.setTop (mkF m 98 #[.val (.ref w4), .val (.long (1 : Int64)), .second, .val (.long (0 : Int64)), .second] [(.long (0 : Int64)), (.long (1 : Int64))]))
  refine own_via (fun _ k => XS.lcmp X1.here hx rfl (hb hby d3_98) rfl k) ?_
  show own_Go p e below s _ _ _ (T1.setTop (mkF m 99 #[.val (.ref w4), .val (.long (1 : Int64)), .second, .val (.long (0 : Int64)), .second] [(.int (lcmpW (1 : Int64) (0 : Int64)))]))
  refine own_via (fun _ k => XS.ifYes X1.here hx rfl (pc0 := 99) (pc' := 106) rfl (hb hby d3_99) rfl ((if0 _ _).trans (tlt (by decide : (0 : Int32) < (lcmpW (1 : Int64) (0 : Int64)))).2.2.1) (by decide) (by decide) k) ?_
  show own_Go p e below s _ _ _ (T1.setTop (mkF m 106 #[.val (.ref w4), .val (.long (1 : Int64)), .second, .val (.long (0 : Int64)), .second] []))
  refine own_via (fun _ k => XS.iconst X1.here hx rfl (hb hby d3_106) k) ?_
  show own_Go p e below s _ _ _ (T1.setTop (mkF m 107 #[.val (.ref w4), .val (.long (1 : Int64)), .second, .val (.long (0 : Int64)), .second] [(.int (0 : Int32))]))
  refine own_via (fun _ k => XS.goto X1.here hx rfl (pc0 := 107) (pc' := 135) rfl (hb hby d3_107) (by decide) (by decide) k) ?_
  show own_Go p e below s _ _ _ (T1.setTop (mkF m 135 #[.val (.ref w4), .val (.long (1 : Int64)), .second, .val (.long (0 : Int64)), .second] [(.int (0 : Int32))]))
  exact own_retZ X1 hx hlk (t := .boolean) Bd.returns (by simp) (hb hby d3_135) (z' := (0 : Int32)) (by first | rfl | decide) ⟨rfl, e1, rfl⟩ (by decide) (by decide)
def Q5_3 (w0 : Addr) (w1 : Addr) (w2 : Addr) (w3 : Addr) (w4 : Addr) (w5 : Addr) (h0 : Heap) (v : Option Value) (h : Heap) (L : List Loc) : Prop := L = [] ∧ h = h0 ∧ ((v = some (.ref w5)))
set_option maxRecDepth 65536 in
set_option maxHeartbeats 40000000 in
theorem rm5_3 (l : Launch) (Z : State) (a0 : Array Value) (hw : ∀ d ∈ tables_1, d.before a0 Z = true) (ws : List Jvm.Cond) (w0 : Addr) (w1 : Addr) (w2 : Addr) (w3 : Addr) (w4 : Addr) (w5 : Addr) (h0 : Heap) (n0 : Nat) (Z0 : n0 ≤ h0.size) (K : own_K Z h0 w0 w1 w2 w3 w4 w5) :
    MetFree l (⟨"com/example/bericht/bericht/selector/Comparison$Operator", "flipped", "()Lcom/example/bericht/bericht/selector/Comparison$Operator;"⟩ : MethodName) (head1 (Jvm.Cond.code (⟨"com/example/bericht/bericht/selector/Comparison$Operator", "flipped", "()Lcom/example/bericht/bericht/selector/Comparison$Operator;"⟩ : MethodName) prog_22_method_7_code 1 (some (.object "com/example/bericht/bericht/selector/Comparison$Operator")) :: ws) ({ frames := 1, cells := 0, slots := 0, locals := 12 } : Room)) (fun a U => a = #[(.ref w4)] ∧ Z.Warmed39 U.vm ∧ U.heap = h0) (fun _ _ _ _ _ => True) (fun _ U o U' => ∃ v L, o = .returned v ∧ Q5_3 w0 w1 w2 w3 w4 w5 h0 v U'.heap L ∧ FrameEnd U o U' L ({ frames := 1, cells := 0, slots := 0, locals := 12 } : Room).cells ({ frames := 1, cells := 0, slots := 0, locals := 12 } : Room).slots) := by
  refine MetFree.of_bodySF (plainFor_of_name pn1) hisR ?_
  intro p e s m args below meth c s₁ Bd hml0 hP hK
  obtain ⟨rfl, hZ, hh⟩ := hP
  have hx := Bd.exec
  have hby := Bd.bytes
  have hml : c.maxLocals = 1 := hml0
  have hown : s.vm.findClass "com/example/bericht/bericht/selector/Comparison$Operator" = some m.cls := findClass_of_methodNamed Bd.named
  have hnm := (name_of_methodNamed Bd.named Bd.method).1
  have hlk := Bd.notSynchronized
  have X0 : Stand p l e ({ frames := 1, cells := 0, slots := 0, locals := 12 } : Room) s m #[(.ref w4)] below meth c s₁ [] 0 0 := Stand.of_body Bd
  have e0 : s₁.heap = h0 := by rw [← hh, Bd.state]; rfl
  have K0 := K
  obtain ⟨S_w0, S_w1, S_w2, S_w3, S_w4, S_w5, E_w0, E_w1, E_w2, E_w3, E_w4, E_w5, F_w0_ordinal, F_w1_ordinal, F_w2_ordinal, F_w3_ordinal, F_w4_ordinal, F_w5_ordinal, n_w0_w1, n_w0_w2, n_w0_w3, n_w0_w4, n_w0_w5, n_w1_w2, n_w1_w3, n_w1_w4, n_w1_w5, n_w2_w3, n_w2_w4, n_w2_w5, n_w3_w4, n_w3_w5, n_w4_w5⟩ := K
  show own_Go p e below s (Q5_3 w0 w1 w2 w3 w4 w5 h0) 0 0 (s₁.setTop (entryFrame m #[(.ref w4)] 1))
  rw [show entryFrame m #[(.ref w4)] 1 = mkF m 0 #[.val (.ref w4)] [] from by first | (simp [entryFrame, mkF, argsToLocals, Value.category]; done) | rfl]
  show own_Go p e below s _ _ _ (s₁.setTop (mkF m 0 #[.val (.ref w4)] []))
  refine own_via (fun _ k => XS.aloadN X0.here hx rfl (hb hby d5_0) rfl rfl k) ?_
  show own_Go p e below s _ _ _ (s₁.setTop (mkF m 1 #[.val (.ref w4)] [(.ref w4)]))
  obtain ⟨cq1, kq1, q1a, q1b, q1c⟩ := isOf hZ e0 E_w4
  obtain ⟨_, _, ⟨T1, L1, k1, n1⟩, -, X1, ⟨Lc1, hQ1, l1, y1, z1⟩, st1⟩ := X0.virtualBackUp hx (x := (⟨"com/example/bericht/bericht/selector/Comparison$Operator", "ordinal", "()I"⟩ : MethodName)) (y := (⟨"java/lang/Enum", "ordinal", "()I"⟩ : MethodName)) (owner := "java/lang/Enum") hown (mvT hZ (hw _ (List.mem_of_getElem? (i := 19) rfl))) (mvT hZ (hw _ (List.mem_of_getElem? (i := 20) rfl))) (mvT hZ (hw _ (List.mem_of_getElem? (i := 21) rfl))) (by decide) (mvT hZ (hw _ (List.mem_of_getElem? (i := 23) rfl))) (mvT hZ (hw _ (List.mem_of_getElem? (i := 22) rfl))) (backOf (W := 0) (rm4_3 l Z a0 hw [] w0 w1 w2 w3 w4 w5 h0 n0 Z0 K0) hZ (hw _ (List.mem_of_getElem? (i := 25) rfl)) (hw _ (List.mem_of_getElem? (i := 24) rfl)) (by decide) (by decide)) q1a q1c (g := (mkF m 1 #[.val (.ref w4)] [(.ref w4)])) rfl (by rw [hml]; rfl) (Steps.refl _) (argsL := []) (rest := []) (lenOf pd2 rfl) rfl (by show 2 * 0 + _ ≤ _; exact Nat.le_of_eq rfl) (hb hby d5_1) (fun _ _ => ⟨rfl, e0, (by decide : 0 + 0 ≤ _), (by decide : 0 + 0 ≤ _)⟩)
  dsimp only [Pt.U, Pt.locs, Pt.cells, Pt.slots] at X1 l1 y1 z1 st1 hQ1
  subst l1 y1 z1
  obtain ⟨rfl, e1, hO1⟩ := hQ1
  obtain rfl := hO1
  refine own_tr st1 ?_
  show own_Go p e below s _ _ _ (T1.setTop (mkF m 4 #[.val (.ref w4)] [(.int (3 : Int32))]))
  refine own_via (fun _ k => XS.tswIn X1.here hx rfl (o := 60) (pc0 := 4) (pc' := 64) rfl (hb hby d5_4) rfl (by decide) (by decide) (by decide) (by decide) k) ?_
  show own_Go p e below s _ _ _ (T1.setTop (mkF m 64 #[.val (.ref w4)] []))
  obtain ⟨T2, X2, e2, st2⟩ := getS2 X1 hx hZ hown (host := "") (Or.inl (hw _ (List.mem_of_getElem? (i := 41) rfl))) Via.refl e1 S_w5 (g := (mkF m 64 #[.val (.ref w4)] [])) rfl (hb hby d5_64)
  refine own_via st2 ?_
  show own_Go p e below s _ _ _ (T2.setTop (mkF m 67 #[.val (.ref w4)] [(.ref w5)]))
  refine own_via (fun _ k => XS.goto X2.here hx rfl (pc0 := 67) (pc' := 79) rfl (hb hby d5_67) (by decide) (by decide) k) ?_
  show own_Go p e below s _ _ _ (T2.setTop (mkF m 79 #[.val (.ref w4)] [(.ref w5)]))
  exact own_retR X2 hx hlk Bd.returns rfl rfl (hb hby d5_79) ⟨rfl, e2, rfl⟩ (by decide) (by decide)
def Q2_4 (w0 : Addr) (w1 : Addr) (w2 : Addr) (w3 : Addr) (w4 : Addr) (w5 : Addr) (h0 : Heap) (v : Option Value) (h : Heap) (L : List Loc) : Prop := L = [] ∧ h = h0 ∧ ((v = some (.int (0 : Int32))))
set_option maxRecDepth 65536 in
set_option maxHeartbeats 40000000 in
theorem rm2_4 (l : Launch) (Z : State) (a0 : Array Value) (hw : ∀ d ∈ tables_1, d.before a0 Z = true) (ws : List Jvm.Cond) (w0 : Addr) (w1 : Addr) (w2 : Addr) (w3 : Addr) (w4 : Addr) (w5 : Addr) (h0 : Heap) (n0 : Nat) (Z0 : n0 ≤ h0.size) (K : own_K Z h0 w0 w1 w2 w3 w4 w5) :
    MetFree l (⟨"com/example/bericht/bericht/selector/Comparison$Operator", "isEquality", "()Z"⟩ : MethodName) (head1 (Jvm.Cond.code (⟨"com/example/bericht/bericht/selector/Comparison$Operator", "isEquality", "()Z"⟩ : MethodName) prog_22_method_8_code 1 (some .boolean) :: ws) ({ frames := 0, cells := 0, slots := 0, locals := 0 } : Room)) (fun a U => a = #[(.ref w1)] ∧ Z.Warmed39 U.vm ∧ U.heap = h0) (fun _ _ _ _ _ => True) (fun _ U o U' => ∃ v L, o = .returned v ∧ Q2_4 w0 w1 w2 w3 w4 w5 h0 v U'.heap L ∧ FrameEnd U o U' L ({ frames := 0, cells := 0, slots := 0, locals := 0 } : Room).cells ({ frames := 0, cells := 0, slots := 0, locals := 0 } : Room).slots) := by
  refine MetFree.of_bodySF (plainFor_of_name pn1) hisR ?_
  intro p e s m args below meth c s₁ Bd hml0 hP hK
  obtain ⟨rfl, hZ, hh⟩ := hP
  have hx := Bd.exec
  have hby := Bd.bytes
  have hml : c.maxLocals = 1 := hml0
  have hown : s.vm.findClass "com/example/bericht/bericht/selector/Comparison$Operator" = some m.cls := findClass_of_methodNamed Bd.named
  have hnm := (name_of_methodNamed Bd.named Bd.method).1
  have hlk := Bd.notSynchronized
  have X0 : Stand p l e ({ frames := 0, cells := 0, slots := 0, locals := 0 } : Room) s m #[(.ref w1)] below meth c s₁ [] 0 0 := Stand.of_body Bd
  have e0 : s₁.heap = h0 := by rw [← hh, Bd.state]; rfl
  have K0 := K
  obtain ⟨S_w0, S_w1, S_w2, S_w3, S_w4, S_w5, E_w0, E_w1, E_w2, E_w3, E_w4, E_w5, F_w0_ordinal, F_w1_ordinal, F_w2_ordinal, F_w3_ordinal, F_w4_ordinal, F_w5_ordinal, n_w0_w1, n_w0_w2, n_w0_w3, n_w0_w4, n_w0_w5, n_w1_w2, n_w1_w3, n_w1_w4, n_w1_w5, n_w2_w3, n_w2_w4, n_w2_w5, n_w3_w4, n_w3_w5, n_w4_w5⟩ := K
  show own_Go p e below s (Q2_4 w0 w1 w2 w3 w4 w5 h0) 0 0 (s₁.setTop (entryFrame m #[(.ref w1)] 1))
  rw [show entryFrame m #[(.ref w1)] 1 = mkF m 0 #[.val (.ref w1)] [] from by first | (simp [entryFrame, mkF, argsToLocals, Value.category]; done) | rfl]
  show own_Go p e below s _ _ _ (s₁.setTop (mkF m 0 #[.val (.ref w1)] []))
  refine own_via (fun _ k => XS.aloadN X0.here hx rfl (hb hby d2_0) rfl rfl k) ?_
  show own_Go p e below s _ _ _ (s₁.setTop (mkF m 1 #[.val (.ref w1)] [(.ref w1)]))
  obtain ⟨T1, X1, e1, st1⟩ := getS2 X0 hx hZ hown (host := "") (Or.inl (hw _ (List.mem_of_getElem? (i := 13) rfl))) Via.refl e0 S_w0 (g := (mkF m 1 #[.val (.ref w1)] [(.ref w1)])) rfl (hb hby d2_1)
  refine own_via st1 ?_
  show own_Go p e below s _ _ _ (T1.setTop (mkF m 4 #[.val (.ref w1)] [(.ref w0), (.ref w1)]))
  refine own_via (fun _ k => Jvm.RoadKit.acmp (g := (mkF m 4 #[.val (.ref w1)] [(.ref w0), (.ref w1)])) X1 hx rfl rfl rfl (pc0 := 4) (pc' := 7) (same := false) rfl (hb hby d2_4) rfl (decide_eq_false fun q => (fun q => n_w0_w1 q.symm) (Value.ref.inj q)) (by decide) (by decide) k) ?_
  show own_Go p e below s _ _ _ (T1.setTop (mkF m 7 #[.val (.ref w1)] []))
  refine own_via (fun _ k => XS.aloadN X1.here hx rfl (hb hby d2_7) rfl rfl k) ?_
  show own_Go p e below s _ _ _ (T1.setTop (mkF m 8 #[.val (.ref w1)] [(.ref w1)]))
  obtain ⟨T2, X2, e2, st2⟩ := getS2 X1 hx hZ hown (host := "") (Or.inl (hw _ (List.mem_of_getElem? (i := 35) rfl))) Via.refl e1 S_w2 (g := (mkF m 8 #[.val (.ref w1)] [(.ref w1)])) rfl (hb hby d2_8)
  refine own_via st2 ?_
  show own_Go p e below s _ _ _ (T2.setTop (mkF m 11 #[.val (.ref w1)] [(.ref w2), (.ref w1)]))
  refine own_via (fun _ k => Jvm.RoadKit.acmp (g := (mkF m 11 #[.val (.ref w1)] [(.ref w2), (.ref w1)])) X2 hx rfl rfl rfl (pc0 := 11) (pc' := 18) (same := false) rfl (hb hby d2_11) rfl (decide_eq_false fun q => n_w1_w2 (Value.ref.inj q)) (by decide) (by decide) k) ?_
  show own_Go p e below s _ _ _ (T2.setTop (mkF m 18 #[.val (.ref w1)] []))
  refine own_via (fun _ k => XS.iconst X2.here hx rfl (hb hby d2_18) k) ?_
  show own_Go p e below s _ _ _ (T2.setTop (mkF m 19 #[.val (.ref w1)] [(.int (0 : Int32))]))
  exact own_retZ X2 hx hlk (t := .boolean) Bd.returns (by simp) (hb hby d2_19) (z' := (0 : Int32)) (by first | rfl | decide) ⟨rfl, e2, rfl⟩ (by decide) (by decide)
def Q4_4 (w0 : Addr) (w1 : Addr) (w2 : Addr) (w3 : Addr) (w4 : Addr) (w5 : Addr) (h0 : Heap) (v : Option Value) (h : Heap) (L : List Loc) : Prop := L = [] ∧ h = h0 ∧ ((v = some (.int (4 : Int32))))
set_option maxRecDepth 65536 in
set_option maxHeartbeats 40000000 in
theorem rm4_4 (l : Launch) (Z : State) (a0 : Array Value) (hw : ∀ d ∈ tables_1, d.before a0 Z = true) (ws : List Jvm.Cond) (w0 : Addr) (w1 : Addr) (w2 : Addr) (w3 : Addr) (w4 : Addr) (w5 : Addr) (h0 : Heap) (n0 : Nat) (Z0 : n0 ≤ h0.size) (K : own_K Z h0 w0 w1 w2 w3 w4 w5) :
    MetFree l (⟨"java/lang/Enum", "ordinal", "()I"⟩ : MethodName) (head1 (Jvm.Cond.code (⟨"java/lang/Enum", "ordinal", "()I"⟩ : MethodName) jdk_37_method_2_code 1 (some .int) :: ws) ({ frames := 0, cells := 0, slots := 0, locals := 0 } : Room)) (fun a U => a = #[(.ref w1)] ∧ Z.Warmed39 U.vm ∧ U.heap = h0) (fun _ _ _ _ _ => True) (fun _ U o U' => ∃ v L, o = .returned v ∧ Q4_4 w0 w1 w2 w3 w4 w5 h0 v U'.heap L ∧ FrameEnd U o U' L ({ frames := 0, cells := 0, slots := 0, locals := 0 } : Room).cells ({ frames := 0, cells := 0, slots := 0, locals := 0 } : Room).slots) := by
  refine MetFree.of_bodySF (plainFor_of_name pn2) hisR ?_
  intro p e s m args below meth c s₁ Bd hml0 hP hK
  obtain ⟨rfl, hZ, hh⟩ := hP
  have hx := Bd.exec
  have hby := Bd.bytes
  have hml : c.maxLocals = 1 := hml0
  have hown : s.vm.findClass "java/lang/Enum" = some m.cls := findClass_of_methodNamed Bd.named
  have hnm := (name_of_methodNamed Bd.named Bd.method).1
  have hlk := Bd.notSynchronized
  have X0 : Stand p l e ({ frames := 0, cells := 0, slots := 0, locals := 0 } : Room) s m #[(.ref w1)] below meth c s₁ [] 0 0 := Stand.of_body Bd
  have e0 : s₁.heap = h0 := by rw [← hh, Bd.state]; rfl
  have K0 := K
  obtain ⟨S_w0, S_w1, S_w2, S_w3, S_w4, S_w5, E_w0, E_w1, E_w2, E_w3, E_w4, E_w5, F_w0_ordinal, F_w1_ordinal, F_w2_ordinal, F_w3_ordinal, F_w4_ordinal, F_w5_ordinal, n_w0_w1, n_w0_w2, n_w0_w3, n_w0_w4, n_w0_w5, n_w1_w2, n_w1_w3, n_w1_w4, n_w1_w5, n_w2_w3, n_w2_w4, n_w2_w5, n_w3_w4, n_w3_w5, n_w4_w5⟩ := K
  show own_Go p e below s (Q4_4 w0 w1 w2 w3 w4 w5 h0) 0 0 (s₁.setTop (entryFrame m #[(.ref w1)] 1))
  rw [show entryFrame m #[(.ref w1)] 1 = mkF m 0 #[.val (.ref w1)] [] from by first | (simp [entryFrame, mkF, argsToLocals, Value.category]; done) | rfl]
  show own_Go p e below s _ _ _ (s₁.setTop (mkF m 0 #[.val (.ref w1)] []))
  refine own_via (fun _ k => XS.aloadN X0.here hx rfl (hb hby d4_0) rfl rfl k) ?_
  show own_Go p e below s _ _ _ (s₁.setTop (mkF m 1 #[.val (.ref w1)] [(.ref w1)]))
  obtain ⟨T1, X1, e1, st1⟩ := getF X0 hx hZ hown (host := "") (Or.inl (hw _ (List.mem_of_getElem? (i := 26) rfl))) Via.refl e0 F_w1_ordinal (g := (mkF m 1 #[.val (.ref w1)] [(.ref w1)])) rfl rfl (hb hby d4_1)
  refine own_via st1 ?_
  show own_Go p e below s _ _ _ (T1.setTop (mkF m 4 #[.val (.ref w1)] [(.int (4 : Int32))]))
  exact own_retI X1 hx hlk Bd.returns (hb hby d4_4) ⟨rfl, e1, rfl⟩ (by decide) (by decide)
def Q3_12 (x1 : Int64) (x2 : Int64) (w0 : Addr) (w1 : Addr) (w2 : Addr) (w3 : Addr) (w4 : Addr) (w5 : Addr) (h0 : Heap) (v : Option Value) (h : Heap) (L : List Loc) : Prop := L = [] ∧ h = h0 ∧ ((x2 < x1 ∧ v = some (.int (1 : Int32))) ∨ (¬ (x2 < x1) ∧ v = some (.int (0 : Int32))))
set_option maxRecDepth 65536 in
set_option maxHeartbeats 40000000 in
theorem rm3_12 (l : Launch) (Z : State) (a0 : Array Value) (hw : ∀ d ∈ tables_1, d.before a0 Z = true) (ws : List Jvm.Cond) (x1 : Int64) (x2 : Int64) (w0 : Addr) (w1 : Addr) (w2 : Addr) (w3 : Addr) (w4 : Addr) (w5 : Addr) (h0 : Heap) (n0 : Nat) (Z0 : n0 ≤ h0.size) (K : own_K Z h0 w0 w1 w2 w3 w4 w5) :
    MetFree l (⟨"com/example/bericht/bericht/selector/Comparison$Operator", "holds", "(JJ)Z"⟩ : MethodName) (head1 (Jvm.Cond.code (⟨"com/example/bericht/bericht/selector/Comparison$Operator", "holds", "(JJ)Z"⟩ : MethodName) prog_22_method_5_code 5 (some .boolean) :: ws) ({ frames := 1, cells := 0, slots := 0, locals := 12 } : Room)) (fun a U => a = #[(.ref w1), (.long x1), (.long x2)] ∧ Z.Warmed39 U.vm ∧ U.heap = h0) (fun _ _ _ _ _ => True) (fun _ U o U' => ∃ v L, o = .returned v ∧ Q3_12 x1 x2 w0 w1 w2 w3 w4 w5 h0 v U'.heap L ∧ FrameEnd U o U' L ({ frames := 1, cells := 0, slots := 0, locals := 12 } : Room).cells ({ frames := 1, cells := 0, slots := 0, locals := 12 } : Room).slots) := by
  refine MetFree.of_bodySF (plainFor_of_name pn1) hisR ?_
  intro p e s m args below meth c s₁ Bd hml0 hP hK
  obtain ⟨rfl, hZ, hh⟩ := hP
  have hx := Bd.exec
  have hby := Bd.bytes
  have hml : c.maxLocals = 5 := hml0
  have hown : s.vm.findClass "com/example/bericht/bericht/selector/Comparison$Operator" = some m.cls := findClass_of_methodNamed Bd.named
  have hnm := (name_of_methodNamed Bd.named Bd.method).1
  have hlk := Bd.notSynchronized
  have X0 : Stand p l e ({ frames := 1, cells := 0, slots := 0, locals := 12 } : Room) s m #[(.ref w1), (.long x1), (.long x2)] below meth c s₁ [] 0 0 := Stand.of_body Bd
  have e0 : s₁.heap = h0 := by rw [← hh, Bd.state]; rfl
  have K0 := K
  obtain ⟨S_w0, S_w1, S_w2, S_w3, S_w4, S_w5, E_w0, E_w1, E_w2, E_w3, E_w4, E_w5, F_w0_ordinal, F_w1_ordinal, F_w2_ordinal, F_w3_ordinal, F_w4_ordinal, F_w5_ordinal, n_w0_w1, n_w0_w2, n_w0_w3, n_w0_w4, n_w0_w5, n_w1_w2, n_w1_w3, n_w1_w4, n_w1_w5, n_w2_w3, n_w2_w4, n_w2_w5, n_w3_w4, n_w3_w5, n_w4_w5⟩ := K
  show own_Go p e below s (Q3_12 x1 x2 w0 w1 w2 w3 w4 w5 h0) 0 0 (s₁.setTop (entryFrame m #[(.ref w1), (.long x1), (.long x2)] 5))
  rw [show entryFrame m #[(.ref w1), (.long x1), (.long x2)] 5 = mkF m 0 #[.val (.ref w1), .val (.long x1), .second, .val (.long x2), .second] [] from by first | (simp [entryFrame, mkF, argsToLocals, Value.category]; done) | rfl]
  show own_Go p e below s _ _ _ (s₁.setTop (mkF m 0 #[.val (.ref w1), .val (.long x1), .second, .val (.long x2), .second] []))
  refine own_via (fun _ k => XS.aloadN X0.here hx rfl (hb hby d3_0) rfl rfl k) ?_
  show own_Go p e below s _ _ _ (s₁.setTop (mkF m 1 #[.val (.ref w1), .val (.long x1), .second, .val (.long x2), .second] [(.ref w1)]))
  obtain ⟨cq1, kq1, q1a, q1b, q1c⟩ := isOf hZ e0 E_w1
  obtain ⟨_, _, ⟨T1, L1, k1, n1⟩, -, X1, ⟨Lc1, hQ1, l1, y1, z1⟩, st1⟩ := X0.virtualBackUp hx (x := (⟨"com/example/bericht/bericht/selector/Comparison$Operator", "ordinal", "()I"⟩ : MethodName)) (y := (⟨"java/lang/Enum", "ordinal", "()I"⟩ : MethodName)) (owner := "java/lang/Enum") hown (mvT hZ (hw _ (List.mem_of_getElem? (i := 19) rfl))) (mvT hZ (hw _ (List.mem_of_getElem? (i := 20) rfl))) (mvT hZ (hw _ (List.mem_of_getElem? (i := 21) rfl))) (by decide) (mvT hZ (hw _ (List.mem_of_getElem? (i := 23) rfl))) (mvT hZ (hw _ (List.mem_of_getElem? (i := 22) rfl))) (backOf (W := 0) (rm4_4 l Z a0 hw [] w0 w1 w2 w3 w4 w5 h0 n0 Z0 K0) hZ (hw _ (List.mem_of_getElem? (i := 25) rfl)) (hw _ (List.mem_of_getElem? (i := 24) rfl)) (by decide) (by decide)) q1a q1c (g := (mkF m 1 #[.val (.ref w1), .val (.long x1), .second, .val (.long x2), .second] [(.ref w1)])) rfl (by rw [hml]; rfl) (Steps.refl _) (argsL := []) (rest := []) (lenOf pd2 rfl) rfl (by show 2 * 0 + _ ≤ _; exact Nat.le_of_eq rfl) (hb hby d3_1) (fun _ _ => ⟨rfl, e0, (by decide : 0 + 0 ≤ _), (by decide : 0 + 0 ≤ _)⟩)
  dsimp only [Pt.U, Pt.locs, Pt.cells, Pt.slots] at X1 l1 y1 z1 st1 hQ1
  subst l1 y1 z1
  obtain ⟨rfl, e1, hO1⟩ := hQ1
  obtain rfl := hO1
  refine own_tr st1 ?_
  show own_Go p e below s _ _ _ (T1.setTop (mkF m 4 #[.val (.ref w1), .val (.long x1), .second, .val (.long x2), .second] [(.int (4 : Int32))]))
  refine own_via (fun _ k => XS.tswIn X1.here hx rfl (o := 106) (pc0 := 4) (pc' := 110) rfl (hb hby d3_4) rfl (by decide) (by decide) (by decide) (by decide) k) ?_
  show own_Go p e below s _ _ _ (T1.setTop (mkF m 110 #[.val (.ref w1), .val (.long x1), .second, .val (.long x2), .second] []))
  refine own_via (fun _ k => XS.lloadN X1.here hx rfl (hb hby d3_110) rfl k) ?_
  show own_Go p e below s _ _ _ (T1.setTop (mkF m 111 #[.val (.ref w1), .val (.long x1), .second, .val (.long x2), .second] [(.long x1)]))
  refine own_via (fun _ k => XS.lloadN X1.here hx rfl (hb hby d3_111) rfl k) ?_
  show own_Go p e below s _ _ _ (T1.setTop (mkF m 112 #[.val (.ref w1), .val (.long x1), .second, .val (.long x2), .second] [(.long x2), (.long x1)]))
  refine own_via (fun _ k => XS.lcmp X1.here hx rfl (hb hby d3_112) rfl k) ?_
  show own_Go p e below s _ _ _ (T1.setTop (mkF m 113 #[.val (.ref w1), .val (.long x1), .second, .val (.long x2), .second] [(.int (lcmpW x1 x2))]))
  by_cases hc2 : x2 < x1
  · refine own_via (fun _ k => XS.ifNo X1.here hx rfl (hb hby d3_113) rfl ((if0 _ _).trans (tlt ((lw_gt x1 x2).mpr hc2)).2.2.2) k) ?_
    show own_Go p e below s _ _ _ (T1.setTop (mkF m 116 #[.val (.ref w1), .val (.long x1), .second, .val (.long x2), .second] []))
    refine own_via (fun _ k => XS.iconst X1.here hx rfl (hb hby d3_116) k) ?_
    show own_Go p e below s _ _ _ (T1.setTop (mkF m 117 #[.val (.ref w1), .val (.long x1), .second, .val (.long x2), .second] [(.int (1 : Int32))]))
    refine own_via (fun _ k => XS.goto X1.here hx rfl (pc0 := 117) (pc' := 135) rfl (hb hby d3_117) (by decide) (by decide) k) ?_
    show own_Go p e below s _ _ _ (T1.setTop (mkF m 135 #[.val (.ref w1), .val (.long x1), .second, .val (.long x2), .second] [(.int (1 : Int32))]))
    exact own_retZ X1 hx hlk (t := .boolean) Bd.returns (by simp) (hb hby d3_135) (z' := (1 : Int32)) (by first | rfl | decide) ⟨rfl, e1, Or.inl ⟨hc2, rfl⟩⟩ (by decide) (by decide)
  · refine own_via (fun _ k => XS.ifYes X1.here hx rfl (pc0 := 113) (pc' := 120) rfl (hb hby d3_113) rfl ((if0 _ _).trans (flt (mt (lw_gt x1 x2).mp hc2)).2.2.2) (by decide) (by decide) k) ?_
    show own_Go p e below s _ _ _ (T1.setTop (mkF m 120 #[.val (.ref w1), .val (.long x1), .second, .val (.long x2), .second] []))
    refine own_via (fun _ k => XS.iconst X1.here hx rfl (hb hby d3_120) k) ?_
    show own_Go p e below s _ _ _ (T1.setTop (mkF m 121 #[.val (.ref w1), .val (.long x1), .second, .val (.long x2), .second] [(.int (0 : Int32))]))
    refine own_via (fun _ k => XS.goto X1.here hx rfl (pc0 := 121) (pc' := 135) rfl (hb hby d3_121) (by decide) (by decide) k) ?_
    show own_Go p e below s _ _ _ (T1.setTop (mkF m 135 #[.val (.ref w1), .val (.long x1), .second, .val (.long x2), .second] [(.int (0 : Int32))]))
    exact own_retZ X1 hx hlk (t := .boolean) Bd.returns (by simp) (hb hby d3_135) (z' := (0 : Int32)) (by first | rfl | decide) ⟨rfl, e1, Or.inr (⟨hc2, rfl⟩)⟩ (by decide) (by decide)
def Q3_13 (w0 : Addr) (w1 : Addr) (w2 : Addr) (w3 : Addr) (w4 : Addr) (w5 : Addr) (h0 : Heap) (v : Option Value) (h : Heap) (L : List Loc) : Prop := L = [] ∧ h = h0 ∧ ((v = some (.int (0 : Int32))))
set_option maxRecDepth 65536 in
set_option maxHeartbeats 40000000 in
theorem rm3_13 (l : Launch) (Z : State) (a0 : Array Value) (hw : ∀ d ∈ tables_1, d.before a0 Z = true) (ws : List Jvm.Cond) (w0 : Addr) (w1 : Addr) (w2 : Addr) (w3 : Addr) (w4 : Addr) (w5 : Addr) (h0 : Heap) (n0 : Nat) (Z0 : n0 ≤ h0.size) (K : own_K Z h0 w0 w1 w2 w3 w4 w5) :
    MetFree l (⟨"com/example/bericht/bericht/selector/Comparison$Operator", "holds", "(JJ)Z"⟩ : MethodName) (head1 (Jvm.Cond.code (⟨"com/example/bericht/bericht/selector/Comparison$Operator", "holds", "(JJ)Z"⟩ : MethodName) prog_22_method_5_code 5 (some .boolean) :: ws) ({ frames := 1, cells := 0, slots := 0, locals := 12 } : Room)) (fun a U => a = #[(.ref w1), (.long (0 : Int64)), (.long (1 : Int64))] ∧ Z.Warmed39 U.vm ∧ U.heap = h0) (fun _ _ _ _ _ => True) (fun _ U o U' => ∃ v L, o = .returned v ∧ Q3_13 w0 w1 w2 w3 w4 w5 h0 v U'.heap L ∧ FrameEnd U o U' L ({ frames := 1, cells := 0, slots := 0, locals := 12 } : Room).cells ({ frames := 1, cells := 0, slots := 0, locals := 12 } : Room).slots) := by
  refine MetFree.of_bodySF (plainFor_of_name pn1) hisR ?_
  intro p e s m args below meth c s₁ Bd hml0 hP hK
  obtain ⟨rfl, hZ, hh⟩ := hP
  have hx := Bd.exec
  have hby := Bd.bytes
  have hml : c.maxLocals = 5 := hml0
  have hown : s.vm.findClass "com/example/bericht/bericht/selector/Comparison$Operator" = some m.cls := findClass_of_methodNamed Bd.named
  have hnm := (name_of_methodNamed Bd.named Bd.method).1
  have hlk := Bd.notSynchronized
  have X0 : Stand p l e ({ frames := 1, cells := 0, slots := 0, locals := 12 } : Room) s m #[(.ref w1), (.long (0 : Int64)), (.long (1 : Int64))] below meth c s₁ [] 0 0 := Stand.of_body Bd
  have e0 : s₁.heap = h0 := by rw [← hh, Bd.state]; rfl
  have K0 := K
  obtain ⟨S_w0, S_w1, S_w2, S_w3, S_w4, S_w5, E_w0, E_w1, E_w2, E_w3, E_w4, E_w5, F_w0_ordinal, F_w1_ordinal, F_w2_ordinal, F_w3_ordinal, F_w4_ordinal, F_w5_ordinal, n_w0_w1, n_w0_w2, n_w0_w3, n_w0_w4, n_w0_w5, n_w1_w2, n_w1_w3, n_w1_w4, n_w1_w5, n_w2_w3, n_w2_w4, n_w2_w5, n_w3_w4, n_w3_w5, n_w4_w5⟩ := K
  show own_Go p e below s (Q3_13 w0 w1 w2 w3 w4 w5 h0) 0 0 (s₁.setTop (entryFrame m #[(.ref w1), (.long (0 : Int64)), (.long (1 : Int64))] 5))
  rw [show entryFrame m #[(.ref w1), (.long (0 : Int64)), (.long (1 : Int64))] 5 = mkF m 0 #[.val (.ref w1), .val (.long (0 : Int64)), .second, .val (.long (1 : Int64)), .second] [] from by first | (simp [entryFrame, mkF, argsToLocals, Value.category]; done) | rfl]
  show own_Go p e below s _ _ _ (s₁.setTop (mkF m 0 #[.val (.ref w1), .val (.long (0 : Int64)), .second, .val (.long (1 : Int64)), .second] []))
  refine own_via (fun _ k => XS.aloadN X0.here hx rfl (hb hby d3_0) rfl rfl k) ?_
  show own_Go p e below s _ _ _ (s₁.setTop (mkF m 1 #[.val (.ref w1), .val (.long (0 : Int64)), .second, .val (.long (1 : Int64)), .second] [(.ref w1)]))
  obtain ⟨cq1, kq1, q1a, q1b, q1c⟩ := isOf hZ e0 E_w1
  obtain ⟨_, _, ⟨T1, L1, k1, n1⟩, -, X1, ⟨Lc1, hQ1, l1, y1, z1⟩, st1⟩ := X0.virtualBackUp hx (x := (⟨"com/example/bericht/bericht/selector/Comparison$Operator", "ordinal", "()I"⟩ : MethodName)) (y := (⟨"java/lang/Enum", "ordinal", "()I"⟩ : MethodName)) (owner := "java/lang/Enum") hown (mvT hZ (hw _ (List.mem_of_getElem? (i := 19) rfl))) (mvT hZ (hw _ (List.mem_of_getElem? (i := 20) rfl))) (mvT hZ (hw _ (List.mem_of_getElem? (i := 21) rfl))) (by decide) (mvT hZ (hw _ (List.mem_of_getElem? (i := 23) rfl))) (mvT hZ (hw _ (List.mem_of_getElem? (i := 22) rfl))) (backOf (W := 0) (rm4_4 l Z a0 hw [] w0 w1 w2 w3 w4 w5 h0 n0 Z0 K0) hZ (hw _ (List.mem_of_getElem? (i := 25) rfl)) (hw _ (List.mem_of_getElem? (i := 24) rfl)) (by decide) (by decide)) q1a q1c (g := (mkF m 1 #[.val (.ref w1), .val (.long (0 : Int64)), .second, .val (.long (1 : Int64)), .second] [(.ref w1)])) rfl (by rw [hml]; rfl) (Steps.refl _) (argsL := []) (rest := []) (lenOf pd2 rfl) rfl (by show 2 * 0 + _ ≤ _; exact Nat.le_of_eq rfl) (hb hby d3_1) (fun _ _ => ⟨rfl, e0, (by decide : 0 + 0 ≤ _), (by decide : 0 + 0 ≤ _)⟩)
  dsimp only [Pt.U, Pt.locs, Pt.cells, Pt.slots] at X1 l1 y1 z1 st1 hQ1
  subst l1 y1 z1
  obtain ⟨rfl, e1, hO1⟩ := hQ1
  obtain rfl := hO1
  refine own_tr st1 ?_
  show own_Go p e below s _ _ _ (T1.setTop (mkF m 4 #[.val (.ref w1), .val (.long (0 : Int64)), .second, .val (.long (1 : Int64)), .second] [(.int (4 : Int32))]))
  refine own_via (fun _ k => XS.tswIn X1.here hx rfl (o := 106) (pc0 := 4) (pc' := 110) rfl (hb hby d3_4) rfl (by decide) (by decide) (by decide) (by decide) k) ?_
  show own_Go p e below s _ _ _ (T1.setTop (mkF m 110 #[.val (.ref w1), .val (.long (0 : Int64)), .second, .val (.long (1 : Int64)), .second] []))
  refine own_via (fun _ k => XS.lloadN X1.here hx rfl (hb hby d3_110) rfl k) ?_
  show own_Go p e below s _ _ _ (T1.setTop (mkF m 111 #[.val (.ref w1), .val (.long (0 : Int64)), .second, .val (.long (1 : Int64)), .second] [(.long (0 : Int64))]))
  refine own_via (fun _ k => XS.lloadN X1.here hx rfl (hb hby d3_111) rfl k) ?_
  show own_Go p e below s _ _ _ (T1.setTop (mkF m 112 #[.val (.ref w1), .val (.long (0 : Int64)), .second, .val (.long (1 : Int64)), .second] [(.long (1 : Int64)), (.long (0 : Int64))]))
  refine own_via (fun _ k => XS.lcmp X1.here hx rfl (hb hby d3_112) rfl k) ?_
  show own_Go p e below s _ _ _ (T1.setTop (mkF m 113 #[.val (.ref w1), .val (.long (0 : Int64)), .second, .val (.long (1 : Int64)), .second] [(.int (lcmpW (0 : Int64) (1 : Int64)))]))
  refine own_via (fun _ k => XS.ifYes X1.here hx rfl (pc0 := 113) (pc' := 120) rfl (hb hby d3_113) rfl ((if0 _ _).trans (flt (by decide : ¬ ((0 : Int32) < (lcmpW (0 : Int64) (1 : Int64))))).2.2.2) (by decide) (by decide) k) ?_
  show own_Go p e below s _ _ _ (T1.setTop (mkF m 120 #[.val (.ref w1), .val (.long (0 : Int64)), .second, .val (.long (1 : Int64)), .second] []))
  refine own_via (fun _ k => XS.iconst X1.here hx rfl (hb hby d3_120) k) ?_
  show own_Go p e below s _ _ _ (T1.setTop (mkF m 121 #[.val (.ref w1), .val (.long (0 : Int64)), .second, .val (.long (1 : Int64)), .second] [(.int (0 : Int32))]))
  refine own_via (fun _ k => XS.goto X1.here hx rfl (pc0 := 121) (pc' := 135) rfl (hb hby d3_121) (by decide) (by decide) k) ?_
  show own_Go p e below s _ _ _ (T1.setTop (mkF m 135 #[.val (.ref w1), .val (.long (0 : Int64)), .second, .val (.long (1 : Int64)), .second] [(.int (0 : Int32))]))
  exact own_retZ X1 hx hlk (t := .boolean) Bd.returns (by simp) (hb hby d3_135) (z' := (0 : Int32)) (by first | rfl | decide) ⟨rfl, e1, rfl⟩ (by decide) (by decide)
def Q3_14 (w0 : Addr) (w1 : Addr) (w2 : Addr) (w3 : Addr) (w4 : Addr) (w5 : Addr) (h0 : Heap) (v : Option Value) (h : Heap) (L : List Loc) : Prop := L = [] ∧ h = h0 ∧ ((v = some (.int (1 : Int32))))
set_option maxRecDepth 65536 in
set_option maxHeartbeats 40000000 in
theorem rm3_14 (l : Launch) (Z : State) (a0 : Array Value) (hw : ∀ d ∈ tables_1, d.before a0 Z = true) (ws : List Jvm.Cond) (w0 : Addr) (w1 : Addr) (w2 : Addr) (w3 : Addr) (w4 : Addr) (w5 : Addr) (h0 : Heap) (n0 : Nat) (Z0 : n0 ≤ h0.size) (K : own_K Z h0 w0 w1 w2 w3 w4 w5) :
    MetFree l (⟨"com/example/bericht/bericht/selector/Comparison$Operator", "holds", "(JJ)Z"⟩ : MethodName) (head1 (Jvm.Cond.code (⟨"com/example/bericht/bericht/selector/Comparison$Operator", "holds", "(JJ)Z"⟩ : MethodName) prog_22_method_5_code 5 (some .boolean) :: ws) ({ frames := 1, cells := 0, slots := 0, locals := 12 } : Room)) (fun a U => a = #[(.ref w1), (.long (1 : Int64)), (.long (0 : Int64))] ∧ Z.Warmed39 U.vm ∧ U.heap = h0) (fun _ _ _ _ _ => True) (fun _ U o U' => ∃ v L, o = .returned v ∧ Q3_14 w0 w1 w2 w3 w4 w5 h0 v U'.heap L ∧ FrameEnd U o U' L ({ frames := 1, cells := 0, slots := 0, locals := 12 } : Room).cells ({ frames := 1, cells := 0, slots := 0, locals := 12 } : Room).slots) := by
  refine MetFree.of_bodySF (plainFor_of_name pn1) hisR ?_
  intro p e s m args below meth c s₁ Bd hml0 hP hK
  obtain ⟨rfl, hZ, hh⟩ := hP
  have hx := Bd.exec
  have hby := Bd.bytes
  have hml : c.maxLocals = 5 := hml0
  have hown : s.vm.findClass "com/example/bericht/bericht/selector/Comparison$Operator" = some m.cls := findClass_of_methodNamed Bd.named
  have hnm := (name_of_methodNamed Bd.named Bd.method).1
  have hlk := Bd.notSynchronized
  have X0 : Stand p l e ({ frames := 1, cells := 0, slots := 0, locals := 12 } : Room) s m #[(.ref w1), (.long (1 : Int64)), (.long (0 : Int64))] below meth c s₁ [] 0 0 := Stand.of_body Bd
  have e0 : s₁.heap = h0 := by rw [← hh, Bd.state]; rfl
  have K0 := K
  obtain ⟨S_w0, S_w1, S_w2, S_w3, S_w4, S_w5, E_w0, E_w1, E_w2, E_w3, E_w4, E_w5, F_w0_ordinal, F_w1_ordinal, F_w2_ordinal, F_w3_ordinal, F_w4_ordinal, F_w5_ordinal, n_w0_w1, n_w0_w2, n_w0_w3, n_w0_w4, n_w0_w5, n_w1_w2, n_w1_w3, n_w1_w4, n_w1_w5, n_w2_w3, n_w2_w4, n_w2_w5, n_w3_w4, n_w3_w5, n_w4_w5⟩ := K
  show own_Go p e below s (Q3_14 w0 w1 w2 w3 w4 w5 h0) 0 0 (s₁.setTop (entryFrame m #[(.ref w1), (.long (1 : Int64)), (.long (0 : Int64))] 5))
  rw [show entryFrame m #[(.ref w1), (.long (1 : Int64)), (.long (0 : Int64))] 5 = mkF m 0 #[.val (.ref w1), .val (.long (1 : Int64)), .second, .val (.long (0 : Int64)), .second] [] from by first | (simp [entryFrame, mkF, argsToLocals, Value.category]; done) | rfl]
  show own_Go p e below s _ _ _ (s₁.setTop (mkF m 0 #[.val (.ref w1), .val (.long (1 : Int64)), .second, .val (.long (0 : Int64)), .second] []))
  refine own_via (fun _ k => XS.aloadN X0.here hx rfl (hb hby d3_0) rfl rfl k) ?_
  show own_Go p e below s _ _ _ (s₁.setTop (mkF m 1 #[.val (.ref w1), .val (.long (1 : Int64)), .second, .val (.long (0 : Int64)), .second] [(.ref w1)]))
  obtain ⟨cq1, kq1, q1a, q1b, q1c⟩ := isOf hZ e0 E_w1
  obtain ⟨_, _, ⟨T1, L1, k1, n1⟩, -, X1, ⟨Lc1, hQ1, l1, y1, z1⟩, st1⟩ := X0.virtualBackUp hx (x := (⟨"com/example/bericht/bericht/selector/Comparison$Operator", "ordinal", "()I"⟩ : MethodName)) (y := (⟨"java/lang/Enum", "ordinal", "()I"⟩ : MethodName)) (owner := "java/lang/Enum") hown (mvT hZ (hw _ (List.mem_of_getElem? (i := 19) rfl))) (mvT hZ (hw _ (List.mem_of_getElem? (i := 20) rfl))) (mvT hZ (hw _ (List.mem_of_getElem? (i := 21) rfl))) (by decide) (mvT hZ (hw _ (List.mem_of_getElem? (i := 23) rfl))) (mvT hZ (hw _ (List.mem_of_getElem? (i := 22) rfl))) (backOf (W := 0) (rm4_4 l Z a0 hw [] w0 w1 w2 w3 w4 w5 h0 n0 Z0 K0) hZ (hw _ (List.mem_of_getElem? (i := 25) rfl)) (hw _ (List.mem_of_getElem? (i := 24) rfl)) (by decide) (by decide)) q1a q1c (g := (mkF m 1 #[.val (.ref w1), .val (.long (1 : Int64)), .second, .val (.long (0 : Int64)), .second] [(.ref w1)])) rfl (by rw [hml]; rfl) (Steps.refl _) (argsL := []) (rest := []) (lenOf pd2 rfl) rfl (by show 2 * 0 + _ ≤ _; exact Nat.le_of_eq rfl) (hb hby d3_1) (fun _ _ => ⟨rfl, e0, (by decide : 0 + 0 ≤ _), (by decide : 0 + 0 ≤ _)⟩)
  dsimp only [Pt.U, Pt.locs, Pt.cells, Pt.slots] at X1 l1 y1 z1 st1 hQ1
  subst l1 y1 z1
  obtain ⟨rfl, e1, hO1⟩ := hQ1
  obtain rfl := hO1
  refine own_tr st1 ?_
  show own_Go p e below s _ _ _ (T1.setTop (mkF m 4 #[.val (.ref w1), .val (.long (1 : Int64)), .second, .val (.long (0 : Int64)), .second] [(.int (4 : Int32))]))
  refine own_via (fun _ k => XS.tswIn X1.here hx rfl (o := 106) (pc0 := 4) (pc' := 110) rfl (hb hby d3_4) rfl (by decide) (by decide) (by decide) (by decide) k) ?_
  show own_Go p e below s _ _ _ (T1.setTop (mkF m 110 #[.val (.ref w1), .val (.long (1 : Int64)), .second, .val (.long (0 : Int64)), .second] []))
  refine own_via (fun _ k => XS.lloadN X1.here hx rfl (hb hby d3_110) rfl k) ?_
  show own_Go p e below s _ _ _ (T1.setTop (mkF m 111 #[.val (.ref w1), .val (.long (1 : Int64)), .second, .val (.long (0 : Int64)), .second] [(.long (1 : Int64))]))
  refine own_via (fun _ k => XS.lloadN X1.here hx rfl (hb hby d3_111) rfl k) ?_
  show own_Go p e below s _ _ _ (T1.setTop (mkF m 112 #[.val (.ref w1), .val (.long (1 : Int64)), .second, .val (.long (0 : Int64)), .second] [(.long (0 : Int64)), (.long (1 : Int64))]))
  refine own_via (fun _ k => XS.lcmp X1.here hx rfl (hb hby d3_112) rfl k) ?_
  show own_Go p e below s _ _ _ (T1.setTop (mkF m 113 #[.val (.ref w1), .val (.long (1 : Int64)), .second, .val (.long (0 : Int64)), .second] [(.int (lcmpW (1 : Int64) (0 : Int64)))]))
  refine own_via (fun _ k => XS.ifNo X1.here hx rfl (hb hby d3_113) rfl ((if0 _ _).trans (tlt (by decide : (0 : Int32) < (lcmpW (1 : Int64) (0 : Int64)))).2.2.2) k) ?_
  show own_Go p e below s _ _ _ (T1.setTop (mkF m 116 #[.val (.ref w1), .val (.long (1 : Int64)), .second, .val (.long (0 : Int64)), .second] []))
  refine own_via (fun _ k => XS.iconst X1.here hx rfl (hb hby d3_116) k) ?_
  show own_Go p e below s _ _ _ (T1.setTop (mkF m 117 #[.val (.ref w1), .val (.long (1 : Int64)), .second, .val (.long (0 : Int64)), .second] [(.int (1 : Int32))]))
  refine own_via (fun _ k => XS.goto X1.here hx rfl (pc0 := 117) (pc' := 135) rfl (hb hby d3_117) (by decide) (by decide) k) ?_
  show own_Go p e below s _ _ _ (T1.setTop (mkF m 135 #[.val (.ref w1), .val (.long (1 : Int64)), .second, .val (.long (0 : Int64)), .second] [(.int (1 : Int32))]))
  exact own_retZ X1 hx hlk (t := .boolean) Bd.returns (by simp) (hb hby d3_135) (z' := (1 : Int32)) (by first | rfl | decide) ⟨rfl, e1, rfl⟩ (by decide) (by decide)
def Q5_4 (w0 : Addr) (w1 : Addr) (w2 : Addr) (w3 : Addr) (w4 : Addr) (w5 : Addr) (h0 : Heap) (v : Option Value) (h : Heap) (L : List Loc) : Prop := L = [] ∧ h = h0 ∧ ((v = some (.ref w3)))
set_option maxRecDepth 65536 in
set_option maxHeartbeats 40000000 in
theorem rm5_4 (l : Launch) (Z : State) (a0 : Array Value) (hw : ∀ d ∈ tables_1, d.before a0 Z = true) (ws : List Jvm.Cond) (w0 : Addr) (w1 : Addr) (w2 : Addr) (w3 : Addr) (w4 : Addr) (w5 : Addr) (h0 : Heap) (n0 : Nat) (Z0 : n0 ≤ h0.size) (K : own_K Z h0 w0 w1 w2 w3 w4 w5) :
    MetFree l (⟨"com/example/bericht/bericht/selector/Comparison$Operator", "flipped", "()Lcom/example/bericht/bericht/selector/Comparison$Operator;"⟩ : MethodName) (head1 (Jvm.Cond.code (⟨"com/example/bericht/bericht/selector/Comparison$Operator", "flipped", "()Lcom/example/bericht/bericht/selector/Comparison$Operator;"⟩ : MethodName) prog_22_method_7_code 1 (some (.object "com/example/bericht/bericht/selector/Comparison$Operator")) :: ws) ({ frames := 1, cells := 0, slots := 0, locals := 12 } : Room)) (fun a U => a = #[(.ref w1)] ∧ Z.Warmed39 U.vm ∧ U.heap = h0) (fun _ _ _ _ _ => True) (fun _ U o U' => ∃ v L, o = .returned v ∧ Q5_4 w0 w1 w2 w3 w4 w5 h0 v U'.heap L ∧ FrameEnd U o U' L ({ frames := 1, cells := 0, slots := 0, locals := 12 } : Room).cells ({ frames := 1, cells := 0, slots := 0, locals := 12 } : Room).slots) := by
  refine MetFree.of_bodySF (plainFor_of_name pn1) hisR ?_
  intro p e s m args below meth c s₁ Bd hml0 hP hK
  obtain ⟨rfl, hZ, hh⟩ := hP
  have hx := Bd.exec
  have hby := Bd.bytes
  have hml : c.maxLocals = 1 := hml0
  have hown : s.vm.findClass "com/example/bericht/bericht/selector/Comparison$Operator" = some m.cls := findClass_of_methodNamed Bd.named
  have hnm := (name_of_methodNamed Bd.named Bd.method).1
  have hlk := Bd.notSynchronized
  have X0 : Stand p l e ({ frames := 1, cells := 0, slots := 0, locals := 12 } : Room) s m #[(.ref w1)] below meth c s₁ [] 0 0 := Stand.of_body Bd
  have e0 : s₁.heap = h0 := by rw [← hh, Bd.state]; rfl
  have K0 := K
  obtain ⟨S_w0, S_w1, S_w2, S_w3, S_w4, S_w5, E_w0, E_w1, E_w2, E_w3, E_w4, E_w5, F_w0_ordinal, F_w1_ordinal, F_w2_ordinal, F_w3_ordinal, F_w4_ordinal, F_w5_ordinal, n_w0_w1, n_w0_w2, n_w0_w3, n_w0_w4, n_w0_w5, n_w1_w2, n_w1_w3, n_w1_w4, n_w1_w5, n_w2_w3, n_w2_w4, n_w2_w5, n_w3_w4, n_w3_w5, n_w4_w5⟩ := K
  show own_Go p e below s (Q5_4 w0 w1 w2 w3 w4 w5 h0) 0 0 (s₁.setTop (entryFrame m #[(.ref w1)] 1))
  rw [show entryFrame m #[(.ref w1)] 1 = mkF m 0 #[.val (.ref w1)] [] from by first | (simp [entryFrame, mkF, argsToLocals, Value.category]; done) | rfl]
  show own_Go p e below s _ _ _ (s₁.setTop (mkF m 0 #[.val (.ref w1)] []))
  refine own_via (fun _ k => XS.aloadN X0.here hx rfl (hb hby d5_0) rfl rfl k) ?_
  show own_Go p e below s _ _ _ (s₁.setTop (mkF m 1 #[.val (.ref w1)] [(.ref w1)]))
  obtain ⟨cq1, kq1, q1a, q1b, q1c⟩ := isOf hZ e0 E_w1
  obtain ⟨_, _, ⟨T1, L1, k1, n1⟩, -, X1, ⟨Lc1, hQ1, l1, y1, z1⟩, st1⟩ := X0.virtualBackUp hx (x := (⟨"com/example/bericht/bericht/selector/Comparison$Operator", "ordinal", "()I"⟩ : MethodName)) (y := (⟨"java/lang/Enum", "ordinal", "()I"⟩ : MethodName)) (owner := "java/lang/Enum") hown (mvT hZ (hw _ (List.mem_of_getElem? (i := 19) rfl))) (mvT hZ (hw _ (List.mem_of_getElem? (i := 20) rfl))) (mvT hZ (hw _ (List.mem_of_getElem? (i := 21) rfl))) (by decide) (mvT hZ (hw _ (List.mem_of_getElem? (i := 23) rfl))) (mvT hZ (hw _ (List.mem_of_getElem? (i := 22) rfl))) (backOf (W := 0) (rm4_4 l Z a0 hw [] w0 w1 w2 w3 w4 w5 h0 n0 Z0 K0) hZ (hw _ (List.mem_of_getElem? (i := 25) rfl)) (hw _ (List.mem_of_getElem? (i := 24) rfl)) (by decide) (by decide)) q1a q1c (g := (mkF m 1 #[.val (.ref w1)] [(.ref w1)])) rfl (by rw [hml]; rfl) (Steps.refl _) (argsL := []) (rest := []) (lenOf pd2 rfl) rfl (by show 2 * 0 + _ ≤ _; exact Nat.le_of_eq rfl) (hb hby d5_1) (fun _ _ => ⟨rfl, e0, (by decide : 0 + 0 ≤ _), (by decide : 0 + 0 ≤ _)⟩)
  dsimp only [Pt.U, Pt.locs, Pt.cells, Pt.slots] at X1 l1 y1 z1 st1 hQ1
  subst l1 y1 z1
  obtain ⟨rfl, e1, hO1⟩ := hQ1
  obtain rfl := hO1
  refine own_tr st1 ?_
  show own_Go p e below s _ _ _ (T1.setTop (mkF m 4 #[.val (.ref w1)] [(.int (4 : Int32))]))
  refine own_via (fun _ k => XS.tswIn X1.here hx rfl (o := 66) (pc0 := 4) (pc' := 70) rfl (hb hby d5_4) rfl (by decide) (by decide) (by decide) (by decide) k) ?_
  show own_Go p e below s _ _ _ (T1.setTop (mkF m 70 #[.val (.ref w1)] []))
  obtain ⟨T2, X2, e2, st2⟩ := getS2 X1 hx hZ hown (host := "") (Or.inl (hw _ (List.mem_of_getElem? (i := 37) rfl))) Via.refl e1 S_w3 (g := (mkF m 70 #[.val (.ref w1)] [])) rfl (hb hby d5_70)
  refine own_via st2 ?_
  show own_Go p e below s _ _ _ (T2.setTop (mkF m 73 #[.val (.ref w1)] [(.ref w3)]))
  refine own_via (fun _ k => XS.goto X2.here hx rfl (pc0 := 73) (pc' := 79) rfl (hb hby d5_73) (by decide) (by decide) k) ?_
  show own_Go p e below s _ _ _ (T2.setTop (mkF m 79 #[.val (.ref w1)] [(.ref w3)]))
  exact own_retR X2 hx hlk Bd.returns rfl rfl (hb hby d5_79) ⟨rfl, e2, rfl⟩ (by decide) (by decide)
def Q2_5 (w0 : Addr) (w1 : Addr) (w2 : Addr) (w3 : Addr) (w4 : Addr) (w5 : Addr) (h0 : Heap) (v : Option Value) (h : Heap) (L : List Loc) : Prop := L = [] ∧ h = h0 ∧ ((v = some (.int (0 : Int32))))
set_option maxRecDepth 65536 in
set_option maxHeartbeats 40000000 in
theorem rm2_5 (l : Launch) (Z : State) (a0 : Array Value) (hw : ∀ d ∈ tables_1, d.before a0 Z = true) (ws : List Jvm.Cond) (w0 : Addr) (w1 : Addr) (w2 : Addr) (w3 : Addr) (w4 : Addr) (w5 : Addr) (h0 : Heap) (n0 : Nat) (Z0 : n0 ≤ h0.size) (K : own_K Z h0 w0 w1 w2 w3 w4 w5) :
    MetFree l (⟨"com/example/bericht/bericht/selector/Comparison$Operator", "isEquality", "()Z"⟩ : MethodName) (head1 (Jvm.Cond.code (⟨"com/example/bericht/bericht/selector/Comparison$Operator", "isEquality", "()Z"⟩ : MethodName) prog_22_method_8_code 1 (some .boolean) :: ws) ({ frames := 0, cells := 0, slots := 0, locals := 0 } : Room)) (fun a U => a = #[(.ref w5)] ∧ Z.Warmed39 U.vm ∧ U.heap = h0) (fun _ _ _ _ _ => True) (fun _ U o U' => ∃ v L, o = .returned v ∧ Q2_5 w0 w1 w2 w3 w4 w5 h0 v U'.heap L ∧ FrameEnd U o U' L ({ frames := 0, cells := 0, slots := 0, locals := 0 } : Room).cells ({ frames := 0, cells := 0, slots := 0, locals := 0 } : Room).slots) := by
  refine MetFree.of_bodySF (plainFor_of_name pn1) hisR ?_
  intro p e s m args below meth c s₁ Bd hml0 hP hK
  obtain ⟨rfl, hZ, hh⟩ := hP
  have hx := Bd.exec
  have hby := Bd.bytes
  have hml : c.maxLocals = 1 := hml0
  have hown : s.vm.findClass "com/example/bericht/bericht/selector/Comparison$Operator" = some m.cls := findClass_of_methodNamed Bd.named
  have hnm := (name_of_methodNamed Bd.named Bd.method).1
  have hlk := Bd.notSynchronized
  have X0 : Stand p l e ({ frames := 0, cells := 0, slots := 0, locals := 0 } : Room) s m #[(.ref w5)] below meth c s₁ [] 0 0 := Stand.of_body Bd
  have e0 : s₁.heap = h0 := by rw [← hh, Bd.state]; rfl
  have K0 := K
  obtain ⟨S_w0, S_w1, S_w2, S_w3, S_w4, S_w5, E_w0, E_w1, E_w2, E_w3, E_w4, E_w5, F_w0_ordinal, F_w1_ordinal, F_w2_ordinal, F_w3_ordinal, F_w4_ordinal, F_w5_ordinal, n_w0_w1, n_w0_w2, n_w0_w3, n_w0_w4, n_w0_w5, n_w1_w2, n_w1_w3, n_w1_w4, n_w1_w5, n_w2_w3, n_w2_w4, n_w2_w5, n_w3_w4, n_w3_w5, n_w4_w5⟩ := K
  show own_Go p e below s (Q2_5 w0 w1 w2 w3 w4 w5 h0) 0 0 (s₁.setTop (entryFrame m #[(.ref w5)] 1))
  rw [show entryFrame m #[(.ref w5)] 1 = mkF m 0 #[.val (.ref w5)] [] from by first | (simp [entryFrame, mkF, argsToLocals, Value.category]; done) | rfl]
  show own_Go p e below s _ _ _ (s₁.setTop (mkF m 0 #[.val (.ref w5)] []))
  refine own_via (fun _ k => XS.aloadN X0.here hx rfl (hb hby d2_0) rfl rfl k) ?_
  show own_Go p e below s _ _ _ (s₁.setTop (mkF m 1 #[.val (.ref w5)] [(.ref w5)]))
  obtain ⟨T1, X1, e1, st1⟩ := getS2 X0 hx hZ hown (host := "") (Or.inl (hw _ (List.mem_of_getElem? (i := 13) rfl))) Via.refl e0 S_w0 (g := (mkF m 1 #[.val (.ref w5)] [(.ref w5)])) rfl (hb hby d2_1)
  refine own_via st1 ?_
  show own_Go p e below s _ _ _ (T1.setTop (mkF m 4 #[.val (.ref w5)] [(.ref w0), (.ref w5)]))
  refine own_via (fun _ k => Jvm.RoadKit.acmp (g := (mkF m 4 #[.val (.ref w5)] [(.ref w0), (.ref w5)])) X1 hx rfl rfl rfl (pc0 := 4) (pc' := 7) (same := false) rfl (hb hby d2_4) rfl (decide_eq_false fun q => (fun q => n_w0_w5 q.symm) (Value.ref.inj q)) (by decide) (by decide) k) ?_
  show own_Go p e below s _ _ _ (T1.setTop (mkF m 7 #[.val (.ref w5)] []))
  refine own_via (fun _ k => XS.aloadN X1.here hx rfl (hb hby d2_7) rfl rfl k) ?_
  show own_Go p e below s _ _ _ (T1.setTop (mkF m 8 #[.val (.ref w5)] [(.ref w5)]))
  obtain ⟨T2, X2, e2, st2⟩ := getS2 X1 hx hZ hown (host := "") (Or.inl (hw _ (List.mem_of_getElem? (i := 35) rfl))) Via.refl e1 S_w2 (g := (mkF m 8 #[.val (.ref w5)] [(.ref w5)])) rfl (hb hby d2_8)
  refine own_via st2 ?_
  show own_Go p e below s _ _ _ (T2.setTop (mkF m 11 #[.val (.ref w5)] [(.ref w2), (.ref w5)]))
  refine own_via (fun _ k => Jvm.RoadKit.acmp (g := (mkF m 11 #[.val (.ref w5)] [(.ref w2), (.ref w5)])) X2 hx rfl rfl rfl (pc0 := 11) (pc' := 18) (same := false) rfl (hb hby d2_11) rfl (decide_eq_false fun q => (fun q => n_w2_w5 q.symm) (Value.ref.inj q)) (by decide) (by decide) k) ?_
  show own_Go p e below s _ _ _ (T2.setTop (mkF m 18 #[.val (.ref w5)] []))
  refine own_via (fun _ k => XS.iconst X2.here hx rfl (hb hby d2_18) k) ?_
  show own_Go p e below s _ _ _ (T2.setTop (mkF m 19 #[.val (.ref w5)] [(.int (0 : Int32))]))
  exact own_retZ X2 hx hlk (t := .boolean) Bd.returns (by simp) (hb hby d2_19) (z' := (0 : Int32)) (by first | rfl | decide) ⟨rfl, e2, rfl⟩ (by decide) (by decide)
def Q4_5 (w0 : Addr) (w1 : Addr) (w2 : Addr) (w3 : Addr) (w4 : Addr) (w5 : Addr) (h0 : Heap) (v : Option Value) (h : Heap) (L : List Loc) : Prop := L = [] ∧ h = h0 ∧ ((v = some (.int (5 : Int32))))
set_option maxRecDepth 65536 in
set_option maxHeartbeats 40000000 in
theorem rm4_5 (l : Launch) (Z : State) (a0 : Array Value) (hw : ∀ d ∈ tables_1, d.before a0 Z = true) (ws : List Jvm.Cond) (w0 : Addr) (w1 : Addr) (w2 : Addr) (w3 : Addr) (w4 : Addr) (w5 : Addr) (h0 : Heap) (n0 : Nat) (Z0 : n0 ≤ h0.size) (K : own_K Z h0 w0 w1 w2 w3 w4 w5) :
    MetFree l (⟨"java/lang/Enum", "ordinal", "()I"⟩ : MethodName) (head1 (Jvm.Cond.code (⟨"java/lang/Enum", "ordinal", "()I"⟩ : MethodName) jdk_37_method_2_code 1 (some .int) :: ws) ({ frames := 0, cells := 0, slots := 0, locals := 0 } : Room)) (fun a U => a = #[(.ref w5)] ∧ Z.Warmed39 U.vm ∧ U.heap = h0) (fun _ _ _ _ _ => True) (fun _ U o U' => ∃ v L, o = .returned v ∧ Q4_5 w0 w1 w2 w3 w4 w5 h0 v U'.heap L ∧ FrameEnd U o U' L ({ frames := 0, cells := 0, slots := 0, locals := 0 } : Room).cells ({ frames := 0, cells := 0, slots := 0, locals := 0 } : Room).slots) := by
  refine MetFree.of_bodySF (plainFor_of_name pn2) hisR ?_
  intro p e s m args below meth c s₁ Bd hml0 hP hK
  obtain ⟨rfl, hZ, hh⟩ := hP
  have hx := Bd.exec
  have hby := Bd.bytes
  have hml : c.maxLocals = 1 := hml0
  have hown : s.vm.findClass "java/lang/Enum" = some m.cls := findClass_of_methodNamed Bd.named
  have hnm := (name_of_methodNamed Bd.named Bd.method).1
  have hlk := Bd.notSynchronized
  have X0 : Stand p l e ({ frames := 0, cells := 0, slots := 0, locals := 0 } : Room) s m #[(.ref w5)] below meth c s₁ [] 0 0 := Stand.of_body Bd
  have e0 : s₁.heap = h0 := by rw [← hh, Bd.state]; rfl
  have K0 := K
  obtain ⟨S_w0, S_w1, S_w2, S_w3, S_w4, S_w5, E_w0, E_w1, E_w2, E_w3, E_w4, E_w5, F_w0_ordinal, F_w1_ordinal, F_w2_ordinal, F_w3_ordinal, F_w4_ordinal, F_w5_ordinal, n_w0_w1, n_w0_w2, n_w0_w3, n_w0_w4, n_w0_w5, n_w1_w2, n_w1_w3, n_w1_w4, n_w1_w5, n_w2_w3, n_w2_w4, n_w2_w5, n_w3_w4, n_w3_w5, n_w4_w5⟩ := K
  show own_Go p e below s (Q4_5 w0 w1 w2 w3 w4 w5 h0) 0 0 (s₁.setTop (entryFrame m #[(.ref w5)] 1))
  rw [show entryFrame m #[(.ref w5)] 1 = mkF m 0 #[.val (.ref w5)] [] from by first | (simp [entryFrame, mkF, argsToLocals, Value.category]; done) | rfl]
  show own_Go p e below s _ _ _ (s₁.setTop (mkF m 0 #[.val (.ref w5)] []))
  refine own_via (fun _ k => XS.aloadN X0.here hx rfl (hb hby d4_0) rfl rfl k) ?_
  show own_Go p e below s _ _ _ (s₁.setTop (mkF m 1 #[.val (.ref w5)] [(.ref w5)]))
  obtain ⟨T1, X1, e1, st1⟩ := getF X0 hx hZ hown (host := "") (Or.inl (hw _ (List.mem_of_getElem? (i := 26) rfl))) Via.refl e0 F_w5_ordinal (g := (mkF m 1 #[.val (.ref w5)] [(.ref w5)])) rfl rfl (hb hby d4_1)
  refine own_via st1 ?_
  show own_Go p e below s _ _ _ (T1.setTop (mkF m 4 #[.val (.ref w5)] [(.int (5 : Int32))]))
  exact own_retI X1 hx hlk Bd.returns (hb hby d4_4) ⟨rfl, e1, rfl⟩ (by decide) (by decide)
def Q3_15 (x1 : Int64) (x2 : Int64) (w0 : Addr) (w1 : Addr) (w2 : Addr) (w3 : Addr) (w4 : Addr) (w5 : Addr) (h0 : Heap) (v : Option Value) (h : Heap) (L : List Loc) : Prop := L = [] ∧ h = h0 ∧ ((x1 < x2 ∧ v = some (.int (0 : Int32))) ∨ (¬ (x1 < x2) ∧ v = some (.int (1 : Int32))))
set_option maxRecDepth 65536 in
set_option maxHeartbeats 40000000 in
theorem rm3_15 (l : Launch) (Z : State) (a0 : Array Value) (hw : ∀ d ∈ tables_1, d.before a0 Z = true) (ws : List Jvm.Cond) (x1 : Int64) (x2 : Int64) (w0 : Addr) (w1 : Addr) (w2 : Addr) (w3 : Addr) (w4 : Addr) (w5 : Addr) (h0 : Heap) (n0 : Nat) (Z0 : n0 ≤ h0.size) (K : own_K Z h0 w0 w1 w2 w3 w4 w5) :
    MetFree l (⟨"com/example/bericht/bericht/selector/Comparison$Operator", "holds", "(JJ)Z"⟩ : MethodName) (head1 (Jvm.Cond.code (⟨"com/example/bericht/bericht/selector/Comparison$Operator", "holds", "(JJ)Z"⟩ : MethodName) prog_22_method_5_code 5 (some .boolean) :: ws) ({ frames := 1, cells := 0, slots := 0, locals := 12 } : Room)) (fun a U => a = #[(.ref w5), (.long x1), (.long x2)] ∧ Z.Warmed39 U.vm ∧ U.heap = h0) (fun _ _ _ _ _ => True) (fun _ U o U' => ∃ v L, o = .returned v ∧ Q3_15 x1 x2 w0 w1 w2 w3 w4 w5 h0 v U'.heap L ∧ FrameEnd U o U' L ({ frames := 1, cells := 0, slots := 0, locals := 12 } : Room).cells ({ frames := 1, cells := 0, slots := 0, locals := 12 } : Room).slots) := by
  refine MetFree.of_bodySF (plainFor_of_name pn1) hisR ?_
  intro p e s m args below meth c s₁ Bd hml0 hP hK
  obtain ⟨rfl, hZ, hh⟩ := hP
  have hx := Bd.exec
  have hby := Bd.bytes
  have hml : c.maxLocals = 5 := hml0
  have hown : s.vm.findClass "com/example/bericht/bericht/selector/Comparison$Operator" = some m.cls := findClass_of_methodNamed Bd.named
  have hnm := (name_of_methodNamed Bd.named Bd.method).1
  have hlk := Bd.notSynchronized
  have X0 : Stand p l e ({ frames := 1, cells := 0, slots := 0, locals := 12 } : Room) s m #[(.ref w5), (.long x1), (.long x2)] below meth c s₁ [] 0 0 := Stand.of_body Bd
  have e0 : s₁.heap = h0 := by rw [← hh, Bd.state]; rfl
  have K0 := K
  obtain ⟨S_w0, S_w1, S_w2, S_w3, S_w4, S_w5, E_w0, E_w1, E_w2, E_w3, E_w4, E_w5, F_w0_ordinal, F_w1_ordinal, F_w2_ordinal, F_w3_ordinal, F_w4_ordinal, F_w5_ordinal, n_w0_w1, n_w0_w2, n_w0_w3, n_w0_w4, n_w0_w5, n_w1_w2, n_w1_w3, n_w1_w4, n_w1_w5, n_w2_w3, n_w2_w4, n_w2_w5, n_w3_w4, n_w3_w5, n_w4_w5⟩ := K
  show own_Go p e below s (Q3_15 x1 x2 w0 w1 w2 w3 w4 w5 h0) 0 0 (s₁.setTop (entryFrame m #[(.ref w5), (.long x1), (.long x2)] 5))
  rw [show entryFrame m #[(.ref w5), (.long x1), (.long x2)] 5 = mkF m 0 #[.val (.ref w5), .val (.long x1), .second, .val (.long x2), .second] [] from by first | (simp [entryFrame, mkF, argsToLocals, Value.category]; done) | rfl]
  show own_Go p e below s _ _ _ (s₁.setTop (mkF m 0 #[.val (.ref w5), .val (.long x1), .second, .val (.long x2), .second] []))
  refine own_via (fun _ k => XS.aloadN X0.here hx rfl (hb hby d3_0) rfl rfl k) ?_
  show own_Go p e below s _ _ _ (s₁.setTop (mkF m 1 #[.val (.ref w5), .val (.long x1), .second, .val (.long x2), .second] [(.ref w5)]))
  obtain ⟨cq1, kq1, q1a, q1b, q1c⟩ := isOf hZ e0 E_w5
  obtain ⟨_, _, ⟨T1, L1, k1, n1⟩, -, X1, ⟨Lc1, hQ1, l1, y1, z1⟩, st1⟩ := X0.virtualBackUp hx (x := (⟨"com/example/bericht/bericht/selector/Comparison$Operator", "ordinal", "()I"⟩ : MethodName)) (y := (⟨"java/lang/Enum", "ordinal", "()I"⟩ : MethodName)) (owner := "java/lang/Enum") hown (mvT hZ (hw _ (List.mem_of_getElem? (i := 19) rfl))) (mvT hZ (hw _ (List.mem_of_getElem? (i := 20) rfl))) (mvT hZ (hw _ (List.mem_of_getElem? (i := 21) rfl))) (by decide) (mvT hZ (hw _ (List.mem_of_getElem? (i := 23) rfl))) (mvT hZ (hw _ (List.mem_of_getElem? (i := 22) rfl))) (backOf (W := 0) (rm4_5 l Z a0 hw [] w0 w1 w2 w3 w4 w5 h0 n0 Z0 K0) hZ (hw _ (List.mem_of_getElem? (i := 25) rfl)) (hw _ (List.mem_of_getElem? (i := 24) rfl)) (by decide) (by decide)) q1a q1c (g := (mkF m 1 #[.val (.ref w5), .val (.long x1), .second, .val (.long x2), .second] [(.ref w5)])) rfl (by rw [hml]; rfl) (Steps.refl _) (argsL := []) (rest := []) (lenOf pd2 rfl) rfl (by show 2 * 0 + _ ≤ _; exact Nat.le_of_eq rfl) (hb hby d3_1) (fun _ _ => ⟨rfl, e0, (by decide : 0 + 0 ≤ _), (by decide : 0 + 0 ≤ _)⟩)
  dsimp only [Pt.U, Pt.locs, Pt.cells, Pt.slots] at X1 l1 y1 z1 st1 hQ1
  subst l1 y1 z1
  obtain ⟨rfl, e1, hO1⟩ := hQ1
  obtain rfl := hO1
  refine own_tr st1 ?_
  show own_Go p e below s _ _ _ (T1.setTop (mkF m 4 #[.val (.ref w5), .val (.long x1), .second, .val (.long x2), .second] [(.int (5 : Int32))]))
  refine own_via (fun _ k => XS.tswIn X1.here hx rfl (o := 120) (pc0 := 4) (pc' := 124) rfl (hb hby d3_4) rfl (by decide) (by decide) (by decide) (by decide) k) ?_
  show own_Go p e below s _ _ _ (T1.setTop (mkF m 124 #[.val (.ref w5), .val (.long x1), .second, .val (.long x2), .second] []))
  refine own_via (fun _ k => XS.lloadN X1.here hx rfl (hb hby d3_124) rfl k) ?_
  show own_Go p e below s _ _ _ (T1.setTop (mkF m 125 #[.val (.ref w5), .val (.long x1), .second, .val (.long x2), .second] [(.long x1)]))
  refine own_via (fun _ k => XS.lloadN X1.here hx rfl (hb hby d3_125) rfl k) ?_
  show own_Go p e below s _ _ _ (T1.setTop (mkF m 126 #[.val (.ref w5), .val (.long x1), .second, .val (.long x2), .second] [(.long x2), (.long x1)]))
  refine own_via (fun _ k => XS.lcmp X1.here hx rfl (hb hby d3_126) rfl k) ?_
  show own_Go p e below s _ _ _ (T1.setTop (mkF m 127 #[.val (.ref w5), .val (.long x1), .second, .val (.long x2), .second] [(.int (lcmpW x1 x2))]))
  by_cases hc2 : x1 < x2
  · refine own_via (fun _ k => XS.ifYes X1.here hx rfl (pc0 := 127) (pc' := 134) rfl (hb hby d3_127) rfl ((if0 _ _).trans (tlt ((lw_lt x1 x2).mpr hc2)).1) (by decide) (by decide) k) ?_
    show own_Go p e below s _ _ _ (T1.setTop (mkF m 134 #[.val (.ref w5), .val (.long x1), .second, .val (.long x2), .second] []))
    refine own_via (fun _ k => XS.iconst X1.here hx rfl (hb hby d3_134) k) ?_
    show own_Go p e below s _ _ _ (T1.setTop (mkF m 135 #[.val (.ref w5), .val (.long x1), .second, .val (.long x2), .second] [(.int (0 : Int32))]))
    exact own_retZ X1 hx hlk (t := .boolean) Bd.returns (by simp) (hb hby d3_135) (z' := (0 : Int32)) (by first | rfl | decide) ⟨rfl, e1, Or.inl ⟨hc2, rfl⟩⟩ (by decide) (by decide)
  · refine own_via (fun _ k => XS.ifNo X1.here hx rfl (hb hby d3_127) rfl ((if0 _ _).trans (flt (mt (lw_lt x1 x2).mp hc2)).1) k) ?_
    show own_Go p e below s _ _ _ (T1.setTop (mkF m 130 #[.val (.ref w5), .val (.long x1), .second, .val (.long x2), .second] []))
    refine own_via (fun _ k => XS.iconst X1.here hx rfl (hb hby d3_130) k) ?_
    show own_Go p e below s _ _ _ (T1.setTop (mkF m 131 #[.val (.ref w5), .val (.long x1), .second, .val (.long x2), .second] [(.int (1 : Int32))]))
    refine own_via (fun _ k => XS.goto X1.here hx rfl (pc0 := 131) (pc' := 135) rfl (hb hby d3_131) (by decide) (by decide) k) ?_
    show own_Go p e below s _ _ _ (T1.setTop (mkF m 135 #[.val (.ref w5), .val (.long x1), .second, .val (.long x2), .second] [(.int (1 : Int32))]))
    exact own_retZ X1 hx hlk (t := .boolean) Bd.returns (by simp) (hb hby d3_135) (z' := (1 : Int32)) (by first | rfl | decide) ⟨rfl, e1, Or.inr (⟨hc2, rfl⟩)⟩ (by decide) (by decide)
def Q3_16 (w0 : Addr) (w1 : Addr) (w2 : Addr) (w3 : Addr) (w4 : Addr) (w5 : Addr) (h0 : Heap) (v : Option Value) (h : Heap) (L : List Loc) : Prop := L = [] ∧ h = h0 ∧ ((v = some (.int (0 : Int32))))
set_option maxRecDepth 65536 in
set_option maxHeartbeats 40000000 in
theorem rm3_16 (l : Launch) (Z : State) (a0 : Array Value) (hw : ∀ d ∈ tables_1, d.before a0 Z = true) (ws : List Jvm.Cond) (w0 : Addr) (w1 : Addr) (w2 : Addr) (w3 : Addr) (w4 : Addr) (w5 : Addr) (h0 : Heap) (n0 : Nat) (Z0 : n0 ≤ h0.size) (K : own_K Z h0 w0 w1 w2 w3 w4 w5) :
    MetFree l (⟨"com/example/bericht/bericht/selector/Comparison$Operator", "holds", "(JJ)Z"⟩ : MethodName) (head1 (Jvm.Cond.code (⟨"com/example/bericht/bericht/selector/Comparison$Operator", "holds", "(JJ)Z"⟩ : MethodName) prog_22_method_5_code 5 (some .boolean) :: ws) ({ frames := 1, cells := 0, slots := 0, locals := 12 } : Room)) (fun a U => a = #[(.ref w5), (.long (0 : Int64)), (.long (1 : Int64))] ∧ Z.Warmed39 U.vm ∧ U.heap = h0) (fun _ _ _ _ _ => True) (fun _ U o U' => ∃ v L, o = .returned v ∧ Q3_16 w0 w1 w2 w3 w4 w5 h0 v U'.heap L ∧ FrameEnd U o U' L ({ frames := 1, cells := 0, slots := 0, locals := 12 } : Room).cells ({ frames := 1, cells := 0, slots := 0, locals := 12 } : Room).slots) := by
  refine MetFree.of_bodySF (plainFor_of_name pn1) hisR ?_
  intro p e s m args below meth c s₁ Bd hml0 hP hK
  obtain ⟨rfl, hZ, hh⟩ := hP
  have hx := Bd.exec
  have hby := Bd.bytes
  have hml : c.maxLocals = 5 := hml0
  have hown : s.vm.findClass "com/example/bericht/bericht/selector/Comparison$Operator" = some m.cls := findClass_of_methodNamed Bd.named
  have hnm := (name_of_methodNamed Bd.named Bd.method).1
  have hlk := Bd.notSynchronized
  have X0 : Stand p l e ({ frames := 1, cells := 0, slots := 0, locals := 12 } : Room) s m #[(.ref w5), (.long (0 : Int64)), (.long (1 : Int64))] below meth c s₁ [] 0 0 := Stand.of_body Bd
  have e0 : s₁.heap = h0 := by rw [← hh, Bd.state]; rfl
  have K0 := K
  obtain ⟨S_w0, S_w1, S_w2, S_w3, S_w4, S_w5, E_w0, E_w1, E_w2, E_w3, E_w4, E_w5, F_w0_ordinal, F_w1_ordinal, F_w2_ordinal, F_w3_ordinal, F_w4_ordinal, F_w5_ordinal, n_w0_w1, n_w0_w2, n_w0_w3, n_w0_w4, n_w0_w5, n_w1_w2, n_w1_w3, n_w1_w4, n_w1_w5, n_w2_w3, n_w2_w4, n_w2_w5, n_w3_w4, n_w3_w5, n_w4_w5⟩ := K
  show own_Go p e below s (Q3_16 w0 w1 w2 w3 w4 w5 h0) 0 0 (s₁.setTop (entryFrame m #[(.ref w5), (.long (0 : Int64)), (.long (1 : Int64))] 5))
  rw [show entryFrame m #[(.ref w5), (.long (0 : Int64)), (.long (1 : Int64))] 5 = mkF m 0 #[.val (.ref w5), .val (.long (0 : Int64)), .second, .val (.long (1 : Int64)), .second] [] from by first | (simp [entryFrame, mkF, argsToLocals, Value.category]; done) | rfl]
  show own_Go p e below s _ _ _ (s₁.setTop (mkF m 0 #[.val (.ref w5), .val (.long (0 : Int64)), .second, .val (.long (1 : Int64)), .second] []))
  refine own_via (fun _ k => XS.aloadN X0.here hx rfl (hb hby d3_0) rfl rfl k) ?_
  show own_Go p e below s _ _ _ (s₁.setTop (mkF m 1 #[.val (.ref w5), .val (.long (0 : Int64)), .second, .val (.long (1 : Int64)), .second] [(.ref w5)]))
  obtain ⟨cq1, kq1, q1a, q1b, q1c⟩ := isOf hZ e0 E_w5
  obtain ⟨_, _, ⟨T1, L1, k1, n1⟩, -, X1, ⟨Lc1, hQ1, l1, y1, z1⟩, st1⟩ := X0.virtualBackUp hx (x := (⟨"com/example/bericht/bericht/selector/Comparison$Operator", "ordinal", "()I"⟩ : MethodName)) (y := (⟨"java/lang/Enum", "ordinal", "()I"⟩ : MethodName)) (owner := "java/lang/Enum") hown (mvT hZ (hw _ (List.mem_of_getElem? (i := 19) rfl))) (mvT hZ (hw _ (List.mem_of_getElem? (i := 20) rfl))) (mvT hZ (hw _ (List.mem_of_getElem? (i := 21) rfl))) (by decide) (mvT hZ (hw _ (List.mem_of_getElem? (i := 23) rfl))) (mvT hZ (hw _ (List.mem_of_getElem? (i := 22) rfl))) (backOf (W := 0) (rm4_5 l Z a0 hw [] w0 w1 w2 w3 w4 w5 h0 n0 Z0 K0) hZ (hw _ (List.mem_of_getElem? (i := 25) rfl)) (hw _ (List.mem_of_getElem? (i := 24) rfl)) (by decide) (by decide)) q1a q1c (g := (mkF m 1 #[.val (.ref w5), .val (.long (0 : Int64)), .second, .val (.long (1 : Int64)), .second] [(.ref w5)])) rfl (by rw [hml]; rfl) (Steps.refl _) (argsL := []) (rest := []) (lenOf pd2 rfl) rfl (by show 2 * 0 + _ ≤ _; exact Nat.le_of_eq rfl) (hb hby d3_1) (fun _ _ => ⟨rfl, e0, (by decide : 0 + 0 ≤ _), (by decide : 0 + 0 ≤ _)⟩)
  dsimp only [Pt.U, Pt.locs, Pt.cells, Pt.slots] at X1 l1 y1 z1 st1 hQ1
  subst l1 y1 z1
  obtain ⟨rfl, e1, hO1⟩ := hQ1
  obtain rfl := hO1
  refine own_tr st1 ?_
  show own_Go p e below s _ _ _ (T1.setTop (mkF m 4 #[.val (.ref w5), .val (.long (0 : Int64)), .second, .val (.long (1 : Int64)), .second] [(.int (5 : Int32))]))
  refine own_via (fun _ k => XS.tswIn X1.here hx rfl (o := 120) (pc0 := 4) (pc' := 124) rfl (hb hby d3_4) rfl (by decide) (by decide) (by decide) (by decide) k) ?_
  show own_Go p e below s _ _ _ (T1.setTop (mkF m 124 #[.val (.ref w5), .val (.long (0 : Int64)), .second, .val (.long (1 : Int64)), .second] []))
  refine own_via (fun _ k => XS.lloadN X1.here hx rfl (hb hby d3_124) rfl k) ?_
  show own_Go p e below s _ _ _ (T1.setTop (mkF m 125 #[.val (.ref w5), .val (.long (0 : Int64)), .second, .val (.long (1 : Int64)), .second] [(.long (0 : Int64))]))
  refine own_via (fun _ k => XS.lloadN X1.here hx rfl (hb hby d3_125) rfl k) ?_
  show own_Go p e below s _ _ _ (T1.setTop (mkF m 126 #[.val (.ref w5), .val (.long (0 : Int64)), .second, .val (.long (1 : Int64)), .second] [(.long (1 : Int64)), (.long (0 : Int64))]))
  refine own_via (fun _ k => XS.lcmp X1.here hx rfl (hb hby d3_126) rfl k) ?_
  show own_Go p e below s _ _ _ (T1.setTop (mkF m 127 #[.val (.ref w5), .val (.long (0 : Int64)), .second, .val (.long (1 : Int64)), .second] [(.int (lcmpW (0 : Int64) (1 : Int64)))]))
  refine own_via (fun _ k => XS.ifYes X1.here hx rfl (pc0 := 127) (pc' := 134) rfl (hb hby d3_127) rfl ((if0 _ _).trans (tlt (by decide : (lcmpW (0 : Int64) (1 : Int64)) < (0 : Int32))).1) (by decide) (by decide) k) ?_
  show own_Go p e below s _ _ _ (T1.setTop (mkF m 134 #[.val (.ref w5), .val (.long (0 : Int64)), .second, .val (.long (1 : Int64)), .second] []))
  refine own_via (fun _ k => XS.iconst X1.here hx rfl (hb hby d3_134) k) ?_
  show own_Go p e below s _ _ _ (T1.setTop (mkF m 135 #[.val (.ref w5), .val (.long (0 : Int64)), .second, .val (.long (1 : Int64)), .second] [(.int (0 : Int32))]))
  exact own_retZ X1 hx hlk (t := .boolean) Bd.returns (by simp) (hb hby d3_135) (z' := (0 : Int32)) (by first | rfl | decide) ⟨rfl, e1, rfl⟩ (by decide) (by decide)
def Q3_17 (w0 : Addr) (w1 : Addr) (w2 : Addr) (w3 : Addr) (w4 : Addr) (w5 : Addr) (h0 : Heap) (v : Option Value) (h : Heap) (L : List Loc) : Prop := L = [] ∧ h = h0 ∧ ((v = some (.int (1 : Int32))))
set_option maxRecDepth 65536 in
set_option maxHeartbeats 40000000 in
theorem rm3_17 (l : Launch) (Z : State) (a0 : Array Value) (hw : ∀ d ∈ tables_1, d.before a0 Z = true) (ws : List Jvm.Cond) (w0 : Addr) (w1 : Addr) (w2 : Addr) (w3 : Addr) (w4 : Addr) (w5 : Addr) (h0 : Heap) (n0 : Nat) (Z0 : n0 ≤ h0.size) (K : own_K Z h0 w0 w1 w2 w3 w4 w5) :
    MetFree l (⟨"com/example/bericht/bericht/selector/Comparison$Operator", "holds", "(JJ)Z"⟩ : MethodName) (head1 (Jvm.Cond.code (⟨"com/example/bericht/bericht/selector/Comparison$Operator", "holds", "(JJ)Z"⟩ : MethodName) prog_22_method_5_code 5 (some .boolean) :: ws) ({ frames := 1, cells := 0, slots := 0, locals := 12 } : Room)) (fun a U => a = #[(.ref w5), (.long (1 : Int64)), (.long (0 : Int64))] ∧ Z.Warmed39 U.vm ∧ U.heap = h0) (fun _ _ _ _ _ => True) (fun _ U o U' => ∃ v L, o = .returned v ∧ Q3_17 w0 w1 w2 w3 w4 w5 h0 v U'.heap L ∧ FrameEnd U o U' L ({ frames := 1, cells := 0, slots := 0, locals := 12 } : Room).cells ({ frames := 1, cells := 0, slots := 0, locals := 12 } : Room).slots) := by
  refine MetFree.of_bodySF (plainFor_of_name pn1) hisR ?_
  intro p e s m args below meth c s₁ Bd hml0 hP hK
  obtain ⟨rfl, hZ, hh⟩ := hP
  have hx := Bd.exec
  have hby := Bd.bytes
  have hml : c.maxLocals = 5 := hml0
  have hown : s.vm.findClass "com/example/bericht/bericht/selector/Comparison$Operator" = some m.cls := findClass_of_methodNamed Bd.named
  have hnm := (name_of_methodNamed Bd.named Bd.method).1
  have hlk := Bd.notSynchronized
  have X0 : Stand p l e ({ frames := 1, cells := 0, slots := 0, locals := 12 } : Room) s m #[(.ref w5), (.long (1 : Int64)), (.long (0 : Int64))] below meth c s₁ [] 0 0 := Stand.of_body Bd
  have e0 : s₁.heap = h0 := by rw [← hh, Bd.state]; rfl
  have K0 := K
  obtain ⟨S_w0, S_w1, S_w2, S_w3, S_w4, S_w5, E_w0, E_w1, E_w2, E_w3, E_w4, E_w5, F_w0_ordinal, F_w1_ordinal, F_w2_ordinal, F_w3_ordinal, F_w4_ordinal, F_w5_ordinal, n_w0_w1, n_w0_w2, n_w0_w3, n_w0_w4, n_w0_w5, n_w1_w2, n_w1_w3, n_w1_w4, n_w1_w5, n_w2_w3, n_w2_w4, n_w2_w5, n_w3_w4, n_w3_w5, n_w4_w5⟩ := K
  show own_Go p e below s (Q3_17 w0 w1 w2 w3 w4 w5 h0) 0 0 (s₁.setTop (entryFrame m #[(.ref w5), (.long (1 : Int64)), (.long (0 : Int64))] 5))
  rw [show entryFrame m #[(.ref w5), (.long (1 : Int64)), (.long (0 : Int64))] 5 = mkF m 0 #[.val (.ref w5), .val (.long (1 : Int64)), .second, .val (.long (0 : Int64)), .second] [] from by first | (simp [entryFrame, mkF, argsToLocals, Value.category]; done) | rfl]
  show own_Go p e below s _ _ _ (s₁.setTop (mkF m 0 #[.val (.ref w5), .val (.long (1 : Int64)), .second, .val (.long (0 : Int64)), .second] []))
  refine own_via (fun _ k => XS.aloadN X0.here hx rfl (hb hby d3_0) rfl rfl k) ?_
  show own_Go p e below s _ _ _ (s₁.setTop (mkF m 1 #[.val (.ref w5), .val (.long (1 : Int64)), .second, .val (.long (0 : Int64)), .second] [(.ref w5)]))
  obtain ⟨cq1, kq1, q1a, q1b, q1c⟩ := isOf hZ e0 E_w5
  obtain ⟨_, _, ⟨T1, L1, k1, n1⟩, -, X1, ⟨Lc1, hQ1, l1, y1, z1⟩, st1⟩ := X0.virtualBackUp hx (x := (⟨"com/example/bericht/bericht/selector/Comparison$Operator", "ordinal", "()I"⟩ : MethodName)) (y := (⟨"java/lang/Enum", "ordinal", "()I"⟩ : MethodName)) (owner := "java/lang/Enum") hown (mvT hZ (hw _ (List.mem_of_getElem? (i := 19) rfl))) (mvT hZ (hw _ (List.mem_of_getElem? (i := 20) rfl))) (mvT hZ (hw _ (List.mem_of_getElem? (i := 21) rfl))) (by decide) (mvT hZ (hw _ (List.mem_of_getElem? (i := 23) rfl))) (mvT hZ (hw _ (List.mem_of_getElem? (i := 22) rfl))) (backOf (W := 0) (rm4_5 l Z a0 hw [] w0 w1 w2 w3 w4 w5 h0 n0 Z0 K0) hZ (hw _ (List.mem_of_getElem? (i := 25) rfl)) (hw _ (List.mem_of_getElem? (i := 24) rfl)) (by decide) (by decide)) q1a q1c (g := (mkF m 1 #[.val (.ref w5), .val (.long (1 : Int64)), .second, .val (.long (0 : Int64)), .second] [(.ref w5)])) rfl (by rw [hml]; rfl) (Steps.refl _) (argsL := []) (rest := []) (lenOf pd2 rfl) rfl (by show 2 * 0 + _ ≤ _; exact Nat.le_of_eq rfl) (hb hby d3_1) (fun _ _ => ⟨rfl, e0, (by decide : 0 + 0 ≤ _), (by decide : 0 + 0 ≤ _)⟩)
  dsimp only [Pt.U, Pt.locs, Pt.cells, Pt.slots] at X1 l1 y1 z1 st1 hQ1
  subst l1 y1 z1
  obtain ⟨rfl, e1, hO1⟩ := hQ1
  obtain rfl := hO1
  refine own_tr st1 ?_
  show own_Go p e below s _ _ _ (T1.setTop (mkF m 4 #[.val (.ref w5), .val (.long (1 : Int64)), .second, .val (.long (0 : Int64)), .second] [(.int (5 : Int32))]))
  refine own_via (fun _ k => XS.tswIn X1.here hx rfl (o := 120) (pc0 := 4) (pc' := 124) rfl (hb hby d3_4) rfl (by decide) (by decide) (by decide) (by decide) k) ?_
  show own_Go p e below s _ _ _ (T1.setTop (mkF m 124 #[.val (.ref w5), .val (.long (1 : Int64)), .second, .val (.long (0 : Int64)), .second] []))
  refine own_via (fun _ k => XS.lloadN X1.here hx rfl (hb hby d3_124) rfl k) ?_
  show own_Go p e below s _ _ _ (T1.setTop (mkF m 125 #[.val (.ref w5), .val (.long (1 : Int64)), .second, .val (.long (0 : Int64)), .second] [(.long (1 : Int64))]))
  refine own_via (fun _ k => XS.lloadN X1.here hx rfl (hb hby d3_125) rfl k) ?_
  show own_Go p e below s _ _ _ (T1.setTop (mkF m 126 #[.val (.ref w5), .val (.long (1 : Int64)), .second, .val (.long (0 : Int64)), .second] [(.long (0 : Int64)), (.long (1 : Int64))]))
  refine own_via (fun _ k => XS.lcmp X1.here hx rfl (hb hby d3_126) rfl k) ?_
  show own_Go p e below s _ _ _ (T1.setTop (mkF m 127 #[.val (.ref w5), .val (.long (1 : Int64)), .second, .val (.long (0 : Int64)), .second] [(.int (lcmpW (1 : Int64) (0 : Int64)))]))
  refine own_via (fun _ k => XS.ifNo X1.here hx rfl (hb hby d3_127) rfl ((if0 _ _).trans (flt (by decide : ¬ ((lcmpW (1 : Int64) (0 : Int64)) < (0 : Int32)))).1) k) ?_
  show own_Go p e below s _ _ _ (T1.setTop (mkF m 130 #[.val (.ref w5), .val (.long (1 : Int64)), .second, .val (.long (0 : Int64)), .second] []))
  refine own_via (fun _ k => XS.iconst X1.here hx rfl (hb hby d3_130) k) ?_
  show own_Go p e below s _ _ _ (T1.setTop (mkF m 131 #[.val (.ref w5), .val (.long (1 : Int64)), .second, .val (.long (0 : Int64)), .second] [(.int (1 : Int32))]))
  refine own_via (fun _ k => XS.goto X1.here hx rfl (pc0 := 131) (pc' := 135) rfl (hb hby d3_131) (by decide) (by decide) k) ?_
  show own_Go p e below s _ _ _ (T1.setTop (mkF m 135 #[.val (.ref w5), .val (.long (1 : Int64)), .second, .val (.long (0 : Int64)), .second] [(.int (1 : Int32))]))
  exact own_retZ X1 hx hlk (t := .boolean) Bd.returns (by simp) (hb hby d3_135) (z' := (1 : Int32)) (by first | rfl | decide) ⟨rfl, e1, rfl⟩ (by decide) (by decide)
def Q5_5 (w0 : Addr) (w1 : Addr) (w2 : Addr) (w3 : Addr) (w4 : Addr) (w5 : Addr) (h0 : Heap) (v : Option Value) (h : Heap) (L : List Loc) : Prop := L = [] ∧ h = h0 ∧ ((v = some (.ref w4)))
set_option maxRecDepth 65536 in
set_option maxHeartbeats 40000000 in
theorem rm5_5 (l : Launch) (Z : State) (a0 : Array Value) (hw : ∀ d ∈ tables_1, d.before a0 Z = true) (ws : List Jvm.Cond) (w0 : Addr) (w1 : Addr) (w2 : Addr) (w3 : Addr) (w4 : Addr) (w5 : Addr) (h0 : Heap) (n0 : Nat) (Z0 : n0 ≤ h0.size) (K : own_K Z h0 w0 w1 w2 w3 w4 w5) :
    MetFree l (⟨"com/example/bericht/bericht/selector/Comparison$Operator", "flipped", "()Lcom/example/bericht/bericht/selector/Comparison$Operator;"⟩ : MethodName) (head1 (Jvm.Cond.code (⟨"com/example/bericht/bericht/selector/Comparison$Operator", "flipped", "()Lcom/example/bericht/bericht/selector/Comparison$Operator;"⟩ : MethodName) prog_22_method_7_code 1 (some (.object "com/example/bericht/bericht/selector/Comparison$Operator")) :: ws) ({ frames := 1, cells := 0, slots := 0, locals := 12 } : Room)) (fun a U => a = #[(.ref w5)] ∧ Z.Warmed39 U.vm ∧ U.heap = h0) (fun _ _ _ _ _ => True) (fun _ U o U' => ∃ v L, o = .returned v ∧ Q5_5 w0 w1 w2 w3 w4 w5 h0 v U'.heap L ∧ FrameEnd U o U' L ({ frames := 1, cells := 0, slots := 0, locals := 12 } : Room).cells ({ frames := 1, cells := 0, slots := 0, locals := 12 } : Room).slots) := by
  refine MetFree.of_bodySF (plainFor_of_name pn1) hisR ?_
  intro p e s m args below meth c s₁ Bd hml0 hP hK
  obtain ⟨rfl, hZ, hh⟩ := hP
  have hx := Bd.exec
  have hby := Bd.bytes
  have hml : c.maxLocals = 1 := hml0
  have hown : s.vm.findClass "com/example/bericht/bericht/selector/Comparison$Operator" = some m.cls := findClass_of_methodNamed Bd.named
  have hnm := (name_of_methodNamed Bd.named Bd.method).1
  have hlk := Bd.notSynchronized
  have X0 : Stand p l e ({ frames := 1, cells := 0, slots := 0, locals := 12 } : Room) s m #[(.ref w5)] below meth c s₁ [] 0 0 := Stand.of_body Bd
  have e0 : s₁.heap = h0 := by rw [← hh, Bd.state]; rfl
  have K0 := K
  obtain ⟨S_w0, S_w1, S_w2, S_w3, S_w4, S_w5, E_w0, E_w1, E_w2, E_w3, E_w4, E_w5, F_w0_ordinal, F_w1_ordinal, F_w2_ordinal, F_w3_ordinal, F_w4_ordinal, F_w5_ordinal, n_w0_w1, n_w0_w2, n_w0_w3, n_w0_w4, n_w0_w5, n_w1_w2, n_w1_w3, n_w1_w4, n_w1_w5, n_w2_w3, n_w2_w4, n_w2_w5, n_w3_w4, n_w3_w5, n_w4_w5⟩ := K
  show own_Go p e below s (Q5_5 w0 w1 w2 w3 w4 w5 h0) 0 0 (s₁.setTop (entryFrame m #[(.ref w5)] 1))
  rw [show entryFrame m #[(.ref w5)] 1 = mkF m 0 #[.val (.ref w5)] [] from by first | (simp [entryFrame, mkF, argsToLocals, Value.category]; done) | rfl]
  show own_Go p e below s _ _ _ (s₁.setTop (mkF m 0 #[.val (.ref w5)] []))
  refine own_via (fun _ k => XS.aloadN X0.here hx rfl (hb hby d5_0) rfl rfl k) ?_
  show own_Go p e below s _ _ _ (s₁.setTop (mkF m 1 #[.val (.ref w5)] [(.ref w5)]))
  obtain ⟨cq1, kq1, q1a, q1b, q1c⟩ := isOf hZ e0 E_w5
  obtain ⟨_, _, ⟨T1, L1, k1, n1⟩, -, X1, ⟨Lc1, hQ1, l1, y1, z1⟩, st1⟩ := X0.virtualBackUp hx (x := (⟨"com/example/bericht/bericht/selector/Comparison$Operator", "ordinal", "()I"⟩ : MethodName)) (y := (⟨"java/lang/Enum", "ordinal", "()I"⟩ : MethodName)) (owner := "java/lang/Enum") hown (mvT hZ (hw _ (List.mem_of_getElem? (i := 19) rfl))) (mvT hZ (hw _ (List.mem_of_getElem? (i := 20) rfl))) (mvT hZ (hw _ (List.mem_of_getElem? (i := 21) rfl))) (by decide) (mvT hZ (hw _ (List.mem_of_getElem? (i := 23) rfl))) (mvT hZ (hw _ (List.mem_of_getElem? (i := 22) rfl))) (backOf (W := 0) (rm4_5 l Z a0 hw [] w0 w1 w2 w3 w4 w5 h0 n0 Z0 K0) hZ (hw _ (List.mem_of_getElem? (i := 25) rfl)) (hw _ (List.mem_of_getElem? (i := 24) rfl)) (by decide) (by decide)) q1a q1c (g := (mkF m 1 #[.val (.ref w5)] [(.ref w5)])) rfl (by rw [hml]; rfl) (Steps.refl _) (argsL := []) (rest := []) (lenOf pd2 rfl) rfl (by show 2 * 0 + _ ≤ _; exact Nat.le_of_eq rfl) (hb hby d5_1) (fun _ _ => ⟨rfl, e0, (by decide : 0 + 0 ≤ _), (by decide : 0 + 0 ≤ _)⟩)
  dsimp only [Pt.U, Pt.locs, Pt.cells, Pt.slots] at X1 l1 y1 z1 st1 hQ1
  subst l1 y1 z1
  obtain ⟨rfl, e1, hO1⟩ := hQ1
  obtain rfl := hO1
  refine own_tr st1 ?_
  show own_Go p e below s _ _ _ (T1.setTop (mkF m 4 #[.val (.ref w5)] [(.int (5 : Int32))]))
  refine own_via (fun _ k => XS.tswIn X1.here hx rfl (o := 72) (pc0 := 4) (pc' := 76) rfl (hb hby d5_4) rfl (by decide) (by decide) (by decide) (by decide) k) ?_
  show own_Go p e below s _ _ _ (T1.setTop (mkF m 76 #[.val (.ref w5)] []))
  obtain ⟨T2, X2, e2, st2⟩ := getS2 X1 hx hZ hown (host := "") (Or.inl (hw _ (List.mem_of_getElem? (i := 47) rfl))) Via.refl e1 S_w4 (g := (mkF m 76 #[.val (.ref w5)] [])) rfl (hb hby d5_76)
  refine own_via st2 ?_
  show own_Go p e below s _ _ _ (T2.setTop (mkF m 79 #[.val (.ref w5)] [(.ref w4)]))
  exact own_retR X2 hx hlk Bd.returns rfl rfl (hb hby d5_79) ⟨rfl, e2, rfl⟩ (by decide) (by decide)
def Q0 (n0 : Nat) (v : Option Value) (h : Heap) (L : List Loc) : Prop := v = some (.int 1) ∧ Fr n0 L
set_option maxRecDepth 65536 in
set_option maxHeartbeats 40000000 in
theorem rm0 (l : Launch) (Z : State) (a0 : Array Value) (hw : ∀ d ∈ tables_1, d.before a0 Z = true) (ws : List Jvm.Cond) (p0 : Int32) (p1 : Int64) (p2 : Int64) (w0 : Addr) (w1 : Addr) (w2 : Addr) (w3 : Addr) (w4 : Addr) (w5 : Addr) (h0 : Heap) (n0 : Nat) (Z0 : n0 ≤ h0.size) (K : own_K Z h0 w0 w1 w2 w3 w4 w5) :
    MetFree l x (head1 (Jvm.Cond.code x code maxLocals ret :: ws) room_1) (fun a U => a = #[(.int p0), (.long p1), (.long p2)] ∧ Z.Warmed39 U.vm ∧ U.heap = h0) (fun _ _ _ _ _ => True) (fun _ U o U' => ∃ v L, o = .returned v ∧ Q0 n0 v U'.heap L ∧ FrameEnd U o U' L 0 0) := by
  refine MetFree.of_bodySF (plainFor_of_name pn0) hisR ?_
  intro p e s m args below meth c s₁ Bd hml0 hP hK
  obtain ⟨rfl, hZ, hh⟩ := hP
  have hx := Bd.exec
  have hby := Bd.bytes
  have hml : c.maxLocals = 10 := hml0
  have hown : s.vm.findClass "com/example/bericht/bericht/selector/OperatorIsEqualityPinLaw" = some m.cls := findClass_of_methodNamed Bd.named
  have hnm := (name_of_methodNamed Bd.named Bd.method).1
  have hlk := Bd.notSynchronized
  have X0 : Stand p l e room_1 s m #[(.int p0), (.long p1), (.long p2)] below meth c s₁ [] 0 0 := Stand.of_body Bd
  have e0 : s₁.heap = h0 := by rw [← hh, Bd.state]; rfl
  have K0 := K
  obtain ⟨S_w0, S_w1, S_w2, S_w3, S_w4, S_w5, E_w0, E_w1, E_w2, E_w3, E_w4, E_w5, F_w0_ordinal, F_w1_ordinal, F_w2_ordinal, F_w3_ordinal, F_w4_ordinal, F_w5_ordinal, n_w0_w1, n_w0_w2, n_w0_w3, n_w0_w4, n_w0_w5, n_w1_w2, n_w1_w3, n_w1_w4, n_w1_w5, n_w2_w3, n_w2_w4, n_w2_w5, n_w3_w4, n_w3_w5, n_w4_w5⟩ := K
  show own_Go p e below s (Q0 n0) 0 0 (s₁.setTop (entryFrame m #[(.int p0), (.long p1), (.long p2)] maxLocals))
  rw [show entryFrame m #[(.int p0), (.long p1), (.long p2)] maxLocals = mkF m 0 #[.val (.int p0), .val (.long p1), .second, .val (.long p2), .second, .unset, .unset, .unset, .unset, .unset] [] from by first | (simp [entryFrame, mkF, argsToLocals, Value.category, maxLocals]; done) | rfl]
  show own_Go p e below s _ _ _ (s₁.setTop (mkF m 0 #[.val (.int p0), .val (.long p1), .second, .val (.long p2), .second, .unset, .unset, .unset, .unset, .unset] []))
  refine own_via (fun _ k => XS.iloadN X0.here hx rfl (hb hby at_0) rfl k) ?_
  show own_Go p e below s _ _ _ (s₁.setTop (mkF m 1 #[.val (.int p0), .val (.long p1), .second, .val (.long p2), .second, .unset, .unset, .unset, .unset, .unset] [(.int p0)]))
  obtain ⟨_, _, ⟨T1, L1, k1, n1⟩, -, X1, ⟨Lc1, hQ1, l1, y1, z1⟩, st1⟩ := Jvm.LawKit.callS X0 hx (y := (⟨"com/example/bericht/bericht/selector/OperatorIsEqualityPinLaw", "pick", "(I)Lcom/example/bericht/bericht/selector/Comparison$Operator;"⟩ : MethodName)) hown (mvT hZ (hw _ (List.mem_of_getElem? (i := 0) rfl))) (mvT hZ (hw _ (List.mem_of_getElem? (i := 1) rfl))) (mvT hZ (hw _ (List.mem_of_getElem? (i := 2) rfl))) (mvT hZ (hw _ (List.mem_of_getElem? (i := 3) rfl))) (by decide) (backOf (W := 0) (rm1_0 l Z a0 hw [] p0 w0 w1 w2 w3 w4 w5 h0 n0 Z0 K0) hZ (hw _ (List.mem_of_getElem? (i := 3) rfl)) (hw _ (List.mem_of_getElem? (i := 2) rfl)) (by decide) (by decide)) (g := (mkF m 1 #[.val (.int p0), .val (.long p1), .second, .val (.long p2), .second, .unset, .unset, .unset, .unset, .unset] [(.int p0)])) rfl (by rw [hml]; rfl) (argsL := [(.int p0)]) (rest := []) (lenOf pd0 rfl) rfl (by show 2 * 0 + _ ≤ _; exact Nat.le_of_eq rfl) (hb hby at_1) (fun _ _ => ⟨rfl, e0, (by decide : 0 + 0 ≤ _), (by decide : 0 + 0 ≤ _)⟩)
  dsimp only [Pt.U, Pt.locs, Pt.cells, Pt.slots] at X1 l1 y1 z1 st1 hQ1
  subst l1 y1 z1
  obtain ⟨rfl, e1, hO1⟩ := hQ1
  rcases hO1 with rfl | rfl | rfl | rfl | rfl | rfl
  · refine own_via st1 ?_
    show own_Go p e below s _ _ _ (T1.setTop (mkF m 4 #[.val (.int p0), .val (.long p1), .second, .val (.long p2), .second, .unset, .unset, .unset, .unset, .unset] [(.ref w0)]))
    refine own_via (fun _ k => XS.astore X1.here hx rfl (hb hby at_4) rfl rfl (l' := #[.val (.int p0), .val (.long p1), .second, .val (.long p2), .second, .val (.ref w0), .unset, .unset, .unset, .unset]) rfl k) ?_
    show own_Go p e below s _ _ _ (T1.setTop (mkF m 6 #[.val (.int p0), .val (.long p1), .second, .val (.long p2), .second, .val (.ref w0), .unset, .unset, .unset, .unset] []))
    refine own_via (fun _ k => XS.aload X1.here hx rfl (hb hby at_6) rfl rfl k) ?_
    show own_Go p e below s _ _ _ (T1.setTop (mkF m 8 #[.val (.int p0), .val (.long p1), .second, .val (.long p2), .second, .val (.ref w0), .unset, .unset, .unset, .unset] [(.ref w0)]))
    obtain ⟨cq2, kq2, q2a, q2b, q2c⟩ := isOf hZ e1 E_w0
    obtain ⟨_, _, ⟨T2, L2, k2, n2⟩, -, X2, ⟨Lc2, hQ2, l2, y2, z2⟩, st2⟩ := X1.virtualBack hx (y := (⟨"com/example/bericht/bericht/selector/Comparison$Operator", "isEquality", "()Z"⟩ : MethodName)) (z := (⟨"com/example/bericht/bericht/selector/Comparison$Operator", "isEquality", "()Z"⟩ : MethodName)) hown (mvT hZ (hw _ (List.mem_of_getElem? (i := 8) rfl))) (mvT hZ (hw _ (List.mem_of_getElem? (i := 9) rfl))) (notFace_of_selects (args := #[]) (mvT hZ (hw _ (List.mem_of_getElem? (i := 11) rfl)))) (mvT hZ (hw _ (List.mem_of_getElem? (i := 11) rfl))) (mvT hZ (hw _ (List.mem_of_getElem? (i := 10) rfl))) (by decide) (backOf (W := 0) (rm2_0 l Z a0 hw [] w0 w1 w2 w3 w4 w5 h0 n0 Z0 K0) hZ (hw _ (List.mem_of_getElem? (i := 12) rfl)) (hw _ (List.mem_of_getElem? (i := 6) rfl)) (by decide) (by decide)) q2a q2c (g := (mkF m 8 #[.val (.int p0), .val (.long p1), .second, .val (.long p2), .second, .val (.ref w0), .unset, .unset, .unset, .unset] [(.ref w0)])) rfl (by rw [hml]; rfl) (Steps.refl _) (argsL := []) (rest := []) (lenOf pd1 rfl) rfl (by show 2 * 0 + _ ≤ _; exact Nat.le_of_eq rfl) (hb hby at_8) (fun _ _ => ⟨rfl, e1, (by decide : 0 + 0 ≤ _), (by decide : 0 + 0 ≤ _)⟩)
    dsimp only [Pt.U, Pt.locs, Pt.cells, Pt.slots] at X2 l2 y2 z2 st2 hQ2
    subst l2 y2 z2
    obtain ⟨rfl, e2, hO2⟩ := hQ2
    obtain rfl := hO2
    refine own_tr st2 ?_
    show own_Go p e below s _ _ _ (T2.setTop (mkF m 11 #[.val (.int p0), .val (.long p1), .second, .val (.long p2), .second, .val (.ref w0), .unset, .unset, .unset, .unset] [(.int (1 : Int32))]))
    refine own_via (fun _ k => XS.istore X2.here hx rfl (hb hby at_11) rfl (l' := #[.val (.int p0), .val (.long p1), .second, .val (.long p2), .second, .val (.ref w0), .val (.int (1 : Int32)), .unset, .unset, .unset]) rfl k) ?_
    show own_Go p e below s _ _ _ (T2.setTop (mkF m 13 #[.val (.int p0), .val (.long p1), .second, .val (.long p2), .second, .val (.ref w0), .val (.int (1 : Int32)), .unset, .unset, .unset] []))
    refine own_via (fun _ k => XS.aload X2.here hx rfl (hb hby at_13) rfl rfl k) ?_
    show own_Go p e below s _ _ _ (T2.setTop (mkF m 15 #[.val (.int p0), .val (.long p1), .second, .val (.long p2), .second, .val (.ref w0), .val (.int (1 : Int32)), .unset, .unset, .unset] [(.ref w0)]))
    refine own_via (fun _ k => XS.lloadN X2.here hx rfl (hb hby at_15) rfl k) ?_
    show own_Go p e below s _ _ _ (T2.setTop (mkF m 16 #[.val (.int p0), .val (.long p1), .second, .val (.long p2), .second, .val (.ref w0), .val (.int (1 : Int32)), .unset, .unset, .unset] [(.long p1), (.ref w0)]))
    refine own_via (fun _ k => XS.lloadN X2.here hx rfl (hb hby at_16) rfl k) ?_
    show own_Go p e below s _ _ _ (T2.setTop (mkF m 17 #[.val (.int p0), .val (.long p1), .second, .val (.long p2), .second, .val (.ref w0), .val (.int (1 : Int32)), .unset, .unset, .unset] [(.long p2), (.long p1), (.ref w0)]))
    obtain ⟨cq3, kq3, q3a, q3b, q3c⟩ := isOf hZ e2 E_w0
    obtain ⟨_, _, ⟨T3, L3, k3, n3⟩, -, X3, ⟨Lc3, hQ3, l3, y3, z3⟩, st3⟩ := X2.virtualBack hx (y := (⟨"com/example/bericht/bericht/selector/Comparison$Operator", "holds", "(JJ)Z"⟩ : MethodName)) (z := (⟨"com/example/bericht/bericht/selector/Comparison$Operator", "holds", "(JJ)Z"⟩ : MethodName)) hown (mvT hZ (hw _ (List.mem_of_getElem? (i := 14) rfl))) (mvT hZ (hw _ (List.mem_of_getElem? (i := 15) rfl))) (notFace_of_selects (args := #[]) (mvT hZ (hw _ (List.mem_of_getElem? (i := 17) rfl)))) (mvT hZ (hw _ (List.mem_of_getElem? (i := 17) rfl))) (mvT hZ (hw _ (List.mem_of_getElem? (i := 16) rfl))) (by decide) (backOf (W := 0) (rm3_0 l Z a0 hw [] p1 p2 w0 w1 w2 w3 w4 w5 h0 n0 Z0 K0) hZ (hw _ (List.mem_of_getElem? (i := 18) rfl)) (hw _ (List.mem_of_getElem? (i := 6) rfl)) (by decide) (by decide)) q3a q3c (g := (mkF m 17 #[.val (.int p0), .val (.long p1), .second, .val (.long p2), .second, .val (.ref w0), .val (.int (1 : Int32)), .unset, .unset, .unset] [(.long p2), (.long p1), (.ref w0)])) rfl (by rw [hml]; rfl) (Steps.refl _) (argsL := [(.long p1), (.long p2)]) (rest := []) (lenOf pd3 rfl) rfl (by show 2 * 0 + _ ≤ _; exact Nat.le_of_eq rfl) (hb hby at_17) (fun _ _ => ⟨rfl, e2, (by decide : 0 + 0 ≤ _), (by decide : 0 + 0 ≤ _)⟩)
    dsimp only [Pt.U, Pt.locs, Pt.cells, Pt.slots] at X3 l3 y3 z3 st3 hQ3
    subst l3 y3 z3
    obtain ⟨rfl, e3, hO3⟩ := hQ3
    rcases hO3 with ⟨hr3_0_0, rfl⟩ | ⟨hr3_1_0, rfl⟩
    · refine own_tr st3 ?_
      show own_Go p e below s _ _ _ (T3.setTop (mkF m 20 #[.val (.int p0), .val (.long p1), .second, .val (.long p2), .second, .val (.ref w0), .val (.int (1 : Int32)), .unset, .unset, .unset] [(.int (1 : Int32))]))
      refine own_via (fun _ k => XS.aload X3.here hx rfl (hb hby at_20) rfl rfl k) ?_
      show own_Go p e below s _ _ _ (T3.setTop (mkF m 22 #[.val (.int p0), .val (.long p1), .second, .val (.long p2), .second, .val (.ref w0), .val (.int (1 : Int32)), .unset, .unset, .unset] [(.ref w0), (.int (1 : Int32))]))
      refine own_via (fun _ k => XS.lloadN X3.here hx rfl (hb hby at_22) rfl k) ?_
      show own_Go p e below s _ _ _ (T3.setTop (mkF m 23 #[.val (.int p0), .val (.long p1), .second, .val (.long p2), .second, .val (.ref w0), .val (.int (1 : Int32)), .unset, .unset, .unset] [(.long p2), (.ref w0), (.int (1 : Int32))]))
      refine own_via (fun _ k => XS.lloadN X3.here hx rfl (hb hby at_23) rfl k) ?_
      show own_Go p e below s _ _ _ (T3.setTop (mkF m 24 #[.val (.int p0), .val (.long p1), .second, .val (.long p2), .second, .val (.ref w0), .val (.int (1 : Int32)), .unset, .unset, .unset] [(.long p1), (.long p2), (.ref w0), (.int (1 : Int32))]))
      obtain ⟨cq4, kq4, q4a, q4b, q4c⟩ := isOf hZ e3 E_w0
      obtain ⟨_, _, ⟨T4, L4, k4, n4⟩, -, X4, ⟨Lc4, hQ4, l4, y4, z4⟩, st4⟩ := X3.virtualBack hx (y := (⟨"com/example/bericht/bericht/selector/Comparison$Operator", "holds", "(JJ)Z"⟩ : MethodName)) (z := (⟨"com/example/bericht/bericht/selector/Comparison$Operator", "holds", "(JJ)Z"⟩ : MethodName)) hown (mvT hZ (hw _ (List.mem_of_getElem? (i := 14) rfl))) (mvT hZ (hw _ (List.mem_of_getElem? (i := 15) rfl))) (notFace_of_selects (args := #[]) (mvT hZ (hw _ (List.mem_of_getElem? (i := 17) rfl)))) (mvT hZ (hw _ (List.mem_of_getElem? (i := 17) rfl))) (mvT hZ (hw _ (List.mem_of_getElem? (i := 16) rfl))) (by decide) (backOf (W := 1) (rm3_0 l Z a0 hw [] p2 p1 w0 w1 w2 w3 w4 w5 h0 n0 Z0 K0) hZ (hw _ (List.mem_of_getElem? (i := 18) rfl)) (hw _ (List.mem_of_getElem? (i := 6) rfl)) (by decide) (by decide)) q4a q4c (g := (mkF m 24 #[.val (.int p0), .val (.long p1), .second, .val (.long p2), .second, .val (.ref w0), .val (.int (1 : Int32)), .unset, .unset, .unset] [(.long p1), (.long p2), (.ref w0), (.int (1 : Int32))])) rfl (by rw [hml]; rfl) (Steps.refl _) (argsL := [(.long p2), (.long p1)]) (rest := [(.int (1 : Int32))]) (lenOf pd3 rfl) rfl (by show 2 * 0 + _ ≤ _; exact Nat.le_of_eq rfl) (hb hby at_24) (fun _ _ => ⟨rfl, e3, (by decide : 0 + 0 ≤ _), (by decide : 0 + 0 ≤ _)⟩)
      dsimp only [Pt.U, Pt.locs, Pt.cells, Pt.slots] at X4 l4 y4 z4 st4 hQ4
      subst l4 y4 z4
      obtain ⟨rfl, e4, hO4⟩ := hQ4
      rcases hO4 with ⟨hr4_0_0, rfl⟩ | ⟨hr4_1_0, rfl⟩
      · refine own_tr st4 ?_
        show own_Go p e below s _ _ _ (T4.setTop (mkF m 27 #[.val (.int p0), .val (.long p1), .second, .val (.long p2), .second, .val (.ref w0), .val (.int (1 : Int32)), .unset, .unset, .unset] [(.int (1 : Int32)), (.int (1 : Int32))]))
        refine own_via (fun _ k => XS.icmpNo X4.here hx rfl (hb hby at_27) rfl (teq (by decide : (1 : Int32) = (1 : Int32))).2 k) ?_
        show own_Go p e below s _ _ _ (T4.setTop (mkF m 30 #[.val (.int p0), .val (.long p1), .second, .val (.long p2), .second, .val (.ref w0), .val (.int (1 : Int32)), .unset, .unset, .unset] []))
        refine own_via (fun _ k => XS.iconst X4.here hx rfl (hb hby at_30) k) ?_
        show own_Go p e below s _ _ _ (T4.setTop (mkF m 31 #[.val (.int p0), .val (.long p1), .second, .val (.long p2), .second, .val (.ref w0), .val (.int (1 : Int32)), .unset, .unset, .unset] [(.int (1 : Int32))]))
        refine own_via (fun _ k => XS.goto X4.here hx rfl (pc0 := 31) (pc' := 35) rfl (hb hby at_31) (by decide) (by decide) k) ?_
        show own_Go p e below s _ _ _ (T4.setTop (mkF m 35 #[.val (.int p0), .val (.long p1), .second, .val (.long p2), .second, .val (.ref w0), .val (.int (1 : Int32)), .unset, .unset, .unset] [(.int (1 : Int32))]))
        refine own_via (fun _ k => XS.istore X4.here hx rfl (hb hby at_35) rfl (l' := #[.val (.int p0), .val (.long p1), .second, .val (.long p2), .second, .val (.ref w0), .val (.int (1 : Int32)), .val (.int (1 : Int32)), .unset, .unset]) rfl k) ?_
        show own_Go p e below s _ _ _ (T4.setTop (mkF m 37 #[.val (.int p0), .val (.long p1), .second, .val (.long p2), .second, .val (.ref w0), .val (.int (1 : Int32)), .val (.int (1 : Int32)), .unset, .unset] []))
        refine own_via (fun _ k => XS.aload X4.here hx rfl (hb hby at_37) rfl rfl k) ?_
        show own_Go p e below s _ _ _ (T4.setTop (mkF m 39 #[.val (.int p0), .val (.long p1), .second, .val (.long p2), .second, .val (.ref w0), .val (.int (1 : Int32)), .val (.int (1 : Int32)), .unset, .unset] [(.ref w0)]))
        refine own_via (fun _ k => XS.lconst X4.here hx rfl (hb hby at_39) k) ?_
        show own_Go p e below s _ _ _ (T4.setTop (mkF m 40 #[.val (.int p0), .val (.long p1), .second, .val (.long p2), .second, .val (.ref w0), .val (.int (1 : Int32)), .val (.int (1 : Int32)), .unset, .unset] [(.long (0 : Int64)), (.ref w0)]))
        refine own_via (fun _ k => XS.lconst X4.here hx rfl (hb hby at_40) k) ?_
        show own_Go p e below s _ _ _ (T4.setTop (mkF m 41 #[.val (.int p0), .val (.long p1), .second, .val (.long p2), .second, .val (.ref w0), .val (.int (1 : Int32)), .val (.int (1 : Int32)), .unset, .unset] [(.long (1 : Int64)), (.long (0 : Int64)), (.ref w0)]))
        obtain ⟨cq5, kq5, q5a, q5b, q5c⟩ := isOf hZ e4 E_w0
        obtain ⟨_, _, ⟨T5, L5, k5, n5⟩, -, X5, ⟨Lc5, hQ5, l5, y5, z5⟩, st5⟩ := X4.virtualBack hx (y := (⟨"com/example/bericht/bericht/selector/Comparison$Operator", "holds", "(JJ)Z"⟩ : MethodName)) (z := (⟨"com/example/bericht/bericht/selector/Comparison$Operator", "holds", "(JJ)Z"⟩ : MethodName)) hown (mvT hZ (hw _ (List.mem_of_getElem? (i := 14) rfl))) (mvT hZ (hw _ (List.mem_of_getElem? (i := 15) rfl))) (notFace_of_selects (args := #[]) (mvT hZ (hw _ (List.mem_of_getElem? (i := 17) rfl)))) (mvT hZ (hw _ (List.mem_of_getElem? (i := 17) rfl))) (mvT hZ (hw _ (List.mem_of_getElem? (i := 16) rfl))) (by decide) (backOf (W := 0) (rm3_1 l Z a0 hw [] w0 w1 w2 w3 w4 w5 h0 n0 Z0 K0) hZ (hw _ (List.mem_of_getElem? (i := 18) rfl)) (hw _ (List.mem_of_getElem? (i := 6) rfl)) (by decide) (by decide)) q5a q5c (g := (mkF m 41 #[.val (.int p0), .val (.long p1), .second, .val (.long p2), .second, .val (.ref w0), .val (.int (1 : Int32)), .val (.int (1 : Int32)), .unset, .unset] [(.long (1 : Int64)), (.long (0 : Int64)), (.ref w0)])) rfl (by rw [hml]; rfl) (Steps.refl _) (argsL := [(.long (0 : Int64)), (.long (1 : Int64))]) (rest := []) (lenOf pd3 rfl) rfl (by show 2 * 0 + _ ≤ _; exact Nat.le_of_eq rfl) (hb hby at_41) (fun _ _ => ⟨rfl, e4, (by decide : 0 + 0 ≤ _), (by decide : 0 + 0 ≤ _)⟩)
        dsimp only [Pt.U, Pt.locs, Pt.cells, Pt.slots] at X5 l5 y5 z5 st5 hQ5
        subst l5 y5 z5
        obtain ⟨rfl, e5, hO5⟩ := hQ5
        obtain rfl := hO5
        refine own_tr st5 ?_
        show own_Go p e below s _ _ _ (T5.setTop (mkF m 44 #[.val (.int p0), .val (.long p1), .second, .val (.long p2), .second, .val (.ref w0), .val (.int (1 : Int32)), .val (.int (1 : Int32)), .unset, .unset] [(.int (0 : Int32))]))
        refine own_via (fun _ k => XS.aload X5.here hx rfl (hb hby at_44) rfl rfl k) ?_
        show own_Go p e below s _ _ _ (T5.setTop (mkF m 46 #[.val (.int p0), .val (.long p1), .second, .val (.long p2), .second, .val (.ref w0), .val (.int (1 : Int32)), .val (.int (1 : Int32)), .unset, .unset] [(.ref w0), (.int (0 : Int32))]))
        refine own_via (fun _ k => XS.lconst X5.here hx rfl (hb hby at_46) k) ?_
        show own_Go p e below s _ _ _ (T5.setTop (mkF m 47 #[.val (.int p0), .val (.long p1), .second, .val (.long p2), .second, .val (.ref w0), .val (.int (1 : Int32)), .val (.int (1 : Int32)), .unset, .unset] [(.long (1 : Int64)), (.ref w0), (.int (0 : Int32))]))
        refine own_via (fun _ k => XS.lconst X5.here hx rfl (hb hby at_47) k) ?_
        show own_Go p e below s _ _ _ (T5.setTop (mkF m 48 #[.val (.int p0), .val (.long p1), .second, .val (.long p2), .second, .val (.ref w0), .val (.int (1 : Int32)), .val (.int (1 : Int32)), .unset, .unset] [(.long (0 : Int64)), (.long (1 : Int64)), (.ref w0), (.int (0 : Int32))]))
        obtain ⟨cq6, kq6, q6a, q6b, q6c⟩ := isOf hZ e5 E_w0
        obtain ⟨_, _, ⟨T6, L6, k6, n6⟩, -, X6, ⟨Lc6, hQ6, l6, y6, z6⟩, st6⟩ := X5.virtualBack hx (y := (⟨"com/example/bericht/bericht/selector/Comparison$Operator", "holds", "(JJ)Z"⟩ : MethodName)) (z := (⟨"com/example/bericht/bericht/selector/Comparison$Operator", "holds", "(JJ)Z"⟩ : MethodName)) hown (mvT hZ (hw _ (List.mem_of_getElem? (i := 14) rfl))) (mvT hZ (hw _ (List.mem_of_getElem? (i := 15) rfl))) (notFace_of_selects (args := #[]) (mvT hZ (hw _ (List.mem_of_getElem? (i := 17) rfl)))) (mvT hZ (hw _ (List.mem_of_getElem? (i := 17) rfl))) (mvT hZ (hw _ (List.mem_of_getElem? (i := 16) rfl))) (by decide) (backOf (W := 1) (rm3_2 l Z a0 hw [] w0 w1 w2 w3 w4 w5 h0 n0 Z0 K0) hZ (hw _ (List.mem_of_getElem? (i := 18) rfl)) (hw _ (List.mem_of_getElem? (i := 6) rfl)) (by decide) (by decide)) q6a q6c (g := (mkF m 48 #[.val (.int p0), .val (.long p1), .second, .val (.long p2), .second, .val (.ref w0), .val (.int (1 : Int32)), .val (.int (1 : Int32)), .unset, .unset] [(.long (0 : Int64)), (.long (1 : Int64)), (.ref w0), (.int (0 : Int32))])) rfl (by rw [hml]; rfl) (Steps.refl _) (argsL := [(.long (1 : Int64)), (.long (0 : Int64))]) (rest := [(.int (0 : Int32))]) (lenOf pd3 rfl) rfl (by show 2 * 0 + _ ≤ _; exact Nat.le_of_eq rfl) (hb hby at_48) (fun _ _ => ⟨rfl, e5, (by decide : 0 + 0 ≤ _), (by decide : 0 + 0 ≤ _)⟩)
        dsimp only [Pt.U, Pt.locs, Pt.cells, Pt.slots] at X6 l6 y6 z6 st6 hQ6
        subst l6 y6 z6
        obtain ⟨rfl, e6, hO6⟩ := hQ6
        obtain rfl := hO6
        refine own_tr st6 ?_
        show own_Go p e below s _ _ _ (T6.setTop (mkF m 51 #[.val (.int p0), .val (.long p1), .second, .val (.long p2), .second, .val (.ref w0), .val (.int (1 : Int32)), .val (.int (1 : Int32)), .unset, .unset] [(.int (0 : Int32)), (.int (0 : Int32))]))
        refine own_via (fun _ k => XS.icmpYes X6.here hx rfl (pc0 := 51) (pc' := 58) rfl (hb hby at_51) rfl (teq (by decide : (0 : Int32) = (0 : Int32))).1 (by decide) (by decide) k) ?_
        show own_Go p e below s _ _ _ (T6.setTop (mkF m 58 #[.val (.int p0), .val (.long p1), .second, .val (.long p2), .second, .val (.ref w0), .val (.int (1 : Int32)), .val (.int (1 : Int32)), .unset, .unset] []))
        refine own_via (fun _ k => XS.iconst X6.here hx rfl (hb hby at_58) k) ?_
        show own_Go p e below s _ _ _ (T6.setTop (mkF m 59 #[.val (.int p0), .val (.long p1), .second, .val (.long p2), .second, .val (.ref w0), .val (.int (1 : Int32)), .val (.int (1 : Int32)), .unset, .unset] [(.int (0 : Int32))]))
        refine own_via (fun _ k => XS.istore X6.here hx rfl (hb hby at_59) rfl (l' := #[.val (.int p0), .val (.long p1), .second, .val (.long p2), .second, .val (.ref w0), .val (.int (1 : Int32)), .val (.int (1 : Int32)), .val (.int (0 : Int32)), .unset]) rfl k) ?_
        show own_Go p e below s _ _ _ (T6.setTop (mkF m 61 #[.val (.int p0), .val (.long p1), .second, .val (.long p2), .second, .val (.ref w0), .val (.int (1 : Int32)), .val (.int (1 : Int32)), .val (.int (0 : Int32)), .unset] []))
        refine own_via (fun _ k => XS.aload X6.here hx rfl (hb hby at_61) rfl rfl k) ?_
        show own_Go p e below s _ _ _ (T6.setTop (mkF m 63 #[.val (.int p0), .val (.long p1), .second, .val (.long p2), .second, .val (.ref w0), .val (.int (1 : Int32)), .val (.int (1 : Int32)), .val (.int (0 : Int32)), .unset] [(.ref w0)]))
        obtain ⟨cq7, kq7, q7a, q7b, q7c⟩ := isOf hZ e6 E_w0
        obtain ⟨_, _, ⟨T7, L7, k7, n7⟩, -, X7, ⟨Lc7, hQ7, l7, y7, z7⟩, st7⟩ := X6.virtualBack hx (y := (⟨"com/example/bericht/bericht/selector/Comparison$Operator", "flipped", "()Lcom/example/bericht/bericht/selector/Comparison$Operator;"⟩ : MethodName)) (z := (⟨"com/example/bericht/bericht/selector/Comparison$Operator", "flipped", "()Lcom/example/bericht/bericht/selector/Comparison$Operator;"⟩ : MethodName)) hown (mvT hZ (hw _ (List.mem_of_getElem? (i := 28) rfl))) (mvT hZ (hw _ (List.mem_of_getElem? (i := 29) rfl))) (notFace_of_selects (args := #[]) (mvT hZ (hw _ (List.mem_of_getElem? (i := 31) rfl)))) (mvT hZ (hw _ (List.mem_of_getElem? (i := 31) rfl))) (mvT hZ (hw _ (List.mem_of_getElem? (i := 30) rfl))) (by decide) (backOf (W := 0) (rm5_0 l Z a0 hw [] w0 w1 w2 w3 w4 w5 h0 n0 Z0 K0) hZ (hw _ (List.mem_of_getElem? (i := 32) rfl)) (hw _ (List.mem_of_getElem? (i := 6) rfl)) (by decide) (by decide)) q7a q7c (g := (mkF m 63 #[.val (.int p0), .val (.long p1), .second, .val (.long p2), .second, .val (.ref w0), .val (.int (1 : Int32)), .val (.int (1 : Int32)), .val (.int (0 : Int32)), .unset] [(.ref w0)])) rfl (by rw [hml]; rfl) (Steps.refl _) (argsL := []) (rest := []) (lenOf pd4 rfl) rfl (by show 2 * 0 + _ ≤ _; exact Nat.le_of_eq rfl) (hb hby at_63) (fun _ _ => ⟨rfl, e6, (by decide : 0 + 0 ≤ _), (by decide : 0 + 0 ≤ _)⟩)
        dsimp only [Pt.U, Pt.locs, Pt.cells, Pt.slots] at X7 l7 y7 z7 st7 hQ7
        subst l7 y7 z7
        obtain ⟨rfl, e7, hO7⟩ := hQ7
        obtain rfl := hO7
        refine own_tr st7 ?_
        show own_Go p e below s _ _ _ (T7.setTop (mkF m 66 #[.val (.int p0), .val (.long p1), .second, .val (.long p2), .second, .val (.ref w0), .val (.int (1 : Int32)), .val (.int (1 : Int32)), .val (.int (0 : Int32)), .unset] [(.ref w0)]))
        refine own_via (fun _ k => XS.aload X7.here hx rfl (hb hby at_66) rfl rfl k) ?_
        show own_Go p e below s _ _ _ (T7.setTop (mkF m 68 #[.val (.int p0), .val (.long p1), .second, .val (.long p2), .second, .val (.ref w0), .val (.int (1 : Int32)), .val (.int (1 : Int32)), .val (.int (0 : Int32)), .unset] [(.ref w0), (.ref w0)]))
        refine own_via (fun _ k => Jvm.RoadKit.acmp (g := (mkF m 68 #[.val (.int p0), .val (.long p1), .second, .val (.long p2), .second, .val (.ref w0), .val (.int (1 : Int32)), .val (.int (1 : Int32)), .val (.int (0 : Int32)), .unset] [(.ref w0), (.ref w0)])) X7 hx rfl rfl rfl (pc0 := 68) (pc' := 71) (same := true) rfl (hb hby at_68) rfl (decide_eq_true rfl) (by decide) (by decide) k) ?_
        show own_Go p e below s _ _ _ (T7.setTop (mkF m 71 #[.val (.int p0), .val (.long p1), .second, .val (.long p2), .second, .val (.ref w0), .val (.int (1 : Int32)), .val (.int (1 : Int32)), .val (.int (0 : Int32)), .unset] []))
        refine own_via (fun _ k => XS.iconst X7.here hx rfl (hb hby at_71) k) ?_
        show own_Go p e below s _ _ _ (T7.setTop (mkF m 72 #[.val (.int p0), .val (.long p1), .second, .val (.long p2), .second, .val (.ref w0), .val (.int (1 : Int32)), .val (.int (1 : Int32)), .val (.int (0 : Int32)), .unset] [(.int (1 : Int32))]))
        refine own_via (fun _ k => XS.goto X7.here hx rfl (pc0 := 72) (pc' := 76) rfl (hb hby at_72) (by decide) (by decide) k) ?_
        show own_Go p e below s _ _ _ (T7.setTop (mkF m 76 #[.val (.int p0), .val (.long p1), .second, .val (.long p2), .second, .val (.ref w0), .val (.int (1 : Int32)), .val (.int (1 : Int32)), .val (.int (0 : Int32)), .unset] [(.int (1 : Int32))]))
        refine own_via (fun _ k => XS.istore X7.here hx rfl (hb hby at_76) rfl (l' := #[.val (.int p0), .val (.long p1), .second, .val (.long p2), .second, .val (.ref w0), .val (.int (1 : Int32)), .val (.int (1 : Int32)), .val (.int (0 : Int32)), .val (.int (1 : Int32))]) rfl k) ?_
        show own_Go p e below s _ _ _ (T7.setTop (mkF m 78 #[.val (.int p0), .val (.long p1), .second, .val (.long p2), .second, .val (.ref w0), .val (.int (1 : Int32)), .val (.int (1 : Int32)), .val (.int (0 : Int32)), .val (.int (1 : Int32))] []))
        refine own_via (fun _ k => XS.iload X7.here hx rfl (hb hby at_78) rfl k) ?_
        show own_Go p e below s _ _ _ (T7.setTop (mkF m 80 #[.val (.int p0), .val (.long p1), .second, .val (.long p2), .second, .val (.ref w0), .val (.int (1 : Int32)), .val (.int (1 : Int32)), .val (.int (0 : Int32)), .val (.int (1 : Int32))] [(.int (1 : Int32))]))
        refine own_via (fun _ k => XS.ifNo X7.here hx rfl (hb hby at_80) rfl ((if0 _ _).trans (feq (by decide : ¬ ((1 : Int32) = (0 : Int32)))).1) k) ?_
        show own_Go p e below s _ _ _ (T7.setTop (mkF m 83 #[.val (.int p0), .val (.long p1), .second, .val (.long p2), .second, .val (.ref w0), .val (.int (1 : Int32)), .val (.int (1 : Int32)), .val (.int (0 : Int32)), .val (.int (1 : Int32))] []))
        refine own_via (fun _ k => XS.iload X7.here hx rfl (hb hby at_83) rfl k) ?_
        show own_Go p e below s _ _ _ (T7.setTop (mkF m 85 #[.val (.int p0), .val (.long p1), .second, .val (.long p2), .second, .val (.ref w0), .val (.int (1 : Int32)), .val (.int (1 : Int32)), .val (.int (0 : Int32)), .val (.int (1 : Int32))] [(.int (1 : Int32))]))
        refine own_via (fun _ k => XS.ifNo X7.here hx rfl (hb hby at_85) rfl ((if0 _ _).trans (feq (by decide : ¬ ((1 : Int32) = (0 : Int32)))).1) k) ?_
        show own_Go p e below s _ _ _ (T7.setTop (mkF m 88 #[.val (.int p0), .val (.long p1), .second, .val (.long p2), .second, .val (.ref w0), .val (.int (1 : Int32)), .val (.int (1 : Int32)), .val (.int (0 : Int32)), .val (.int (1 : Int32))] []))
        refine own_via (fun _ k => XS.iload X7.here hx rfl (hb hby at_88) rfl k) ?_
        show own_Go p e below s _ _ _ (T7.setTop (mkF m 90 #[.val (.int p0), .val (.long p1), .second, .val (.long p2), .second, .val (.ref w0), .val (.int (1 : Int32)), .val (.int (1 : Int32)), .val (.int (0 : Int32)), .val (.int (1 : Int32))] [(.int (0 : Int32))]))
        refine own_via (fun _ k => XS.ifNo X7.here hx rfl (hb hby at_90) rfl ((if0 _ _).trans (teq (by decide : (0 : Int32) = (0 : Int32))).2) k) ?_
        show own_Go p e below s _ _ _ (T7.setTop (mkF m 93 #[.val (.int p0), .val (.long p1), .second, .val (.long p2), .second, .val (.ref w0), .val (.int (1 : Int32)), .val (.int (1 : Int32)), .val (.int (0 : Int32)), .val (.int (1 : Int32))] []))
        refine own_via (fun _ k => XS.iload X7.here hx rfl (hb hby at_93) rfl k) ?_
        show own_Go p e below s _ _ _ (T7.setTop (mkF m 95 #[.val (.int p0), .val (.long p1), .second, .val (.long p2), .second, .val (.ref w0), .val (.int (1 : Int32)), .val (.int (1 : Int32)), .val (.int (0 : Int32)), .val (.int (1 : Int32))] [(.int (1 : Int32))]))
        refine own_via (fun _ k => XS.ifNo X7.here hx rfl (hb hby at_95) rfl ((if0 _ _).trans (feq (by decide : ¬ ((1 : Int32) = (0 : Int32)))).1) k) ?_
        show own_Go p e below s _ _ _ (T7.setTop (mkF m 98 #[.val (.int p0), .val (.long p1), .second, .val (.long p2), .second, .val (.ref w0), .val (.int (1 : Int32)), .val (.int (1 : Int32)), .val (.int (0 : Int32)), .val (.int (1 : Int32))] []))
        refine own_via (fun _ k => XS.iconst X7.here hx rfl (hb hby at_98) k) ?_
        show own_Go p e below s _ _ _ (T7.setTop (mkF m 99 #[.val (.int p0), .val (.long p1), .second, .val (.long p2), .second, .val (.ref w0), .val (.int (1 : Int32)), .val (.int (1 : Int32)), .val (.int (0 : Int32)), .val (.int (1 : Int32))] [(.int (1 : Int32))]))
        refine own_via (fun _ k => XS.goto X7.here hx rfl (pc0 := 99) (pc' := 103) rfl (hb hby at_99) (by decide) (by decide) k) ?_
        show own_Go p e below s _ _ _ (T7.setTop (mkF m 103 #[.val (.int p0), .val (.long p1), .second, .val (.long p2), .second, .val (.ref w0), .val (.int (1 : Int32)), .val (.int (1 : Int32)), .val (.int (0 : Int32)), .val (.int (1 : Int32))] [(.int (1 : Int32))]))
        exact own_retZ X7 hx hlk (t := .boolean) Bd.returns (by simp) (hb hby at_103) (z' := (1 : Int32)) (by first | rfl | decide) ⟨rfl, (Fr.nil n0)⟩ (by decide) (by decide)
      · exact absurd (Eq.symm hr3_0_0) hr4_1_0
    · refine own_tr st3 ?_
      show own_Go p e below s _ _ _ (T3.setTop (mkF m 20 #[.val (.int p0), .val (.long p1), .second, .val (.long p2), .second, .val (.ref w0), .val (.int (1 : Int32)), .unset, .unset, .unset] [(.int (0 : Int32))]))
      refine own_via (fun _ k => XS.aload X3.here hx rfl (hb hby at_20) rfl rfl k) ?_
      show own_Go p e below s _ _ _ (T3.setTop (mkF m 22 #[.val (.int p0), .val (.long p1), .second, .val (.long p2), .second, .val (.ref w0), .val (.int (1 : Int32)), .unset, .unset, .unset] [(.ref w0), (.int (0 : Int32))]))
      refine own_via (fun _ k => XS.lloadN X3.here hx rfl (hb hby at_22) rfl k) ?_
      show own_Go p e below s _ _ _ (T3.setTop (mkF m 23 #[.val (.int p0), .val (.long p1), .second, .val (.long p2), .second, .val (.ref w0), .val (.int (1 : Int32)), .unset, .unset, .unset] [(.long p2), (.ref w0), (.int (0 : Int32))]))
      refine own_via (fun _ k => XS.lloadN X3.here hx rfl (hb hby at_23) rfl k) ?_
      show own_Go p e below s _ _ _ (T3.setTop (mkF m 24 #[.val (.int p0), .val (.long p1), .second, .val (.long p2), .second, .val (.ref w0), .val (.int (1 : Int32)), .unset, .unset, .unset] [(.long p1), (.long p2), (.ref w0), (.int (0 : Int32))]))
      obtain ⟨cq8, kq8, q8a, q8b, q8c⟩ := isOf hZ e3 E_w0
      obtain ⟨_, _, ⟨T8, L8, k8, n8⟩, -, X8, ⟨Lc8, hQ8, l8, y8, z8⟩, st8⟩ := X3.virtualBack hx (y := (⟨"com/example/bericht/bericht/selector/Comparison$Operator", "holds", "(JJ)Z"⟩ : MethodName)) (z := (⟨"com/example/bericht/bericht/selector/Comparison$Operator", "holds", "(JJ)Z"⟩ : MethodName)) hown (mvT hZ (hw _ (List.mem_of_getElem? (i := 14) rfl))) (mvT hZ (hw _ (List.mem_of_getElem? (i := 15) rfl))) (notFace_of_selects (args := #[]) (mvT hZ (hw _ (List.mem_of_getElem? (i := 17) rfl)))) (mvT hZ (hw _ (List.mem_of_getElem? (i := 17) rfl))) (mvT hZ (hw _ (List.mem_of_getElem? (i := 16) rfl))) (by decide) (backOf (W := 1) (rm3_0 l Z a0 hw [] p2 p1 w0 w1 w2 w3 w4 w5 h0 n0 Z0 K0) hZ (hw _ (List.mem_of_getElem? (i := 18) rfl)) (hw _ (List.mem_of_getElem? (i := 6) rfl)) (by decide) (by decide)) q8a q8c (g := (mkF m 24 #[.val (.int p0), .val (.long p1), .second, .val (.long p2), .second, .val (.ref w0), .val (.int (1 : Int32)), .unset, .unset, .unset] [(.long p1), (.long p2), (.ref w0), (.int (0 : Int32))])) rfl (by rw [hml]; rfl) (Steps.refl _) (argsL := [(.long p2), (.long p1)]) (rest := [(.int (0 : Int32))]) (lenOf pd3 rfl) rfl (by show 2 * 0 + _ ≤ _; exact Nat.le_of_eq rfl) (hb hby at_24) (fun _ _ => ⟨rfl, e3, (by decide : 0 + 0 ≤ _), (by decide : 0 + 0 ≤ _)⟩)
      dsimp only [Pt.U, Pt.locs, Pt.cells, Pt.slots] at X8 l8 y8 z8 st8 hQ8
      subst l8 y8 z8
      obtain ⟨rfl, e8, hO8⟩ := hQ8
      rcases hO8 with ⟨hr8_0_0, rfl⟩ | ⟨hr8_1_0, rfl⟩
      · exact absurd hr8_0_0 (fun q => hr3_1_0 (Eq.symm q))
      · refine own_tr st8 ?_
        show own_Go p e below s _ _ _ (T8.setTop (mkF m 27 #[.val (.int p0), .val (.long p1), .second, .val (.long p2), .second, .val (.ref w0), .val (.int (1 : Int32)), .unset, .unset, .unset] [(.int (0 : Int32)), (.int (0 : Int32))]))
        refine own_via (fun _ k => XS.icmpNo X8.here hx rfl (hb hby at_27) rfl (teq (by decide : (0 : Int32) = (0 : Int32))).2 k) ?_
        show own_Go p e below s _ _ _ (T8.setTop (mkF m 30 #[.val (.int p0), .val (.long p1), .second, .val (.long p2), .second, .val (.ref w0), .val (.int (1 : Int32)), .unset, .unset, .unset] []))
        refine own_via (fun _ k => XS.iconst X8.here hx rfl (hb hby at_30) k) ?_
        show own_Go p e below s _ _ _ (T8.setTop (mkF m 31 #[.val (.int p0), .val (.long p1), .second, .val (.long p2), .second, .val (.ref w0), .val (.int (1 : Int32)), .unset, .unset, .unset] [(.int (1 : Int32))]))
        refine own_via (fun _ k => XS.goto X8.here hx rfl (pc0 := 31) (pc' := 35) rfl (hb hby at_31) (by decide) (by decide) k) ?_
        show own_Go p e below s _ _ _ (T8.setTop (mkF m 35 #[.val (.int p0), .val (.long p1), .second, .val (.long p2), .second, .val (.ref w0), .val (.int (1 : Int32)), .unset, .unset, .unset] [(.int (1 : Int32))]))
        refine own_via (fun _ k => XS.istore X8.here hx rfl (hb hby at_35) rfl (l' := #[.val (.int p0), .val (.long p1), .second, .val (.long p2), .second, .val (.ref w0), .val (.int (1 : Int32)), .val (.int (1 : Int32)), .unset, .unset]) rfl k) ?_
        show own_Go p e below s _ _ _ (T8.setTop (mkF m 37 #[.val (.int p0), .val (.long p1), .second, .val (.long p2), .second, .val (.ref w0), .val (.int (1 : Int32)), .val (.int (1 : Int32)), .unset, .unset] []))
        refine own_via (fun _ k => XS.aload X8.here hx rfl (hb hby at_37) rfl rfl k) ?_
        show own_Go p e below s _ _ _ (T8.setTop (mkF m 39 #[.val (.int p0), .val (.long p1), .second, .val (.long p2), .second, .val (.ref w0), .val (.int (1 : Int32)), .val (.int (1 : Int32)), .unset, .unset] [(.ref w0)]))
        refine own_via (fun _ k => XS.lconst X8.here hx rfl (hb hby at_39) k) ?_
        show own_Go p e below s _ _ _ (T8.setTop (mkF m 40 #[.val (.int p0), .val (.long p1), .second, .val (.long p2), .second, .val (.ref w0), .val (.int (1 : Int32)), .val (.int (1 : Int32)), .unset, .unset] [(.long (0 : Int64)), (.ref w0)]))
        refine own_via (fun _ k => XS.lconst X8.here hx rfl (hb hby at_40) k) ?_
        show own_Go p e below s _ _ _ (T8.setTop (mkF m 41 #[.val (.int p0), .val (.long p1), .second, .val (.long p2), .second, .val (.ref w0), .val (.int (1 : Int32)), .val (.int (1 : Int32)), .unset, .unset] [(.long (1 : Int64)), (.long (0 : Int64)), (.ref w0)]))
        obtain ⟨cq9, kq9, q9a, q9b, q9c⟩ := isOf hZ e8 E_w0
        obtain ⟨_, _, ⟨T9, L9, k9, n9⟩, -, X9, ⟨Lc9, hQ9, l9, y9, z9⟩, st9⟩ := X8.virtualBack hx (y := (⟨"com/example/bericht/bericht/selector/Comparison$Operator", "holds", "(JJ)Z"⟩ : MethodName)) (z := (⟨"com/example/bericht/bericht/selector/Comparison$Operator", "holds", "(JJ)Z"⟩ : MethodName)) hown (mvT hZ (hw _ (List.mem_of_getElem? (i := 14) rfl))) (mvT hZ (hw _ (List.mem_of_getElem? (i := 15) rfl))) (notFace_of_selects (args := #[]) (mvT hZ (hw _ (List.mem_of_getElem? (i := 17) rfl)))) (mvT hZ (hw _ (List.mem_of_getElem? (i := 17) rfl))) (mvT hZ (hw _ (List.mem_of_getElem? (i := 16) rfl))) (by decide) (backOf (W := 0) (rm3_1 l Z a0 hw [] w0 w1 w2 w3 w4 w5 h0 n0 Z0 K0) hZ (hw _ (List.mem_of_getElem? (i := 18) rfl)) (hw _ (List.mem_of_getElem? (i := 6) rfl)) (by decide) (by decide)) q9a q9c (g := (mkF m 41 #[.val (.int p0), .val (.long p1), .second, .val (.long p2), .second, .val (.ref w0), .val (.int (1 : Int32)), .val (.int (1 : Int32)), .unset, .unset] [(.long (1 : Int64)), (.long (0 : Int64)), (.ref w0)])) rfl (by rw [hml]; rfl) (Steps.refl _) (argsL := [(.long (0 : Int64)), (.long (1 : Int64))]) (rest := []) (lenOf pd3 rfl) rfl (by show 2 * 0 + _ ≤ _; exact Nat.le_of_eq rfl) (hb hby at_41) (fun _ _ => ⟨rfl, e8, (by decide : 0 + 0 ≤ _), (by decide : 0 + 0 ≤ _)⟩)
        dsimp only [Pt.U, Pt.locs, Pt.cells, Pt.slots] at X9 l9 y9 z9 st9 hQ9
        subst l9 y9 z9
        obtain ⟨rfl, e9, hO9⟩ := hQ9
        obtain rfl := hO9
        refine own_tr st9 ?_
        show own_Go p e below s _ _ _ (T9.setTop (mkF m 44 #[.val (.int p0), .val (.long p1), .second, .val (.long p2), .second, .val (.ref w0), .val (.int (1 : Int32)), .val (.int (1 : Int32)), .unset, .unset] [(.int (0 : Int32))]))
        refine own_via (fun _ k => XS.aload X9.here hx rfl (hb hby at_44) rfl rfl k) ?_
        show own_Go p e below s _ _ _ (T9.setTop (mkF m 46 #[.val (.int p0), .val (.long p1), .second, .val (.long p2), .second, .val (.ref w0), .val (.int (1 : Int32)), .val (.int (1 : Int32)), .unset, .unset] [(.ref w0), (.int (0 : Int32))]))
        refine own_via (fun _ k => XS.lconst X9.here hx rfl (hb hby at_46) k) ?_
        show own_Go p e below s _ _ _ (T9.setTop (mkF m 47 #[.val (.int p0), .val (.long p1), .second, .val (.long p2), .second, .val (.ref w0), .val (.int (1 : Int32)), .val (.int (1 : Int32)), .unset, .unset] [(.long (1 : Int64)), (.ref w0), (.int (0 : Int32))]))
        refine own_via (fun _ k => XS.lconst X9.here hx rfl (hb hby at_47) k) ?_
        show own_Go p e below s _ _ _ (T9.setTop (mkF m 48 #[.val (.int p0), .val (.long p1), .second, .val (.long p2), .second, .val (.ref w0), .val (.int (1 : Int32)), .val (.int (1 : Int32)), .unset, .unset] [(.long (0 : Int64)), (.long (1 : Int64)), (.ref w0), (.int (0 : Int32))]))
        obtain ⟨cq10, kq10, q10a, q10b, q10c⟩ := isOf hZ e9 E_w0
        obtain ⟨_, _, ⟨T10, L10, k10, n10⟩, -, X10, ⟨Lc10, hQ10, l10, y10, z10⟩, st10⟩ := X9.virtualBack hx (y := (⟨"com/example/bericht/bericht/selector/Comparison$Operator", "holds", "(JJ)Z"⟩ : MethodName)) (z := (⟨"com/example/bericht/bericht/selector/Comparison$Operator", "holds", "(JJ)Z"⟩ : MethodName)) hown (mvT hZ (hw _ (List.mem_of_getElem? (i := 14) rfl))) (mvT hZ (hw _ (List.mem_of_getElem? (i := 15) rfl))) (notFace_of_selects (args := #[]) (mvT hZ (hw _ (List.mem_of_getElem? (i := 17) rfl)))) (mvT hZ (hw _ (List.mem_of_getElem? (i := 17) rfl))) (mvT hZ (hw _ (List.mem_of_getElem? (i := 16) rfl))) (by decide) (backOf (W := 1) (rm3_2 l Z a0 hw [] w0 w1 w2 w3 w4 w5 h0 n0 Z0 K0) hZ (hw _ (List.mem_of_getElem? (i := 18) rfl)) (hw _ (List.mem_of_getElem? (i := 6) rfl)) (by decide) (by decide)) q10a q10c (g := (mkF m 48 #[.val (.int p0), .val (.long p1), .second, .val (.long p2), .second, .val (.ref w0), .val (.int (1 : Int32)), .val (.int (1 : Int32)), .unset, .unset] [(.long (0 : Int64)), (.long (1 : Int64)), (.ref w0), (.int (0 : Int32))])) rfl (by rw [hml]; rfl) (Steps.refl _) (argsL := [(.long (1 : Int64)), (.long (0 : Int64))]) (rest := [(.int (0 : Int32))]) (lenOf pd3 rfl) rfl (by show 2 * 0 + _ ≤ _; exact Nat.le_of_eq rfl) (hb hby at_48) (fun _ _ => ⟨rfl, e9, (by decide : 0 + 0 ≤ _), (by decide : 0 + 0 ≤ _)⟩)
        dsimp only [Pt.U, Pt.locs, Pt.cells, Pt.slots] at X10 l10 y10 z10 st10 hQ10
        subst l10 y10 z10
        obtain ⟨rfl, e10, hO10⟩ := hQ10
        obtain rfl := hO10
        refine own_tr st10 ?_
        show own_Go p e below s _ _ _ (T10.setTop (mkF m 51 #[.val (.int p0), .val (.long p1), .second, .val (.long p2), .second, .val (.ref w0), .val (.int (1 : Int32)), .val (.int (1 : Int32)), .unset, .unset] [(.int (0 : Int32)), (.int (0 : Int32))]))
        refine own_via (fun _ k => XS.icmpYes X10.here hx rfl (pc0 := 51) (pc' := 58) rfl (hb hby at_51) rfl (teq (by decide : (0 : Int32) = (0 : Int32))).1 (by decide) (by decide) k) ?_
        show own_Go p e below s _ _ _ (T10.setTop (mkF m 58 #[.val (.int p0), .val (.long p1), .second, .val (.long p2), .second, .val (.ref w0), .val (.int (1 : Int32)), .val (.int (1 : Int32)), .unset, .unset] []))
        refine own_via (fun _ k => XS.iconst X10.here hx rfl (hb hby at_58) k) ?_
        show own_Go p e below s _ _ _ (T10.setTop (mkF m 59 #[.val (.int p0), .val (.long p1), .second, .val (.long p2), .second, .val (.ref w0), .val (.int (1 : Int32)), .val (.int (1 : Int32)), .unset, .unset] [(.int (0 : Int32))]))
        refine own_via (fun _ k => XS.istore X10.here hx rfl (hb hby at_59) rfl (l' := #[.val (.int p0), .val (.long p1), .second, .val (.long p2), .second, .val (.ref w0), .val (.int (1 : Int32)), .val (.int (1 : Int32)), .val (.int (0 : Int32)), .unset]) rfl k) ?_
        show own_Go p e below s _ _ _ (T10.setTop (mkF m 61 #[.val (.int p0), .val (.long p1), .second, .val (.long p2), .second, .val (.ref w0), .val (.int (1 : Int32)), .val (.int (1 : Int32)), .val (.int (0 : Int32)), .unset] []))
        refine own_via (fun _ k => XS.aload X10.here hx rfl (hb hby at_61) rfl rfl k) ?_
        show own_Go p e below s _ _ _ (T10.setTop (mkF m 63 #[.val (.int p0), .val (.long p1), .second, .val (.long p2), .second, .val (.ref w0), .val (.int (1 : Int32)), .val (.int (1 : Int32)), .val (.int (0 : Int32)), .unset] [(.ref w0)]))
        obtain ⟨cq11, kq11, q11a, q11b, q11c⟩ := isOf hZ e10 E_w0
        obtain ⟨_, _, ⟨T11, L11, k11, n11⟩, -, X11, ⟨Lc11, hQ11, l11, y11, z11⟩, st11⟩ := X10.virtualBack hx (y := (⟨"com/example/bericht/bericht/selector/Comparison$Operator", "flipped", "()Lcom/example/bericht/bericht/selector/Comparison$Operator;"⟩ : MethodName)) (z := (⟨"com/example/bericht/bericht/selector/Comparison$Operator", "flipped", "()Lcom/example/bericht/bericht/selector/Comparison$Operator;"⟩ : MethodName)) hown (mvT hZ (hw _ (List.mem_of_getElem? (i := 28) rfl))) (mvT hZ (hw _ (List.mem_of_getElem? (i := 29) rfl))) (notFace_of_selects (args := #[]) (mvT hZ (hw _ (List.mem_of_getElem? (i := 31) rfl)))) (mvT hZ (hw _ (List.mem_of_getElem? (i := 31) rfl))) (mvT hZ (hw _ (List.mem_of_getElem? (i := 30) rfl))) (by decide) (backOf (W := 0) (rm5_0 l Z a0 hw [] w0 w1 w2 w3 w4 w5 h0 n0 Z0 K0) hZ (hw _ (List.mem_of_getElem? (i := 32) rfl)) (hw _ (List.mem_of_getElem? (i := 6) rfl)) (by decide) (by decide)) q11a q11c (g := (mkF m 63 #[.val (.int p0), .val (.long p1), .second, .val (.long p2), .second, .val (.ref w0), .val (.int (1 : Int32)), .val (.int (1 : Int32)), .val (.int (0 : Int32)), .unset] [(.ref w0)])) rfl (by rw [hml]; rfl) (Steps.refl _) (argsL := []) (rest := []) (lenOf pd4 rfl) rfl (by show 2 * 0 + _ ≤ _; exact Nat.le_of_eq rfl) (hb hby at_63) (fun _ _ => ⟨rfl, e10, (by decide : 0 + 0 ≤ _), (by decide : 0 + 0 ≤ _)⟩)
        dsimp only [Pt.U, Pt.locs, Pt.cells, Pt.slots] at X11 l11 y11 z11 st11 hQ11
        subst l11 y11 z11
        obtain ⟨rfl, e11, hO11⟩ := hQ11
        obtain rfl := hO11
        refine own_tr st11 ?_
        show own_Go p e below s _ _ _ (T11.setTop (mkF m 66 #[.val (.int p0), .val (.long p1), .second, .val (.long p2), .second, .val (.ref w0), .val (.int (1 : Int32)), .val (.int (1 : Int32)), .val (.int (0 : Int32)), .unset] [(.ref w0)]))
        refine own_via (fun _ k => XS.aload X11.here hx rfl (hb hby at_66) rfl rfl k) ?_
        show own_Go p e below s _ _ _ (T11.setTop (mkF m 68 #[.val (.int p0), .val (.long p1), .second, .val (.long p2), .second, .val (.ref w0), .val (.int (1 : Int32)), .val (.int (1 : Int32)), .val (.int (0 : Int32)), .unset] [(.ref w0), (.ref w0)]))
        refine own_via (fun _ k => Jvm.RoadKit.acmp (g := (mkF m 68 #[.val (.int p0), .val (.long p1), .second, .val (.long p2), .second, .val (.ref w0), .val (.int (1 : Int32)), .val (.int (1 : Int32)), .val (.int (0 : Int32)), .unset] [(.ref w0), (.ref w0)])) X11 hx rfl rfl rfl (pc0 := 68) (pc' := 71) (same := true) rfl (hb hby at_68) rfl (decide_eq_true rfl) (by decide) (by decide) k) ?_
        show own_Go p e below s _ _ _ (T11.setTop (mkF m 71 #[.val (.int p0), .val (.long p1), .second, .val (.long p2), .second, .val (.ref w0), .val (.int (1 : Int32)), .val (.int (1 : Int32)), .val (.int (0 : Int32)), .unset] []))
        refine own_via (fun _ k => XS.iconst X11.here hx rfl (hb hby at_71) k) ?_
        show own_Go p e below s _ _ _ (T11.setTop (mkF m 72 #[.val (.int p0), .val (.long p1), .second, .val (.long p2), .second, .val (.ref w0), .val (.int (1 : Int32)), .val (.int (1 : Int32)), .val (.int (0 : Int32)), .unset] [(.int (1 : Int32))]))
        refine own_via (fun _ k => XS.goto X11.here hx rfl (pc0 := 72) (pc' := 76) rfl (hb hby at_72) (by decide) (by decide) k) ?_
        show own_Go p e below s _ _ _ (T11.setTop (mkF m 76 #[.val (.int p0), .val (.long p1), .second, .val (.long p2), .second, .val (.ref w0), .val (.int (1 : Int32)), .val (.int (1 : Int32)), .val (.int (0 : Int32)), .unset] [(.int (1 : Int32))]))
        refine own_via (fun _ k => XS.istore X11.here hx rfl (hb hby at_76) rfl (l' := #[.val (.int p0), .val (.long p1), .second, .val (.long p2), .second, .val (.ref w0), .val (.int (1 : Int32)), .val (.int (1 : Int32)), .val (.int (0 : Int32)), .val (.int (1 : Int32))]) rfl k) ?_
        show own_Go p e below s _ _ _ (T11.setTop (mkF m 78 #[.val (.int p0), .val (.long p1), .second, .val (.long p2), .second, .val (.ref w0), .val (.int (1 : Int32)), .val (.int (1 : Int32)), .val (.int (0 : Int32)), .val (.int (1 : Int32))] []))
        refine own_via (fun _ k => XS.iload X11.here hx rfl (hb hby at_78) rfl k) ?_
        show own_Go p e below s _ _ _ (T11.setTop (mkF m 80 #[.val (.int p0), .val (.long p1), .second, .val (.long p2), .second, .val (.ref w0), .val (.int (1 : Int32)), .val (.int (1 : Int32)), .val (.int (0 : Int32)), .val (.int (1 : Int32))] [(.int (1 : Int32))]))
        refine own_via (fun _ k => XS.ifNo X11.here hx rfl (hb hby at_80) rfl ((if0 _ _).trans (feq (by decide : ¬ ((1 : Int32) = (0 : Int32)))).1) k) ?_
        show own_Go p e below s _ _ _ (T11.setTop (mkF m 83 #[.val (.int p0), .val (.long p1), .second, .val (.long p2), .second, .val (.ref w0), .val (.int (1 : Int32)), .val (.int (1 : Int32)), .val (.int (0 : Int32)), .val (.int (1 : Int32))] []))
        refine own_via (fun _ k => XS.iload X11.here hx rfl (hb hby at_83) rfl k) ?_
        show own_Go p e below s _ _ _ (T11.setTop (mkF m 85 #[.val (.int p0), .val (.long p1), .second, .val (.long p2), .second, .val (.ref w0), .val (.int (1 : Int32)), .val (.int (1 : Int32)), .val (.int (0 : Int32)), .val (.int (1 : Int32))] [(.int (1 : Int32))]))
        refine own_via (fun _ k => XS.ifNo X11.here hx rfl (hb hby at_85) rfl ((if0 _ _).trans (feq (by decide : ¬ ((1 : Int32) = (0 : Int32)))).1) k) ?_
        show own_Go p e below s _ _ _ (T11.setTop (mkF m 88 #[.val (.int p0), .val (.long p1), .second, .val (.long p2), .second, .val (.ref w0), .val (.int (1 : Int32)), .val (.int (1 : Int32)), .val (.int (0 : Int32)), .val (.int (1 : Int32))] []))
        refine own_via (fun _ k => XS.iload X11.here hx rfl (hb hby at_88) rfl k) ?_
        show own_Go p e below s _ _ _ (T11.setTop (mkF m 90 #[.val (.int p0), .val (.long p1), .second, .val (.long p2), .second, .val (.ref w0), .val (.int (1 : Int32)), .val (.int (1 : Int32)), .val (.int (0 : Int32)), .val (.int (1 : Int32))] [(.int (0 : Int32))]))
        refine own_via (fun _ k => XS.ifNo X11.here hx rfl (hb hby at_90) rfl ((if0 _ _).trans (teq (by decide : (0 : Int32) = (0 : Int32))).2) k) ?_
        show own_Go p e below s _ _ _ (T11.setTop (mkF m 93 #[.val (.int p0), .val (.long p1), .second, .val (.long p2), .second, .val (.ref w0), .val (.int (1 : Int32)), .val (.int (1 : Int32)), .val (.int (0 : Int32)), .val (.int (1 : Int32))] []))
        refine own_via (fun _ k => XS.iload X11.here hx rfl (hb hby at_93) rfl k) ?_
        show own_Go p e below s _ _ _ (T11.setTop (mkF m 95 #[.val (.int p0), .val (.long p1), .second, .val (.long p2), .second, .val (.ref w0), .val (.int (1 : Int32)), .val (.int (1 : Int32)), .val (.int (0 : Int32)), .val (.int (1 : Int32))] [(.int (1 : Int32))]))
        refine own_via (fun _ k => XS.ifNo X11.here hx rfl (hb hby at_95) rfl ((if0 _ _).trans (feq (by decide : ¬ ((1 : Int32) = (0 : Int32)))).1) k) ?_
        show own_Go p e below s _ _ _ (T11.setTop (mkF m 98 #[.val (.int p0), .val (.long p1), .second, .val (.long p2), .second, .val (.ref w0), .val (.int (1 : Int32)), .val (.int (1 : Int32)), .val (.int (0 : Int32)), .val (.int (1 : Int32))] []))
        refine own_via (fun _ k => XS.iconst X11.here hx rfl (hb hby at_98) k) ?_
        show own_Go p e below s _ _ _ (T11.setTop (mkF m 99 #[.val (.int p0), .val (.long p1), .second, .val (.long p2), .second, .val (.ref w0), .val (.int (1 : Int32)), .val (.int (1 : Int32)), .val (.int (0 : Int32)), .val (.int (1 : Int32))] [(.int (1 : Int32))]))
        refine own_via (fun _ k => XS.goto X11.here hx rfl (pc0 := 99) (pc' := 103) rfl (hb hby at_99) (by decide) (by decide) k) ?_
        show own_Go p e below s _ _ _ (T11.setTop (mkF m 103 #[.val (.int p0), .val (.long p1), .second, .val (.long p2), .second, .val (.ref w0), .val (.int (1 : Int32)), .val (.int (1 : Int32)), .val (.int (0 : Int32)), .val (.int (1 : Int32))] [(.int (1 : Int32))]))
        exact own_retZ X11 hx hlk (t := .boolean) Bd.returns (by simp) (hb hby at_103) (z' := (1 : Int32)) (by first | rfl | decide) ⟨rfl, (Fr.nil n0)⟩ (by decide) (by decide)
  · refine own_via st1 ?_
    show own_Go p e below s _ _ _ (T1.setTop (mkF m 4 #[.val (.int p0), .val (.long p1), .second, .val (.long p2), .second, .unset, .unset, .unset, .unset, .unset] [(.ref w2)]))
    refine own_via (fun _ k => XS.astore X1.here hx rfl (hb hby at_4) rfl rfl (l' := #[.val (.int p0), .val (.long p1), .second, .val (.long p2), .second, .val (.ref w2), .unset, .unset, .unset, .unset]) rfl k) ?_
    show own_Go p e below s _ _ _ (T1.setTop (mkF m 6 #[.val (.int p0), .val (.long p1), .second, .val (.long p2), .second, .val (.ref w2), .unset, .unset, .unset, .unset] []))
    refine own_via (fun _ k => XS.aload X1.here hx rfl (hb hby at_6) rfl rfl k) ?_
    show own_Go p e below s _ _ _ (T1.setTop (mkF m 8 #[.val (.int p0), .val (.long p1), .second, .val (.long p2), .second, .val (.ref w2), .unset, .unset, .unset, .unset] [(.ref w2)]))
    obtain ⟨cq12, kq12, q12a, q12b, q12c⟩ := isOf hZ e1 E_w2
    obtain ⟨_, _, ⟨T12, L12, k12, n12⟩, -, X12, ⟨Lc12, hQ12, l12, y12, z12⟩, st12⟩ := X1.virtualBack hx (y := (⟨"com/example/bericht/bericht/selector/Comparison$Operator", "isEquality", "()Z"⟩ : MethodName)) (z := (⟨"com/example/bericht/bericht/selector/Comparison$Operator", "isEquality", "()Z"⟩ : MethodName)) hown (mvT hZ (hw _ (List.mem_of_getElem? (i := 8) rfl))) (mvT hZ (hw _ (List.mem_of_getElem? (i := 9) rfl))) (notFace_of_selects (args := #[]) (mvT hZ (hw _ (List.mem_of_getElem? (i := 11) rfl)))) (mvT hZ (hw _ (List.mem_of_getElem? (i := 11) rfl))) (mvT hZ (hw _ (List.mem_of_getElem? (i := 10) rfl))) (by decide) (backOf (W := 0) (rm2_1 l Z a0 hw [] w0 w1 w2 w3 w4 w5 h0 n0 Z0 K0) hZ (hw _ (List.mem_of_getElem? (i := 12) rfl)) (hw _ (List.mem_of_getElem? (i := 6) rfl)) (by decide) (by decide)) q12a q12c (g := (mkF m 8 #[.val (.int p0), .val (.long p1), .second, .val (.long p2), .second, .val (.ref w2), .unset, .unset, .unset, .unset] [(.ref w2)])) rfl (by rw [hml]; rfl) (Steps.refl _) (argsL := []) (rest := []) (lenOf pd1 rfl) rfl (by show 2 * 0 + _ ≤ _; exact Nat.le_of_eq rfl) (hb hby at_8) (fun _ _ => ⟨rfl, e1, (by decide : 0 + 0 ≤ _), (by decide : 0 + 0 ≤ _)⟩)
    dsimp only [Pt.U, Pt.locs, Pt.cells, Pt.slots] at X12 l12 y12 z12 st12 hQ12
    subst l12 y12 z12
    obtain ⟨rfl, e12, hO12⟩ := hQ12
    obtain rfl := hO12
    refine own_tr st12 ?_
    show own_Go p e below s _ _ _ (T12.setTop (mkF m 11 #[.val (.int p0), .val (.long p1), .second, .val (.long p2), .second, .val (.ref w2), .unset, .unset, .unset, .unset] [(.int (1 : Int32))]))
    refine own_via (fun _ k => XS.istore X12.here hx rfl (hb hby at_11) rfl (l' := #[.val (.int p0), .val (.long p1), .second, .val (.long p2), .second, .val (.ref w2), .val (.int (1 : Int32)), .unset, .unset, .unset]) rfl k) ?_
    show own_Go p e below s _ _ _ (T12.setTop (mkF m 13 #[.val (.int p0), .val (.long p1), .second, .val (.long p2), .second, .val (.ref w2), .val (.int (1 : Int32)), .unset, .unset, .unset] []))
    refine own_via (fun _ k => XS.aload X12.here hx rfl (hb hby at_13) rfl rfl k) ?_
    show own_Go p e below s _ _ _ (T12.setTop (mkF m 15 #[.val (.int p0), .val (.long p1), .second, .val (.long p2), .second, .val (.ref w2), .val (.int (1 : Int32)), .unset, .unset, .unset] [(.ref w2)]))
    refine own_via (fun _ k => XS.lloadN X12.here hx rfl (hb hby at_15) rfl k) ?_
    show own_Go p e below s _ _ _ (T12.setTop (mkF m 16 #[.val (.int p0), .val (.long p1), .second, .val (.long p2), .second, .val (.ref w2), .val (.int (1 : Int32)), .unset, .unset, .unset] [(.long p1), (.ref w2)]))
    refine own_via (fun _ k => XS.lloadN X12.here hx rfl (hb hby at_16) rfl k) ?_
    show own_Go p e below s _ _ _ (T12.setTop (mkF m 17 #[.val (.int p0), .val (.long p1), .second, .val (.long p2), .second, .val (.ref w2), .val (.int (1 : Int32)), .unset, .unset, .unset] [(.long p2), (.long p1), (.ref w2)]))
    obtain ⟨cq13, kq13, q13a, q13b, q13c⟩ := isOf hZ e12 E_w2
    obtain ⟨_, _, ⟨T13, L13, k13, n13⟩, -, X13, ⟨Lc13, hQ13, l13, y13, z13⟩, st13⟩ := X12.virtualBack hx (y := (⟨"com/example/bericht/bericht/selector/Comparison$Operator", "holds", "(JJ)Z"⟩ : MethodName)) (z := (⟨"com/example/bericht/bericht/selector/Comparison$Operator", "holds", "(JJ)Z"⟩ : MethodName)) hown (mvT hZ (hw _ (List.mem_of_getElem? (i := 14) rfl))) (mvT hZ (hw _ (List.mem_of_getElem? (i := 15) rfl))) (notFace_of_selects (args := #[]) (mvT hZ (hw _ (List.mem_of_getElem? (i := 17) rfl)))) (mvT hZ (hw _ (List.mem_of_getElem? (i := 17) rfl))) (mvT hZ (hw _ (List.mem_of_getElem? (i := 16) rfl))) (by decide) (backOf (W := 0) (rm3_3 l Z a0 hw [] p1 p2 w0 w1 w2 w3 w4 w5 h0 n0 Z0 K0) hZ (hw _ (List.mem_of_getElem? (i := 18) rfl)) (hw _ (List.mem_of_getElem? (i := 6) rfl)) (by decide) (by decide)) q13a q13c (g := (mkF m 17 #[.val (.int p0), .val (.long p1), .second, .val (.long p2), .second, .val (.ref w2), .val (.int (1 : Int32)), .unset, .unset, .unset] [(.long p2), (.long p1), (.ref w2)])) rfl (by rw [hml]; rfl) (Steps.refl _) (argsL := [(.long p1), (.long p2)]) (rest := []) (lenOf pd3 rfl) rfl (by show 2 * 0 + _ ≤ _; exact Nat.le_of_eq rfl) (hb hby at_17) (fun _ _ => ⟨rfl, e12, (by decide : 0 + 0 ≤ _), (by decide : 0 + 0 ≤ _)⟩)
    dsimp only [Pt.U, Pt.locs, Pt.cells, Pt.slots] at X13 l13 y13 z13 st13 hQ13
    subst l13 y13 z13
    obtain ⟨rfl, e13, hO13⟩ := hQ13
    rcases hO13 with ⟨hr13_0_0, rfl⟩ | ⟨hr13_1_0, rfl⟩
    · refine own_tr st13 ?_
      show own_Go p e below s _ _ _ (T13.setTop (mkF m 20 #[.val (.int p0), .val (.long p1), .second, .val (.long p2), .second, .val (.ref w2), .val (.int (1 : Int32)), .unset, .unset, .unset] [(.int (0 : Int32))]))
      refine own_via (fun _ k => XS.aload X13.here hx rfl (hb hby at_20) rfl rfl k) ?_
      show own_Go p e below s _ _ _ (T13.setTop (mkF m 22 #[.val (.int p0), .val (.long p1), .second, .val (.long p2), .second, .val (.ref w2), .val (.int (1 : Int32)), .unset, .unset, .unset] [(.ref w2), (.int (0 : Int32))]))
      refine own_via (fun _ k => XS.lloadN X13.here hx rfl (hb hby at_22) rfl k) ?_
      show own_Go p e below s _ _ _ (T13.setTop (mkF m 23 #[.val (.int p0), .val (.long p1), .second, .val (.long p2), .second, .val (.ref w2), .val (.int (1 : Int32)), .unset, .unset, .unset] [(.long p2), (.ref w2), (.int (0 : Int32))]))
      refine own_via (fun _ k => XS.lloadN X13.here hx rfl (hb hby at_23) rfl k) ?_
      show own_Go p e below s _ _ _ (T13.setTop (mkF m 24 #[.val (.int p0), .val (.long p1), .second, .val (.long p2), .second, .val (.ref w2), .val (.int (1 : Int32)), .unset, .unset, .unset] [(.long p1), (.long p2), (.ref w2), (.int (0 : Int32))]))
      obtain ⟨cq14, kq14, q14a, q14b, q14c⟩ := isOf hZ e13 E_w2
      obtain ⟨_, _, ⟨T14, L14, k14, n14⟩, -, X14, ⟨Lc14, hQ14, l14, y14, z14⟩, st14⟩ := X13.virtualBack hx (y := (⟨"com/example/bericht/bericht/selector/Comparison$Operator", "holds", "(JJ)Z"⟩ : MethodName)) (z := (⟨"com/example/bericht/bericht/selector/Comparison$Operator", "holds", "(JJ)Z"⟩ : MethodName)) hown (mvT hZ (hw _ (List.mem_of_getElem? (i := 14) rfl))) (mvT hZ (hw _ (List.mem_of_getElem? (i := 15) rfl))) (notFace_of_selects (args := #[]) (mvT hZ (hw _ (List.mem_of_getElem? (i := 17) rfl)))) (mvT hZ (hw _ (List.mem_of_getElem? (i := 17) rfl))) (mvT hZ (hw _ (List.mem_of_getElem? (i := 16) rfl))) (by decide) (backOf (W := 1) (rm3_3 l Z a0 hw [] p2 p1 w0 w1 w2 w3 w4 w5 h0 n0 Z0 K0) hZ (hw _ (List.mem_of_getElem? (i := 18) rfl)) (hw _ (List.mem_of_getElem? (i := 6) rfl)) (by decide) (by decide)) q14a q14c (g := (mkF m 24 #[.val (.int p0), .val (.long p1), .second, .val (.long p2), .second, .val (.ref w2), .val (.int (1 : Int32)), .unset, .unset, .unset] [(.long p1), (.long p2), (.ref w2), (.int (0 : Int32))])) rfl (by rw [hml]; rfl) (Steps.refl _) (argsL := [(.long p2), (.long p1)]) (rest := [(.int (0 : Int32))]) (lenOf pd3 rfl) rfl (by show 2 * 0 + _ ≤ _; exact Nat.le_of_eq rfl) (hb hby at_24) (fun _ _ => ⟨rfl, e13, (by decide : 0 + 0 ≤ _), (by decide : 0 + 0 ≤ _)⟩)
      dsimp only [Pt.U, Pt.locs, Pt.cells, Pt.slots] at X14 l14 y14 z14 st14 hQ14
      subst l14 y14 z14
      obtain ⟨rfl, e14, hO14⟩ := hQ14
      rcases hO14 with ⟨hr14_0_0, rfl⟩ | ⟨hr14_1_0, rfl⟩
      · refine own_tr st14 ?_
        show own_Go p e below s _ _ _ (T14.setTop (mkF m 27 #[.val (.int p0), .val (.long p1), .second, .val (.long p2), .second, .val (.ref w2), .val (.int (1 : Int32)), .unset, .unset, .unset] [(.int (0 : Int32)), (.int (0 : Int32))]))
        refine own_via (fun _ k => XS.icmpNo X14.here hx rfl (hb hby at_27) rfl (teq (by decide : (0 : Int32) = (0 : Int32))).2 k) ?_
        show own_Go p e below s _ _ _ (T14.setTop (mkF m 30 #[.val (.int p0), .val (.long p1), .second, .val (.long p2), .second, .val (.ref w2), .val (.int (1 : Int32)), .unset, .unset, .unset] []))
        refine own_via (fun _ k => XS.iconst X14.here hx rfl (hb hby at_30) k) ?_
        show own_Go p e below s _ _ _ (T14.setTop (mkF m 31 #[.val (.int p0), .val (.long p1), .second, .val (.long p2), .second, .val (.ref w2), .val (.int (1 : Int32)), .unset, .unset, .unset] [(.int (1 : Int32))]))
        refine own_via (fun _ k => XS.goto X14.here hx rfl (pc0 := 31) (pc' := 35) rfl (hb hby at_31) (by decide) (by decide) k) ?_
        show own_Go p e below s _ _ _ (T14.setTop (mkF m 35 #[.val (.int p0), .val (.long p1), .second, .val (.long p2), .second, .val (.ref w2), .val (.int (1 : Int32)), .unset, .unset, .unset] [(.int (1 : Int32))]))
        refine own_via (fun _ k => XS.istore X14.here hx rfl (hb hby at_35) rfl (l' := #[.val (.int p0), .val (.long p1), .second, .val (.long p2), .second, .val (.ref w2), .val (.int (1 : Int32)), .val (.int (1 : Int32)), .unset, .unset]) rfl k) ?_
        show own_Go p e below s _ _ _ (T14.setTop (mkF m 37 #[.val (.int p0), .val (.long p1), .second, .val (.long p2), .second, .val (.ref w2), .val (.int (1 : Int32)), .val (.int (1 : Int32)), .unset, .unset] []))
        refine own_via (fun _ k => XS.aload X14.here hx rfl (hb hby at_37) rfl rfl k) ?_
        show own_Go p e below s _ _ _ (T14.setTop (mkF m 39 #[.val (.int p0), .val (.long p1), .second, .val (.long p2), .second, .val (.ref w2), .val (.int (1 : Int32)), .val (.int (1 : Int32)), .unset, .unset] [(.ref w2)]))
        refine own_via (fun _ k => XS.lconst X14.here hx rfl (hb hby at_39) k) ?_
        show own_Go p e below s _ _ _ (T14.setTop (mkF m 40 #[.val (.int p0), .val (.long p1), .second, .val (.long p2), .second, .val (.ref w2), .val (.int (1 : Int32)), .val (.int (1 : Int32)), .unset, .unset] [(.long (0 : Int64)), (.ref w2)]))
        refine own_via (fun _ k => XS.lconst X14.here hx rfl (hb hby at_40) k) ?_
        show own_Go p e below s _ _ _ (T14.setTop (mkF m 41 #[.val (.int p0), .val (.long p1), .second, .val (.long p2), .second, .val (.ref w2), .val (.int (1 : Int32)), .val (.int (1 : Int32)), .unset, .unset] [(.long (1 : Int64)), (.long (0 : Int64)), (.ref w2)]))
        obtain ⟨cq15, kq15, q15a, q15b, q15c⟩ := isOf hZ e14 E_w2
        obtain ⟨_, _, ⟨T15, L15, k15, n15⟩, -, X15, ⟨Lc15, hQ15, l15, y15, z15⟩, st15⟩ := X14.virtualBack hx (y := (⟨"com/example/bericht/bericht/selector/Comparison$Operator", "holds", "(JJ)Z"⟩ : MethodName)) (z := (⟨"com/example/bericht/bericht/selector/Comparison$Operator", "holds", "(JJ)Z"⟩ : MethodName)) hown (mvT hZ (hw _ (List.mem_of_getElem? (i := 14) rfl))) (mvT hZ (hw _ (List.mem_of_getElem? (i := 15) rfl))) (notFace_of_selects (args := #[]) (mvT hZ (hw _ (List.mem_of_getElem? (i := 17) rfl)))) (mvT hZ (hw _ (List.mem_of_getElem? (i := 17) rfl))) (mvT hZ (hw _ (List.mem_of_getElem? (i := 16) rfl))) (by decide) (backOf (W := 0) (rm3_4 l Z a0 hw [] w0 w1 w2 w3 w4 w5 h0 n0 Z0 K0) hZ (hw _ (List.mem_of_getElem? (i := 18) rfl)) (hw _ (List.mem_of_getElem? (i := 6) rfl)) (by decide) (by decide)) q15a q15c (g := (mkF m 41 #[.val (.int p0), .val (.long p1), .second, .val (.long p2), .second, .val (.ref w2), .val (.int (1 : Int32)), .val (.int (1 : Int32)), .unset, .unset] [(.long (1 : Int64)), (.long (0 : Int64)), (.ref w2)])) rfl (by rw [hml]; rfl) (Steps.refl _) (argsL := [(.long (0 : Int64)), (.long (1 : Int64))]) (rest := []) (lenOf pd3 rfl) rfl (by show 2 * 0 + _ ≤ _; exact Nat.le_of_eq rfl) (hb hby at_41) (fun _ _ => ⟨rfl, e14, (by decide : 0 + 0 ≤ _), (by decide : 0 + 0 ≤ _)⟩)
        dsimp only [Pt.U, Pt.locs, Pt.cells, Pt.slots] at X15 l15 y15 z15 st15 hQ15
        subst l15 y15 z15
        obtain ⟨rfl, e15, hO15⟩ := hQ15
        obtain rfl := hO15
        refine own_tr st15 ?_
        show own_Go p e below s _ _ _ (T15.setTop (mkF m 44 #[.val (.int p0), .val (.long p1), .second, .val (.long p2), .second, .val (.ref w2), .val (.int (1 : Int32)), .val (.int (1 : Int32)), .unset, .unset] [(.int (1 : Int32))]))
        refine own_via (fun _ k => XS.aload X15.here hx rfl (hb hby at_44) rfl rfl k) ?_
        show own_Go p e below s _ _ _ (T15.setTop (mkF m 46 #[.val (.int p0), .val (.long p1), .second, .val (.long p2), .second, .val (.ref w2), .val (.int (1 : Int32)), .val (.int (1 : Int32)), .unset, .unset] [(.ref w2), (.int (1 : Int32))]))
        refine own_via (fun _ k => XS.lconst X15.here hx rfl (hb hby at_46) k) ?_
        show own_Go p e below s _ _ _ (T15.setTop (mkF m 47 #[.val (.int p0), .val (.long p1), .second, .val (.long p2), .second, .val (.ref w2), .val (.int (1 : Int32)), .val (.int (1 : Int32)), .unset, .unset] [(.long (1 : Int64)), (.ref w2), (.int (1 : Int32))]))
        refine own_via (fun _ k => XS.lconst X15.here hx rfl (hb hby at_47) k) ?_
        show own_Go p e below s _ _ _ (T15.setTop (mkF m 48 #[.val (.int p0), .val (.long p1), .second, .val (.long p2), .second, .val (.ref w2), .val (.int (1 : Int32)), .val (.int (1 : Int32)), .unset, .unset] [(.long (0 : Int64)), (.long (1 : Int64)), (.ref w2), (.int (1 : Int32))]))
        obtain ⟨cq16, kq16, q16a, q16b, q16c⟩ := isOf hZ e15 E_w2
        obtain ⟨_, _, ⟨T16, L16, k16, n16⟩, -, X16, ⟨Lc16, hQ16, l16, y16, z16⟩, st16⟩ := X15.virtualBack hx (y := (⟨"com/example/bericht/bericht/selector/Comparison$Operator", "holds", "(JJ)Z"⟩ : MethodName)) (z := (⟨"com/example/bericht/bericht/selector/Comparison$Operator", "holds", "(JJ)Z"⟩ : MethodName)) hown (mvT hZ (hw _ (List.mem_of_getElem? (i := 14) rfl))) (mvT hZ (hw _ (List.mem_of_getElem? (i := 15) rfl))) (notFace_of_selects (args := #[]) (mvT hZ (hw _ (List.mem_of_getElem? (i := 17) rfl)))) (mvT hZ (hw _ (List.mem_of_getElem? (i := 17) rfl))) (mvT hZ (hw _ (List.mem_of_getElem? (i := 16) rfl))) (by decide) (backOf (W := 1) (rm3_5 l Z a0 hw [] w0 w1 w2 w3 w4 w5 h0 n0 Z0 K0) hZ (hw _ (List.mem_of_getElem? (i := 18) rfl)) (hw _ (List.mem_of_getElem? (i := 6) rfl)) (by decide) (by decide)) q16a q16c (g := (mkF m 48 #[.val (.int p0), .val (.long p1), .second, .val (.long p2), .second, .val (.ref w2), .val (.int (1 : Int32)), .val (.int (1 : Int32)), .unset, .unset] [(.long (0 : Int64)), (.long (1 : Int64)), (.ref w2), (.int (1 : Int32))])) rfl (by rw [hml]; rfl) (Steps.refl _) (argsL := [(.long (1 : Int64)), (.long (0 : Int64))]) (rest := [(.int (1 : Int32))]) (lenOf pd3 rfl) rfl (by show 2 * 0 + _ ≤ _; exact Nat.le_of_eq rfl) (hb hby at_48) (fun _ _ => ⟨rfl, e15, (by decide : 0 + 0 ≤ _), (by decide : 0 + 0 ≤ _)⟩)
        dsimp only [Pt.U, Pt.locs, Pt.cells, Pt.slots] at X16 l16 y16 z16 st16 hQ16
        subst l16 y16 z16
        obtain ⟨rfl, e16, hO16⟩ := hQ16
        obtain rfl := hO16
        refine own_tr st16 ?_
        show own_Go p e below s _ _ _ (T16.setTop (mkF m 51 #[.val (.int p0), .val (.long p1), .second, .val (.long p2), .second, .val (.ref w2), .val (.int (1 : Int32)), .val (.int (1 : Int32)), .unset, .unset] [(.int (1 : Int32)), (.int (1 : Int32))]))
        refine own_via (fun _ k => XS.icmpYes X16.here hx rfl (pc0 := 51) (pc' := 58) rfl (hb hby at_51) rfl (teq (by decide : (1 : Int32) = (1 : Int32))).1 (by decide) (by decide) k) ?_
        show own_Go p e below s _ _ _ (T16.setTop (mkF m 58 #[.val (.int p0), .val (.long p1), .second, .val (.long p2), .second, .val (.ref w2), .val (.int (1 : Int32)), .val (.int (1 : Int32)), .unset, .unset] []))
        refine own_via (fun _ k => XS.iconst X16.here hx rfl (hb hby at_58) k) ?_
        show own_Go p e below s _ _ _ (T16.setTop (mkF m 59 #[.val (.int p0), .val (.long p1), .second, .val (.long p2), .second, .val (.ref w2), .val (.int (1 : Int32)), .val (.int (1 : Int32)), .unset, .unset] [(.int (0 : Int32))]))
        refine own_via (fun _ k => XS.istore X16.here hx rfl (hb hby at_59) rfl (l' := #[.val (.int p0), .val (.long p1), .second, .val (.long p2), .second, .val (.ref w2), .val (.int (1 : Int32)), .val (.int (1 : Int32)), .val (.int (0 : Int32)), .unset]) rfl k) ?_
        show own_Go p e below s _ _ _ (T16.setTop (mkF m 61 #[.val (.int p0), .val (.long p1), .second, .val (.long p2), .second, .val (.ref w2), .val (.int (1 : Int32)), .val (.int (1 : Int32)), .val (.int (0 : Int32)), .unset] []))
        refine own_via (fun _ k => XS.aload X16.here hx rfl (hb hby at_61) rfl rfl k) ?_
        show own_Go p e below s _ _ _ (T16.setTop (mkF m 63 #[.val (.int p0), .val (.long p1), .second, .val (.long p2), .second, .val (.ref w2), .val (.int (1 : Int32)), .val (.int (1 : Int32)), .val (.int (0 : Int32)), .unset] [(.ref w2)]))
        obtain ⟨cq17, kq17, q17a, q17b, q17c⟩ := isOf hZ e16 E_w2
        obtain ⟨_, _, ⟨T17, L17, k17, n17⟩, -, X17, ⟨Lc17, hQ17, l17, y17, z17⟩, st17⟩ := X16.virtualBack hx (y := (⟨"com/example/bericht/bericht/selector/Comparison$Operator", "flipped", "()Lcom/example/bericht/bericht/selector/Comparison$Operator;"⟩ : MethodName)) (z := (⟨"com/example/bericht/bericht/selector/Comparison$Operator", "flipped", "()Lcom/example/bericht/bericht/selector/Comparison$Operator;"⟩ : MethodName)) hown (mvT hZ (hw _ (List.mem_of_getElem? (i := 28) rfl))) (mvT hZ (hw _ (List.mem_of_getElem? (i := 29) rfl))) (notFace_of_selects (args := #[]) (mvT hZ (hw _ (List.mem_of_getElem? (i := 31) rfl)))) (mvT hZ (hw _ (List.mem_of_getElem? (i := 31) rfl))) (mvT hZ (hw _ (List.mem_of_getElem? (i := 30) rfl))) (by decide) (backOf (W := 0) (rm5_1 l Z a0 hw [] w0 w1 w2 w3 w4 w5 h0 n0 Z0 K0) hZ (hw _ (List.mem_of_getElem? (i := 32) rfl)) (hw _ (List.mem_of_getElem? (i := 6) rfl)) (by decide) (by decide)) q17a q17c (g := (mkF m 63 #[.val (.int p0), .val (.long p1), .second, .val (.long p2), .second, .val (.ref w2), .val (.int (1 : Int32)), .val (.int (1 : Int32)), .val (.int (0 : Int32)), .unset] [(.ref w2)])) rfl (by rw [hml]; rfl) (Steps.refl _) (argsL := []) (rest := []) (lenOf pd4 rfl) rfl (by show 2 * 0 + _ ≤ _; exact Nat.le_of_eq rfl) (hb hby at_63) (fun _ _ => ⟨rfl, e16, (by decide : 0 + 0 ≤ _), (by decide : 0 + 0 ≤ _)⟩)
        dsimp only [Pt.U, Pt.locs, Pt.cells, Pt.slots] at X17 l17 y17 z17 st17 hQ17
        subst l17 y17 z17
        obtain ⟨rfl, e17, hO17⟩ := hQ17
        obtain rfl := hO17
        refine own_tr st17 ?_
        show own_Go p e below s _ _ _ (T17.setTop (mkF m 66 #[.val (.int p0), .val (.long p1), .second, .val (.long p2), .second, .val (.ref w2), .val (.int (1 : Int32)), .val (.int (1 : Int32)), .val (.int (0 : Int32)), .unset] [(.ref w2)]))
        refine own_via (fun _ k => XS.aload X17.here hx rfl (hb hby at_66) rfl rfl k) ?_
        show own_Go p e below s _ _ _ (T17.setTop (mkF m 68 #[.val (.int p0), .val (.long p1), .second, .val (.long p2), .second, .val (.ref w2), .val (.int (1 : Int32)), .val (.int (1 : Int32)), .val (.int (0 : Int32)), .unset] [(.ref w2), (.ref w2)]))
        refine own_via (fun _ k => Jvm.RoadKit.acmp (g := (mkF m 68 #[.val (.int p0), .val (.long p1), .second, .val (.long p2), .second, .val (.ref w2), .val (.int (1 : Int32)), .val (.int (1 : Int32)), .val (.int (0 : Int32)), .unset] [(.ref w2), (.ref w2)])) X17 hx rfl rfl rfl (pc0 := 68) (pc' := 71) (same := true) rfl (hb hby at_68) rfl (decide_eq_true rfl) (by decide) (by decide) k) ?_
        show own_Go p e below s _ _ _ (T17.setTop (mkF m 71 #[.val (.int p0), .val (.long p1), .second, .val (.long p2), .second, .val (.ref w2), .val (.int (1 : Int32)), .val (.int (1 : Int32)), .val (.int (0 : Int32)), .unset] []))
        refine own_via (fun _ k => XS.iconst X17.here hx rfl (hb hby at_71) k) ?_
        show own_Go p e below s _ _ _ (T17.setTop (mkF m 72 #[.val (.int p0), .val (.long p1), .second, .val (.long p2), .second, .val (.ref w2), .val (.int (1 : Int32)), .val (.int (1 : Int32)), .val (.int (0 : Int32)), .unset] [(.int (1 : Int32))]))
        refine own_via (fun _ k => XS.goto X17.here hx rfl (pc0 := 72) (pc' := 76) rfl (hb hby at_72) (by decide) (by decide) k) ?_
        show own_Go p e below s _ _ _ (T17.setTop (mkF m 76 #[.val (.int p0), .val (.long p1), .second, .val (.long p2), .second, .val (.ref w2), .val (.int (1 : Int32)), .val (.int (1 : Int32)), .val (.int (0 : Int32)), .unset] [(.int (1 : Int32))]))
        refine own_via (fun _ k => XS.istore X17.here hx rfl (hb hby at_76) rfl (l' := #[.val (.int p0), .val (.long p1), .second, .val (.long p2), .second, .val (.ref w2), .val (.int (1 : Int32)), .val (.int (1 : Int32)), .val (.int (0 : Int32)), .val (.int (1 : Int32))]) rfl k) ?_
        show own_Go p e below s _ _ _ (T17.setTop (mkF m 78 #[.val (.int p0), .val (.long p1), .second, .val (.long p2), .second, .val (.ref w2), .val (.int (1 : Int32)), .val (.int (1 : Int32)), .val (.int (0 : Int32)), .val (.int (1 : Int32))] []))
        refine own_via (fun _ k => XS.iload X17.here hx rfl (hb hby at_78) rfl k) ?_
        show own_Go p e below s _ _ _ (T17.setTop (mkF m 80 #[.val (.int p0), .val (.long p1), .second, .val (.long p2), .second, .val (.ref w2), .val (.int (1 : Int32)), .val (.int (1 : Int32)), .val (.int (0 : Int32)), .val (.int (1 : Int32))] [(.int (1 : Int32))]))
        refine own_via (fun _ k => XS.ifNo X17.here hx rfl (hb hby at_80) rfl ((if0 _ _).trans (feq (by decide : ¬ ((1 : Int32) = (0 : Int32)))).1) k) ?_
        show own_Go p e below s _ _ _ (T17.setTop (mkF m 83 #[.val (.int p0), .val (.long p1), .second, .val (.long p2), .second, .val (.ref w2), .val (.int (1 : Int32)), .val (.int (1 : Int32)), .val (.int (0 : Int32)), .val (.int (1 : Int32))] []))
        refine own_via (fun _ k => XS.iload X17.here hx rfl (hb hby at_83) rfl k) ?_
        show own_Go p e below s _ _ _ (T17.setTop (mkF m 85 #[.val (.int p0), .val (.long p1), .second, .val (.long p2), .second, .val (.ref w2), .val (.int (1 : Int32)), .val (.int (1 : Int32)), .val (.int (0 : Int32)), .val (.int (1 : Int32))] [(.int (1 : Int32))]))
        refine own_via (fun _ k => XS.ifNo X17.here hx rfl (hb hby at_85) rfl ((if0 _ _).trans (feq (by decide : ¬ ((1 : Int32) = (0 : Int32)))).1) k) ?_
        show own_Go p e below s _ _ _ (T17.setTop (mkF m 88 #[.val (.int p0), .val (.long p1), .second, .val (.long p2), .second, .val (.ref w2), .val (.int (1 : Int32)), .val (.int (1 : Int32)), .val (.int (0 : Int32)), .val (.int (1 : Int32))] []))
        refine own_via (fun _ k => XS.iload X17.here hx rfl (hb hby at_88) rfl k) ?_
        show own_Go p e below s _ _ _ (T17.setTop (mkF m 90 #[.val (.int p0), .val (.long p1), .second, .val (.long p2), .second, .val (.ref w2), .val (.int (1 : Int32)), .val (.int (1 : Int32)), .val (.int (0 : Int32)), .val (.int (1 : Int32))] [(.int (0 : Int32))]))
        refine own_via (fun _ k => XS.ifNo X17.here hx rfl (hb hby at_90) rfl ((if0 _ _).trans (teq (by decide : (0 : Int32) = (0 : Int32))).2) k) ?_
        show own_Go p e below s _ _ _ (T17.setTop (mkF m 93 #[.val (.int p0), .val (.long p1), .second, .val (.long p2), .second, .val (.ref w2), .val (.int (1 : Int32)), .val (.int (1 : Int32)), .val (.int (0 : Int32)), .val (.int (1 : Int32))] []))
        refine own_via (fun _ k => XS.iload X17.here hx rfl (hb hby at_93) rfl k) ?_
        show own_Go p e below s _ _ _ (T17.setTop (mkF m 95 #[.val (.int p0), .val (.long p1), .second, .val (.long p2), .second, .val (.ref w2), .val (.int (1 : Int32)), .val (.int (1 : Int32)), .val (.int (0 : Int32)), .val (.int (1 : Int32))] [(.int (1 : Int32))]))
        refine own_via (fun _ k => XS.ifNo X17.here hx rfl (hb hby at_95) rfl ((if0 _ _).trans (feq (by decide : ¬ ((1 : Int32) = (0 : Int32)))).1) k) ?_
        show own_Go p e below s _ _ _ (T17.setTop (mkF m 98 #[.val (.int p0), .val (.long p1), .second, .val (.long p2), .second, .val (.ref w2), .val (.int (1 : Int32)), .val (.int (1 : Int32)), .val (.int (0 : Int32)), .val (.int (1 : Int32))] []))
        refine own_via (fun _ k => XS.iconst X17.here hx rfl (hb hby at_98) k) ?_
        show own_Go p e below s _ _ _ (T17.setTop (mkF m 99 #[.val (.int p0), .val (.long p1), .second, .val (.long p2), .second, .val (.ref w2), .val (.int (1 : Int32)), .val (.int (1 : Int32)), .val (.int (0 : Int32)), .val (.int (1 : Int32))] [(.int (1 : Int32))]))
        refine own_via (fun _ k => XS.goto X17.here hx rfl (pc0 := 99) (pc' := 103) rfl (hb hby at_99) (by decide) (by decide) k) ?_
        show own_Go p e below s _ _ _ (T17.setTop (mkF m 103 #[.val (.int p0), .val (.long p1), .second, .val (.long p2), .second, .val (.ref w2), .val (.int (1 : Int32)), .val (.int (1 : Int32)), .val (.int (0 : Int32)), .val (.int (1 : Int32))] [(.int (1 : Int32))]))
        exact own_retZ X17 hx hlk (t := .boolean) Bd.returns (by simp) (hb hby at_103) (z' := (1 : Int32)) (by first | rfl | decide) ⟨rfl, (Fr.nil n0)⟩ (by decide) (by decide)
      · exact absurd (Eq.symm hr13_0_0) hr14_1_0
    · refine own_tr st13 ?_
      show own_Go p e below s _ _ _ (T13.setTop (mkF m 20 #[.val (.int p0), .val (.long p1), .second, .val (.long p2), .second, .val (.ref w2), .val (.int (1 : Int32)), .unset, .unset, .unset] [(.int (1 : Int32))]))
      refine own_via (fun _ k => XS.aload X13.here hx rfl (hb hby at_20) rfl rfl k) ?_
      show own_Go p e below s _ _ _ (T13.setTop (mkF m 22 #[.val (.int p0), .val (.long p1), .second, .val (.long p2), .second, .val (.ref w2), .val (.int (1 : Int32)), .unset, .unset, .unset] [(.ref w2), (.int (1 : Int32))]))
      refine own_via (fun _ k => XS.lloadN X13.here hx rfl (hb hby at_22) rfl k) ?_
      show own_Go p e below s _ _ _ (T13.setTop (mkF m 23 #[.val (.int p0), .val (.long p1), .second, .val (.long p2), .second, .val (.ref w2), .val (.int (1 : Int32)), .unset, .unset, .unset] [(.long p2), (.ref w2), (.int (1 : Int32))]))
      refine own_via (fun _ k => XS.lloadN X13.here hx rfl (hb hby at_23) rfl k) ?_
      show own_Go p e below s _ _ _ (T13.setTop (mkF m 24 #[.val (.int p0), .val (.long p1), .second, .val (.long p2), .second, .val (.ref w2), .val (.int (1 : Int32)), .unset, .unset, .unset] [(.long p1), (.long p2), (.ref w2), (.int (1 : Int32))]))
      obtain ⟨cq18, kq18, q18a, q18b, q18c⟩ := isOf hZ e13 E_w2
      obtain ⟨_, _, ⟨T18, L18, k18, n18⟩, -, X18, ⟨Lc18, hQ18, l18, y18, z18⟩, st18⟩ := X13.virtualBack hx (y := (⟨"com/example/bericht/bericht/selector/Comparison$Operator", "holds", "(JJ)Z"⟩ : MethodName)) (z := (⟨"com/example/bericht/bericht/selector/Comparison$Operator", "holds", "(JJ)Z"⟩ : MethodName)) hown (mvT hZ (hw _ (List.mem_of_getElem? (i := 14) rfl))) (mvT hZ (hw _ (List.mem_of_getElem? (i := 15) rfl))) (notFace_of_selects (args := #[]) (mvT hZ (hw _ (List.mem_of_getElem? (i := 17) rfl)))) (mvT hZ (hw _ (List.mem_of_getElem? (i := 17) rfl))) (mvT hZ (hw _ (List.mem_of_getElem? (i := 16) rfl))) (by decide) (backOf (W := 1) (rm3_3 l Z a0 hw [] p2 p1 w0 w1 w2 w3 w4 w5 h0 n0 Z0 K0) hZ (hw _ (List.mem_of_getElem? (i := 18) rfl)) (hw _ (List.mem_of_getElem? (i := 6) rfl)) (by decide) (by decide)) q18a q18c (g := (mkF m 24 #[.val (.int p0), .val (.long p1), .second, .val (.long p2), .second, .val (.ref w2), .val (.int (1 : Int32)), .unset, .unset, .unset] [(.long p1), (.long p2), (.ref w2), (.int (1 : Int32))])) rfl (by rw [hml]; rfl) (Steps.refl _) (argsL := [(.long p2), (.long p1)]) (rest := [(.int (1 : Int32))]) (lenOf pd3 rfl) rfl (by show 2 * 0 + _ ≤ _; exact Nat.le_of_eq rfl) (hb hby at_24) (fun _ _ => ⟨rfl, e13, (by decide : 0 + 0 ≤ _), (by decide : 0 + 0 ≤ _)⟩)
      dsimp only [Pt.U, Pt.locs, Pt.cells, Pt.slots] at X18 l18 y18 z18 st18 hQ18
      subst l18 y18 z18
      obtain ⟨rfl, e18, hO18⟩ := hQ18
      rcases hO18 with ⟨hr18_0_0, rfl⟩ | ⟨hr18_1_0, rfl⟩
      · exact absurd hr18_0_0 (fun q => hr13_1_0 (Eq.symm q))
      · refine own_tr st18 ?_
        show own_Go p e below s _ _ _ (T18.setTop (mkF m 27 #[.val (.int p0), .val (.long p1), .second, .val (.long p2), .second, .val (.ref w2), .val (.int (1 : Int32)), .unset, .unset, .unset] [(.int (1 : Int32)), (.int (1 : Int32))]))
        refine own_via (fun _ k => XS.icmpNo X18.here hx rfl (hb hby at_27) rfl (teq (by decide : (1 : Int32) = (1 : Int32))).2 k) ?_
        show own_Go p e below s _ _ _ (T18.setTop (mkF m 30 #[.val (.int p0), .val (.long p1), .second, .val (.long p2), .second, .val (.ref w2), .val (.int (1 : Int32)), .unset, .unset, .unset] []))
        refine own_via (fun _ k => XS.iconst X18.here hx rfl (hb hby at_30) k) ?_
        show own_Go p e below s _ _ _ (T18.setTop (mkF m 31 #[.val (.int p0), .val (.long p1), .second, .val (.long p2), .second, .val (.ref w2), .val (.int (1 : Int32)), .unset, .unset, .unset] [(.int (1 : Int32))]))
        refine own_via (fun _ k => XS.goto X18.here hx rfl (pc0 := 31) (pc' := 35) rfl (hb hby at_31) (by decide) (by decide) k) ?_
        show own_Go p e below s _ _ _ (T18.setTop (mkF m 35 #[.val (.int p0), .val (.long p1), .second, .val (.long p2), .second, .val (.ref w2), .val (.int (1 : Int32)), .unset, .unset, .unset] [(.int (1 : Int32))]))
        refine own_via (fun _ k => XS.istore X18.here hx rfl (hb hby at_35) rfl (l' := #[.val (.int p0), .val (.long p1), .second, .val (.long p2), .second, .val (.ref w2), .val (.int (1 : Int32)), .val (.int (1 : Int32)), .unset, .unset]) rfl k) ?_
        show own_Go p e below s _ _ _ (T18.setTop (mkF m 37 #[.val (.int p0), .val (.long p1), .second, .val (.long p2), .second, .val (.ref w2), .val (.int (1 : Int32)), .val (.int (1 : Int32)), .unset, .unset] []))
        refine own_via (fun _ k => XS.aload X18.here hx rfl (hb hby at_37) rfl rfl k) ?_
        show own_Go p e below s _ _ _ (T18.setTop (mkF m 39 #[.val (.int p0), .val (.long p1), .second, .val (.long p2), .second, .val (.ref w2), .val (.int (1 : Int32)), .val (.int (1 : Int32)), .unset, .unset] [(.ref w2)]))
        refine own_via (fun _ k => XS.lconst X18.here hx rfl (hb hby at_39) k) ?_
        show own_Go p e below s _ _ _ (T18.setTop (mkF m 40 #[.val (.int p0), .val (.long p1), .second, .val (.long p2), .second, .val (.ref w2), .val (.int (1 : Int32)), .val (.int (1 : Int32)), .unset, .unset] [(.long (0 : Int64)), (.ref w2)]))
        refine own_via (fun _ k => XS.lconst X18.here hx rfl (hb hby at_40) k) ?_
        show own_Go p e below s _ _ _ (T18.setTop (mkF m 41 #[.val (.int p0), .val (.long p1), .second, .val (.long p2), .second, .val (.ref w2), .val (.int (1 : Int32)), .val (.int (1 : Int32)), .unset, .unset] [(.long (1 : Int64)), (.long (0 : Int64)), (.ref w2)]))
        obtain ⟨cq19, kq19, q19a, q19b, q19c⟩ := isOf hZ e18 E_w2
        obtain ⟨_, _, ⟨T19, L19, k19, n19⟩, -, X19, ⟨Lc19, hQ19, l19, y19, z19⟩, st19⟩ := X18.virtualBack hx (y := (⟨"com/example/bericht/bericht/selector/Comparison$Operator", "holds", "(JJ)Z"⟩ : MethodName)) (z := (⟨"com/example/bericht/bericht/selector/Comparison$Operator", "holds", "(JJ)Z"⟩ : MethodName)) hown (mvT hZ (hw _ (List.mem_of_getElem? (i := 14) rfl))) (mvT hZ (hw _ (List.mem_of_getElem? (i := 15) rfl))) (notFace_of_selects (args := #[]) (mvT hZ (hw _ (List.mem_of_getElem? (i := 17) rfl)))) (mvT hZ (hw _ (List.mem_of_getElem? (i := 17) rfl))) (mvT hZ (hw _ (List.mem_of_getElem? (i := 16) rfl))) (by decide) (backOf (W := 0) (rm3_4 l Z a0 hw [] w0 w1 w2 w3 w4 w5 h0 n0 Z0 K0) hZ (hw _ (List.mem_of_getElem? (i := 18) rfl)) (hw _ (List.mem_of_getElem? (i := 6) rfl)) (by decide) (by decide)) q19a q19c (g := (mkF m 41 #[.val (.int p0), .val (.long p1), .second, .val (.long p2), .second, .val (.ref w2), .val (.int (1 : Int32)), .val (.int (1 : Int32)), .unset, .unset] [(.long (1 : Int64)), (.long (0 : Int64)), (.ref w2)])) rfl (by rw [hml]; rfl) (Steps.refl _) (argsL := [(.long (0 : Int64)), (.long (1 : Int64))]) (rest := []) (lenOf pd3 rfl) rfl (by show 2 * 0 + _ ≤ _; exact Nat.le_of_eq rfl) (hb hby at_41) (fun _ _ => ⟨rfl, e18, (by decide : 0 + 0 ≤ _), (by decide : 0 + 0 ≤ _)⟩)
        dsimp only [Pt.U, Pt.locs, Pt.cells, Pt.slots] at X19 l19 y19 z19 st19 hQ19
        subst l19 y19 z19
        obtain ⟨rfl, e19, hO19⟩ := hQ19
        obtain rfl := hO19
        refine own_tr st19 ?_
        show own_Go p e below s _ _ _ (T19.setTop (mkF m 44 #[.val (.int p0), .val (.long p1), .second, .val (.long p2), .second, .val (.ref w2), .val (.int (1 : Int32)), .val (.int (1 : Int32)), .unset, .unset] [(.int (1 : Int32))]))
        refine own_via (fun _ k => XS.aload X19.here hx rfl (hb hby at_44) rfl rfl k) ?_
        show own_Go p e below s _ _ _ (T19.setTop (mkF m 46 #[.val (.int p0), .val (.long p1), .second, .val (.long p2), .second, .val (.ref w2), .val (.int (1 : Int32)), .val (.int (1 : Int32)), .unset, .unset] [(.ref w2), (.int (1 : Int32))]))
        refine own_via (fun _ k => XS.lconst X19.here hx rfl (hb hby at_46) k) ?_
        show own_Go p e below s _ _ _ (T19.setTop (mkF m 47 #[.val (.int p0), .val (.long p1), .second, .val (.long p2), .second, .val (.ref w2), .val (.int (1 : Int32)), .val (.int (1 : Int32)), .unset, .unset] [(.long (1 : Int64)), (.ref w2), (.int (1 : Int32))]))
        refine own_via (fun _ k => XS.lconst X19.here hx rfl (hb hby at_47) k) ?_
        show own_Go p e below s _ _ _ (T19.setTop (mkF m 48 #[.val (.int p0), .val (.long p1), .second, .val (.long p2), .second, .val (.ref w2), .val (.int (1 : Int32)), .val (.int (1 : Int32)), .unset, .unset] [(.long (0 : Int64)), (.long (1 : Int64)), (.ref w2), (.int (1 : Int32))]))
        obtain ⟨cq20, kq20, q20a, q20b, q20c⟩ := isOf hZ e19 E_w2
        obtain ⟨_, _, ⟨T20, L20, k20, n20⟩, -, X20, ⟨Lc20, hQ20, l20, y20, z20⟩, st20⟩ := X19.virtualBack hx (y := (⟨"com/example/bericht/bericht/selector/Comparison$Operator", "holds", "(JJ)Z"⟩ : MethodName)) (z := (⟨"com/example/bericht/bericht/selector/Comparison$Operator", "holds", "(JJ)Z"⟩ : MethodName)) hown (mvT hZ (hw _ (List.mem_of_getElem? (i := 14) rfl))) (mvT hZ (hw _ (List.mem_of_getElem? (i := 15) rfl))) (notFace_of_selects (args := #[]) (mvT hZ (hw _ (List.mem_of_getElem? (i := 17) rfl)))) (mvT hZ (hw _ (List.mem_of_getElem? (i := 17) rfl))) (mvT hZ (hw _ (List.mem_of_getElem? (i := 16) rfl))) (by decide) (backOf (W := 1) (rm3_5 l Z a0 hw [] w0 w1 w2 w3 w4 w5 h0 n0 Z0 K0) hZ (hw _ (List.mem_of_getElem? (i := 18) rfl)) (hw _ (List.mem_of_getElem? (i := 6) rfl)) (by decide) (by decide)) q20a q20c (g := (mkF m 48 #[.val (.int p0), .val (.long p1), .second, .val (.long p2), .second, .val (.ref w2), .val (.int (1 : Int32)), .val (.int (1 : Int32)), .unset, .unset] [(.long (0 : Int64)), (.long (1 : Int64)), (.ref w2), (.int (1 : Int32))])) rfl (by rw [hml]; rfl) (Steps.refl _) (argsL := [(.long (1 : Int64)), (.long (0 : Int64))]) (rest := [(.int (1 : Int32))]) (lenOf pd3 rfl) rfl (by show 2 * 0 + _ ≤ _; exact Nat.le_of_eq rfl) (hb hby at_48) (fun _ _ => ⟨rfl, e19, (by decide : 0 + 0 ≤ _), (by decide : 0 + 0 ≤ _)⟩)
        dsimp only [Pt.U, Pt.locs, Pt.cells, Pt.slots] at X20 l20 y20 z20 st20 hQ20
        subst l20 y20 z20
        obtain ⟨rfl, e20, hO20⟩ := hQ20
        obtain rfl := hO20
        refine own_tr st20 ?_
        show own_Go p e below s _ _ _ (T20.setTop (mkF m 51 #[.val (.int p0), .val (.long p1), .second, .val (.long p2), .second, .val (.ref w2), .val (.int (1 : Int32)), .val (.int (1 : Int32)), .unset, .unset] [(.int (1 : Int32)), (.int (1 : Int32))]))
        refine own_via (fun _ k => XS.icmpYes X20.here hx rfl (pc0 := 51) (pc' := 58) rfl (hb hby at_51) rfl (teq (by decide : (1 : Int32) = (1 : Int32))).1 (by decide) (by decide) k) ?_
        show own_Go p e below s _ _ _ (T20.setTop (mkF m 58 #[.val (.int p0), .val (.long p1), .second, .val (.long p2), .second, .val (.ref w2), .val (.int (1 : Int32)), .val (.int (1 : Int32)), .unset, .unset] []))
        refine own_via (fun _ k => XS.iconst X20.here hx rfl (hb hby at_58) k) ?_
        show own_Go p e below s _ _ _ (T20.setTop (mkF m 59 #[.val (.int p0), .val (.long p1), .second, .val (.long p2), .second, .val (.ref w2), .val (.int (1 : Int32)), .val (.int (1 : Int32)), .unset, .unset] [(.int (0 : Int32))]))
        refine own_via (fun _ k => XS.istore X20.here hx rfl (hb hby at_59) rfl (l' := #[.val (.int p0), .val (.long p1), .second, .val (.long p2), .second, .val (.ref w2), .val (.int (1 : Int32)), .val (.int (1 : Int32)), .val (.int (0 : Int32)), .unset]) rfl k) ?_
        show own_Go p e below s _ _ _ (T20.setTop (mkF m 61 #[.val (.int p0), .val (.long p1), .second, .val (.long p2), .second, .val (.ref w2), .val (.int (1 : Int32)), .val (.int (1 : Int32)), .val (.int (0 : Int32)), .unset] []))
        refine own_via (fun _ k => XS.aload X20.here hx rfl (hb hby at_61) rfl rfl k) ?_
        show own_Go p e below s _ _ _ (T20.setTop (mkF m 63 #[.val (.int p0), .val (.long p1), .second, .val (.long p2), .second, .val (.ref w2), .val (.int (1 : Int32)), .val (.int (1 : Int32)), .val (.int (0 : Int32)), .unset] [(.ref w2)]))
        obtain ⟨cq21, kq21, q21a, q21b, q21c⟩ := isOf hZ e20 E_w2
        obtain ⟨_, _, ⟨T21, L21, k21, n21⟩, -, X21, ⟨Lc21, hQ21, l21, y21, z21⟩, st21⟩ := X20.virtualBack hx (y := (⟨"com/example/bericht/bericht/selector/Comparison$Operator", "flipped", "()Lcom/example/bericht/bericht/selector/Comparison$Operator;"⟩ : MethodName)) (z := (⟨"com/example/bericht/bericht/selector/Comparison$Operator", "flipped", "()Lcom/example/bericht/bericht/selector/Comparison$Operator;"⟩ : MethodName)) hown (mvT hZ (hw _ (List.mem_of_getElem? (i := 28) rfl))) (mvT hZ (hw _ (List.mem_of_getElem? (i := 29) rfl))) (notFace_of_selects (args := #[]) (mvT hZ (hw _ (List.mem_of_getElem? (i := 31) rfl)))) (mvT hZ (hw _ (List.mem_of_getElem? (i := 31) rfl))) (mvT hZ (hw _ (List.mem_of_getElem? (i := 30) rfl))) (by decide) (backOf (W := 0) (rm5_1 l Z a0 hw [] w0 w1 w2 w3 w4 w5 h0 n0 Z0 K0) hZ (hw _ (List.mem_of_getElem? (i := 32) rfl)) (hw _ (List.mem_of_getElem? (i := 6) rfl)) (by decide) (by decide)) q21a q21c (g := (mkF m 63 #[.val (.int p0), .val (.long p1), .second, .val (.long p2), .second, .val (.ref w2), .val (.int (1 : Int32)), .val (.int (1 : Int32)), .val (.int (0 : Int32)), .unset] [(.ref w2)])) rfl (by rw [hml]; rfl) (Steps.refl _) (argsL := []) (rest := []) (lenOf pd4 rfl) rfl (by show 2 * 0 + _ ≤ _; exact Nat.le_of_eq rfl) (hb hby at_63) (fun _ _ => ⟨rfl, e20, (by decide : 0 + 0 ≤ _), (by decide : 0 + 0 ≤ _)⟩)
        dsimp only [Pt.U, Pt.locs, Pt.cells, Pt.slots] at X21 l21 y21 z21 st21 hQ21
        subst l21 y21 z21
        obtain ⟨rfl, e21, hO21⟩ := hQ21
        obtain rfl := hO21
        refine own_tr st21 ?_
        show own_Go p e below s _ _ _ (T21.setTop (mkF m 66 #[.val (.int p0), .val (.long p1), .second, .val (.long p2), .second, .val (.ref w2), .val (.int (1 : Int32)), .val (.int (1 : Int32)), .val (.int (0 : Int32)), .unset] [(.ref w2)]))
        refine own_via (fun _ k => XS.aload X21.here hx rfl (hb hby at_66) rfl rfl k) ?_
        show own_Go p e below s _ _ _ (T21.setTop (mkF m 68 #[.val (.int p0), .val (.long p1), .second, .val (.long p2), .second, .val (.ref w2), .val (.int (1 : Int32)), .val (.int (1 : Int32)), .val (.int (0 : Int32)), .unset] [(.ref w2), (.ref w2)]))
        refine own_via (fun _ k => Jvm.RoadKit.acmp (g := (mkF m 68 #[.val (.int p0), .val (.long p1), .second, .val (.long p2), .second, .val (.ref w2), .val (.int (1 : Int32)), .val (.int (1 : Int32)), .val (.int (0 : Int32)), .unset] [(.ref w2), (.ref w2)])) X21 hx rfl rfl rfl (pc0 := 68) (pc' := 71) (same := true) rfl (hb hby at_68) rfl (decide_eq_true rfl) (by decide) (by decide) k) ?_
        show own_Go p e below s _ _ _ (T21.setTop (mkF m 71 #[.val (.int p0), .val (.long p1), .second, .val (.long p2), .second, .val (.ref w2), .val (.int (1 : Int32)), .val (.int (1 : Int32)), .val (.int (0 : Int32)), .unset] []))
        refine own_via (fun _ k => XS.iconst X21.here hx rfl (hb hby at_71) k) ?_
        show own_Go p e below s _ _ _ (T21.setTop (mkF m 72 #[.val (.int p0), .val (.long p1), .second, .val (.long p2), .second, .val (.ref w2), .val (.int (1 : Int32)), .val (.int (1 : Int32)), .val (.int (0 : Int32)), .unset] [(.int (1 : Int32))]))
        refine own_via (fun _ k => XS.goto X21.here hx rfl (pc0 := 72) (pc' := 76) rfl (hb hby at_72) (by decide) (by decide) k) ?_
        show own_Go p e below s _ _ _ (T21.setTop (mkF m 76 #[.val (.int p0), .val (.long p1), .second, .val (.long p2), .second, .val (.ref w2), .val (.int (1 : Int32)), .val (.int (1 : Int32)), .val (.int (0 : Int32)), .unset] [(.int (1 : Int32))]))
        refine own_via (fun _ k => XS.istore X21.here hx rfl (hb hby at_76) rfl (l' := #[.val (.int p0), .val (.long p1), .second, .val (.long p2), .second, .val (.ref w2), .val (.int (1 : Int32)), .val (.int (1 : Int32)), .val (.int (0 : Int32)), .val (.int (1 : Int32))]) rfl k) ?_
        show own_Go p e below s _ _ _ (T21.setTop (mkF m 78 #[.val (.int p0), .val (.long p1), .second, .val (.long p2), .second, .val (.ref w2), .val (.int (1 : Int32)), .val (.int (1 : Int32)), .val (.int (0 : Int32)), .val (.int (1 : Int32))] []))
        refine own_via (fun _ k => XS.iload X21.here hx rfl (hb hby at_78) rfl k) ?_
        show own_Go p e below s _ _ _ (T21.setTop (mkF m 80 #[.val (.int p0), .val (.long p1), .second, .val (.long p2), .second, .val (.ref w2), .val (.int (1 : Int32)), .val (.int (1 : Int32)), .val (.int (0 : Int32)), .val (.int (1 : Int32))] [(.int (1 : Int32))]))
        refine own_via (fun _ k => XS.ifNo X21.here hx rfl (hb hby at_80) rfl ((if0 _ _).trans (feq (by decide : ¬ ((1 : Int32) = (0 : Int32)))).1) k) ?_
        show own_Go p e below s _ _ _ (T21.setTop (mkF m 83 #[.val (.int p0), .val (.long p1), .second, .val (.long p2), .second, .val (.ref w2), .val (.int (1 : Int32)), .val (.int (1 : Int32)), .val (.int (0 : Int32)), .val (.int (1 : Int32))] []))
        refine own_via (fun _ k => XS.iload X21.here hx rfl (hb hby at_83) rfl k) ?_
        show own_Go p e below s _ _ _ (T21.setTop (mkF m 85 #[.val (.int p0), .val (.long p1), .second, .val (.long p2), .second, .val (.ref w2), .val (.int (1 : Int32)), .val (.int (1 : Int32)), .val (.int (0 : Int32)), .val (.int (1 : Int32))] [(.int (1 : Int32))]))
        refine own_via (fun _ k => XS.ifNo X21.here hx rfl (hb hby at_85) rfl ((if0 _ _).trans (feq (by decide : ¬ ((1 : Int32) = (0 : Int32)))).1) k) ?_
        show own_Go p e below s _ _ _ (T21.setTop (mkF m 88 #[.val (.int p0), .val (.long p1), .second, .val (.long p2), .second, .val (.ref w2), .val (.int (1 : Int32)), .val (.int (1 : Int32)), .val (.int (0 : Int32)), .val (.int (1 : Int32))] []))
        refine own_via (fun _ k => XS.iload X21.here hx rfl (hb hby at_88) rfl k) ?_
        show own_Go p e below s _ _ _ (T21.setTop (mkF m 90 #[.val (.int p0), .val (.long p1), .second, .val (.long p2), .second, .val (.ref w2), .val (.int (1 : Int32)), .val (.int (1 : Int32)), .val (.int (0 : Int32)), .val (.int (1 : Int32))] [(.int (0 : Int32))]))
        refine own_via (fun _ k => XS.ifNo X21.here hx rfl (hb hby at_90) rfl ((if0 _ _).trans (teq (by decide : (0 : Int32) = (0 : Int32))).2) k) ?_
        show own_Go p e below s _ _ _ (T21.setTop (mkF m 93 #[.val (.int p0), .val (.long p1), .second, .val (.long p2), .second, .val (.ref w2), .val (.int (1 : Int32)), .val (.int (1 : Int32)), .val (.int (0 : Int32)), .val (.int (1 : Int32))] []))
        refine own_via (fun _ k => XS.iload X21.here hx rfl (hb hby at_93) rfl k) ?_
        show own_Go p e below s _ _ _ (T21.setTop (mkF m 95 #[.val (.int p0), .val (.long p1), .second, .val (.long p2), .second, .val (.ref w2), .val (.int (1 : Int32)), .val (.int (1 : Int32)), .val (.int (0 : Int32)), .val (.int (1 : Int32))] [(.int (1 : Int32))]))
        refine own_via (fun _ k => XS.ifNo X21.here hx rfl (hb hby at_95) rfl ((if0 _ _).trans (feq (by decide : ¬ ((1 : Int32) = (0 : Int32)))).1) k) ?_
        show own_Go p e below s _ _ _ (T21.setTop (mkF m 98 #[.val (.int p0), .val (.long p1), .second, .val (.long p2), .second, .val (.ref w2), .val (.int (1 : Int32)), .val (.int (1 : Int32)), .val (.int (0 : Int32)), .val (.int (1 : Int32))] []))
        refine own_via (fun _ k => XS.iconst X21.here hx rfl (hb hby at_98) k) ?_
        show own_Go p e below s _ _ _ (T21.setTop (mkF m 99 #[.val (.int p0), .val (.long p1), .second, .val (.long p2), .second, .val (.ref w2), .val (.int (1 : Int32)), .val (.int (1 : Int32)), .val (.int (0 : Int32)), .val (.int (1 : Int32))] [(.int (1 : Int32))]))
        refine own_via (fun _ k => XS.goto X21.here hx rfl (pc0 := 99) (pc' := 103) rfl (hb hby at_99) (by decide) (by decide) k) ?_
        show own_Go p e below s _ _ _ (T21.setTop (mkF m 103 #[.val (.int p0), .val (.long p1), .second, .val (.long p2), .second, .val (.ref w2), .val (.int (1 : Int32)), .val (.int (1 : Int32)), .val (.int (0 : Int32)), .val (.int (1 : Int32))] [(.int (1 : Int32))]))
        exact own_retZ X21 hx hlk (t := .boolean) Bd.returns (by simp) (hb hby at_103) (z' := (1 : Int32)) (by first | rfl | decide) ⟨rfl, (Fr.nil n0)⟩ (by decide) (by decide)
  · refine own_via st1 ?_
    show own_Go p e below s _ _ _ (T1.setTop (mkF m 4 #[.val (.int p0), .val (.long p1), .second, .val (.long p2), .second, .unset, .unset, .unset, .unset, .unset] [(.ref w3)]))
    refine own_via (fun _ k => XS.astore X1.here hx rfl (hb hby at_4) rfl rfl (l' := #[.val (.int p0), .val (.long p1), .second, .val (.long p2), .second, .val (.ref w3), .unset, .unset, .unset, .unset]) rfl k) ?_
    show own_Go p e below s _ _ _ (T1.setTop (mkF m 6 #[.val (.int p0), .val (.long p1), .second, .val (.long p2), .second, .val (.ref w3), .unset, .unset, .unset, .unset] []))
    refine own_via (fun _ k => XS.aload X1.here hx rfl (hb hby at_6) rfl rfl k) ?_
    show own_Go p e below s _ _ _ (T1.setTop (mkF m 8 #[.val (.int p0), .val (.long p1), .second, .val (.long p2), .second, .val (.ref w3), .unset, .unset, .unset, .unset] [(.ref w3)]))
    obtain ⟨cq22, kq22, q22a, q22b, q22c⟩ := isOf hZ e1 E_w3
    obtain ⟨_, _, ⟨T22, L22, k22, n22⟩, -, X22, ⟨Lc22, hQ22, l22, y22, z22⟩, st22⟩ := X1.virtualBack hx (y := (⟨"com/example/bericht/bericht/selector/Comparison$Operator", "isEquality", "()Z"⟩ : MethodName)) (z := (⟨"com/example/bericht/bericht/selector/Comparison$Operator", "isEquality", "()Z"⟩ : MethodName)) hown (mvT hZ (hw _ (List.mem_of_getElem? (i := 8) rfl))) (mvT hZ (hw _ (List.mem_of_getElem? (i := 9) rfl))) (notFace_of_selects (args := #[]) (mvT hZ (hw _ (List.mem_of_getElem? (i := 11) rfl)))) (mvT hZ (hw _ (List.mem_of_getElem? (i := 11) rfl))) (mvT hZ (hw _ (List.mem_of_getElem? (i := 10) rfl))) (by decide) (backOf (W := 0) (rm2_2 l Z a0 hw [] w0 w1 w2 w3 w4 w5 h0 n0 Z0 K0) hZ (hw _ (List.mem_of_getElem? (i := 12) rfl)) (hw _ (List.mem_of_getElem? (i := 6) rfl)) (by decide) (by decide)) q22a q22c (g := (mkF m 8 #[.val (.int p0), .val (.long p1), .second, .val (.long p2), .second, .val (.ref w3), .unset, .unset, .unset, .unset] [(.ref w3)])) rfl (by rw [hml]; rfl) (Steps.refl _) (argsL := []) (rest := []) (lenOf pd1 rfl) rfl (by show 2 * 0 + _ ≤ _; exact Nat.le_of_eq rfl) (hb hby at_8) (fun _ _ => ⟨rfl, e1, (by decide : 0 + 0 ≤ _), (by decide : 0 + 0 ≤ _)⟩)
    dsimp only [Pt.U, Pt.locs, Pt.cells, Pt.slots] at X22 l22 y22 z22 st22 hQ22
    subst l22 y22 z22
    obtain ⟨rfl, e22, hO22⟩ := hQ22
    obtain rfl := hO22
    refine own_tr st22 ?_
    show own_Go p e below s _ _ _ (T22.setTop (mkF m 11 #[.val (.int p0), .val (.long p1), .second, .val (.long p2), .second, .val (.ref w3), .unset, .unset, .unset, .unset] [(.int (0 : Int32))]))
    refine own_via (fun _ k => XS.istore X22.here hx rfl (hb hby at_11) rfl (l' := #[.val (.int p0), .val (.long p1), .second, .val (.long p2), .second, .val (.ref w3), .val (.int (0 : Int32)), .unset, .unset, .unset]) rfl k) ?_
    show own_Go p e below s _ _ _ (T22.setTop (mkF m 13 #[.val (.int p0), .val (.long p1), .second, .val (.long p2), .second, .val (.ref w3), .val (.int (0 : Int32)), .unset, .unset, .unset] []))
    refine own_via (fun _ k => XS.aload X22.here hx rfl (hb hby at_13) rfl rfl k) ?_
    show own_Go p e below s _ _ _ (T22.setTop (mkF m 15 #[.val (.int p0), .val (.long p1), .second, .val (.long p2), .second, .val (.ref w3), .val (.int (0 : Int32)), .unset, .unset, .unset] [(.ref w3)]))
    refine own_via (fun _ k => XS.lloadN X22.here hx rfl (hb hby at_15) rfl k) ?_
    show own_Go p e below s _ _ _ (T22.setTop (mkF m 16 #[.val (.int p0), .val (.long p1), .second, .val (.long p2), .second, .val (.ref w3), .val (.int (0 : Int32)), .unset, .unset, .unset] [(.long p1), (.ref w3)]))
    refine own_via (fun _ k => XS.lloadN X22.here hx rfl (hb hby at_16) rfl k) ?_
    show own_Go p e below s _ _ _ (T22.setTop (mkF m 17 #[.val (.int p0), .val (.long p1), .second, .val (.long p2), .second, .val (.ref w3), .val (.int (0 : Int32)), .unset, .unset, .unset] [(.long p2), (.long p1), (.ref w3)]))
    obtain ⟨cq23, kq23, q23a, q23b, q23c⟩ := isOf hZ e22 E_w3
    obtain ⟨_, _, ⟨T23, L23, k23, n23⟩, -, X23, ⟨Lc23, hQ23, l23, y23, z23⟩, st23⟩ := X22.virtualBack hx (y := (⟨"com/example/bericht/bericht/selector/Comparison$Operator", "holds", "(JJ)Z"⟩ : MethodName)) (z := (⟨"com/example/bericht/bericht/selector/Comparison$Operator", "holds", "(JJ)Z"⟩ : MethodName)) hown (mvT hZ (hw _ (List.mem_of_getElem? (i := 14) rfl))) (mvT hZ (hw _ (List.mem_of_getElem? (i := 15) rfl))) (notFace_of_selects (args := #[]) (mvT hZ (hw _ (List.mem_of_getElem? (i := 17) rfl)))) (mvT hZ (hw _ (List.mem_of_getElem? (i := 17) rfl))) (mvT hZ (hw _ (List.mem_of_getElem? (i := 16) rfl))) (by decide) (backOf (W := 0) (rm3_6 l Z a0 hw [] p1 p2 w0 w1 w2 w3 w4 w5 h0 n0 Z0 K0) hZ (hw _ (List.mem_of_getElem? (i := 18) rfl)) (hw _ (List.mem_of_getElem? (i := 6) rfl)) (by decide) (by decide)) q23a q23c (g := (mkF m 17 #[.val (.int p0), .val (.long p1), .second, .val (.long p2), .second, .val (.ref w3), .val (.int (0 : Int32)), .unset, .unset, .unset] [(.long p2), (.long p1), (.ref w3)])) rfl (by rw [hml]; rfl) (Steps.refl _) (argsL := [(.long p1), (.long p2)]) (rest := []) (lenOf pd3 rfl) rfl (by show 2 * 0 + _ ≤ _; exact Nat.le_of_eq rfl) (hb hby at_17) (fun _ _ => ⟨rfl, e22, (by decide : 0 + 0 ≤ _), (by decide : 0 + 0 ≤ _)⟩)
    dsimp only [Pt.U, Pt.locs, Pt.cells, Pt.slots] at X23 l23 y23 z23 st23 hQ23
    subst l23 y23 z23
    obtain ⟨rfl, e23, hO23⟩ := hQ23
    rcases hO23 with ⟨hr23_0_0, rfl⟩ | ⟨hr23_1_0, rfl⟩
    · refine own_tr st23 ?_
      show own_Go p e below s _ _ _ (T23.setTop (mkF m 20 #[.val (.int p0), .val (.long p1), .second, .val (.long p2), .second, .val (.ref w3), .val (.int (0 : Int32)), .unset, .unset, .unset] [(.int (1 : Int32))]))
      refine own_via (fun _ k => XS.aload X23.here hx rfl (hb hby at_20) rfl rfl k) ?_
      show own_Go p e below s _ _ _ (T23.setTop (mkF m 22 #[.val (.int p0), .val (.long p1), .second, .val (.long p2), .second, .val (.ref w3), .val (.int (0 : Int32)), .unset, .unset, .unset] [(.ref w3), (.int (1 : Int32))]))
      refine own_via (fun _ k => XS.lloadN X23.here hx rfl (hb hby at_22) rfl k) ?_
      show own_Go p e below s _ _ _ (T23.setTop (mkF m 23 #[.val (.int p0), .val (.long p1), .second, .val (.long p2), .second, .val (.ref w3), .val (.int (0 : Int32)), .unset, .unset, .unset] [(.long p2), (.ref w3), (.int (1 : Int32))]))
      refine own_via (fun _ k => XS.lloadN X23.here hx rfl (hb hby at_23) rfl k) ?_
      show own_Go p e below s _ _ _ (T23.setTop (mkF m 24 #[.val (.int p0), .val (.long p1), .second, .val (.long p2), .second, .val (.ref w3), .val (.int (0 : Int32)), .unset, .unset, .unset] [(.long p1), (.long p2), (.ref w3), (.int (1 : Int32))]))
      obtain ⟨cq24, kq24, q24a, q24b, q24c⟩ := isOf hZ e23 E_w3
      obtain ⟨_, _, ⟨T24, L24, k24, n24⟩, -, X24, ⟨Lc24, hQ24, l24, y24, z24⟩, st24⟩ := X23.virtualBack hx (y := (⟨"com/example/bericht/bericht/selector/Comparison$Operator", "holds", "(JJ)Z"⟩ : MethodName)) (z := (⟨"com/example/bericht/bericht/selector/Comparison$Operator", "holds", "(JJ)Z"⟩ : MethodName)) hown (mvT hZ (hw _ (List.mem_of_getElem? (i := 14) rfl))) (mvT hZ (hw _ (List.mem_of_getElem? (i := 15) rfl))) (notFace_of_selects (args := #[]) (mvT hZ (hw _ (List.mem_of_getElem? (i := 17) rfl)))) (mvT hZ (hw _ (List.mem_of_getElem? (i := 17) rfl))) (mvT hZ (hw _ (List.mem_of_getElem? (i := 16) rfl))) (by decide) (backOf (W := 1) (rm3_6 l Z a0 hw [] p2 p1 w0 w1 w2 w3 w4 w5 h0 n0 Z0 K0) hZ (hw _ (List.mem_of_getElem? (i := 18) rfl)) (hw _ (List.mem_of_getElem? (i := 6) rfl)) (by decide) (by decide)) q24a q24c (g := (mkF m 24 #[.val (.int p0), .val (.long p1), .second, .val (.long p2), .second, .val (.ref w3), .val (.int (0 : Int32)), .unset, .unset, .unset] [(.long p1), (.long p2), (.ref w3), (.int (1 : Int32))])) rfl (by rw [hml]; rfl) (Steps.refl _) (argsL := [(.long p2), (.long p1)]) (rest := [(.int (1 : Int32))]) (lenOf pd3 rfl) rfl (by show 2 * 0 + _ ≤ _; exact Nat.le_of_eq rfl) (hb hby at_24) (fun _ _ => ⟨rfl, e23, (by decide : 0 + 0 ≤ _), (by decide : 0 + 0 ≤ _)⟩)
      dsimp only [Pt.U, Pt.locs, Pt.cells, Pt.slots] at X24 l24 y24 z24 st24 hQ24
      subst l24 y24 z24
      obtain ⟨rfl, e24, hO24⟩ := hQ24
      rcases hO24 with ⟨hr24_0_0, rfl⟩ | ⟨hr24_1_0, rfl⟩
      · refine own_tr st24 ?_
        show own_Go p e below s _ _ _ (T24.setTop (mkF m 27 #[.val (.int p0), .val (.long p1), .second, .val (.long p2), .second, .val (.ref w3), .val (.int (0 : Int32)), .unset, .unset, .unset] [(.int (1 : Int32)), (.int (1 : Int32))]))
        refine own_via (fun _ k => XS.icmpNo X24.here hx rfl (hb hby at_27) rfl (teq (by decide : (1 : Int32) = (1 : Int32))).2 k) ?_
        show own_Go p e below s _ _ _ (T24.setTop (mkF m 30 #[.val (.int p0), .val (.long p1), .second, .val (.long p2), .second, .val (.ref w3), .val (.int (0 : Int32)), .unset, .unset, .unset] []))
        refine own_via (fun _ k => XS.iconst X24.here hx rfl (hb hby at_30) k) ?_
        show own_Go p e below s _ _ _ (T24.setTop (mkF m 31 #[.val (.int p0), .val (.long p1), .second, .val (.long p2), .second, .val (.ref w3), .val (.int (0 : Int32)), .unset, .unset, .unset] [(.int (1 : Int32))]))
        refine own_via (fun _ k => XS.goto X24.here hx rfl (pc0 := 31) (pc' := 35) rfl (hb hby at_31) (by decide) (by decide) k) ?_
        show own_Go p e below s _ _ _ (T24.setTop (mkF m 35 #[.val (.int p0), .val (.long p1), .second, .val (.long p2), .second, .val (.ref w3), .val (.int (0 : Int32)), .unset, .unset, .unset] [(.int (1 : Int32))]))
        refine own_via (fun _ k => XS.istore X24.here hx rfl (hb hby at_35) rfl (l' := #[.val (.int p0), .val (.long p1), .second, .val (.long p2), .second, .val (.ref w3), .val (.int (0 : Int32)), .val (.int (1 : Int32)), .unset, .unset]) rfl k) ?_
        show own_Go p e below s _ _ _ (T24.setTop (mkF m 37 #[.val (.int p0), .val (.long p1), .second, .val (.long p2), .second, .val (.ref w3), .val (.int (0 : Int32)), .val (.int (1 : Int32)), .unset, .unset] []))
        refine own_via (fun _ k => XS.aload X24.here hx rfl (hb hby at_37) rfl rfl k) ?_
        show own_Go p e below s _ _ _ (T24.setTop (mkF m 39 #[.val (.int p0), .val (.long p1), .second, .val (.long p2), .second, .val (.ref w3), .val (.int (0 : Int32)), .val (.int (1 : Int32)), .unset, .unset] [(.ref w3)]))
        refine own_via (fun _ k => XS.lconst X24.here hx rfl (hb hby at_39) k) ?_
        show own_Go p e below s _ _ _ (T24.setTop (mkF m 40 #[.val (.int p0), .val (.long p1), .second, .val (.long p2), .second, .val (.ref w3), .val (.int (0 : Int32)), .val (.int (1 : Int32)), .unset, .unset] [(.long (0 : Int64)), (.ref w3)]))
        refine own_via (fun _ k => XS.lconst X24.here hx rfl (hb hby at_40) k) ?_
        show own_Go p e below s _ _ _ (T24.setTop (mkF m 41 #[.val (.int p0), .val (.long p1), .second, .val (.long p2), .second, .val (.ref w3), .val (.int (0 : Int32)), .val (.int (1 : Int32)), .unset, .unset] [(.long (1 : Int64)), (.long (0 : Int64)), (.ref w3)]))
        obtain ⟨cq25, kq25, q25a, q25b, q25c⟩ := isOf hZ e24 E_w3
        obtain ⟨_, _, ⟨T25, L25, k25, n25⟩, -, X25, ⟨Lc25, hQ25, l25, y25, z25⟩, st25⟩ := X24.virtualBack hx (y := (⟨"com/example/bericht/bericht/selector/Comparison$Operator", "holds", "(JJ)Z"⟩ : MethodName)) (z := (⟨"com/example/bericht/bericht/selector/Comparison$Operator", "holds", "(JJ)Z"⟩ : MethodName)) hown (mvT hZ (hw _ (List.mem_of_getElem? (i := 14) rfl))) (mvT hZ (hw _ (List.mem_of_getElem? (i := 15) rfl))) (notFace_of_selects (args := #[]) (mvT hZ (hw _ (List.mem_of_getElem? (i := 17) rfl)))) (mvT hZ (hw _ (List.mem_of_getElem? (i := 17) rfl))) (mvT hZ (hw _ (List.mem_of_getElem? (i := 16) rfl))) (by decide) (backOf (W := 0) (rm3_7 l Z a0 hw [] w0 w1 w2 w3 w4 w5 h0 n0 Z0 K0) hZ (hw _ (List.mem_of_getElem? (i := 18) rfl)) (hw _ (List.mem_of_getElem? (i := 6) rfl)) (by decide) (by decide)) q25a q25c (g := (mkF m 41 #[.val (.int p0), .val (.long p1), .second, .val (.long p2), .second, .val (.ref w3), .val (.int (0 : Int32)), .val (.int (1 : Int32)), .unset, .unset] [(.long (1 : Int64)), (.long (0 : Int64)), (.ref w3)])) rfl (by rw [hml]; rfl) (Steps.refl _) (argsL := [(.long (0 : Int64)), (.long (1 : Int64))]) (rest := []) (lenOf pd3 rfl) rfl (by show 2 * 0 + _ ≤ _; exact Nat.le_of_eq rfl) (hb hby at_41) (fun _ _ => ⟨rfl, e24, (by decide : 0 + 0 ≤ _), (by decide : 0 + 0 ≤ _)⟩)
        dsimp only [Pt.U, Pt.locs, Pt.cells, Pt.slots] at X25 l25 y25 z25 st25 hQ25
        subst l25 y25 z25
        obtain ⟨rfl, e25, hO25⟩ := hQ25
        obtain rfl := hO25
        refine own_tr st25 ?_
        show own_Go p e below s _ _ _ (T25.setTop (mkF m 44 #[.val (.int p0), .val (.long p1), .second, .val (.long p2), .second, .val (.ref w3), .val (.int (0 : Int32)), .val (.int (1 : Int32)), .unset, .unset] [(.int (1 : Int32))]))
        refine own_via (fun _ k => XS.aload X25.here hx rfl (hb hby at_44) rfl rfl k) ?_
        show own_Go p e below s _ _ _ (T25.setTop (mkF m 46 #[.val (.int p0), .val (.long p1), .second, .val (.long p2), .second, .val (.ref w3), .val (.int (0 : Int32)), .val (.int (1 : Int32)), .unset, .unset] [(.ref w3), (.int (1 : Int32))]))
        refine own_via (fun _ k => XS.lconst X25.here hx rfl (hb hby at_46) k) ?_
        show own_Go p e below s _ _ _ (T25.setTop (mkF m 47 #[.val (.int p0), .val (.long p1), .second, .val (.long p2), .second, .val (.ref w3), .val (.int (0 : Int32)), .val (.int (1 : Int32)), .unset, .unset] [(.long (1 : Int64)), (.ref w3), (.int (1 : Int32))]))
        refine own_via (fun _ k => XS.lconst X25.here hx rfl (hb hby at_47) k) ?_
        show own_Go p e below s _ _ _ (T25.setTop (mkF m 48 #[.val (.int p0), .val (.long p1), .second, .val (.long p2), .second, .val (.ref w3), .val (.int (0 : Int32)), .val (.int (1 : Int32)), .unset, .unset] [(.long (0 : Int64)), (.long (1 : Int64)), (.ref w3), (.int (1 : Int32))]))
        obtain ⟨cq26, kq26, q26a, q26b, q26c⟩ := isOf hZ e25 E_w3
        obtain ⟨_, _, ⟨T26, L26, k26, n26⟩, -, X26, ⟨Lc26, hQ26, l26, y26, z26⟩, st26⟩ := X25.virtualBack hx (y := (⟨"com/example/bericht/bericht/selector/Comparison$Operator", "holds", "(JJ)Z"⟩ : MethodName)) (z := (⟨"com/example/bericht/bericht/selector/Comparison$Operator", "holds", "(JJ)Z"⟩ : MethodName)) hown (mvT hZ (hw _ (List.mem_of_getElem? (i := 14) rfl))) (mvT hZ (hw _ (List.mem_of_getElem? (i := 15) rfl))) (notFace_of_selects (args := #[]) (mvT hZ (hw _ (List.mem_of_getElem? (i := 17) rfl)))) (mvT hZ (hw _ (List.mem_of_getElem? (i := 17) rfl))) (mvT hZ (hw _ (List.mem_of_getElem? (i := 16) rfl))) (by decide) (backOf (W := 1) (rm3_8 l Z a0 hw [] w0 w1 w2 w3 w4 w5 h0 n0 Z0 K0) hZ (hw _ (List.mem_of_getElem? (i := 18) rfl)) (hw _ (List.mem_of_getElem? (i := 6) rfl)) (by decide) (by decide)) q26a q26c (g := (mkF m 48 #[.val (.int p0), .val (.long p1), .second, .val (.long p2), .second, .val (.ref w3), .val (.int (0 : Int32)), .val (.int (1 : Int32)), .unset, .unset] [(.long (0 : Int64)), (.long (1 : Int64)), (.ref w3), (.int (1 : Int32))])) rfl (by rw [hml]; rfl) (Steps.refl _) (argsL := [(.long (1 : Int64)), (.long (0 : Int64))]) (rest := [(.int (1 : Int32))]) (lenOf pd3 rfl) rfl (by show 2 * 0 + _ ≤ _; exact Nat.le_of_eq rfl) (hb hby at_48) (fun _ _ => ⟨rfl, e25, (by decide : 0 + 0 ≤ _), (by decide : 0 + 0 ≤ _)⟩)
        dsimp only [Pt.U, Pt.locs, Pt.cells, Pt.slots] at X26 l26 y26 z26 st26 hQ26
        subst l26 y26 z26
        obtain ⟨rfl, e26, hO26⟩ := hQ26
        obtain rfl := hO26
        refine own_tr st26 ?_
        show own_Go p e below s _ _ _ (T26.setTop (mkF m 51 #[.val (.int p0), .val (.long p1), .second, .val (.long p2), .second, .val (.ref w3), .val (.int (0 : Int32)), .val (.int (1 : Int32)), .unset, .unset] [(.int (0 : Int32)), (.int (1 : Int32))]))
        refine own_via (fun _ k => XS.icmpNo X26.here hx rfl (hb hby at_51) rfl (feq (by decide : ¬ ((1 : Int32) = (0 : Int32)))).1 k) ?_
        show own_Go p e below s _ _ _ (T26.setTop (mkF m 54 #[.val (.int p0), .val (.long p1), .second, .val (.long p2), .second, .val (.ref w3), .val (.int (0 : Int32)), .val (.int (1 : Int32)), .unset, .unset] []))
        refine own_via (fun _ k => XS.iconst X26.here hx rfl (hb hby at_54) k) ?_
        show own_Go p e below s _ _ _ (T26.setTop (mkF m 55 #[.val (.int p0), .val (.long p1), .second, .val (.long p2), .second, .val (.ref w3), .val (.int (0 : Int32)), .val (.int (1 : Int32)), .unset, .unset] [(.int (1 : Int32))]))
        refine own_via (fun _ k => XS.goto X26.here hx rfl (pc0 := 55) (pc' := 59) rfl (hb hby at_55) (by decide) (by decide) k) ?_
        show own_Go p e below s _ _ _ (T26.setTop (mkF m 59 #[.val (.int p0), .val (.long p1), .second, .val (.long p2), .second, .val (.ref w3), .val (.int (0 : Int32)), .val (.int (1 : Int32)), .unset, .unset] [(.int (1 : Int32))]))
        refine own_via (fun _ k => XS.istore X26.here hx rfl (hb hby at_59) rfl (l' := #[.val (.int p0), .val (.long p1), .second, .val (.long p2), .second, .val (.ref w3), .val (.int (0 : Int32)), .val (.int (1 : Int32)), .val (.int (1 : Int32)), .unset]) rfl k) ?_
        show own_Go p e below s _ _ _ (T26.setTop (mkF m 61 #[.val (.int p0), .val (.long p1), .second, .val (.long p2), .second, .val (.ref w3), .val (.int (0 : Int32)), .val (.int (1 : Int32)), .val (.int (1 : Int32)), .unset] []))
        refine own_via (fun _ k => XS.aload X26.here hx rfl (hb hby at_61) rfl rfl k) ?_
        show own_Go p e below s _ _ _ (T26.setTop (mkF m 63 #[.val (.int p0), .val (.long p1), .second, .val (.long p2), .second, .val (.ref w3), .val (.int (0 : Int32)), .val (.int (1 : Int32)), .val (.int (1 : Int32)), .unset] [(.ref w3)]))
        obtain ⟨cq27, kq27, q27a, q27b, q27c⟩ := isOf hZ e26 E_w3
        obtain ⟨_, _, ⟨T27, L27, k27, n27⟩, -, X27, ⟨Lc27, hQ27, l27, y27, z27⟩, st27⟩ := X26.virtualBack hx (y := (⟨"com/example/bericht/bericht/selector/Comparison$Operator", "flipped", "()Lcom/example/bericht/bericht/selector/Comparison$Operator;"⟩ : MethodName)) (z := (⟨"com/example/bericht/bericht/selector/Comparison$Operator", "flipped", "()Lcom/example/bericht/bericht/selector/Comparison$Operator;"⟩ : MethodName)) hown (mvT hZ (hw _ (List.mem_of_getElem? (i := 28) rfl))) (mvT hZ (hw _ (List.mem_of_getElem? (i := 29) rfl))) (notFace_of_selects (args := #[]) (mvT hZ (hw _ (List.mem_of_getElem? (i := 31) rfl)))) (mvT hZ (hw _ (List.mem_of_getElem? (i := 31) rfl))) (mvT hZ (hw _ (List.mem_of_getElem? (i := 30) rfl))) (by decide) (backOf (W := 0) (rm5_2 l Z a0 hw [] w0 w1 w2 w3 w4 w5 h0 n0 Z0 K0) hZ (hw _ (List.mem_of_getElem? (i := 32) rfl)) (hw _ (List.mem_of_getElem? (i := 6) rfl)) (by decide) (by decide)) q27a q27c (g := (mkF m 63 #[.val (.int p0), .val (.long p1), .second, .val (.long p2), .second, .val (.ref w3), .val (.int (0 : Int32)), .val (.int (1 : Int32)), .val (.int (1 : Int32)), .unset] [(.ref w3)])) rfl (by rw [hml]; rfl) (Steps.refl _) (argsL := []) (rest := []) (lenOf pd4 rfl) rfl (by show 2 * 0 + _ ≤ _; exact Nat.le_of_eq rfl) (hb hby at_63) (fun _ _ => ⟨rfl, e26, (by decide : 0 + 0 ≤ _), (by decide : 0 + 0 ≤ _)⟩)
        dsimp only [Pt.U, Pt.locs, Pt.cells, Pt.slots] at X27 l27 y27 z27 st27 hQ27
        subst l27 y27 z27
        obtain ⟨rfl, e27, hO27⟩ := hQ27
        obtain rfl := hO27
        refine own_tr st27 ?_
        show own_Go p e below s _ _ _ (T27.setTop (mkF m 66 #[.val (.int p0), .val (.long p1), .second, .val (.long p2), .second, .val (.ref w3), .val (.int (0 : Int32)), .val (.int (1 : Int32)), .val (.int (1 : Int32)), .unset] [(.ref w1)]))
        refine own_via (fun _ k => XS.aload X27.here hx rfl (hb hby at_66) rfl rfl k) ?_
        show own_Go p e below s _ _ _ (T27.setTop (mkF m 68 #[.val (.int p0), .val (.long p1), .second, .val (.long p2), .second, .val (.ref w3), .val (.int (0 : Int32)), .val (.int (1 : Int32)), .val (.int (1 : Int32)), .unset] [(.ref w3), (.ref w1)]))
        refine own_via (fun _ k => Jvm.RoadKit.acmp (g := (mkF m 68 #[.val (.int p0), .val (.long p1), .second, .val (.long p2), .second, .val (.ref w3), .val (.int (0 : Int32)), .val (.int (1 : Int32)), .val (.int (1 : Int32)), .unset] [(.ref w3), (.ref w1)])) X27 hx rfl rfl rfl (pc0 := 68) (pc' := 75) (same := false) rfl (hb hby at_68) rfl (decide_eq_false fun q => n_w1_w3 (Value.ref.inj q)) (by decide) (by decide) k) ?_
        show own_Go p e below s _ _ _ (T27.setTop (mkF m 75 #[.val (.int p0), .val (.long p1), .second, .val (.long p2), .second, .val (.ref w3), .val (.int (0 : Int32)), .val (.int (1 : Int32)), .val (.int (1 : Int32)), .unset] []))
        refine own_via (fun _ k => XS.iconst X27.here hx rfl (hb hby at_75) k) ?_
        show own_Go p e below s _ _ _ (T27.setTop (mkF m 76 #[.val (.int p0), .val (.long p1), .second, .val (.long p2), .second, .val (.ref w3), .val (.int (0 : Int32)), .val (.int (1 : Int32)), .val (.int (1 : Int32)), .unset] [(.int (0 : Int32))]))
        refine own_via (fun _ k => XS.istore X27.here hx rfl (hb hby at_76) rfl (l' := #[.val (.int p0), .val (.long p1), .second, .val (.long p2), .second, .val (.ref w3), .val (.int (0 : Int32)), .val (.int (1 : Int32)), .val (.int (1 : Int32)), .val (.int (0 : Int32))]) rfl k) ?_
        show own_Go p e below s _ _ _ (T27.setTop (mkF m 78 #[.val (.int p0), .val (.long p1), .second, .val (.long p2), .second, .val (.ref w3), .val (.int (0 : Int32)), .val (.int (1 : Int32)), .val (.int (1 : Int32)), .val (.int (0 : Int32))] []))
        refine own_via (fun _ k => XS.iload X27.here hx rfl (hb hby at_78) rfl k) ?_
        show own_Go p e below s _ _ _ (T27.setTop (mkF m 80 #[.val (.int p0), .val (.long p1), .second, .val (.long p2), .second, .val (.ref w3), .val (.int (0 : Int32)), .val (.int (1 : Int32)), .val (.int (1 : Int32)), .val (.int (0 : Int32))] [(.int (0 : Int32))]))
        refine own_via (fun _ k => XS.ifYes X27.here hx rfl (pc0 := 80) (pc' := 104) rfl (hb hby at_80) rfl ((if0 _ _).trans (teq (by decide : (0 : Int32) = (0 : Int32))).1) (by decide) (by decide) k) ?_
        show own_Go p e below s _ _ _ (T27.setTop (mkF m 104 #[.val (.int p0), .val (.long p1), .second, .val (.long p2), .second, .val (.ref w3), .val (.int (0 : Int32)), .val (.int (1 : Int32)), .val (.int (1 : Int32)), .val (.int (0 : Int32))] []))
        refine own_via (fun _ k => XS.iload X27.here hx rfl (hb hby at_104) rfl k) ?_
        show own_Go p e below s _ _ _ (T27.setTop (mkF m 106 #[.val (.int p0), .val (.long p1), .second, .val (.long p2), .second, .val (.ref w3), .val (.int (0 : Int32)), .val (.int (1 : Int32)), .val (.int (1 : Int32)), .val (.int (0 : Int32))] [(.int (1 : Int32))]))
        refine own_via (fun _ k => XS.ifNo X27.here hx rfl (hb hby at_106) rfl ((if0 _ _).trans (feq (by decide : ¬ ((1 : Int32) = (0 : Int32)))).1) k) ?_
        show own_Go p e below s _ _ _ (T27.setTop (mkF m 109 #[.val (.int p0), .val (.long p1), .second, .val (.long p2), .second, .val (.ref w3), .val (.int (0 : Int32)), .val (.int (1 : Int32)), .val (.int (1 : Int32)), .val (.int (0 : Int32))] []))
        refine own_via (fun _ k => XS.iload X27.here hx rfl (hb hby at_109) rfl k) ?_
        show own_Go p e below s _ _ _ (T27.setTop (mkF m 111 #[.val (.int p0), .val (.long p1), .second, .val (.long p2), .second, .val (.ref w3), .val (.int (0 : Int32)), .val (.int (1 : Int32)), .val (.int (1 : Int32)), .val (.int (0 : Int32))] [(.int (0 : Int32))]))
        refine own_via (fun _ k => XS.ifNo X27.here hx rfl (hb hby at_111) rfl ((if0 _ _).trans (teq (by decide : (0 : Int32) = (0 : Int32))).2) k) ?_
        show own_Go p e below s _ _ _ (T27.setTop (mkF m 114 #[.val (.int p0), .val (.long p1), .second, .val (.long p2), .second, .val (.ref w3), .val (.int (0 : Int32)), .val (.int (1 : Int32)), .val (.int (1 : Int32)), .val (.int (0 : Int32))] []))
        refine own_via (fun _ k => XS.iconst X27.here hx rfl (hb hby at_114) k) ?_
        show own_Go p e below s _ _ _ (T27.setTop (mkF m 115 #[.val (.int p0), .val (.long p1), .second, .val (.long p2), .second, .val (.ref w3), .val (.int (0 : Int32)), .val (.int (1 : Int32)), .val (.int (1 : Int32)), .val (.int (0 : Int32))] [(.int (1 : Int32))]))
        refine own_via (fun _ k => XS.goto X27.here hx rfl (pc0 := 115) (pc' := 119) rfl (hb hby at_115) (by decide) (by decide) k) ?_
        show own_Go p e below s _ _ _ (T27.setTop (mkF m 119 #[.val (.int p0), .val (.long p1), .second, .val (.long p2), .second, .val (.ref w3), .val (.int (0 : Int32)), .val (.int (1 : Int32)), .val (.int (1 : Int32)), .val (.int (0 : Int32))] [(.int (1 : Int32))]))
        exact own_retZ X27 hx hlk (t := .boolean) Bd.returns (by simp) (hb hby at_119) (z' := (1 : Int32)) (by first | rfl | decide) ⟨rfl, (Fr.nil n0)⟩ (by decide) (by decide)
      · refine own_tr st24 ?_
        show own_Go p e below s _ _ _ (T24.setTop (mkF m 27 #[.val (.int p0), .val (.long p1), .second, .val (.long p2), .second, .val (.ref w3), .val (.int (0 : Int32)), .unset, .unset, .unset] [(.int (0 : Int32)), (.int (1 : Int32))]))
        refine own_via (fun _ k => XS.icmpYes X24.here hx rfl (pc0 := 27) (pc' := 34) rfl (hb hby at_27) rfl (feq (by decide : ¬ ((1 : Int32) = (0 : Int32)))).2 (by decide) (by decide) k) ?_
        show own_Go p e below s _ _ _ (T24.setTop (mkF m 34 #[.val (.int p0), .val (.long p1), .second, .val (.long p2), .second, .val (.ref w3), .val (.int (0 : Int32)), .unset, .unset, .unset] []))
        refine own_via (fun _ k => XS.iconst X24.here hx rfl (hb hby at_34) k) ?_
        show own_Go p e below s _ _ _ (T24.setTop (mkF m 35 #[.val (.int p0), .val (.long p1), .second, .val (.long p2), .second, .val (.ref w3), .val (.int (0 : Int32)), .unset, .unset, .unset] [(.int (0 : Int32))]))
        refine own_via (fun _ k => XS.istore X24.here hx rfl (hb hby at_35) rfl (l' := #[.val (.int p0), .val (.long p1), .second, .val (.long p2), .second, .val (.ref w3), .val (.int (0 : Int32)), .val (.int (0 : Int32)), .unset, .unset]) rfl k) ?_
        show own_Go p e below s _ _ _ (T24.setTop (mkF m 37 #[.val (.int p0), .val (.long p1), .second, .val (.long p2), .second, .val (.ref w3), .val (.int (0 : Int32)), .val (.int (0 : Int32)), .unset, .unset] []))
        refine own_via (fun _ k => XS.aload X24.here hx rfl (hb hby at_37) rfl rfl k) ?_
        show own_Go p e below s _ _ _ (T24.setTop (mkF m 39 #[.val (.int p0), .val (.long p1), .second, .val (.long p2), .second, .val (.ref w3), .val (.int (0 : Int32)), .val (.int (0 : Int32)), .unset, .unset] [(.ref w3)]))
        refine own_via (fun _ k => XS.lconst X24.here hx rfl (hb hby at_39) k) ?_
        show own_Go p e below s _ _ _ (T24.setTop (mkF m 40 #[.val (.int p0), .val (.long p1), .second, .val (.long p2), .second, .val (.ref w3), .val (.int (0 : Int32)), .val (.int (0 : Int32)), .unset, .unset] [(.long (0 : Int64)), (.ref w3)]))
        refine own_via (fun _ k => XS.lconst X24.here hx rfl (hb hby at_40) k) ?_
        show own_Go p e below s _ _ _ (T24.setTop (mkF m 41 #[.val (.int p0), .val (.long p1), .second, .val (.long p2), .second, .val (.ref w3), .val (.int (0 : Int32)), .val (.int (0 : Int32)), .unset, .unset] [(.long (1 : Int64)), (.long (0 : Int64)), (.ref w3)]))
        obtain ⟨cq28, kq28, q28a, q28b, q28c⟩ := isOf hZ e24 E_w3
        obtain ⟨_, _, ⟨T28, L28, k28, n28⟩, -, X28, ⟨Lc28, hQ28, l28, y28, z28⟩, st28⟩ := X24.virtualBack hx (y := (⟨"com/example/bericht/bericht/selector/Comparison$Operator", "holds", "(JJ)Z"⟩ : MethodName)) (z := (⟨"com/example/bericht/bericht/selector/Comparison$Operator", "holds", "(JJ)Z"⟩ : MethodName)) hown (mvT hZ (hw _ (List.mem_of_getElem? (i := 14) rfl))) (mvT hZ (hw _ (List.mem_of_getElem? (i := 15) rfl))) (notFace_of_selects (args := #[]) (mvT hZ (hw _ (List.mem_of_getElem? (i := 17) rfl)))) (mvT hZ (hw _ (List.mem_of_getElem? (i := 17) rfl))) (mvT hZ (hw _ (List.mem_of_getElem? (i := 16) rfl))) (by decide) (backOf (W := 0) (rm3_7 l Z a0 hw [] w0 w1 w2 w3 w4 w5 h0 n0 Z0 K0) hZ (hw _ (List.mem_of_getElem? (i := 18) rfl)) (hw _ (List.mem_of_getElem? (i := 6) rfl)) (by decide) (by decide)) q28a q28c (g := (mkF m 41 #[.val (.int p0), .val (.long p1), .second, .val (.long p2), .second, .val (.ref w3), .val (.int (0 : Int32)), .val (.int (0 : Int32)), .unset, .unset] [(.long (1 : Int64)), (.long (0 : Int64)), (.ref w3)])) rfl (by rw [hml]; rfl) (Steps.refl _) (argsL := [(.long (0 : Int64)), (.long (1 : Int64))]) (rest := []) (lenOf pd3 rfl) rfl (by show 2 * 0 + _ ≤ _; exact Nat.le_of_eq rfl) (hb hby at_41) (fun _ _ => ⟨rfl, e24, (by decide : 0 + 0 ≤ _), (by decide : 0 + 0 ≤ _)⟩)
        dsimp only [Pt.U, Pt.locs, Pt.cells, Pt.slots] at X28 l28 y28 z28 st28 hQ28
        subst l28 y28 z28
        obtain ⟨rfl, e28, hO28⟩ := hQ28
        obtain rfl := hO28
        refine own_tr st28 ?_
        show own_Go p e below s _ _ _ (T28.setTop (mkF m 44 #[.val (.int p0), .val (.long p1), .second, .val (.long p2), .second, .val (.ref w3), .val (.int (0 : Int32)), .val (.int (0 : Int32)), .unset, .unset] [(.int (1 : Int32))]))
        refine own_via (fun _ k => XS.aload X28.here hx rfl (hb hby at_44) rfl rfl k) ?_
        show own_Go p e below s _ _ _ (T28.setTop (mkF m 46 #[.val (.int p0), .val (.long p1), .second, .val (.long p2), .second, .val (.ref w3), .val (.int (0 : Int32)), .val (.int (0 : Int32)), .unset, .unset] [(.ref w3), (.int (1 : Int32))]))
        refine own_via (fun _ k => XS.lconst X28.here hx rfl (hb hby at_46) k) ?_
        show own_Go p e below s _ _ _ (T28.setTop (mkF m 47 #[.val (.int p0), .val (.long p1), .second, .val (.long p2), .second, .val (.ref w3), .val (.int (0 : Int32)), .val (.int (0 : Int32)), .unset, .unset] [(.long (1 : Int64)), (.ref w3), (.int (1 : Int32))]))
        refine own_via (fun _ k => XS.lconst X28.here hx rfl (hb hby at_47) k) ?_
        show own_Go p e below s _ _ _ (T28.setTop (mkF m 48 #[.val (.int p0), .val (.long p1), .second, .val (.long p2), .second, .val (.ref w3), .val (.int (0 : Int32)), .val (.int (0 : Int32)), .unset, .unset] [(.long (0 : Int64)), (.long (1 : Int64)), (.ref w3), (.int (1 : Int32))]))
        obtain ⟨cq29, kq29, q29a, q29b, q29c⟩ := isOf hZ e28 E_w3
        obtain ⟨_, _, ⟨T29, L29, k29, n29⟩, -, X29, ⟨Lc29, hQ29, l29, y29, z29⟩, st29⟩ := X28.virtualBack hx (y := (⟨"com/example/bericht/bericht/selector/Comparison$Operator", "holds", "(JJ)Z"⟩ : MethodName)) (z := (⟨"com/example/bericht/bericht/selector/Comparison$Operator", "holds", "(JJ)Z"⟩ : MethodName)) hown (mvT hZ (hw _ (List.mem_of_getElem? (i := 14) rfl))) (mvT hZ (hw _ (List.mem_of_getElem? (i := 15) rfl))) (notFace_of_selects (args := #[]) (mvT hZ (hw _ (List.mem_of_getElem? (i := 17) rfl)))) (mvT hZ (hw _ (List.mem_of_getElem? (i := 17) rfl))) (mvT hZ (hw _ (List.mem_of_getElem? (i := 16) rfl))) (by decide) (backOf (W := 1) (rm3_8 l Z a0 hw [] w0 w1 w2 w3 w4 w5 h0 n0 Z0 K0) hZ (hw _ (List.mem_of_getElem? (i := 18) rfl)) (hw _ (List.mem_of_getElem? (i := 6) rfl)) (by decide) (by decide)) q29a q29c (g := (mkF m 48 #[.val (.int p0), .val (.long p1), .second, .val (.long p2), .second, .val (.ref w3), .val (.int (0 : Int32)), .val (.int (0 : Int32)), .unset, .unset] [(.long (0 : Int64)), (.long (1 : Int64)), (.ref w3), (.int (1 : Int32))])) rfl (by rw [hml]; rfl) (Steps.refl _) (argsL := [(.long (1 : Int64)), (.long (0 : Int64))]) (rest := [(.int (1 : Int32))]) (lenOf pd3 rfl) rfl (by show 2 * 0 + _ ≤ _; exact Nat.le_of_eq rfl) (hb hby at_48) (fun _ _ => ⟨rfl, e28, (by decide : 0 + 0 ≤ _), (by decide : 0 + 0 ≤ _)⟩)
        dsimp only [Pt.U, Pt.locs, Pt.cells, Pt.slots] at X29 l29 y29 z29 st29 hQ29
        subst l29 y29 z29
        obtain ⟨rfl, e29, hO29⟩ := hQ29
        obtain rfl := hO29
        refine own_tr st29 ?_
        show own_Go p e below s _ _ _ (T29.setTop (mkF m 51 #[.val (.int p0), .val (.long p1), .second, .val (.long p2), .second, .val (.ref w3), .val (.int (0 : Int32)), .val (.int (0 : Int32)), .unset, .unset] [(.int (0 : Int32)), (.int (1 : Int32))]))
        refine own_via (fun _ k => XS.icmpNo X29.here hx rfl (hb hby at_51) rfl (feq (by decide : ¬ ((1 : Int32) = (0 : Int32)))).1 k) ?_
        show own_Go p e below s _ _ _ (T29.setTop (mkF m 54 #[.val (.int p0), .val (.long p1), .second, .val (.long p2), .second, .val (.ref w3), .val (.int (0 : Int32)), .val (.int (0 : Int32)), .unset, .unset] []))
        refine own_via (fun _ k => XS.iconst X29.here hx rfl (hb hby at_54) k) ?_
        show own_Go p e below s _ _ _ (T29.setTop (mkF m 55 #[.val (.int p0), .val (.long p1), .second, .val (.long p2), .second, .val (.ref w3), .val (.int (0 : Int32)), .val (.int (0 : Int32)), .unset, .unset] [(.int (1 : Int32))]))
        refine own_via (fun _ k => XS.goto X29.here hx rfl (pc0 := 55) (pc' := 59) rfl (hb hby at_55) (by decide) (by decide) k) ?_
        show own_Go p e below s _ _ _ (T29.setTop (mkF m 59 #[.val (.int p0), .val (.long p1), .second, .val (.long p2), .second, .val (.ref w3), .val (.int (0 : Int32)), .val (.int (0 : Int32)), .unset, .unset] [(.int (1 : Int32))]))
        refine own_via (fun _ k => XS.istore X29.here hx rfl (hb hby at_59) rfl (l' := #[.val (.int p0), .val (.long p1), .second, .val (.long p2), .second, .val (.ref w3), .val (.int (0 : Int32)), .val (.int (0 : Int32)), .val (.int (1 : Int32)), .unset]) rfl k) ?_
        show own_Go p e below s _ _ _ (T29.setTop (mkF m 61 #[.val (.int p0), .val (.long p1), .second, .val (.long p2), .second, .val (.ref w3), .val (.int (0 : Int32)), .val (.int (0 : Int32)), .val (.int (1 : Int32)), .unset] []))
        refine own_via (fun _ k => XS.aload X29.here hx rfl (hb hby at_61) rfl rfl k) ?_
        show own_Go p e below s _ _ _ (T29.setTop (mkF m 63 #[.val (.int p0), .val (.long p1), .second, .val (.long p2), .second, .val (.ref w3), .val (.int (0 : Int32)), .val (.int (0 : Int32)), .val (.int (1 : Int32)), .unset] [(.ref w3)]))
        obtain ⟨cq30, kq30, q30a, q30b, q30c⟩ := isOf hZ e29 E_w3
        obtain ⟨_, _, ⟨T30, L30, k30, n30⟩, -, X30, ⟨Lc30, hQ30, l30, y30, z30⟩, st30⟩ := X29.virtualBack hx (y := (⟨"com/example/bericht/bericht/selector/Comparison$Operator", "flipped", "()Lcom/example/bericht/bericht/selector/Comparison$Operator;"⟩ : MethodName)) (z := (⟨"com/example/bericht/bericht/selector/Comparison$Operator", "flipped", "()Lcom/example/bericht/bericht/selector/Comparison$Operator;"⟩ : MethodName)) hown (mvT hZ (hw _ (List.mem_of_getElem? (i := 28) rfl))) (mvT hZ (hw _ (List.mem_of_getElem? (i := 29) rfl))) (notFace_of_selects (args := #[]) (mvT hZ (hw _ (List.mem_of_getElem? (i := 31) rfl)))) (mvT hZ (hw _ (List.mem_of_getElem? (i := 31) rfl))) (mvT hZ (hw _ (List.mem_of_getElem? (i := 30) rfl))) (by decide) (backOf (W := 0) (rm5_2 l Z a0 hw [] w0 w1 w2 w3 w4 w5 h0 n0 Z0 K0) hZ (hw _ (List.mem_of_getElem? (i := 32) rfl)) (hw _ (List.mem_of_getElem? (i := 6) rfl)) (by decide) (by decide)) q30a q30c (g := (mkF m 63 #[.val (.int p0), .val (.long p1), .second, .val (.long p2), .second, .val (.ref w3), .val (.int (0 : Int32)), .val (.int (0 : Int32)), .val (.int (1 : Int32)), .unset] [(.ref w3)])) rfl (by rw [hml]; rfl) (Steps.refl _) (argsL := []) (rest := []) (lenOf pd4 rfl) rfl (by show 2 * 0 + _ ≤ _; exact Nat.le_of_eq rfl) (hb hby at_63) (fun _ _ => ⟨rfl, e29, (by decide : 0 + 0 ≤ _), (by decide : 0 + 0 ≤ _)⟩)
        dsimp only [Pt.U, Pt.locs, Pt.cells, Pt.slots] at X30 l30 y30 z30 st30 hQ30
        subst l30 y30 z30
        obtain ⟨rfl, e30, hO30⟩ := hQ30
        obtain rfl := hO30
        refine own_tr st30 ?_
        show own_Go p e below s _ _ _ (T30.setTop (mkF m 66 #[.val (.int p0), .val (.long p1), .second, .val (.long p2), .second, .val (.ref w3), .val (.int (0 : Int32)), .val (.int (0 : Int32)), .val (.int (1 : Int32)), .unset] [(.ref w1)]))
        refine own_via (fun _ k => XS.aload X30.here hx rfl (hb hby at_66) rfl rfl k) ?_
        show own_Go p e below s _ _ _ (T30.setTop (mkF m 68 #[.val (.int p0), .val (.long p1), .second, .val (.long p2), .second, .val (.ref w3), .val (.int (0 : Int32)), .val (.int (0 : Int32)), .val (.int (1 : Int32)), .unset] [(.ref w3), (.ref w1)]))
        refine own_via (fun _ k => Jvm.RoadKit.acmp (g := (mkF m 68 #[.val (.int p0), .val (.long p1), .second, .val (.long p2), .second, .val (.ref w3), .val (.int (0 : Int32)), .val (.int (0 : Int32)), .val (.int (1 : Int32)), .unset] [(.ref w3), (.ref w1)])) X30 hx rfl rfl rfl (pc0 := 68) (pc' := 75) (same := false) rfl (hb hby at_68) rfl (decide_eq_false fun q => n_w1_w3 (Value.ref.inj q)) (by decide) (by decide) k) ?_
        show own_Go p e below s _ _ _ (T30.setTop (mkF m 75 #[.val (.int p0), .val (.long p1), .second, .val (.long p2), .second, .val (.ref w3), .val (.int (0 : Int32)), .val (.int (0 : Int32)), .val (.int (1 : Int32)), .unset] []))
        refine own_via (fun _ k => XS.iconst X30.here hx rfl (hb hby at_75) k) ?_
        show own_Go p e below s _ _ _ (T30.setTop (mkF m 76 #[.val (.int p0), .val (.long p1), .second, .val (.long p2), .second, .val (.ref w3), .val (.int (0 : Int32)), .val (.int (0 : Int32)), .val (.int (1 : Int32)), .unset] [(.int (0 : Int32))]))
        refine own_via (fun _ k => XS.istore X30.here hx rfl (hb hby at_76) rfl (l' := #[.val (.int p0), .val (.long p1), .second, .val (.long p2), .second, .val (.ref w3), .val (.int (0 : Int32)), .val (.int (0 : Int32)), .val (.int (1 : Int32)), .val (.int (0 : Int32))]) rfl k) ?_
        show own_Go p e below s _ _ _ (T30.setTop (mkF m 78 #[.val (.int p0), .val (.long p1), .second, .val (.long p2), .second, .val (.ref w3), .val (.int (0 : Int32)), .val (.int (0 : Int32)), .val (.int (1 : Int32)), .val (.int (0 : Int32))] []))
        refine own_via (fun _ k => XS.iload X30.here hx rfl (hb hby at_78) rfl k) ?_
        show own_Go p e below s _ _ _ (T30.setTop (mkF m 80 #[.val (.int p0), .val (.long p1), .second, .val (.long p2), .second, .val (.ref w3), .val (.int (0 : Int32)), .val (.int (0 : Int32)), .val (.int (1 : Int32)), .val (.int (0 : Int32))] [(.int (0 : Int32))]))
        refine own_via (fun _ k => XS.ifYes X30.here hx rfl (pc0 := 80) (pc' := 104) rfl (hb hby at_80) rfl ((if0 _ _).trans (teq (by decide : (0 : Int32) = (0 : Int32))).1) (by decide) (by decide) k) ?_
        show own_Go p e below s _ _ _ (T30.setTop (mkF m 104 #[.val (.int p0), .val (.long p1), .second, .val (.long p2), .second, .val (.ref w3), .val (.int (0 : Int32)), .val (.int (0 : Int32)), .val (.int (1 : Int32)), .val (.int (0 : Int32))] []))
        refine own_via (fun _ k => XS.iload X30.here hx rfl (hb hby at_104) rfl k) ?_
        show own_Go p e below s _ _ _ (T30.setTop (mkF m 106 #[.val (.int p0), .val (.long p1), .second, .val (.long p2), .second, .val (.ref w3), .val (.int (0 : Int32)), .val (.int (0 : Int32)), .val (.int (1 : Int32)), .val (.int (0 : Int32))] [(.int (1 : Int32))]))
        refine own_via (fun _ k => XS.ifNo X30.here hx rfl (hb hby at_106) rfl ((if0 _ _).trans (feq (by decide : ¬ ((1 : Int32) = (0 : Int32)))).1) k) ?_
        show own_Go p e below s _ _ _ (T30.setTop (mkF m 109 #[.val (.int p0), .val (.long p1), .second, .val (.long p2), .second, .val (.ref w3), .val (.int (0 : Int32)), .val (.int (0 : Int32)), .val (.int (1 : Int32)), .val (.int (0 : Int32))] []))
        refine own_via (fun _ k => XS.iload X30.here hx rfl (hb hby at_109) rfl k) ?_
        show own_Go p e below s _ _ _ (T30.setTop (mkF m 111 #[.val (.int p0), .val (.long p1), .second, .val (.long p2), .second, .val (.ref w3), .val (.int (0 : Int32)), .val (.int (0 : Int32)), .val (.int (1 : Int32)), .val (.int (0 : Int32))] [(.int (0 : Int32))]))
        refine own_via (fun _ k => XS.ifNo X30.here hx rfl (hb hby at_111) rfl ((if0 _ _).trans (teq (by decide : (0 : Int32) = (0 : Int32))).2) k) ?_
        show own_Go p e below s _ _ _ (T30.setTop (mkF m 114 #[.val (.int p0), .val (.long p1), .second, .val (.long p2), .second, .val (.ref w3), .val (.int (0 : Int32)), .val (.int (0 : Int32)), .val (.int (1 : Int32)), .val (.int (0 : Int32))] []))
        refine own_via (fun _ k => XS.iconst X30.here hx rfl (hb hby at_114) k) ?_
        show own_Go p e below s _ _ _ (T30.setTop (mkF m 115 #[.val (.int p0), .val (.long p1), .second, .val (.long p2), .second, .val (.ref w3), .val (.int (0 : Int32)), .val (.int (0 : Int32)), .val (.int (1 : Int32)), .val (.int (0 : Int32))] [(.int (1 : Int32))]))
        refine own_via (fun _ k => XS.goto X30.here hx rfl (pc0 := 115) (pc' := 119) rfl (hb hby at_115) (by decide) (by decide) k) ?_
        show own_Go p e below s _ _ _ (T30.setTop (mkF m 119 #[.val (.int p0), .val (.long p1), .second, .val (.long p2), .second, .val (.ref w3), .val (.int (0 : Int32)), .val (.int (0 : Int32)), .val (.int (1 : Int32)), .val (.int (0 : Int32))] [(.int (1 : Int32))]))
        exact own_retZ X30 hx hlk (t := .boolean) Bd.returns (by simp) (hb hby at_119) (z' := (1 : Int32)) (by first | rfl | decide) ⟨rfl, (Fr.nil n0)⟩ (by decide) (by decide)
    · refine own_tr st23 ?_
      show own_Go p e below s _ _ _ (T23.setTop (mkF m 20 #[.val (.int p0), .val (.long p1), .second, .val (.long p2), .second, .val (.ref w3), .val (.int (0 : Int32)), .unset, .unset, .unset] [(.int (0 : Int32))]))
      refine own_via (fun _ k => XS.aload X23.here hx rfl (hb hby at_20) rfl rfl k) ?_
      show own_Go p e below s _ _ _ (T23.setTop (mkF m 22 #[.val (.int p0), .val (.long p1), .second, .val (.long p2), .second, .val (.ref w3), .val (.int (0 : Int32)), .unset, .unset, .unset] [(.ref w3), (.int (0 : Int32))]))
      refine own_via (fun _ k => XS.lloadN X23.here hx rfl (hb hby at_22) rfl k) ?_
      show own_Go p e below s _ _ _ (T23.setTop (mkF m 23 #[.val (.int p0), .val (.long p1), .second, .val (.long p2), .second, .val (.ref w3), .val (.int (0 : Int32)), .unset, .unset, .unset] [(.long p2), (.ref w3), (.int (0 : Int32))]))
      refine own_via (fun _ k => XS.lloadN X23.here hx rfl (hb hby at_23) rfl k) ?_
      show own_Go p e below s _ _ _ (T23.setTop (mkF m 24 #[.val (.int p0), .val (.long p1), .second, .val (.long p2), .second, .val (.ref w3), .val (.int (0 : Int32)), .unset, .unset, .unset] [(.long p1), (.long p2), (.ref w3), (.int (0 : Int32))]))
      obtain ⟨cq31, kq31, q31a, q31b, q31c⟩ := isOf hZ e23 E_w3
      obtain ⟨_, _, ⟨T31, L31, k31, n31⟩, -, X31, ⟨Lc31, hQ31, l31, y31, z31⟩, st31⟩ := X23.virtualBack hx (y := (⟨"com/example/bericht/bericht/selector/Comparison$Operator", "holds", "(JJ)Z"⟩ : MethodName)) (z := (⟨"com/example/bericht/bericht/selector/Comparison$Operator", "holds", "(JJ)Z"⟩ : MethodName)) hown (mvT hZ (hw _ (List.mem_of_getElem? (i := 14) rfl))) (mvT hZ (hw _ (List.mem_of_getElem? (i := 15) rfl))) (notFace_of_selects (args := #[]) (mvT hZ (hw _ (List.mem_of_getElem? (i := 17) rfl)))) (mvT hZ (hw _ (List.mem_of_getElem? (i := 17) rfl))) (mvT hZ (hw _ (List.mem_of_getElem? (i := 16) rfl))) (by decide) (backOf (W := 1) (rm3_6 l Z a0 hw [] p2 p1 w0 w1 w2 w3 w4 w5 h0 n0 Z0 K0) hZ (hw _ (List.mem_of_getElem? (i := 18) rfl)) (hw _ (List.mem_of_getElem? (i := 6) rfl)) (by decide) (by decide)) q31a q31c (g := (mkF m 24 #[.val (.int p0), .val (.long p1), .second, .val (.long p2), .second, .val (.ref w3), .val (.int (0 : Int32)), .unset, .unset, .unset] [(.long p1), (.long p2), (.ref w3), (.int (0 : Int32))])) rfl (by rw [hml]; rfl) (Steps.refl _) (argsL := [(.long p2), (.long p1)]) (rest := [(.int (0 : Int32))]) (lenOf pd3 rfl) rfl (by show 2 * 0 + _ ≤ _; exact Nat.le_of_eq rfl) (hb hby at_24) (fun _ _ => ⟨rfl, e23, (by decide : 0 + 0 ≤ _), (by decide : 0 + 0 ≤ _)⟩)
      dsimp only [Pt.U, Pt.locs, Pt.cells, Pt.slots] at X31 l31 y31 z31 st31 hQ31
      subst l31 y31 z31
      obtain ⟨rfl, e31, hO31⟩ := hQ31
      rcases hO31 with ⟨hr31_0_0, rfl⟩ | ⟨hr31_1_0, rfl⟩
      · refine own_tr st31 ?_
        show own_Go p e below s _ _ _ (T31.setTop (mkF m 27 #[.val (.int p0), .val (.long p1), .second, .val (.long p2), .second, .val (.ref w3), .val (.int (0 : Int32)), .unset, .unset, .unset] [(.int (1 : Int32)), (.int (0 : Int32))]))
        refine own_via (fun _ k => XS.icmpYes X31.here hx rfl (pc0 := 27) (pc' := 34) rfl (hb hby at_27) rfl (feq (by decide : ¬ ((0 : Int32) = (1 : Int32)))).2 (by decide) (by decide) k) ?_
        show own_Go p e below s _ _ _ (T31.setTop (mkF m 34 #[.val (.int p0), .val (.long p1), .second, .val (.long p2), .second, .val (.ref w3), .val (.int (0 : Int32)), .unset, .unset, .unset] []))
        refine own_via (fun _ k => XS.iconst X31.here hx rfl (hb hby at_34) k) ?_
        show own_Go p e below s _ _ _ (T31.setTop (mkF m 35 #[.val (.int p0), .val (.long p1), .second, .val (.long p2), .second, .val (.ref w3), .val (.int (0 : Int32)), .unset, .unset, .unset] [(.int (0 : Int32))]))
        refine own_via (fun _ k => XS.istore X31.here hx rfl (hb hby at_35) rfl (l' := #[.val (.int p0), .val (.long p1), .second, .val (.long p2), .second, .val (.ref w3), .val (.int (0 : Int32)), .val (.int (0 : Int32)), .unset, .unset]) rfl k) ?_
        show own_Go p e below s _ _ _ (T31.setTop (mkF m 37 #[.val (.int p0), .val (.long p1), .second, .val (.long p2), .second, .val (.ref w3), .val (.int (0 : Int32)), .val (.int (0 : Int32)), .unset, .unset] []))
        refine own_via (fun _ k => XS.aload X31.here hx rfl (hb hby at_37) rfl rfl k) ?_
        show own_Go p e below s _ _ _ (T31.setTop (mkF m 39 #[.val (.int p0), .val (.long p1), .second, .val (.long p2), .second, .val (.ref w3), .val (.int (0 : Int32)), .val (.int (0 : Int32)), .unset, .unset] [(.ref w3)]))
        refine own_via (fun _ k => XS.lconst X31.here hx rfl (hb hby at_39) k) ?_
        show own_Go p e below s _ _ _ (T31.setTop (mkF m 40 #[.val (.int p0), .val (.long p1), .second, .val (.long p2), .second, .val (.ref w3), .val (.int (0 : Int32)), .val (.int (0 : Int32)), .unset, .unset] [(.long (0 : Int64)), (.ref w3)]))
        refine own_via (fun _ k => XS.lconst X31.here hx rfl (hb hby at_40) k) ?_
        show own_Go p e below s _ _ _ (T31.setTop (mkF m 41 #[.val (.int p0), .val (.long p1), .second, .val (.long p2), .second, .val (.ref w3), .val (.int (0 : Int32)), .val (.int (0 : Int32)), .unset, .unset] [(.long (1 : Int64)), (.long (0 : Int64)), (.ref w3)]))
        obtain ⟨cq32, kq32, q32a, q32b, q32c⟩ := isOf hZ e31 E_w3
        obtain ⟨_, _, ⟨T32, L32, k32, n32⟩, -, X32, ⟨Lc32, hQ32, l32, y32, z32⟩, st32⟩ := X31.virtualBack hx (y := (⟨"com/example/bericht/bericht/selector/Comparison$Operator", "holds", "(JJ)Z"⟩ : MethodName)) (z := (⟨"com/example/bericht/bericht/selector/Comparison$Operator", "holds", "(JJ)Z"⟩ : MethodName)) hown (mvT hZ (hw _ (List.mem_of_getElem? (i := 14) rfl))) (mvT hZ (hw _ (List.mem_of_getElem? (i := 15) rfl))) (notFace_of_selects (args := #[]) (mvT hZ (hw _ (List.mem_of_getElem? (i := 17) rfl)))) (mvT hZ (hw _ (List.mem_of_getElem? (i := 17) rfl))) (mvT hZ (hw _ (List.mem_of_getElem? (i := 16) rfl))) (by decide) (backOf (W := 0) (rm3_7 l Z a0 hw [] w0 w1 w2 w3 w4 w5 h0 n0 Z0 K0) hZ (hw _ (List.mem_of_getElem? (i := 18) rfl)) (hw _ (List.mem_of_getElem? (i := 6) rfl)) (by decide) (by decide)) q32a q32c (g := (mkF m 41 #[.val (.int p0), .val (.long p1), .second, .val (.long p2), .second, .val (.ref w3), .val (.int (0 : Int32)), .val (.int (0 : Int32)), .unset, .unset] [(.long (1 : Int64)), (.long (0 : Int64)), (.ref w3)])) rfl (by rw [hml]; rfl) (Steps.refl _) (argsL := [(.long (0 : Int64)), (.long (1 : Int64))]) (rest := []) (lenOf pd3 rfl) rfl (by show 2 * 0 + _ ≤ _; exact Nat.le_of_eq rfl) (hb hby at_41) (fun _ _ => ⟨rfl, e31, (by decide : 0 + 0 ≤ _), (by decide : 0 + 0 ≤ _)⟩)
        dsimp only [Pt.U, Pt.locs, Pt.cells, Pt.slots] at X32 l32 y32 z32 st32 hQ32
        subst l32 y32 z32
        obtain ⟨rfl, e32, hO32⟩ := hQ32
        obtain rfl := hO32
        refine own_tr st32 ?_
        show own_Go p e below s _ _ _ (T32.setTop (mkF m 44 #[.val (.int p0), .val (.long p1), .second, .val (.long p2), .second, .val (.ref w3), .val (.int (0 : Int32)), .val (.int (0 : Int32)), .unset, .unset] [(.int (1 : Int32))]))
        refine own_via (fun _ k => XS.aload X32.here hx rfl (hb hby at_44) rfl rfl k) ?_
        show own_Go p e below s _ _ _ (T32.setTop (mkF m 46 #[.val (.int p0), .val (.long p1), .second, .val (.long p2), .second, .val (.ref w3), .val (.int (0 : Int32)), .val (.int (0 : Int32)), .unset, .unset] [(.ref w3), (.int (1 : Int32))]))
        refine own_via (fun _ k => XS.lconst X32.here hx rfl (hb hby at_46) k) ?_
        show own_Go p e below s _ _ _ (T32.setTop (mkF m 47 #[.val (.int p0), .val (.long p1), .second, .val (.long p2), .second, .val (.ref w3), .val (.int (0 : Int32)), .val (.int (0 : Int32)), .unset, .unset] [(.long (1 : Int64)), (.ref w3), (.int (1 : Int32))]))
        refine own_via (fun _ k => XS.lconst X32.here hx rfl (hb hby at_47) k) ?_
        show own_Go p e below s _ _ _ (T32.setTop (mkF m 48 #[.val (.int p0), .val (.long p1), .second, .val (.long p2), .second, .val (.ref w3), .val (.int (0 : Int32)), .val (.int (0 : Int32)), .unset, .unset] [(.long (0 : Int64)), (.long (1 : Int64)), (.ref w3), (.int (1 : Int32))]))
        obtain ⟨cq33, kq33, q33a, q33b, q33c⟩ := isOf hZ e32 E_w3
        obtain ⟨_, _, ⟨T33, L33, k33, n33⟩, -, X33, ⟨Lc33, hQ33, l33, y33, z33⟩, st33⟩ := X32.virtualBack hx (y := (⟨"com/example/bericht/bericht/selector/Comparison$Operator", "holds", "(JJ)Z"⟩ : MethodName)) (z := (⟨"com/example/bericht/bericht/selector/Comparison$Operator", "holds", "(JJ)Z"⟩ : MethodName)) hown (mvT hZ (hw _ (List.mem_of_getElem? (i := 14) rfl))) (mvT hZ (hw _ (List.mem_of_getElem? (i := 15) rfl))) (notFace_of_selects (args := #[]) (mvT hZ (hw _ (List.mem_of_getElem? (i := 17) rfl)))) (mvT hZ (hw _ (List.mem_of_getElem? (i := 17) rfl))) (mvT hZ (hw _ (List.mem_of_getElem? (i := 16) rfl))) (by decide) (backOf (W := 1) (rm3_8 l Z a0 hw [] w0 w1 w2 w3 w4 w5 h0 n0 Z0 K0) hZ (hw _ (List.mem_of_getElem? (i := 18) rfl)) (hw _ (List.mem_of_getElem? (i := 6) rfl)) (by decide) (by decide)) q33a q33c (g := (mkF m 48 #[.val (.int p0), .val (.long p1), .second, .val (.long p2), .second, .val (.ref w3), .val (.int (0 : Int32)), .val (.int (0 : Int32)), .unset, .unset] [(.long (0 : Int64)), (.long (1 : Int64)), (.ref w3), (.int (1 : Int32))])) rfl (by rw [hml]; rfl) (Steps.refl _) (argsL := [(.long (1 : Int64)), (.long (0 : Int64))]) (rest := [(.int (1 : Int32))]) (lenOf pd3 rfl) rfl (by show 2 * 0 + _ ≤ _; exact Nat.le_of_eq rfl) (hb hby at_48) (fun _ _ => ⟨rfl, e32, (by decide : 0 + 0 ≤ _), (by decide : 0 + 0 ≤ _)⟩)
        dsimp only [Pt.U, Pt.locs, Pt.cells, Pt.slots] at X33 l33 y33 z33 st33 hQ33
        subst l33 y33 z33
        obtain ⟨rfl, e33, hO33⟩ := hQ33
        obtain rfl := hO33
        refine own_tr st33 ?_
        show own_Go p e below s _ _ _ (T33.setTop (mkF m 51 #[.val (.int p0), .val (.long p1), .second, .val (.long p2), .second, .val (.ref w3), .val (.int (0 : Int32)), .val (.int (0 : Int32)), .unset, .unset] [(.int (0 : Int32)), (.int (1 : Int32))]))
        refine own_via (fun _ k => XS.icmpNo X33.here hx rfl (hb hby at_51) rfl (feq (by decide : ¬ ((1 : Int32) = (0 : Int32)))).1 k) ?_
        show own_Go p e below s _ _ _ (T33.setTop (mkF m 54 #[.val (.int p0), .val (.long p1), .second, .val (.long p2), .second, .val (.ref w3), .val (.int (0 : Int32)), .val (.int (0 : Int32)), .unset, .unset] []))
        refine own_via (fun _ k => XS.iconst X33.here hx rfl (hb hby at_54) k) ?_
        show own_Go p e below s _ _ _ (T33.setTop (mkF m 55 #[.val (.int p0), .val (.long p1), .second, .val (.long p2), .second, .val (.ref w3), .val (.int (0 : Int32)), .val (.int (0 : Int32)), .unset, .unset] [(.int (1 : Int32))]))
        refine own_via (fun _ k => XS.goto X33.here hx rfl (pc0 := 55) (pc' := 59) rfl (hb hby at_55) (by decide) (by decide) k) ?_
        show own_Go p e below s _ _ _ (T33.setTop (mkF m 59 #[.val (.int p0), .val (.long p1), .second, .val (.long p2), .second, .val (.ref w3), .val (.int (0 : Int32)), .val (.int (0 : Int32)), .unset, .unset] [(.int (1 : Int32))]))
        refine own_via (fun _ k => XS.istore X33.here hx rfl (hb hby at_59) rfl (l' := #[.val (.int p0), .val (.long p1), .second, .val (.long p2), .second, .val (.ref w3), .val (.int (0 : Int32)), .val (.int (0 : Int32)), .val (.int (1 : Int32)), .unset]) rfl k) ?_
        show own_Go p e below s _ _ _ (T33.setTop (mkF m 61 #[.val (.int p0), .val (.long p1), .second, .val (.long p2), .second, .val (.ref w3), .val (.int (0 : Int32)), .val (.int (0 : Int32)), .val (.int (1 : Int32)), .unset] []))
        refine own_via (fun _ k => XS.aload X33.here hx rfl (hb hby at_61) rfl rfl k) ?_
        show own_Go p e below s _ _ _ (T33.setTop (mkF m 63 #[.val (.int p0), .val (.long p1), .second, .val (.long p2), .second, .val (.ref w3), .val (.int (0 : Int32)), .val (.int (0 : Int32)), .val (.int (1 : Int32)), .unset] [(.ref w3)]))
        obtain ⟨cq34, kq34, q34a, q34b, q34c⟩ := isOf hZ e33 E_w3
        obtain ⟨_, _, ⟨T34, L34, k34, n34⟩, -, X34, ⟨Lc34, hQ34, l34, y34, z34⟩, st34⟩ := X33.virtualBack hx (y := (⟨"com/example/bericht/bericht/selector/Comparison$Operator", "flipped", "()Lcom/example/bericht/bericht/selector/Comparison$Operator;"⟩ : MethodName)) (z := (⟨"com/example/bericht/bericht/selector/Comparison$Operator", "flipped", "()Lcom/example/bericht/bericht/selector/Comparison$Operator;"⟩ : MethodName)) hown (mvT hZ (hw _ (List.mem_of_getElem? (i := 28) rfl))) (mvT hZ (hw _ (List.mem_of_getElem? (i := 29) rfl))) (notFace_of_selects (args := #[]) (mvT hZ (hw _ (List.mem_of_getElem? (i := 31) rfl)))) (mvT hZ (hw _ (List.mem_of_getElem? (i := 31) rfl))) (mvT hZ (hw _ (List.mem_of_getElem? (i := 30) rfl))) (by decide) (backOf (W := 0) (rm5_2 l Z a0 hw [] w0 w1 w2 w3 w4 w5 h0 n0 Z0 K0) hZ (hw _ (List.mem_of_getElem? (i := 32) rfl)) (hw _ (List.mem_of_getElem? (i := 6) rfl)) (by decide) (by decide)) q34a q34c (g := (mkF m 63 #[.val (.int p0), .val (.long p1), .second, .val (.long p2), .second, .val (.ref w3), .val (.int (0 : Int32)), .val (.int (0 : Int32)), .val (.int (1 : Int32)), .unset] [(.ref w3)])) rfl (by rw [hml]; rfl) (Steps.refl _) (argsL := []) (rest := []) (lenOf pd4 rfl) rfl (by show 2 * 0 + _ ≤ _; exact Nat.le_of_eq rfl) (hb hby at_63) (fun _ _ => ⟨rfl, e33, (by decide : 0 + 0 ≤ _), (by decide : 0 + 0 ≤ _)⟩)
        dsimp only [Pt.U, Pt.locs, Pt.cells, Pt.slots] at X34 l34 y34 z34 st34 hQ34
        subst l34 y34 z34
        obtain ⟨rfl, e34, hO34⟩ := hQ34
        obtain rfl := hO34
        refine own_tr st34 ?_
        show own_Go p e below s _ _ _ (T34.setTop (mkF m 66 #[.val (.int p0), .val (.long p1), .second, .val (.long p2), .second, .val (.ref w3), .val (.int (0 : Int32)), .val (.int (0 : Int32)), .val (.int (1 : Int32)), .unset] [(.ref w1)]))
        refine own_via (fun _ k => XS.aload X34.here hx rfl (hb hby at_66) rfl rfl k) ?_
        show own_Go p e below s _ _ _ (T34.setTop (mkF m 68 #[.val (.int p0), .val (.long p1), .second, .val (.long p2), .second, .val (.ref w3), .val (.int (0 : Int32)), .val (.int (0 : Int32)), .val (.int (1 : Int32)), .unset] [(.ref w3), (.ref w1)]))
        refine own_via (fun _ k => Jvm.RoadKit.acmp (g := (mkF m 68 #[.val (.int p0), .val (.long p1), .second, .val (.long p2), .second, .val (.ref w3), .val (.int (0 : Int32)), .val (.int (0 : Int32)), .val (.int (1 : Int32)), .unset] [(.ref w3), (.ref w1)])) X34 hx rfl rfl rfl (pc0 := 68) (pc' := 75) (same := false) rfl (hb hby at_68) rfl (decide_eq_false fun q => n_w1_w3 (Value.ref.inj q)) (by decide) (by decide) k) ?_
        show own_Go p e below s _ _ _ (T34.setTop (mkF m 75 #[.val (.int p0), .val (.long p1), .second, .val (.long p2), .second, .val (.ref w3), .val (.int (0 : Int32)), .val (.int (0 : Int32)), .val (.int (1 : Int32)), .unset] []))
        refine own_via (fun _ k => XS.iconst X34.here hx rfl (hb hby at_75) k) ?_
        show own_Go p e below s _ _ _ (T34.setTop (mkF m 76 #[.val (.int p0), .val (.long p1), .second, .val (.long p2), .second, .val (.ref w3), .val (.int (0 : Int32)), .val (.int (0 : Int32)), .val (.int (1 : Int32)), .unset] [(.int (0 : Int32))]))
        refine own_via (fun _ k => XS.istore X34.here hx rfl (hb hby at_76) rfl (l' := #[.val (.int p0), .val (.long p1), .second, .val (.long p2), .second, .val (.ref w3), .val (.int (0 : Int32)), .val (.int (0 : Int32)), .val (.int (1 : Int32)), .val (.int (0 : Int32))]) rfl k) ?_
        show own_Go p e below s _ _ _ (T34.setTop (mkF m 78 #[.val (.int p0), .val (.long p1), .second, .val (.long p2), .second, .val (.ref w3), .val (.int (0 : Int32)), .val (.int (0 : Int32)), .val (.int (1 : Int32)), .val (.int (0 : Int32))] []))
        refine own_via (fun _ k => XS.iload X34.here hx rfl (hb hby at_78) rfl k) ?_
        show own_Go p e below s _ _ _ (T34.setTop (mkF m 80 #[.val (.int p0), .val (.long p1), .second, .val (.long p2), .second, .val (.ref w3), .val (.int (0 : Int32)), .val (.int (0 : Int32)), .val (.int (1 : Int32)), .val (.int (0 : Int32))] [(.int (0 : Int32))]))
        refine own_via (fun _ k => XS.ifYes X34.here hx rfl (pc0 := 80) (pc' := 104) rfl (hb hby at_80) rfl ((if0 _ _).trans (teq (by decide : (0 : Int32) = (0 : Int32))).1) (by decide) (by decide) k) ?_
        show own_Go p e below s _ _ _ (T34.setTop (mkF m 104 #[.val (.int p0), .val (.long p1), .second, .val (.long p2), .second, .val (.ref w3), .val (.int (0 : Int32)), .val (.int (0 : Int32)), .val (.int (1 : Int32)), .val (.int (0 : Int32))] []))
        refine own_via (fun _ k => XS.iload X34.here hx rfl (hb hby at_104) rfl k) ?_
        show own_Go p e below s _ _ _ (T34.setTop (mkF m 106 #[.val (.int p0), .val (.long p1), .second, .val (.long p2), .second, .val (.ref w3), .val (.int (0 : Int32)), .val (.int (0 : Int32)), .val (.int (1 : Int32)), .val (.int (0 : Int32))] [(.int (1 : Int32))]))
        refine own_via (fun _ k => XS.ifNo X34.here hx rfl (hb hby at_106) rfl ((if0 _ _).trans (feq (by decide : ¬ ((1 : Int32) = (0 : Int32)))).1) k) ?_
        show own_Go p e below s _ _ _ (T34.setTop (mkF m 109 #[.val (.int p0), .val (.long p1), .second, .val (.long p2), .second, .val (.ref w3), .val (.int (0 : Int32)), .val (.int (0 : Int32)), .val (.int (1 : Int32)), .val (.int (0 : Int32))] []))
        refine own_via (fun _ k => XS.iload X34.here hx rfl (hb hby at_109) rfl k) ?_
        show own_Go p e below s _ _ _ (T34.setTop (mkF m 111 #[.val (.int p0), .val (.long p1), .second, .val (.long p2), .second, .val (.ref w3), .val (.int (0 : Int32)), .val (.int (0 : Int32)), .val (.int (1 : Int32)), .val (.int (0 : Int32))] [(.int (0 : Int32))]))
        refine own_via (fun _ k => XS.ifNo X34.here hx rfl (hb hby at_111) rfl ((if0 _ _).trans (teq (by decide : (0 : Int32) = (0 : Int32))).2) k) ?_
        show own_Go p e below s _ _ _ (T34.setTop (mkF m 114 #[.val (.int p0), .val (.long p1), .second, .val (.long p2), .second, .val (.ref w3), .val (.int (0 : Int32)), .val (.int (0 : Int32)), .val (.int (1 : Int32)), .val (.int (0 : Int32))] []))
        refine own_via (fun _ k => XS.iconst X34.here hx rfl (hb hby at_114) k) ?_
        show own_Go p e below s _ _ _ (T34.setTop (mkF m 115 #[.val (.int p0), .val (.long p1), .second, .val (.long p2), .second, .val (.ref w3), .val (.int (0 : Int32)), .val (.int (0 : Int32)), .val (.int (1 : Int32)), .val (.int (0 : Int32))] [(.int (1 : Int32))]))
        refine own_via (fun _ k => XS.goto X34.here hx rfl (pc0 := 115) (pc' := 119) rfl (hb hby at_115) (by decide) (by decide) k) ?_
        show own_Go p e below s _ _ _ (T34.setTop (mkF m 119 #[.val (.int p0), .val (.long p1), .second, .val (.long p2), .second, .val (.ref w3), .val (.int (0 : Int32)), .val (.int (0 : Int32)), .val (.int (1 : Int32)), .val (.int (0 : Int32))] [(.int (1 : Int32))]))
        exact own_retZ X34 hx hlk (t := .boolean) Bd.returns (by simp) (hb hby at_119) (z' := (1 : Int32)) (by first | rfl | decide) ⟨rfl, (Fr.nil n0)⟩ (by decide) (by decide)
      · refine own_tr st31 ?_
        show own_Go p e below s _ _ _ (T31.setTop (mkF m 27 #[.val (.int p0), .val (.long p1), .second, .val (.long p2), .second, .val (.ref w3), .val (.int (0 : Int32)), .unset, .unset, .unset] [(.int (0 : Int32)), (.int (0 : Int32))]))
        refine own_via (fun _ k => XS.icmpNo X31.here hx rfl (hb hby at_27) rfl (teq (by decide : (0 : Int32) = (0 : Int32))).2 k) ?_
        show own_Go p e below s _ _ _ (T31.setTop (mkF m 30 #[.val (.int p0), .val (.long p1), .second, .val (.long p2), .second, .val (.ref w3), .val (.int (0 : Int32)), .unset, .unset, .unset] []))
        refine own_via (fun _ k => XS.iconst X31.here hx rfl (hb hby at_30) k) ?_
        show own_Go p e below s _ _ _ (T31.setTop (mkF m 31 #[.val (.int p0), .val (.long p1), .second, .val (.long p2), .second, .val (.ref w3), .val (.int (0 : Int32)), .unset, .unset, .unset] [(.int (1 : Int32))]))
        refine own_via (fun _ k => XS.goto X31.here hx rfl (pc0 := 31) (pc' := 35) rfl (hb hby at_31) (by decide) (by decide) k) ?_
        show own_Go p e below s _ _ _ (T31.setTop (mkF m 35 #[.val (.int p0), .val (.long p1), .second, .val (.long p2), .second, .val (.ref w3), .val (.int (0 : Int32)), .unset, .unset, .unset] [(.int (1 : Int32))]))
        refine own_via (fun _ k => XS.istore X31.here hx rfl (hb hby at_35) rfl (l' := #[.val (.int p0), .val (.long p1), .second, .val (.long p2), .second, .val (.ref w3), .val (.int (0 : Int32)), .val (.int (1 : Int32)), .unset, .unset]) rfl k) ?_
        show own_Go p e below s _ _ _ (T31.setTop (mkF m 37 #[.val (.int p0), .val (.long p1), .second, .val (.long p2), .second, .val (.ref w3), .val (.int (0 : Int32)), .val (.int (1 : Int32)), .unset, .unset] []))
        refine own_via (fun _ k => XS.aload X31.here hx rfl (hb hby at_37) rfl rfl k) ?_
        show own_Go p e below s _ _ _ (T31.setTop (mkF m 39 #[.val (.int p0), .val (.long p1), .second, .val (.long p2), .second, .val (.ref w3), .val (.int (0 : Int32)), .val (.int (1 : Int32)), .unset, .unset] [(.ref w3)]))
        refine own_via (fun _ k => XS.lconst X31.here hx rfl (hb hby at_39) k) ?_
        show own_Go p e below s _ _ _ (T31.setTop (mkF m 40 #[.val (.int p0), .val (.long p1), .second, .val (.long p2), .second, .val (.ref w3), .val (.int (0 : Int32)), .val (.int (1 : Int32)), .unset, .unset] [(.long (0 : Int64)), (.ref w3)]))
        refine own_via (fun _ k => XS.lconst X31.here hx rfl (hb hby at_40) k) ?_
        show own_Go p e below s _ _ _ (T31.setTop (mkF m 41 #[.val (.int p0), .val (.long p1), .second, .val (.long p2), .second, .val (.ref w3), .val (.int (0 : Int32)), .val (.int (1 : Int32)), .unset, .unset] [(.long (1 : Int64)), (.long (0 : Int64)), (.ref w3)]))
        obtain ⟨cq35, kq35, q35a, q35b, q35c⟩ := isOf hZ e31 E_w3
        obtain ⟨_, _, ⟨T35, L35, k35, n35⟩, -, X35, ⟨Lc35, hQ35, l35, y35, z35⟩, st35⟩ := X31.virtualBack hx (y := (⟨"com/example/bericht/bericht/selector/Comparison$Operator", "holds", "(JJ)Z"⟩ : MethodName)) (z := (⟨"com/example/bericht/bericht/selector/Comparison$Operator", "holds", "(JJ)Z"⟩ : MethodName)) hown (mvT hZ (hw _ (List.mem_of_getElem? (i := 14) rfl))) (mvT hZ (hw _ (List.mem_of_getElem? (i := 15) rfl))) (notFace_of_selects (args := #[]) (mvT hZ (hw _ (List.mem_of_getElem? (i := 17) rfl)))) (mvT hZ (hw _ (List.mem_of_getElem? (i := 17) rfl))) (mvT hZ (hw _ (List.mem_of_getElem? (i := 16) rfl))) (by decide) (backOf (W := 0) (rm3_7 l Z a0 hw [] w0 w1 w2 w3 w4 w5 h0 n0 Z0 K0) hZ (hw _ (List.mem_of_getElem? (i := 18) rfl)) (hw _ (List.mem_of_getElem? (i := 6) rfl)) (by decide) (by decide)) q35a q35c (g := (mkF m 41 #[.val (.int p0), .val (.long p1), .second, .val (.long p2), .second, .val (.ref w3), .val (.int (0 : Int32)), .val (.int (1 : Int32)), .unset, .unset] [(.long (1 : Int64)), (.long (0 : Int64)), (.ref w3)])) rfl (by rw [hml]; rfl) (Steps.refl _) (argsL := [(.long (0 : Int64)), (.long (1 : Int64))]) (rest := []) (lenOf pd3 rfl) rfl (by show 2 * 0 + _ ≤ _; exact Nat.le_of_eq rfl) (hb hby at_41) (fun _ _ => ⟨rfl, e31, (by decide : 0 + 0 ≤ _), (by decide : 0 + 0 ≤ _)⟩)
        dsimp only [Pt.U, Pt.locs, Pt.cells, Pt.slots] at X35 l35 y35 z35 st35 hQ35
        subst l35 y35 z35
        obtain ⟨rfl, e35, hO35⟩ := hQ35
        obtain rfl := hO35
        refine own_tr st35 ?_
        show own_Go p e below s _ _ _ (T35.setTop (mkF m 44 #[.val (.int p0), .val (.long p1), .second, .val (.long p2), .second, .val (.ref w3), .val (.int (0 : Int32)), .val (.int (1 : Int32)), .unset, .unset] [(.int (1 : Int32))]))
        refine own_via (fun _ k => XS.aload X35.here hx rfl (hb hby at_44) rfl rfl k) ?_
        show own_Go p e below s _ _ _ (T35.setTop (mkF m 46 #[.val (.int p0), .val (.long p1), .second, .val (.long p2), .second, .val (.ref w3), .val (.int (0 : Int32)), .val (.int (1 : Int32)), .unset, .unset] [(.ref w3), (.int (1 : Int32))]))
        refine own_via (fun _ k => XS.lconst X35.here hx rfl (hb hby at_46) k) ?_
        show own_Go p e below s _ _ _ (T35.setTop (mkF m 47 #[.val (.int p0), .val (.long p1), .second, .val (.long p2), .second, .val (.ref w3), .val (.int (0 : Int32)), .val (.int (1 : Int32)), .unset, .unset] [(.long (1 : Int64)), (.ref w3), (.int (1 : Int32))]))
        refine own_via (fun _ k => XS.lconst X35.here hx rfl (hb hby at_47) k) ?_
        show own_Go p e below s _ _ _ (T35.setTop (mkF m 48 #[.val (.int p0), .val (.long p1), .second, .val (.long p2), .second, .val (.ref w3), .val (.int (0 : Int32)), .val (.int (1 : Int32)), .unset, .unset] [(.long (0 : Int64)), (.long (1 : Int64)), (.ref w3), (.int (1 : Int32))]))
        obtain ⟨cq36, kq36, q36a, q36b, q36c⟩ := isOf hZ e35 E_w3
        obtain ⟨_, _, ⟨T36, L36, k36, n36⟩, -, X36, ⟨Lc36, hQ36, l36, y36, z36⟩, st36⟩ := X35.virtualBack hx (y := (⟨"com/example/bericht/bericht/selector/Comparison$Operator", "holds", "(JJ)Z"⟩ : MethodName)) (z := (⟨"com/example/bericht/bericht/selector/Comparison$Operator", "holds", "(JJ)Z"⟩ : MethodName)) hown (mvT hZ (hw _ (List.mem_of_getElem? (i := 14) rfl))) (mvT hZ (hw _ (List.mem_of_getElem? (i := 15) rfl))) (notFace_of_selects (args := #[]) (mvT hZ (hw _ (List.mem_of_getElem? (i := 17) rfl)))) (mvT hZ (hw _ (List.mem_of_getElem? (i := 17) rfl))) (mvT hZ (hw _ (List.mem_of_getElem? (i := 16) rfl))) (by decide) (backOf (W := 1) (rm3_8 l Z a0 hw [] w0 w1 w2 w3 w4 w5 h0 n0 Z0 K0) hZ (hw _ (List.mem_of_getElem? (i := 18) rfl)) (hw _ (List.mem_of_getElem? (i := 6) rfl)) (by decide) (by decide)) q36a q36c (g := (mkF m 48 #[.val (.int p0), .val (.long p1), .second, .val (.long p2), .second, .val (.ref w3), .val (.int (0 : Int32)), .val (.int (1 : Int32)), .unset, .unset] [(.long (0 : Int64)), (.long (1 : Int64)), (.ref w3), (.int (1 : Int32))])) rfl (by rw [hml]; rfl) (Steps.refl _) (argsL := [(.long (1 : Int64)), (.long (0 : Int64))]) (rest := [(.int (1 : Int32))]) (lenOf pd3 rfl) rfl (by show 2 * 0 + _ ≤ _; exact Nat.le_of_eq rfl) (hb hby at_48) (fun _ _ => ⟨rfl, e35, (by decide : 0 + 0 ≤ _), (by decide : 0 + 0 ≤ _)⟩)
        dsimp only [Pt.U, Pt.locs, Pt.cells, Pt.slots] at X36 l36 y36 z36 st36 hQ36
        subst l36 y36 z36
        obtain ⟨rfl, e36, hO36⟩ := hQ36
        obtain rfl := hO36
        refine own_tr st36 ?_
        show own_Go p e below s _ _ _ (T36.setTop (mkF m 51 #[.val (.int p0), .val (.long p1), .second, .val (.long p2), .second, .val (.ref w3), .val (.int (0 : Int32)), .val (.int (1 : Int32)), .unset, .unset] [(.int (0 : Int32)), (.int (1 : Int32))]))
        refine own_via (fun _ k => XS.icmpNo X36.here hx rfl (hb hby at_51) rfl (feq (by decide : ¬ ((1 : Int32) = (0 : Int32)))).1 k) ?_
        show own_Go p e below s _ _ _ (T36.setTop (mkF m 54 #[.val (.int p0), .val (.long p1), .second, .val (.long p2), .second, .val (.ref w3), .val (.int (0 : Int32)), .val (.int (1 : Int32)), .unset, .unset] []))
        refine own_via (fun _ k => XS.iconst X36.here hx rfl (hb hby at_54) k) ?_
        show own_Go p e below s _ _ _ (T36.setTop (mkF m 55 #[.val (.int p0), .val (.long p1), .second, .val (.long p2), .second, .val (.ref w3), .val (.int (0 : Int32)), .val (.int (1 : Int32)), .unset, .unset] [(.int (1 : Int32))]))
        refine own_via (fun _ k => XS.goto X36.here hx rfl (pc0 := 55) (pc' := 59) rfl (hb hby at_55) (by decide) (by decide) k) ?_
        show own_Go p e below s _ _ _ (T36.setTop (mkF m 59 #[.val (.int p0), .val (.long p1), .second, .val (.long p2), .second, .val (.ref w3), .val (.int (0 : Int32)), .val (.int (1 : Int32)), .unset, .unset] [(.int (1 : Int32))]))
        refine own_via (fun _ k => XS.istore X36.here hx rfl (hb hby at_59) rfl (l' := #[.val (.int p0), .val (.long p1), .second, .val (.long p2), .second, .val (.ref w3), .val (.int (0 : Int32)), .val (.int (1 : Int32)), .val (.int (1 : Int32)), .unset]) rfl k) ?_
        show own_Go p e below s _ _ _ (T36.setTop (mkF m 61 #[.val (.int p0), .val (.long p1), .second, .val (.long p2), .second, .val (.ref w3), .val (.int (0 : Int32)), .val (.int (1 : Int32)), .val (.int (1 : Int32)), .unset] []))
        refine own_via (fun _ k => XS.aload X36.here hx rfl (hb hby at_61) rfl rfl k) ?_
        show own_Go p e below s _ _ _ (T36.setTop (mkF m 63 #[.val (.int p0), .val (.long p1), .second, .val (.long p2), .second, .val (.ref w3), .val (.int (0 : Int32)), .val (.int (1 : Int32)), .val (.int (1 : Int32)), .unset] [(.ref w3)]))
        obtain ⟨cq37, kq37, q37a, q37b, q37c⟩ := isOf hZ e36 E_w3
        obtain ⟨_, _, ⟨T37, L37, k37, n37⟩, -, X37, ⟨Lc37, hQ37, l37, y37, z37⟩, st37⟩ := X36.virtualBack hx (y := (⟨"com/example/bericht/bericht/selector/Comparison$Operator", "flipped", "()Lcom/example/bericht/bericht/selector/Comparison$Operator;"⟩ : MethodName)) (z := (⟨"com/example/bericht/bericht/selector/Comparison$Operator", "flipped", "()Lcom/example/bericht/bericht/selector/Comparison$Operator;"⟩ : MethodName)) hown (mvT hZ (hw _ (List.mem_of_getElem? (i := 28) rfl))) (mvT hZ (hw _ (List.mem_of_getElem? (i := 29) rfl))) (notFace_of_selects (args := #[]) (mvT hZ (hw _ (List.mem_of_getElem? (i := 31) rfl)))) (mvT hZ (hw _ (List.mem_of_getElem? (i := 31) rfl))) (mvT hZ (hw _ (List.mem_of_getElem? (i := 30) rfl))) (by decide) (backOf (W := 0) (rm5_2 l Z a0 hw [] w0 w1 w2 w3 w4 w5 h0 n0 Z0 K0) hZ (hw _ (List.mem_of_getElem? (i := 32) rfl)) (hw _ (List.mem_of_getElem? (i := 6) rfl)) (by decide) (by decide)) q37a q37c (g := (mkF m 63 #[.val (.int p0), .val (.long p1), .second, .val (.long p2), .second, .val (.ref w3), .val (.int (0 : Int32)), .val (.int (1 : Int32)), .val (.int (1 : Int32)), .unset] [(.ref w3)])) rfl (by rw [hml]; rfl) (Steps.refl _) (argsL := []) (rest := []) (lenOf pd4 rfl) rfl (by show 2 * 0 + _ ≤ _; exact Nat.le_of_eq rfl) (hb hby at_63) (fun _ _ => ⟨rfl, e36, (by decide : 0 + 0 ≤ _), (by decide : 0 + 0 ≤ _)⟩)
        dsimp only [Pt.U, Pt.locs, Pt.cells, Pt.slots] at X37 l37 y37 z37 st37 hQ37
        subst l37 y37 z37
        obtain ⟨rfl, e37, hO37⟩ := hQ37
        obtain rfl := hO37
        refine own_tr st37 ?_
        show own_Go p e below s _ _ _ (T37.setTop (mkF m 66 #[.val (.int p0), .val (.long p1), .second, .val (.long p2), .second, .val (.ref w3), .val (.int (0 : Int32)), .val (.int (1 : Int32)), .val (.int (1 : Int32)), .unset] [(.ref w1)]))
        refine own_via (fun _ k => XS.aload X37.here hx rfl (hb hby at_66) rfl rfl k) ?_
        show own_Go p e below s _ _ _ (T37.setTop (mkF m 68 #[.val (.int p0), .val (.long p1), .second, .val (.long p2), .second, .val (.ref w3), .val (.int (0 : Int32)), .val (.int (1 : Int32)), .val (.int (1 : Int32)), .unset] [(.ref w3), (.ref w1)]))
        refine own_via (fun _ k => Jvm.RoadKit.acmp (g := (mkF m 68 #[.val (.int p0), .val (.long p1), .second, .val (.long p2), .second, .val (.ref w3), .val (.int (0 : Int32)), .val (.int (1 : Int32)), .val (.int (1 : Int32)), .unset] [(.ref w3), (.ref w1)])) X37 hx rfl rfl rfl (pc0 := 68) (pc' := 75) (same := false) rfl (hb hby at_68) rfl (decide_eq_false fun q => n_w1_w3 (Value.ref.inj q)) (by decide) (by decide) k) ?_
        show own_Go p e below s _ _ _ (T37.setTop (mkF m 75 #[.val (.int p0), .val (.long p1), .second, .val (.long p2), .second, .val (.ref w3), .val (.int (0 : Int32)), .val (.int (1 : Int32)), .val (.int (1 : Int32)), .unset] []))
        refine own_via (fun _ k => XS.iconst X37.here hx rfl (hb hby at_75) k) ?_
        show own_Go p e below s _ _ _ (T37.setTop (mkF m 76 #[.val (.int p0), .val (.long p1), .second, .val (.long p2), .second, .val (.ref w3), .val (.int (0 : Int32)), .val (.int (1 : Int32)), .val (.int (1 : Int32)), .unset] [(.int (0 : Int32))]))
        refine own_via (fun _ k => XS.istore X37.here hx rfl (hb hby at_76) rfl (l' := #[.val (.int p0), .val (.long p1), .second, .val (.long p2), .second, .val (.ref w3), .val (.int (0 : Int32)), .val (.int (1 : Int32)), .val (.int (1 : Int32)), .val (.int (0 : Int32))]) rfl k) ?_
        show own_Go p e below s _ _ _ (T37.setTop (mkF m 78 #[.val (.int p0), .val (.long p1), .second, .val (.long p2), .second, .val (.ref w3), .val (.int (0 : Int32)), .val (.int (1 : Int32)), .val (.int (1 : Int32)), .val (.int (0 : Int32))] []))
        refine own_via (fun _ k => XS.iload X37.here hx rfl (hb hby at_78) rfl k) ?_
        show own_Go p e below s _ _ _ (T37.setTop (mkF m 80 #[.val (.int p0), .val (.long p1), .second, .val (.long p2), .second, .val (.ref w3), .val (.int (0 : Int32)), .val (.int (1 : Int32)), .val (.int (1 : Int32)), .val (.int (0 : Int32))] [(.int (0 : Int32))]))
        refine own_via (fun _ k => XS.ifYes X37.here hx rfl (pc0 := 80) (pc' := 104) rfl (hb hby at_80) rfl ((if0 _ _).trans (teq (by decide : (0 : Int32) = (0 : Int32))).1) (by decide) (by decide) k) ?_
        show own_Go p e below s _ _ _ (T37.setTop (mkF m 104 #[.val (.int p0), .val (.long p1), .second, .val (.long p2), .second, .val (.ref w3), .val (.int (0 : Int32)), .val (.int (1 : Int32)), .val (.int (1 : Int32)), .val (.int (0 : Int32))] []))
        refine own_via (fun _ k => XS.iload X37.here hx rfl (hb hby at_104) rfl k) ?_
        show own_Go p e below s _ _ _ (T37.setTop (mkF m 106 #[.val (.int p0), .val (.long p1), .second, .val (.long p2), .second, .val (.ref w3), .val (.int (0 : Int32)), .val (.int (1 : Int32)), .val (.int (1 : Int32)), .val (.int (0 : Int32))] [(.int (1 : Int32))]))
        refine own_via (fun _ k => XS.ifNo X37.here hx rfl (hb hby at_106) rfl ((if0 _ _).trans (feq (by decide : ¬ ((1 : Int32) = (0 : Int32)))).1) k) ?_
        show own_Go p e below s _ _ _ (T37.setTop (mkF m 109 #[.val (.int p0), .val (.long p1), .second, .val (.long p2), .second, .val (.ref w3), .val (.int (0 : Int32)), .val (.int (1 : Int32)), .val (.int (1 : Int32)), .val (.int (0 : Int32))] []))
        refine own_via (fun _ k => XS.iload X37.here hx rfl (hb hby at_109) rfl k) ?_
        show own_Go p e below s _ _ _ (T37.setTop (mkF m 111 #[.val (.int p0), .val (.long p1), .second, .val (.long p2), .second, .val (.ref w3), .val (.int (0 : Int32)), .val (.int (1 : Int32)), .val (.int (1 : Int32)), .val (.int (0 : Int32))] [(.int (0 : Int32))]))
        refine own_via (fun _ k => XS.ifNo X37.here hx rfl (hb hby at_111) rfl ((if0 _ _).trans (teq (by decide : (0 : Int32) = (0 : Int32))).2) k) ?_
        show own_Go p e below s _ _ _ (T37.setTop (mkF m 114 #[.val (.int p0), .val (.long p1), .second, .val (.long p2), .second, .val (.ref w3), .val (.int (0 : Int32)), .val (.int (1 : Int32)), .val (.int (1 : Int32)), .val (.int (0 : Int32))] []))
        refine own_via (fun _ k => XS.iconst X37.here hx rfl (hb hby at_114) k) ?_
        show own_Go p e below s _ _ _ (T37.setTop (mkF m 115 #[.val (.int p0), .val (.long p1), .second, .val (.long p2), .second, .val (.ref w3), .val (.int (0 : Int32)), .val (.int (1 : Int32)), .val (.int (1 : Int32)), .val (.int (0 : Int32))] [(.int (1 : Int32))]))
        refine own_via (fun _ k => XS.goto X37.here hx rfl (pc0 := 115) (pc' := 119) rfl (hb hby at_115) (by decide) (by decide) k) ?_
        show own_Go p e below s _ _ _ (T37.setTop (mkF m 119 #[.val (.int p0), .val (.long p1), .second, .val (.long p2), .second, .val (.ref w3), .val (.int (0 : Int32)), .val (.int (1 : Int32)), .val (.int (1 : Int32)), .val (.int (0 : Int32))] [(.int (1 : Int32))]))
        exact own_retZ X37 hx hlk (t := .boolean) Bd.returns (by simp) (hb hby at_119) (z' := (1 : Int32)) (by first | rfl | decide) ⟨rfl, (Fr.nil n0)⟩ (by decide) (by decide)
  · refine own_via st1 ?_
    show own_Go p e below s _ _ _ (T1.setTop (mkF m 4 #[.val (.int p0), .val (.long p1), .second, .val (.long p2), .second, .unset, .unset, .unset, .unset, .unset] [(.ref w4)]))
    refine own_via (fun _ k => XS.astore X1.here hx rfl (hb hby at_4) rfl rfl (l' := #[.val (.int p0), .val (.long p1), .second, .val (.long p2), .second, .val (.ref w4), .unset, .unset, .unset, .unset]) rfl k) ?_
    show own_Go p e below s _ _ _ (T1.setTop (mkF m 6 #[.val (.int p0), .val (.long p1), .second, .val (.long p2), .second, .val (.ref w4), .unset, .unset, .unset, .unset] []))
    refine own_via (fun _ k => XS.aload X1.here hx rfl (hb hby at_6) rfl rfl k) ?_
    show own_Go p e below s _ _ _ (T1.setTop (mkF m 8 #[.val (.int p0), .val (.long p1), .second, .val (.long p2), .second, .val (.ref w4), .unset, .unset, .unset, .unset] [(.ref w4)]))
    obtain ⟨cq38, kq38, q38a, q38b, q38c⟩ := isOf hZ e1 E_w4
    obtain ⟨_, _, ⟨T38, L38, k38, n38⟩, -, X38, ⟨Lc38, hQ38, l38, y38, z38⟩, st38⟩ := X1.virtualBack hx (y := (⟨"com/example/bericht/bericht/selector/Comparison$Operator", "isEquality", "()Z"⟩ : MethodName)) (z := (⟨"com/example/bericht/bericht/selector/Comparison$Operator", "isEquality", "()Z"⟩ : MethodName)) hown (mvT hZ (hw _ (List.mem_of_getElem? (i := 8) rfl))) (mvT hZ (hw _ (List.mem_of_getElem? (i := 9) rfl))) (notFace_of_selects (args := #[]) (mvT hZ (hw _ (List.mem_of_getElem? (i := 11) rfl)))) (mvT hZ (hw _ (List.mem_of_getElem? (i := 11) rfl))) (mvT hZ (hw _ (List.mem_of_getElem? (i := 10) rfl))) (by decide) (backOf (W := 0) (rm2_3 l Z a0 hw [] w0 w1 w2 w3 w4 w5 h0 n0 Z0 K0) hZ (hw _ (List.mem_of_getElem? (i := 12) rfl)) (hw _ (List.mem_of_getElem? (i := 6) rfl)) (by decide) (by decide)) q38a q38c (g := (mkF m 8 #[.val (.int p0), .val (.long p1), .second, .val (.long p2), .second, .val (.ref w4), .unset, .unset, .unset, .unset] [(.ref w4)])) rfl (by rw [hml]; rfl) (Steps.refl _) (argsL := []) (rest := []) (lenOf pd1 rfl) rfl (by show 2 * 0 + _ ≤ _; exact Nat.le_of_eq rfl) (hb hby at_8) (fun _ _ => ⟨rfl, e1, (by decide : 0 + 0 ≤ _), (by decide : 0 + 0 ≤ _)⟩)
    dsimp only [Pt.U, Pt.locs, Pt.cells, Pt.slots] at X38 l38 y38 z38 st38 hQ38
    subst l38 y38 z38
    obtain ⟨rfl, e38, hO38⟩ := hQ38
    obtain rfl := hO38
    refine own_tr st38 ?_
    show own_Go p e below s _ _ _ (T38.setTop (mkF m 11 #[.val (.int p0), .val (.long p1), .second, .val (.long p2), .second, .val (.ref w4), .unset, .unset, .unset, .unset] [(.int (0 : Int32))]))
    refine own_via (fun _ k => XS.istore X38.here hx rfl (hb hby at_11) rfl (l' := #[.val (.int p0), .val (.long p1), .second, .val (.long p2), .second, .val (.ref w4), .val (.int (0 : Int32)), .unset, .unset, .unset]) rfl k) ?_
    show own_Go p e below s _ _ _ (T38.setTop (mkF m 13 #[.val (.int p0), .val (.long p1), .second, .val (.long p2), .second, .val (.ref w4), .val (.int (0 : Int32)), .unset, .unset, .unset] []))
    refine own_via (fun _ k => XS.aload X38.here hx rfl (hb hby at_13) rfl rfl k) ?_
    show own_Go p e below s _ _ _ (T38.setTop (mkF m 15 #[.val (.int p0), .val (.long p1), .second, .val (.long p2), .second, .val (.ref w4), .val (.int (0 : Int32)), .unset, .unset, .unset] [(.ref w4)]))
    refine own_via (fun _ k => XS.lloadN X38.here hx rfl (hb hby at_15) rfl k) ?_
    show own_Go p e below s _ _ _ (T38.setTop (mkF m 16 #[.val (.int p0), .val (.long p1), .second, .val (.long p2), .second, .val (.ref w4), .val (.int (0 : Int32)), .unset, .unset, .unset] [(.long p1), (.ref w4)]))
    refine own_via (fun _ k => XS.lloadN X38.here hx rfl (hb hby at_16) rfl k) ?_
    show own_Go p e below s _ _ _ (T38.setTop (mkF m 17 #[.val (.int p0), .val (.long p1), .second, .val (.long p2), .second, .val (.ref w4), .val (.int (0 : Int32)), .unset, .unset, .unset] [(.long p2), (.long p1), (.ref w4)]))
    obtain ⟨cq39, kq39, q39a, q39b, q39c⟩ := isOf hZ e38 E_w4
    obtain ⟨_, _, ⟨T39, L39, k39, n39⟩, -, X39, ⟨Lc39, hQ39, l39, y39, z39⟩, st39⟩ := X38.virtualBack hx (y := (⟨"com/example/bericht/bericht/selector/Comparison$Operator", "holds", "(JJ)Z"⟩ : MethodName)) (z := (⟨"com/example/bericht/bericht/selector/Comparison$Operator", "holds", "(JJ)Z"⟩ : MethodName)) hown (mvT hZ (hw _ (List.mem_of_getElem? (i := 14) rfl))) (mvT hZ (hw _ (List.mem_of_getElem? (i := 15) rfl))) (notFace_of_selects (args := #[]) (mvT hZ (hw _ (List.mem_of_getElem? (i := 17) rfl)))) (mvT hZ (hw _ (List.mem_of_getElem? (i := 17) rfl))) (mvT hZ (hw _ (List.mem_of_getElem? (i := 16) rfl))) (by decide) (backOf (W := 0) (rm3_9 l Z a0 hw [] p1 p2 w0 w1 w2 w3 w4 w5 h0 n0 Z0 K0) hZ (hw _ (List.mem_of_getElem? (i := 18) rfl)) (hw _ (List.mem_of_getElem? (i := 6) rfl)) (by decide) (by decide)) q39a q39c (g := (mkF m 17 #[.val (.int p0), .val (.long p1), .second, .val (.long p2), .second, .val (.ref w4), .val (.int (0 : Int32)), .unset, .unset, .unset] [(.long p2), (.long p1), (.ref w4)])) rfl (by rw [hml]; rfl) (Steps.refl _) (argsL := [(.long p1), (.long p2)]) (rest := []) (lenOf pd3 rfl) rfl (by show 2 * 0 + _ ≤ _; exact Nat.le_of_eq rfl) (hb hby at_17) (fun _ _ => ⟨rfl, e38, (by decide : 0 + 0 ≤ _), (by decide : 0 + 0 ≤ _)⟩)
    dsimp only [Pt.U, Pt.locs, Pt.cells, Pt.slots] at X39 l39 y39 z39 st39 hQ39
    subst l39 y39 z39
    obtain ⟨rfl, e39, hO39⟩ := hQ39
    rcases hO39 with ⟨hr39_0_0, rfl⟩ | ⟨hr39_1_0, rfl⟩
    · refine own_tr st39 ?_
      show own_Go p e below s _ _ _ (T39.setTop (mkF m 20 #[.val (.int p0), .val (.long p1), .second, .val (.long p2), .second, .val (.ref w4), .val (.int (0 : Int32)), .unset, .unset, .unset] [(.int (0 : Int32))]))
      refine own_via (fun _ k => XS.aload X39.here hx rfl (hb hby at_20) rfl rfl k) ?_
      show own_Go p e below s _ _ _ (T39.setTop (mkF m 22 #[.val (.int p0), .val (.long p1), .second, .val (.long p2), .second, .val (.ref w4), .val (.int (0 : Int32)), .unset, .unset, .unset] [(.ref w4), (.int (0 : Int32))]))
      refine own_via (fun _ k => XS.lloadN X39.here hx rfl (hb hby at_22) rfl k) ?_
      show own_Go p e below s _ _ _ (T39.setTop (mkF m 23 #[.val (.int p0), .val (.long p1), .second, .val (.long p2), .second, .val (.ref w4), .val (.int (0 : Int32)), .unset, .unset, .unset] [(.long p2), (.ref w4), (.int (0 : Int32))]))
      refine own_via (fun _ k => XS.lloadN X39.here hx rfl (hb hby at_23) rfl k) ?_
      show own_Go p e below s _ _ _ (T39.setTop (mkF m 24 #[.val (.int p0), .val (.long p1), .second, .val (.long p2), .second, .val (.ref w4), .val (.int (0 : Int32)), .unset, .unset, .unset] [(.long p1), (.long p2), (.ref w4), (.int (0 : Int32))]))
      obtain ⟨cq40, kq40, q40a, q40b, q40c⟩ := isOf hZ e39 E_w4
      obtain ⟨_, _, ⟨T40, L40, k40, n40⟩, -, X40, ⟨Lc40, hQ40, l40, y40, z40⟩, st40⟩ := X39.virtualBack hx (y := (⟨"com/example/bericht/bericht/selector/Comparison$Operator", "holds", "(JJ)Z"⟩ : MethodName)) (z := (⟨"com/example/bericht/bericht/selector/Comparison$Operator", "holds", "(JJ)Z"⟩ : MethodName)) hown (mvT hZ (hw _ (List.mem_of_getElem? (i := 14) rfl))) (mvT hZ (hw _ (List.mem_of_getElem? (i := 15) rfl))) (notFace_of_selects (args := #[]) (mvT hZ (hw _ (List.mem_of_getElem? (i := 17) rfl)))) (mvT hZ (hw _ (List.mem_of_getElem? (i := 17) rfl))) (mvT hZ (hw _ (List.mem_of_getElem? (i := 16) rfl))) (by decide) (backOf (W := 1) (rm3_9 l Z a0 hw [] p2 p1 w0 w1 w2 w3 w4 w5 h0 n0 Z0 K0) hZ (hw _ (List.mem_of_getElem? (i := 18) rfl)) (hw _ (List.mem_of_getElem? (i := 6) rfl)) (by decide) (by decide)) q40a q40c (g := (mkF m 24 #[.val (.int p0), .val (.long p1), .second, .val (.long p2), .second, .val (.ref w4), .val (.int (0 : Int32)), .unset, .unset, .unset] [(.long p1), (.long p2), (.ref w4), (.int (0 : Int32))])) rfl (by rw [hml]; rfl) (Steps.refl _) (argsL := [(.long p2), (.long p1)]) (rest := [(.int (0 : Int32))]) (lenOf pd3 rfl) rfl (by show 2 * 0 + _ ≤ _; exact Nat.le_of_eq rfl) (hb hby at_24) (fun _ _ => ⟨rfl, e39, (by decide : 0 + 0 ≤ _), (by decide : 0 + 0 ≤ _)⟩)
      dsimp only [Pt.U, Pt.locs, Pt.cells, Pt.slots] at X40 l40 y40 z40 st40 hQ40
      subst l40 y40 z40
      obtain ⟨rfl, e40, hO40⟩ := hQ40
      rcases hO40 with ⟨hr40_0_0, rfl⟩ | ⟨hr40_1_0, rfl⟩
      · refine own_tr st40 ?_
        show own_Go p e below s _ _ _ (T40.setTop (mkF m 27 #[.val (.int p0), .val (.long p1), .second, .val (.long p2), .second, .val (.ref w4), .val (.int (0 : Int32)), .unset, .unset, .unset] [(.int (0 : Int32)), (.int (0 : Int32))]))
        refine own_via (fun _ k => XS.icmpNo X40.here hx rfl (hb hby at_27) rfl (teq (by decide : (0 : Int32) = (0 : Int32))).2 k) ?_
        show own_Go p e below s _ _ _ (T40.setTop (mkF m 30 #[.val (.int p0), .val (.long p1), .second, .val (.long p2), .second, .val (.ref w4), .val (.int (0 : Int32)), .unset, .unset, .unset] []))
        refine own_via (fun _ k => XS.iconst X40.here hx rfl (hb hby at_30) k) ?_
        show own_Go p e below s _ _ _ (T40.setTop (mkF m 31 #[.val (.int p0), .val (.long p1), .second, .val (.long p2), .second, .val (.ref w4), .val (.int (0 : Int32)), .unset, .unset, .unset] [(.int (1 : Int32))]))
        refine own_via (fun _ k => XS.goto X40.here hx rfl (pc0 := 31) (pc' := 35) rfl (hb hby at_31) (by decide) (by decide) k) ?_
        show own_Go p e below s _ _ _ (T40.setTop (mkF m 35 #[.val (.int p0), .val (.long p1), .second, .val (.long p2), .second, .val (.ref w4), .val (.int (0 : Int32)), .unset, .unset, .unset] [(.int (1 : Int32))]))
        refine own_via (fun _ k => XS.istore X40.here hx rfl (hb hby at_35) rfl (l' := #[.val (.int p0), .val (.long p1), .second, .val (.long p2), .second, .val (.ref w4), .val (.int (0 : Int32)), .val (.int (1 : Int32)), .unset, .unset]) rfl k) ?_
        show own_Go p e below s _ _ _ (T40.setTop (mkF m 37 #[.val (.int p0), .val (.long p1), .second, .val (.long p2), .second, .val (.ref w4), .val (.int (0 : Int32)), .val (.int (1 : Int32)), .unset, .unset] []))
        refine own_via (fun _ k => XS.aload X40.here hx rfl (hb hby at_37) rfl rfl k) ?_
        show own_Go p e below s _ _ _ (T40.setTop (mkF m 39 #[.val (.int p0), .val (.long p1), .second, .val (.long p2), .second, .val (.ref w4), .val (.int (0 : Int32)), .val (.int (1 : Int32)), .unset, .unset] [(.ref w4)]))
        refine own_via (fun _ k => XS.lconst X40.here hx rfl (hb hby at_39) k) ?_
        show own_Go p e below s _ _ _ (T40.setTop (mkF m 40 #[.val (.int p0), .val (.long p1), .second, .val (.long p2), .second, .val (.ref w4), .val (.int (0 : Int32)), .val (.int (1 : Int32)), .unset, .unset] [(.long (0 : Int64)), (.ref w4)]))
        refine own_via (fun _ k => XS.lconst X40.here hx rfl (hb hby at_40) k) ?_
        show own_Go p e below s _ _ _ (T40.setTop (mkF m 41 #[.val (.int p0), .val (.long p1), .second, .val (.long p2), .second, .val (.ref w4), .val (.int (0 : Int32)), .val (.int (1 : Int32)), .unset, .unset] [(.long (1 : Int64)), (.long (0 : Int64)), (.ref w4)]))
        obtain ⟨cq41, kq41, q41a, q41b, q41c⟩ := isOf hZ e40 E_w4
        obtain ⟨_, _, ⟨T41, L41, k41, n41⟩, -, X41, ⟨Lc41, hQ41, l41, y41, z41⟩, st41⟩ := X40.virtualBack hx (y := (⟨"com/example/bericht/bericht/selector/Comparison$Operator", "holds", "(JJ)Z"⟩ : MethodName)) (z := (⟨"com/example/bericht/bericht/selector/Comparison$Operator", "holds", "(JJ)Z"⟩ : MethodName)) hown (mvT hZ (hw _ (List.mem_of_getElem? (i := 14) rfl))) (mvT hZ (hw _ (List.mem_of_getElem? (i := 15) rfl))) (notFace_of_selects (args := #[]) (mvT hZ (hw _ (List.mem_of_getElem? (i := 17) rfl)))) (mvT hZ (hw _ (List.mem_of_getElem? (i := 17) rfl))) (mvT hZ (hw _ (List.mem_of_getElem? (i := 16) rfl))) (by decide) (backOf (W := 0) (rm3_10 l Z a0 hw [] w0 w1 w2 w3 w4 w5 h0 n0 Z0 K0) hZ (hw _ (List.mem_of_getElem? (i := 18) rfl)) (hw _ (List.mem_of_getElem? (i := 6) rfl)) (by decide) (by decide)) q41a q41c (g := (mkF m 41 #[.val (.int p0), .val (.long p1), .second, .val (.long p2), .second, .val (.ref w4), .val (.int (0 : Int32)), .val (.int (1 : Int32)), .unset, .unset] [(.long (1 : Int64)), (.long (0 : Int64)), (.ref w4)])) rfl (by rw [hml]; rfl) (Steps.refl _) (argsL := [(.long (0 : Int64)), (.long (1 : Int64))]) (rest := []) (lenOf pd3 rfl) rfl (by show 2 * 0 + _ ≤ _; exact Nat.le_of_eq rfl) (hb hby at_41) (fun _ _ => ⟨rfl, e40, (by decide : 0 + 0 ≤ _), (by decide : 0 + 0 ≤ _)⟩)
        dsimp only [Pt.U, Pt.locs, Pt.cells, Pt.slots] at X41 l41 y41 z41 st41 hQ41
        subst l41 y41 z41
        obtain ⟨rfl, e41, hO41⟩ := hQ41
        obtain rfl := hO41
        refine own_tr st41 ?_
        show own_Go p e below s _ _ _ (T41.setTop (mkF m 44 #[.val (.int p0), .val (.long p1), .second, .val (.long p2), .second, .val (.ref w4), .val (.int (0 : Int32)), .val (.int (1 : Int32)), .unset, .unset] [(.int (1 : Int32))]))
        refine own_via (fun _ k => XS.aload X41.here hx rfl (hb hby at_44) rfl rfl k) ?_
        show own_Go p e below s _ _ _ (T41.setTop (mkF m 46 #[.val (.int p0), .val (.long p1), .second, .val (.long p2), .second, .val (.ref w4), .val (.int (0 : Int32)), .val (.int (1 : Int32)), .unset, .unset] [(.ref w4), (.int (1 : Int32))]))
        refine own_via (fun _ k => XS.lconst X41.here hx rfl (hb hby at_46) k) ?_
        show own_Go p e below s _ _ _ (T41.setTop (mkF m 47 #[.val (.int p0), .val (.long p1), .second, .val (.long p2), .second, .val (.ref w4), .val (.int (0 : Int32)), .val (.int (1 : Int32)), .unset, .unset] [(.long (1 : Int64)), (.ref w4), (.int (1 : Int32))]))
        refine own_via (fun _ k => XS.lconst X41.here hx rfl (hb hby at_47) k) ?_
        show own_Go p e below s _ _ _ (T41.setTop (mkF m 48 #[.val (.int p0), .val (.long p1), .second, .val (.long p2), .second, .val (.ref w4), .val (.int (0 : Int32)), .val (.int (1 : Int32)), .unset, .unset] [(.long (0 : Int64)), (.long (1 : Int64)), (.ref w4), (.int (1 : Int32))]))
        obtain ⟨cq42, kq42, q42a, q42b, q42c⟩ := isOf hZ e41 E_w4
        obtain ⟨_, _, ⟨T42, L42, k42, n42⟩, -, X42, ⟨Lc42, hQ42, l42, y42, z42⟩, st42⟩ := X41.virtualBack hx (y := (⟨"com/example/bericht/bericht/selector/Comparison$Operator", "holds", "(JJ)Z"⟩ : MethodName)) (z := (⟨"com/example/bericht/bericht/selector/Comparison$Operator", "holds", "(JJ)Z"⟩ : MethodName)) hown (mvT hZ (hw _ (List.mem_of_getElem? (i := 14) rfl))) (mvT hZ (hw _ (List.mem_of_getElem? (i := 15) rfl))) (notFace_of_selects (args := #[]) (mvT hZ (hw _ (List.mem_of_getElem? (i := 17) rfl)))) (mvT hZ (hw _ (List.mem_of_getElem? (i := 17) rfl))) (mvT hZ (hw _ (List.mem_of_getElem? (i := 16) rfl))) (by decide) (backOf (W := 1) (rm3_11 l Z a0 hw [] w0 w1 w2 w3 w4 w5 h0 n0 Z0 K0) hZ (hw _ (List.mem_of_getElem? (i := 18) rfl)) (hw _ (List.mem_of_getElem? (i := 6) rfl)) (by decide) (by decide)) q42a q42c (g := (mkF m 48 #[.val (.int p0), .val (.long p1), .second, .val (.long p2), .second, .val (.ref w4), .val (.int (0 : Int32)), .val (.int (1 : Int32)), .unset, .unset] [(.long (0 : Int64)), (.long (1 : Int64)), (.ref w4), (.int (1 : Int32))])) rfl (by rw [hml]; rfl) (Steps.refl _) (argsL := [(.long (1 : Int64)), (.long (0 : Int64))]) (rest := [(.int (1 : Int32))]) (lenOf pd3 rfl) rfl (by show 2 * 0 + _ ≤ _; exact Nat.le_of_eq rfl) (hb hby at_48) (fun _ _ => ⟨rfl, e41, (by decide : 0 + 0 ≤ _), (by decide : 0 + 0 ≤ _)⟩)
        dsimp only [Pt.U, Pt.locs, Pt.cells, Pt.slots] at X42 l42 y42 z42 st42 hQ42
        subst l42 y42 z42
        obtain ⟨rfl, e42, hO42⟩ := hQ42
        obtain rfl := hO42
        refine own_tr st42 ?_
        show own_Go p e below s _ _ _ (T42.setTop (mkF m 51 #[.val (.int p0), .val (.long p1), .second, .val (.long p2), .second, .val (.ref w4), .val (.int (0 : Int32)), .val (.int (1 : Int32)), .unset, .unset] [(.int (0 : Int32)), (.int (1 : Int32))]))
        refine own_via (fun _ k => XS.icmpNo X42.here hx rfl (hb hby at_51) rfl (feq (by decide : ¬ ((1 : Int32) = (0 : Int32)))).1 k) ?_
        show own_Go p e below s _ _ _ (T42.setTop (mkF m 54 #[.val (.int p0), .val (.long p1), .second, .val (.long p2), .second, .val (.ref w4), .val (.int (0 : Int32)), .val (.int (1 : Int32)), .unset, .unset] []))
        refine own_via (fun _ k => XS.iconst X42.here hx rfl (hb hby at_54) k) ?_
        show own_Go p e below s _ _ _ (T42.setTop (mkF m 55 #[.val (.int p0), .val (.long p1), .second, .val (.long p2), .second, .val (.ref w4), .val (.int (0 : Int32)), .val (.int (1 : Int32)), .unset, .unset] [(.int (1 : Int32))]))
        refine own_via (fun _ k => XS.goto X42.here hx rfl (pc0 := 55) (pc' := 59) rfl (hb hby at_55) (by decide) (by decide) k) ?_
        show own_Go p e below s _ _ _ (T42.setTop (mkF m 59 #[.val (.int p0), .val (.long p1), .second, .val (.long p2), .second, .val (.ref w4), .val (.int (0 : Int32)), .val (.int (1 : Int32)), .unset, .unset] [(.int (1 : Int32))]))
        refine own_via (fun _ k => XS.istore X42.here hx rfl (hb hby at_59) rfl (l' := #[.val (.int p0), .val (.long p1), .second, .val (.long p2), .second, .val (.ref w4), .val (.int (0 : Int32)), .val (.int (1 : Int32)), .val (.int (1 : Int32)), .unset]) rfl k) ?_
        show own_Go p e below s _ _ _ (T42.setTop (mkF m 61 #[.val (.int p0), .val (.long p1), .second, .val (.long p2), .second, .val (.ref w4), .val (.int (0 : Int32)), .val (.int (1 : Int32)), .val (.int (1 : Int32)), .unset] []))
        refine own_via (fun _ k => XS.aload X42.here hx rfl (hb hby at_61) rfl rfl k) ?_
        show own_Go p e below s _ _ _ (T42.setTop (mkF m 63 #[.val (.int p0), .val (.long p1), .second, .val (.long p2), .second, .val (.ref w4), .val (.int (0 : Int32)), .val (.int (1 : Int32)), .val (.int (1 : Int32)), .unset] [(.ref w4)]))
        obtain ⟨cq43, kq43, q43a, q43b, q43c⟩ := isOf hZ e42 E_w4
        obtain ⟨_, _, ⟨T43, L43, k43, n43⟩, -, X43, ⟨Lc43, hQ43, l43, y43, z43⟩, st43⟩ := X42.virtualBack hx (y := (⟨"com/example/bericht/bericht/selector/Comparison$Operator", "flipped", "()Lcom/example/bericht/bericht/selector/Comparison$Operator;"⟩ : MethodName)) (z := (⟨"com/example/bericht/bericht/selector/Comparison$Operator", "flipped", "()Lcom/example/bericht/bericht/selector/Comparison$Operator;"⟩ : MethodName)) hown (mvT hZ (hw _ (List.mem_of_getElem? (i := 28) rfl))) (mvT hZ (hw _ (List.mem_of_getElem? (i := 29) rfl))) (notFace_of_selects (args := #[]) (mvT hZ (hw _ (List.mem_of_getElem? (i := 31) rfl)))) (mvT hZ (hw _ (List.mem_of_getElem? (i := 31) rfl))) (mvT hZ (hw _ (List.mem_of_getElem? (i := 30) rfl))) (by decide) (backOf (W := 0) (rm5_3 l Z a0 hw [] w0 w1 w2 w3 w4 w5 h0 n0 Z0 K0) hZ (hw _ (List.mem_of_getElem? (i := 32) rfl)) (hw _ (List.mem_of_getElem? (i := 6) rfl)) (by decide) (by decide)) q43a q43c (g := (mkF m 63 #[.val (.int p0), .val (.long p1), .second, .val (.long p2), .second, .val (.ref w4), .val (.int (0 : Int32)), .val (.int (1 : Int32)), .val (.int (1 : Int32)), .unset] [(.ref w4)])) rfl (by rw [hml]; rfl) (Steps.refl _) (argsL := []) (rest := []) (lenOf pd4 rfl) rfl (by show 2 * 0 + _ ≤ _; exact Nat.le_of_eq rfl) (hb hby at_63) (fun _ _ => ⟨rfl, e42, (by decide : 0 + 0 ≤ _), (by decide : 0 + 0 ≤ _)⟩)
        dsimp only [Pt.U, Pt.locs, Pt.cells, Pt.slots] at X43 l43 y43 z43 st43 hQ43
        subst l43 y43 z43
        obtain ⟨rfl, e43, hO43⟩ := hQ43
        obtain rfl := hO43
        refine own_tr st43 ?_
        show own_Go p e below s _ _ _ (T43.setTop (mkF m 66 #[.val (.int p0), .val (.long p1), .second, .val (.long p2), .second, .val (.ref w4), .val (.int (0 : Int32)), .val (.int (1 : Int32)), .val (.int (1 : Int32)), .unset] [(.ref w5)]))
        refine own_via (fun _ k => XS.aload X43.here hx rfl (hb hby at_66) rfl rfl k) ?_
        show own_Go p e below s _ _ _ (T43.setTop (mkF m 68 #[.val (.int p0), .val (.long p1), .second, .val (.long p2), .second, .val (.ref w4), .val (.int (0 : Int32)), .val (.int (1 : Int32)), .val (.int (1 : Int32)), .unset] [(.ref w4), (.ref w5)]))
        refine own_via (fun _ k => Jvm.RoadKit.acmp (g := (mkF m 68 #[.val (.int p0), .val (.long p1), .second, .val (.long p2), .second, .val (.ref w4), .val (.int (0 : Int32)), .val (.int (1 : Int32)), .val (.int (1 : Int32)), .unset] [(.ref w4), (.ref w5)])) X43 hx rfl rfl rfl (pc0 := 68) (pc' := 75) (same := false) rfl (hb hby at_68) rfl (decide_eq_false fun q => (fun q => n_w4_w5 q.symm) (Value.ref.inj q)) (by decide) (by decide) k) ?_
        show own_Go p e below s _ _ _ (T43.setTop (mkF m 75 #[.val (.int p0), .val (.long p1), .second, .val (.long p2), .second, .val (.ref w4), .val (.int (0 : Int32)), .val (.int (1 : Int32)), .val (.int (1 : Int32)), .unset] []))
        refine own_via (fun _ k => XS.iconst X43.here hx rfl (hb hby at_75) k) ?_
        show own_Go p e below s _ _ _ (T43.setTop (mkF m 76 #[.val (.int p0), .val (.long p1), .second, .val (.long p2), .second, .val (.ref w4), .val (.int (0 : Int32)), .val (.int (1 : Int32)), .val (.int (1 : Int32)), .unset] [(.int (0 : Int32))]))
        refine own_via (fun _ k => XS.istore X43.here hx rfl (hb hby at_76) rfl (l' := #[.val (.int p0), .val (.long p1), .second, .val (.long p2), .second, .val (.ref w4), .val (.int (0 : Int32)), .val (.int (1 : Int32)), .val (.int (1 : Int32)), .val (.int (0 : Int32))]) rfl k) ?_
        show own_Go p e below s _ _ _ (T43.setTop (mkF m 78 #[.val (.int p0), .val (.long p1), .second, .val (.long p2), .second, .val (.ref w4), .val (.int (0 : Int32)), .val (.int (1 : Int32)), .val (.int (1 : Int32)), .val (.int (0 : Int32))] []))
        refine own_via (fun _ k => XS.iload X43.here hx rfl (hb hby at_78) rfl k) ?_
        show own_Go p e below s _ _ _ (T43.setTop (mkF m 80 #[.val (.int p0), .val (.long p1), .second, .val (.long p2), .second, .val (.ref w4), .val (.int (0 : Int32)), .val (.int (1 : Int32)), .val (.int (1 : Int32)), .val (.int (0 : Int32))] [(.int (0 : Int32))]))
        refine own_via (fun _ k => XS.ifYes X43.here hx rfl (pc0 := 80) (pc' := 104) rfl (hb hby at_80) rfl ((if0 _ _).trans (teq (by decide : (0 : Int32) = (0 : Int32))).1) (by decide) (by decide) k) ?_
        show own_Go p e below s _ _ _ (T43.setTop (mkF m 104 #[.val (.int p0), .val (.long p1), .second, .val (.long p2), .second, .val (.ref w4), .val (.int (0 : Int32)), .val (.int (1 : Int32)), .val (.int (1 : Int32)), .val (.int (0 : Int32))] []))
        refine own_via (fun _ k => XS.iload X43.here hx rfl (hb hby at_104) rfl k) ?_
        show own_Go p e below s _ _ _ (T43.setTop (mkF m 106 #[.val (.int p0), .val (.long p1), .second, .val (.long p2), .second, .val (.ref w4), .val (.int (0 : Int32)), .val (.int (1 : Int32)), .val (.int (1 : Int32)), .val (.int (0 : Int32))] [(.int (1 : Int32))]))
        refine own_via (fun _ k => XS.ifNo X43.here hx rfl (hb hby at_106) rfl ((if0 _ _).trans (feq (by decide : ¬ ((1 : Int32) = (0 : Int32)))).1) k) ?_
        show own_Go p e below s _ _ _ (T43.setTop (mkF m 109 #[.val (.int p0), .val (.long p1), .second, .val (.long p2), .second, .val (.ref w4), .val (.int (0 : Int32)), .val (.int (1 : Int32)), .val (.int (1 : Int32)), .val (.int (0 : Int32))] []))
        refine own_via (fun _ k => XS.iload X43.here hx rfl (hb hby at_109) rfl k) ?_
        show own_Go p e below s _ _ _ (T43.setTop (mkF m 111 #[.val (.int p0), .val (.long p1), .second, .val (.long p2), .second, .val (.ref w4), .val (.int (0 : Int32)), .val (.int (1 : Int32)), .val (.int (1 : Int32)), .val (.int (0 : Int32))] [(.int (0 : Int32))]))
        refine own_via (fun _ k => XS.ifNo X43.here hx rfl (hb hby at_111) rfl ((if0 _ _).trans (teq (by decide : (0 : Int32) = (0 : Int32))).2) k) ?_
        show own_Go p e below s _ _ _ (T43.setTop (mkF m 114 #[.val (.int p0), .val (.long p1), .second, .val (.long p2), .second, .val (.ref w4), .val (.int (0 : Int32)), .val (.int (1 : Int32)), .val (.int (1 : Int32)), .val (.int (0 : Int32))] []))
        refine own_via (fun _ k => XS.iconst X43.here hx rfl (hb hby at_114) k) ?_
        show own_Go p e below s _ _ _ (T43.setTop (mkF m 115 #[.val (.int p0), .val (.long p1), .second, .val (.long p2), .second, .val (.ref w4), .val (.int (0 : Int32)), .val (.int (1 : Int32)), .val (.int (1 : Int32)), .val (.int (0 : Int32))] [(.int (1 : Int32))]))
        refine own_via (fun _ k => XS.goto X43.here hx rfl (pc0 := 115) (pc' := 119) rfl (hb hby at_115) (by decide) (by decide) k) ?_
        show own_Go p e below s _ _ _ (T43.setTop (mkF m 119 #[.val (.int p0), .val (.long p1), .second, .val (.long p2), .second, .val (.ref w4), .val (.int (0 : Int32)), .val (.int (1 : Int32)), .val (.int (1 : Int32)), .val (.int (0 : Int32))] [(.int (1 : Int32))]))
        exact own_retZ X43 hx hlk (t := .boolean) Bd.returns (by simp) (hb hby at_119) (z' := (1 : Int32)) (by first | rfl | decide) ⟨rfl, (Fr.nil n0)⟩ (by decide) (by decide)
      · refine own_tr st40 ?_
        show own_Go p e below s _ _ _ (T40.setTop (mkF m 27 #[.val (.int p0), .val (.long p1), .second, .val (.long p2), .second, .val (.ref w4), .val (.int (0 : Int32)), .unset, .unset, .unset] [(.int (1 : Int32)), (.int (0 : Int32))]))
        refine own_via (fun _ k => XS.icmpYes X40.here hx rfl (pc0 := 27) (pc' := 34) rfl (hb hby at_27) rfl (feq (by decide : ¬ ((0 : Int32) = (1 : Int32)))).2 (by decide) (by decide) k) ?_
        show own_Go p e below s _ _ _ (T40.setTop (mkF m 34 #[.val (.int p0), .val (.long p1), .second, .val (.long p2), .second, .val (.ref w4), .val (.int (0 : Int32)), .unset, .unset, .unset] []))
        refine own_via (fun _ k => XS.iconst X40.here hx rfl (hb hby at_34) k) ?_
        show own_Go p e below s _ _ _ (T40.setTop (mkF m 35 #[.val (.int p0), .val (.long p1), .second, .val (.long p2), .second, .val (.ref w4), .val (.int (0 : Int32)), .unset, .unset, .unset] [(.int (0 : Int32))]))
        refine own_via (fun _ k => XS.istore X40.here hx rfl (hb hby at_35) rfl (l' := #[.val (.int p0), .val (.long p1), .second, .val (.long p2), .second, .val (.ref w4), .val (.int (0 : Int32)), .val (.int (0 : Int32)), .unset, .unset]) rfl k) ?_
        show own_Go p e below s _ _ _ (T40.setTop (mkF m 37 #[.val (.int p0), .val (.long p1), .second, .val (.long p2), .second, .val (.ref w4), .val (.int (0 : Int32)), .val (.int (0 : Int32)), .unset, .unset] []))
        refine own_via (fun _ k => XS.aload X40.here hx rfl (hb hby at_37) rfl rfl k) ?_
        show own_Go p e below s _ _ _ (T40.setTop (mkF m 39 #[.val (.int p0), .val (.long p1), .second, .val (.long p2), .second, .val (.ref w4), .val (.int (0 : Int32)), .val (.int (0 : Int32)), .unset, .unset] [(.ref w4)]))
        refine own_via (fun _ k => XS.lconst X40.here hx rfl (hb hby at_39) k) ?_
        show own_Go p e below s _ _ _ (T40.setTop (mkF m 40 #[.val (.int p0), .val (.long p1), .second, .val (.long p2), .second, .val (.ref w4), .val (.int (0 : Int32)), .val (.int (0 : Int32)), .unset, .unset] [(.long (0 : Int64)), (.ref w4)]))
        refine own_via (fun _ k => XS.lconst X40.here hx rfl (hb hby at_40) k) ?_
        show own_Go p e below s _ _ _ (T40.setTop (mkF m 41 #[.val (.int p0), .val (.long p1), .second, .val (.long p2), .second, .val (.ref w4), .val (.int (0 : Int32)), .val (.int (0 : Int32)), .unset, .unset] [(.long (1 : Int64)), (.long (0 : Int64)), (.ref w4)]))
        obtain ⟨cq44, kq44, q44a, q44b, q44c⟩ := isOf hZ e40 E_w4
        obtain ⟨_, _, ⟨T44, L44, k44, n44⟩, -, X44, ⟨Lc44, hQ44, l44, y44, z44⟩, st44⟩ := X40.virtualBack hx (y := (⟨"com/example/bericht/bericht/selector/Comparison$Operator", "holds", "(JJ)Z"⟩ : MethodName)) (z := (⟨"com/example/bericht/bericht/selector/Comparison$Operator", "holds", "(JJ)Z"⟩ : MethodName)) hown (mvT hZ (hw _ (List.mem_of_getElem? (i := 14) rfl))) (mvT hZ (hw _ (List.mem_of_getElem? (i := 15) rfl))) (notFace_of_selects (args := #[]) (mvT hZ (hw _ (List.mem_of_getElem? (i := 17) rfl)))) (mvT hZ (hw _ (List.mem_of_getElem? (i := 17) rfl))) (mvT hZ (hw _ (List.mem_of_getElem? (i := 16) rfl))) (by decide) (backOf (W := 0) (rm3_10 l Z a0 hw [] w0 w1 w2 w3 w4 w5 h0 n0 Z0 K0) hZ (hw _ (List.mem_of_getElem? (i := 18) rfl)) (hw _ (List.mem_of_getElem? (i := 6) rfl)) (by decide) (by decide)) q44a q44c (g := (mkF m 41 #[.val (.int p0), .val (.long p1), .second, .val (.long p2), .second, .val (.ref w4), .val (.int (0 : Int32)), .val (.int (0 : Int32)), .unset, .unset] [(.long (1 : Int64)), (.long (0 : Int64)), (.ref w4)])) rfl (by rw [hml]; rfl) (Steps.refl _) (argsL := [(.long (0 : Int64)), (.long (1 : Int64))]) (rest := []) (lenOf pd3 rfl) rfl (by show 2 * 0 + _ ≤ _; exact Nat.le_of_eq rfl) (hb hby at_41) (fun _ _ => ⟨rfl, e40, (by decide : 0 + 0 ≤ _), (by decide : 0 + 0 ≤ _)⟩)
        dsimp only [Pt.U, Pt.locs, Pt.cells, Pt.slots] at X44 l44 y44 z44 st44 hQ44
        subst l44 y44 z44
        obtain ⟨rfl, e44, hO44⟩ := hQ44
        obtain rfl := hO44
        refine own_tr st44 ?_
        show own_Go p e below s _ _ _ (T44.setTop (mkF m 44 #[.val (.int p0), .val (.long p1), .second, .val (.long p2), .second, .val (.ref w4), .val (.int (0 : Int32)), .val (.int (0 : Int32)), .unset, .unset] [(.int (1 : Int32))]))
        refine own_via (fun _ k => XS.aload X44.here hx rfl (hb hby at_44) rfl rfl k) ?_
        show own_Go p e below s _ _ _ (T44.setTop (mkF m 46 #[.val (.int p0), .val (.long p1), .second, .val (.long p2), .second, .val (.ref w4), .val (.int (0 : Int32)), .val (.int (0 : Int32)), .unset, .unset] [(.ref w4), (.int (1 : Int32))]))
        refine own_via (fun _ k => XS.lconst X44.here hx rfl (hb hby at_46) k) ?_
        show own_Go p e below s _ _ _ (T44.setTop (mkF m 47 #[.val (.int p0), .val (.long p1), .second, .val (.long p2), .second, .val (.ref w4), .val (.int (0 : Int32)), .val (.int (0 : Int32)), .unset, .unset] [(.long (1 : Int64)), (.ref w4), (.int (1 : Int32))]))
        refine own_via (fun _ k => XS.lconst X44.here hx rfl (hb hby at_47) k) ?_
        show own_Go p e below s _ _ _ (T44.setTop (mkF m 48 #[.val (.int p0), .val (.long p1), .second, .val (.long p2), .second, .val (.ref w4), .val (.int (0 : Int32)), .val (.int (0 : Int32)), .unset, .unset] [(.long (0 : Int64)), (.long (1 : Int64)), (.ref w4), (.int (1 : Int32))]))
        obtain ⟨cq45, kq45, q45a, q45b, q45c⟩ := isOf hZ e44 E_w4
        obtain ⟨_, _, ⟨T45, L45, k45, n45⟩, -, X45, ⟨Lc45, hQ45, l45, y45, z45⟩, st45⟩ := X44.virtualBack hx (y := (⟨"com/example/bericht/bericht/selector/Comparison$Operator", "holds", "(JJ)Z"⟩ : MethodName)) (z := (⟨"com/example/bericht/bericht/selector/Comparison$Operator", "holds", "(JJ)Z"⟩ : MethodName)) hown (mvT hZ (hw _ (List.mem_of_getElem? (i := 14) rfl))) (mvT hZ (hw _ (List.mem_of_getElem? (i := 15) rfl))) (notFace_of_selects (args := #[]) (mvT hZ (hw _ (List.mem_of_getElem? (i := 17) rfl)))) (mvT hZ (hw _ (List.mem_of_getElem? (i := 17) rfl))) (mvT hZ (hw _ (List.mem_of_getElem? (i := 16) rfl))) (by decide) (backOf (W := 1) (rm3_11 l Z a0 hw [] w0 w1 w2 w3 w4 w5 h0 n0 Z0 K0) hZ (hw _ (List.mem_of_getElem? (i := 18) rfl)) (hw _ (List.mem_of_getElem? (i := 6) rfl)) (by decide) (by decide)) q45a q45c (g := (mkF m 48 #[.val (.int p0), .val (.long p1), .second, .val (.long p2), .second, .val (.ref w4), .val (.int (0 : Int32)), .val (.int (0 : Int32)), .unset, .unset] [(.long (0 : Int64)), (.long (1 : Int64)), (.ref w4), (.int (1 : Int32))])) rfl (by rw [hml]; rfl) (Steps.refl _) (argsL := [(.long (1 : Int64)), (.long (0 : Int64))]) (rest := [(.int (1 : Int32))]) (lenOf pd3 rfl) rfl (by show 2 * 0 + _ ≤ _; exact Nat.le_of_eq rfl) (hb hby at_48) (fun _ _ => ⟨rfl, e44, (by decide : 0 + 0 ≤ _), (by decide : 0 + 0 ≤ _)⟩)
        dsimp only [Pt.U, Pt.locs, Pt.cells, Pt.slots] at X45 l45 y45 z45 st45 hQ45
        subst l45 y45 z45
        obtain ⟨rfl, e45, hO45⟩ := hQ45
        obtain rfl := hO45
        refine own_tr st45 ?_
        show own_Go p e below s _ _ _ (T45.setTop (mkF m 51 #[.val (.int p0), .val (.long p1), .second, .val (.long p2), .second, .val (.ref w4), .val (.int (0 : Int32)), .val (.int (0 : Int32)), .unset, .unset] [(.int (0 : Int32)), (.int (1 : Int32))]))
        refine own_via (fun _ k => XS.icmpNo X45.here hx rfl (hb hby at_51) rfl (feq (by decide : ¬ ((1 : Int32) = (0 : Int32)))).1 k) ?_
        show own_Go p e below s _ _ _ (T45.setTop (mkF m 54 #[.val (.int p0), .val (.long p1), .second, .val (.long p2), .second, .val (.ref w4), .val (.int (0 : Int32)), .val (.int (0 : Int32)), .unset, .unset] []))
        refine own_via (fun _ k => XS.iconst X45.here hx rfl (hb hby at_54) k) ?_
        show own_Go p e below s _ _ _ (T45.setTop (mkF m 55 #[.val (.int p0), .val (.long p1), .second, .val (.long p2), .second, .val (.ref w4), .val (.int (0 : Int32)), .val (.int (0 : Int32)), .unset, .unset] [(.int (1 : Int32))]))
        refine own_via (fun _ k => XS.goto X45.here hx rfl (pc0 := 55) (pc' := 59) rfl (hb hby at_55) (by decide) (by decide) k) ?_
        show own_Go p e below s _ _ _ (T45.setTop (mkF m 59 #[.val (.int p0), .val (.long p1), .second, .val (.long p2), .second, .val (.ref w4), .val (.int (0 : Int32)), .val (.int (0 : Int32)), .unset, .unset] [(.int (1 : Int32))]))
        refine own_via (fun _ k => XS.istore X45.here hx rfl (hb hby at_59) rfl (l' := #[.val (.int p0), .val (.long p1), .second, .val (.long p2), .second, .val (.ref w4), .val (.int (0 : Int32)), .val (.int (0 : Int32)), .val (.int (1 : Int32)), .unset]) rfl k) ?_
        show own_Go p e below s _ _ _ (T45.setTop (mkF m 61 #[.val (.int p0), .val (.long p1), .second, .val (.long p2), .second, .val (.ref w4), .val (.int (0 : Int32)), .val (.int (0 : Int32)), .val (.int (1 : Int32)), .unset] []))
        refine own_via (fun _ k => XS.aload X45.here hx rfl (hb hby at_61) rfl rfl k) ?_
        show own_Go p e below s _ _ _ (T45.setTop (mkF m 63 #[.val (.int p0), .val (.long p1), .second, .val (.long p2), .second, .val (.ref w4), .val (.int (0 : Int32)), .val (.int (0 : Int32)), .val (.int (1 : Int32)), .unset] [(.ref w4)]))
        obtain ⟨cq46, kq46, q46a, q46b, q46c⟩ := isOf hZ e45 E_w4
        obtain ⟨_, _, ⟨T46, L46, k46, n46⟩, -, X46, ⟨Lc46, hQ46, l46, y46, z46⟩, st46⟩ := X45.virtualBack hx (y := (⟨"com/example/bericht/bericht/selector/Comparison$Operator", "flipped", "()Lcom/example/bericht/bericht/selector/Comparison$Operator;"⟩ : MethodName)) (z := (⟨"com/example/bericht/bericht/selector/Comparison$Operator", "flipped", "()Lcom/example/bericht/bericht/selector/Comparison$Operator;"⟩ : MethodName)) hown (mvT hZ (hw _ (List.mem_of_getElem? (i := 28) rfl))) (mvT hZ (hw _ (List.mem_of_getElem? (i := 29) rfl))) (notFace_of_selects (args := #[]) (mvT hZ (hw _ (List.mem_of_getElem? (i := 31) rfl)))) (mvT hZ (hw _ (List.mem_of_getElem? (i := 31) rfl))) (mvT hZ (hw _ (List.mem_of_getElem? (i := 30) rfl))) (by decide) (backOf (W := 0) (rm5_3 l Z a0 hw [] w0 w1 w2 w3 w4 w5 h0 n0 Z0 K0) hZ (hw _ (List.mem_of_getElem? (i := 32) rfl)) (hw _ (List.mem_of_getElem? (i := 6) rfl)) (by decide) (by decide)) q46a q46c (g := (mkF m 63 #[.val (.int p0), .val (.long p1), .second, .val (.long p2), .second, .val (.ref w4), .val (.int (0 : Int32)), .val (.int (0 : Int32)), .val (.int (1 : Int32)), .unset] [(.ref w4)])) rfl (by rw [hml]; rfl) (Steps.refl _) (argsL := []) (rest := []) (lenOf pd4 rfl) rfl (by show 2 * 0 + _ ≤ _; exact Nat.le_of_eq rfl) (hb hby at_63) (fun _ _ => ⟨rfl, e45, (by decide : 0 + 0 ≤ _), (by decide : 0 + 0 ≤ _)⟩)
        dsimp only [Pt.U, Pt.locs, Pt.cells, Pt.slots] at X46 l46 y46 z46 st46 hQ46
        subst l46 y46 z46
        obtain ⟨rfl, e46, hO46⟩ := hQ46
        obtain rfl := hO46
        refine own_tr st46 ?_
        show own_Go p e below s _ _ _ (T46.setTop (mkF m 66 #[.val (.int p0), .val (.long p1), .second, .val (.long p2), .second, .val (.ref w4), .val (.int (0 : Int32)), .val (.int (0 : Int32)), .val (.int (1 : Int32)), .unset] [(.ref w5)]))
        refine own_via (fun _ k => XS.aload X46.here hx rfl (hb hby at_66) rfl rfl k) ?_
        show own_Go p e below s _ _ _ (T46.setTop (mkF m 68 #[.val (.int p0), .val (.long p1), .second, .val (.long p2), .second, .val (.ref w4), .val (.int (0 : Int32)), .val (.int (0 : Int32)), .val (.int (1 : Int32)), .unset] [(.ref w4), (.ref w5)]))
        refine own_via (fun _ k => Jvm.RoadKit.acmp (g := (mkF m 68 #[.val (.int p0), .val (.long p1), .second, .val (.long p2), .second, .val (.ref w4), .val (.int (0 : Int32)), .val (.int (0 : Int32)), .val (.int (1 : Int32)), .unset] [(.ref w4), (.ref w5)])) X46 hx rfl rfl rfl (pc0 := 68) (pc' := 75) (same := false) rfl (hb hby at_68) rfl (decide_eq_false fun q => (fun q => n_w4_w5 q.symm) (Value.ref.inj q)) (by decide) (by decide) k) ?_
        show own_Go p e below s _ _ _ (T46.setTop (mkF m 75 #[.val (.int p0), .val (.long p1), .second, .val (.long p2), .second, .val (.ref w4), .val (.int (0 : Int32)), .val (.int (0 : Int32)), .val (.int (1 : Int32)), .unset] []))
        refine own_via (fun _ k => XS.iconst X46.here hx rfl (hb hby at_75) k) ?_
        show own_Go p e below s _ _ _ (T46.setTop (mkF m 76 #[.val (.int p0), .val (.long p1), .second, .val (.long p2), .second, .val (.ref w4), .val (.int (0 : Int32)), .val (.int (0 : Int32)), .val (.int (1 : Int32)), .unset] [(.int (0 : Int32))]))
        refine own_via (fun _ k => XS.istore X46.here hx rfl (hb hby at_76) rfl (l' := #[.val (.int p0), .val (.long p1), .second, .val (.long p2), .second, .val (.ref w4), .val (.int (0 : Int32)), .val (.int (0 : Int32)), .val (.int (1 : Int32)), .val (.int (0 : Int32))]) rfl k) ?_
        show own_Go p e below s _ _ _ (T46.setTop (mkF m 78 #[.val (.int p0), .val (.long p1), .second, .val (.long p2), .second, .val (.ref w4), .val (.int (0 : Int32)), .val (.int (0 : Int32)), .val (.int (1 : Int32)), .val (.int (0 : Int32))] []))
        refine own_via (fun _ k => XS.iload X46.here hx rfl (hb hby at_78) rfl k) ?_
        show own_Go p e below s _ _ _ (T46.setTop (mkF m 80 #[.val (.int p0), .val (.long p1), .second, .val (.long p2), .second, .val (.ref w4), .val (.int (0 : Int32)), .val (.int (0 : Int32)), .val (.int (1 : Int32)), .val (.int (0 : Int32))] [(.int (0 : Int32))]))
        refine own_via (fun _ k => XS.ifYes X46.here hx rfl (pc0 := 80) (pc' := 104) rfl (hb hby at_80) rfl ((if0 _ _).trans (teq (by decide : (0 : Int32) = (0 : Int32))).1) (by decide) (by decide) k) ?_
        show own_Go p e below s _ _ _ (T46.setTop (mkF m 104 #[.val (.int p0), .val (.long p1), .second, .val (.long p2), .second, .val (.ref w4), .val (.int (0 : Int32)), .val (.int (0 : Int32)), .val (.int (1 : Int32)), .val (.int (0 : Int32))] []))
        refine own_via (fun _ k => XS.iload X46.here hx rfl (hb hby at_104) rfl k) ?_
        show own_Go p e below s _ _ _ (T46.setTop (mkF m 106 #[.val (.int p0), .val (.long p1), .second, .val (.long p2), .second, .val (.ref w4), .val (.int (0 : Int32)), .val (.int (0 : Int32)), .val (.int (1 : Int32)), .val (.int (0 : Int32))] [(.int (1 : Int32))]))
        refine own_via (fun _ k => XS.ifNo X46.here hx rfl (hb hby at_106) rfl ((if0 _ _).trans (feq (by decide : ¬ ((1 : Int32) = (0 : Int32)))).1) k) ?_
        show own_Go p e below s _ _ _ (T46.setTop (mkF m 109 #[.val (.int p0), .val (.long p1), .second, .val (.long p2), .second, .val (.ref w4), .val (.int (0 : Int32)), .val (.int (0 : Int32)), .val (.int (1 : Int32)), .val (.int (0 : Int32))] []))
        refine own_via (fun _ k => XS.iload X46.here hx rfl (hb hby at_109) rfl k) ?_
        show own_Go p e below s _ _ _ (T46.setTop (mkF m 111 #[.val (.int p0), .val (.long p1), .second, .val (.long p2), .second, .val (.ref w4), .val (.int (0 : Int32)), .val (.int (0 : Int32)), .val (.int (1 : Int32)), .val (.int (0 : Int32))] [(.int (0 : Int32))]))
        refine own_via (fun _ k => XS.ifNo X46.here hx rfl (hb hby at_111) rfl ((if0 _ _).trans (teq (by decide : (0 : Int32) = (0 : Int32))).2) k) ?_
        show own_Go p e below s _ _ _ (T46.setTop (mkF m 114 #[.val (.int p0), .val (.long p1), .second, .val (.long p2), .second, .val (.ref w4), .val (.int (0 : Int32)), .val (.int (0 : Int32)), .val (.int (1 : Int32)), .val (.int (0 : Int32))] []))
        refine own_via (fun _ k => XS.iconst X46.here hx rfl (hb hby at_114) k) ?_
        show own_Go p e below s _ _ _ (T46.setTop (mkF m 115 #[.val (.int p0), .val (.long p1), .second, .val (.long p2), .second, .val (.ref w4), .val (.int (0 : Int32)), .val (.int (0 : Int32)), .val (.int (1 : Int32)), .val (.int (0 : Int32))] [(.int (1 : Int32))]))
        refine own_via (fun _ k => XS.goto X46.here hx rfl (pc0 := 115) (pc' := 119) rfl (hb hby at_115) (by decide) (by decide) k) ?_
        show own_Go p e below s _ _ _ (T46.setTop (mkF m 119 #[.val (.int p0), .val (.long p1), .second, .val (.long p2), .second, .val (.ref w4), .val (.int (0 : Int32)), .val (.int (0 : Int32)), .val (.int (1 : Int32)), .val (.int (0 : Int32))] [(.int (1 : Int32))]))
        exact own_retZ X46 hx hlk (t := .boolean) Bd.returns (by simp) (hb hby at_119) (z' := (1 : Int32)) (by first | rfl | decide) ⟨rfl, (Fr.nil n0)⟩ (by decide) (by decide)
    · refine own_tr st39 ?_
      show own_Go p e below s _ _ _ (T39.setTop (mkF m 20 #[.val (.int p0), .val (.long p1), .second, .val (.long p2), .second, .val (.ref w4), .val (.int (0 : Int32)), .unset, .unset, .unset] [(.int (1 : Int32))]))
      refine own_via (fun _ k => XS.aload X39.here hx rfl (hb hby at_20) rfl rfl k) ?_
      show own_Go p e below s _ _ _ (T39.setTop (mkF m 22 #[.val (.int p0), .val (.long p1), .second, .val (.long p2), .second, .val (.ref w4), .val (.int (0 : Int32)), .unset, .unset, .unset] [(.ref w4), (.int (1 : Int32))]))
      refine own_via (fun _ k => XS.lloadN X39.here hx rfl (hb hby at_22) rfl k) ?_
      show own_Go p e below s _ _ _ (T39.setTop (mkF m 23 #[.val (.int p0), .val (.long p1), .second, .val (.long p2), .second, .val (.ref w4), .val (.int (0 : Int32)), .unset, .unset, .unset] [(.long p2), (.ref w4), (.int (1 : Int32))]))
      refine own_via (fun _ k => XS.lloadN X39.here hx rfl (hb hby at_23) rfl k) ?_
      show own_Go p e below s _ _ _ (T39.setTop (mkF m 24 #[.val (.int p0), .val (.long p1), .second, .val (.long p2), .second, .val (.ref w4), .val (.int (0 : Int32)), .unset, .unset, .unset] [(.long p1), (.long p2), (.ref w4), (.int (1 : Int32))]))
      obtain ⟨cq47, kq47, q47a, q47b, q47c⟩ := isOf hZ e39 E_w4
      obtain ⟨_, _, ⟨T47, L47, k47, n47⟩, -, X47, ⟨Lc47, hQ47, l47, y47, z47⟩, st47⟩ := X39.virtualBack hx (y := (⟨"com/example/bericht/bericht/selector/Comparison$Operator", "holds", "(JJ)Z"⟩ : MethodName)) (z := (⟨"com/example/bericht/bericht/selector/Comparison$Operator", "holds", "(JJ)Z"⟩ : MethodName)) hown (mvT hZ (hw _ (List.mem_of_getElem? (i := 14) rfl))) (mvT hZ (hw _ (List.mem_of_getElem? (i := 15) rfl))) (notFace_of_selects (args := #[]) (mvT hZ (hw _ (List.mem_of_getElem? (i := 17) rfl)))) (mvT hZ (hw _ (List.mem_of_getElem? (i := 17) rfl))) (mvT hZ (hw _ (List.mem_of_getElem? (i := 16) rfl))) (by decide) (backOf (W := 1) (rm3_9 l Z a0 hw [] p2 p1 w0 w1 w2 w3 w4 w5 h0 n0 Z0 K0) hZ (hw _ (List.mem_of_getElem? (i := 18) rfl)) (hw _ (List.mem_of_getElem? (i := 6) rfl)) (by decide) (by decide)) q47a q47c (g := (mkF m 24 #[.val (.int p0), .val (.long p1), .second, .val (.long p2), .second, .val (.ref w4), .val (.int (0 : Int32)), .unset, .unset, .unset] [(.long p1), (.long p2), (.ref w4), (.int (1 : Int32))])) rfl (by rw [hml]; rfl) (Steps.refl _) (argsL := [(.long p2), (.long p1)]) (rest := [(.int (1 : Int32))]) (lenOf pd3 rfl) rfl (by show 2 * 0 + _ ≤ _; exact Nat.le_of_eq rfl) (hb hby at_24) (fun _ _ => ⟨rfl, e39, (by decide : 0 + 0 ≤ _), (by decide : 0 + 0 ≤ _)⟩)
      dsimp only [Pt.U, Pt.locs, Pt.cells, Pt.slots] at X47 l47 y47 z47 st47 hQ47
      subst l47 y47 z47
      obtain ⟨rfl, e47, hO47⟩ := hQ47
      rcases hO47 with ⟨hr47_0_0, rfl⟩ | ⟨hr47_1_0, rfl⟩
      · refine own_tr st47 ?_
        show own_Go p e below s _ _ _ (T47.setTop (mkF m 27 #[.val (.int p0), .val (.long p1), .second, .val (.long p2), .second, .val (.ref w4), .val (.int (0 : Int32)), .unset, .unset, .unset] [(.int (0 : Int32)), (.int (1 : Int32))]))
        refine own_via (fun _ k => XS.icmpYes X47.here hx rfl (pc0 := 27) (pc' := 34) rfl (hb hby at_27) rfl (feq (by decide : ¬ ((1 : Int32) = (0 : Int32)))).2 (by decide) (by decide) k) ?_
        show own_Go p e below s _ _ _ (T47.setTop (mkF m 34 #[.val (.int p0), .val (.long p1), .second, .val (.long p2), .second, .val (.ref w4), .val (.int (0 : Int32)), .unset, .unset, .unset] []))
        refine own_via (fun _ k => XS.iconst X47.here hx rfl (hb hby at_34) k) ?_
        show own_Go p e below s _ _ _ (T47.setTop (mkF m 35 #[.val (.int p0), .val (.long p1), .second, .val (.long p2), .second, .val (.ref w4), .val (.int (0 : Int32)), .unset, .unset, .unset] [(.int (0 : Int32))]))
        refine own_via (fun _ k => XS.istore X47.here hx rfl (hb hby at_35) rfl (l' := #[.val (.int p0), .val (.long p1), .second, .val (.long p2), .second, .val (.ref w4), .val (.int (0 : Int32)), .val (.int (0 : Int32)), .unset, .unset]) rfl k) ?_
        show own_Go p e below s _ _ _ (T47.setTop (mkF m 37 #[.val (.int p0), .val (.long p1), .second, .val (.long p2), .second, .val (.ref w4), .val (.int (0 : Int32)), .val (.int (0 : Int32)), .unset, .unset] []))
        refine own_via (fun _ k => XS.aload X47.here hx rfl (hb hby at_37) rfl rfl k) ?_
        show own_Go p e below s _ _ _ (T47.setTop (mkF m 39 #[.val (.int p0), .val (.long p1), .second, .val (.long p2), .second, .val (.ref w4), .val (.int (0 : Int32)), .val (.int (0 : Int32)), .unset, .unset] [(.ref w4)]))
        refine own_via (fun _ k => XS.lconst X47.here hx rfl (hb hby at_39) k) ?_
        show own_Go p e below s _ _ _ (T47.setTop (mkF m 40 #[.val (.int p0), .val (.long p1), .second, .val (.long p2), .second, .val (.ref w4), .val (.int (0 : Int32)), .val (.int (0 : Int32)), .unset, .unset] [(.long (0 : Int64)), (.ref w4)]))
        refine own_via (fun _ k => XS.lconst X47.here hx rfl (hb hby at_40) k) ?_
        show own_Go p e below s _ _ _ (T47.setTop (mkF m 41 #[.val (.int p0), .val (.long p1), .second, .val (.long p2), .second, .val (.ref w4), .val (.int (0 : Int32)), .val (.int (0 : Int32)), .unset, .unset] [(.long (1 : Int64)), (.long (0 : Int64)), (.ref w4)]))
        obtain ⟨cq48, kq48, q48a, q48b, q48c⟩ := isOf hZ e47 E_w4
        obtain ⟨_, _, ⟨T48, L48, k48, n48⟩, -, X48, ⟨Lc48, hQ48, l48, y48, z48⟩, st48⟩ := X47.virtualBack hx (y := (⟨"com/example/bericht/bericht/selector/Comparison$Operator", "holds", "(JJ)Z"⟩ : MethodName)) (z := (⟨"com/example/bericht/bericht/selector/Comparison$Operator", "holds", "(JJ)Z"⟩ : MethodName)) hown (mvT hZ (hw _ (List.mem_of_getElem? (i := 14) rfl))) (mvT hZ (hw _ (List.mem_of_getElem? (i := 15) rfl))) (notFace_of_selects (args := #[]) (mvT hZ (hw _ (List.mem_of_getElem? (i := 17) rfl)))) (mvT hZ (hw _ (List.mem_of_getElem? (i := 17) rfl))) (mvT hZ (hw _ (List.mem_of_getElem? (i := 16) rfl))) (by decide) (backOf (W := 0) (rm3_10 l Z a0 hw [] w0 w1 w2 w3 w4 w5 h0 n0 Z0 K0) hZ (hw _ (List.mem_of_getElem? (i := 18) rfl)) (hw _ (List.mem_of_getElem? (i := 6) rfl)) (by decide) (by decide)) q48a q48c (g := (mkF m 41 #[.val (.int p0), .val (.long p1), .second, .val (.long p2), .second, .val (.ref w4), .val (.int (0 : Int32)), .val (.int (0 : Int32)), .unset, .unset] [(.long (1 : Int64)), (.long (0 : Int64)), (.ref w4)])) rfl (by rw [hml]; rfl) (Steps.refl _) (argsL := [(.long (0 : Int64)), (.long (1 : Int64))]) (rest := []) (lenOf pd3 rfl) rfl (by show 2 * 0 + _ ≤ _; exact Nat.le_of_eq rfl) (hb hby at_41) (fun _ _ => ⟨rfl, e47, (by decide : 0 + 0 ≤ _), (by decide : 0 + 0 ≤ _)⟩)
        dsimp only [Pt.U, Pt.locs, Pt.cells, Pt.slots] at X48 l48 y48 z48 st48 hQ48
        subst l48 y48 z48
        obtain ⟨rfl, e48, hO48⟩ := hQ48
        obtain rfl := hO48
        refine own_tr st48 ?_
        show own_Go p e below s _ _ _ (T48.setTop (mkF m 44 #[.val (.int p0), .val (.long p1), .second, .val (.long p2), .second, .val (.ref w4), .val (.int (0 : Int32)), .val (.int (0 : Int32)), .unset, .unset] [(.int (1 : Int32))]))
        refine own_via (fun _ k => XS.aload X48.here hx rfl (hb hby at_44) rfl rfl k) ?_
        show own_Go p e below s _ _ _ (T48.setTop (mkF m 46 #[.val (.int p0), .val (.long p1), .second, .val (.long p2), .second, .val (.ref w4), .val (.int (0 : Int32)), .val (.int (0 : Int32)), .unset, .unset] [(.ref w4), (.int (1 : Int32))]))
        refine own_via (fun _ k => XS.lconst X48.here hx rfl (hb hby at_46) k) ?_
        show own_Go p e below s _ _ _ (T48.setTop (mkF m 47 #[.val (.int p0), .val (.long p1), .second, .val (.long p2), .second, .val (.ref w4), .val (.int (0 : Int32)), .val (.int (0 : Int32)), .unset, .unset] [(.long (1 : Int64)), (.ref w4), (.int (1 : Int32))]))
        refine own_via (fun _ k => XS.lconst X48.here hx rfl (hb hby at_47) k) ?_
        show own_Go p e below s _ _ _ (T48.setTop (mkF m 48 #[.val (.int p0), .val (.long p1), .second, .val (.long p2), .second, .val (.ref w4), .val (.int (0 : Int32)), .val (.int (0 : Int32)), .unset, .unset] [(.long (0 : Int64)), (.long (1 : Int64)), (.ref w4), (.int (1 : Int32))]))
        obtain ⟨cq49, kq49, q49a, q49b, q49c⟩ := isOf hZ e48 E_w4
        obtain ⟨_, _, ⟨T49, L49, k49, n49⟩, -, X49, ⟨Lc49, hQ49, l49, y49, z49⟩, st49⟩ := X48.virtualBack hx (y := (⟨"com/example/bericht/bericht/selector/Comparison$Operator", "holds", "(JJ)Z"⟩ : MethodName)) (z := (⟨"com/example/bericht/bericht/selector/Comparison$Operator", "holds", "(JJ)Z"⟩ : MethodName)) hown (mvT hZ (hw _ (List.mem_of_getElem? (i := 14) rfl))) (mvT hZ (hw _ (List.mem_of_getElem? (i := 15) rfl))) (notFace_of_selects (args := #[]) (mvT hZ (hw _ (List.mem_of_getElem? (i := 17) rfl)))) (mvT hZ (hw _ (List.mem_of_getElem? (i := 17) rfl))) (mvT hZ (hw _ (List.mem_of_getElem? (i := 16) rfl))) (by decide) (backOf (W := 1) (rm3_11 l Z a0 hw [] w0 w1 w2 w3 w4 w5 h0 n0 Z0 K0) hZ (hw _ (List.mem_of_getElem? (i := 18) rfl)) (hw _ (List.mem_of_getElem? (i := 6) rfl)) (by decide) (by decide)) q49a q49c (g := (mkF m 48 #[.val (.int p0), .val (.long p1), .second, .val (.long p2), .second, .val (.ref w4), .val (.int (0 : Int32)), .val (.int (0 : Int32)), .unset, .unset] [(.long (0 : Int64)), (.long (1 : Int64)), (.ref w4), (.int (1 : Int32))])) rfl (by rw [hml]; rfl) (Steps.refl _) (argsL := [(.long (1 : Int64)), (.long (0 : Int64))]) (rest := [(.int (1 : Int32))]) (lenOf pd3 rfl) rfl (by show 2 * 0 + _ ≤ _; exact Nat.le_of_eq rfl) (hb hby at_48) (fun _ _ => ⟨rfl, e48, (by decide : 0 + 0 ≤ _), (by decide : 0 + 0 ≤ _)⟩)
        dsimp only [Pt.U, Pt.locs, Pt.cells, Pt.slots] at X49 l49 y49 z49 st49 hQ49
        subst l49 y49 z49
        obtain ⟨rfl, e49, hO49⟩ := hQ49
        obtain rfl := hO49
        refine own_tr st49 ?_
        show own_Go p e below s _ _ _ (T49.setTop (mkF m 51 #[.val (.int p0), .val (.long p1), .second, .val (.long p2), .second, .val (.ref w4), .val (.int (0 : Int32)), .val (.int (0 : Int32)), .unset, .unset] [(.int (0 : Int32)), (.int (1 : Int32))]))
        refine own_via (fun _ k => XS.icmpNo X49.here hx rfl (hb hby at_51) rfl (feq (by decide : ¬ ((1 : Int32) = (0 : Int32)))).1 k) ?_
        show own_Go p e below s _ _ _ (T49.setTop (mkF m 54 #[.val (.int p0), .val (.long p1), .second, .val (.long p2), .second, .val (.ref w4), .val (.int (0 : Int32)), .val (.int (0 : Int32)), .unset, .unset] []))
        refine own_via (fun _ k => XS.iconst X49.here hx rfl (hb hby at_54) k) ?_
        show own_Go p e below s _ _ _ (T49.setTop (mkF m 55 #[.val (.int p0), .val (.long p1), .second, .val (.long p2), .second, .val (.ref w4), .val (.int (0 : Int32)), .val (.int (0 : Int32)), .unset, .unset] [(.int (1 : Int32))]))
        refine own_via (fun _ k => XS.goto X49.here hx rfl (pc0 := 55) (pc' := 59) rfl (hb hby at_55) (by decide) (by decide) k) ?_
        show own_Go p e below s _ _ _ (T49.setTop (mkF m 59 #[.val (.int p0), .val (.long p1), .second, .val (.long p2), .second, .val (.ref w4), .val (.int (0 : Int32)), .val (.int (0 : Int32)), .unset, .unset] [(.int (1 : Int32))]))
        refine own_via (fun _ k => XS.istore X49.here hx rfl (hb hby at_59) rfl (l' := #[.val (.int p0), .val (.long p1), .second, .val (.long p2), .second, .val (.ref w4), .val (.int (0 : Int32)), .val (.int (0 : Int32)), .val (.int (1 : Int32)), .unset]) rfl k) ?_
        show own_Go p e below s _ _ _ (T49.setTop (mkF m 61 #[.val (.int p0), .val (.long p1), .second, .val (.long p2), .second, .val (.ref w4), .val (.int (0 : Int32)), .val (.int (0 : Int32)), .val (.int (1 : Int32)), .unset] []))
        refine own_via (fun _ k => XS.aload X49.here hx rfl (hb hby at_61) rfl rfl k) ?_
        show own_Go p e below s _ _ _ (T49.setTop (mkF m 63 #[.val (.int p0), .val (.long p1), .second, .val (.long p2), .second, .val (.ref w4), .val (.int (0 : Int32)), .val (.int (0 : Int32)), .val (.int (1 : Int32)), .unset] [(.ref w4)]))
        obtain ⟨cq50, kq50, q50a, q50b, q50c⟩ := isOf hZ e49 E_w4
        obtain ⟨_, _, ⟨T50, L50, k50, n50⟩, -, X50, ⟨Lc50, hQ50, l50, y50, z50⟩, st50⟩ := X49.virtualBack hx (y := (⟨"com/example/bericht/bericht/selector/Comparison$Operator", "flipped", "()Lcom/example/bericht/bericht/selector/Comparison$Operator;"⟩ : MethodName)) (z := (⟨"com/example/bericht/bericht/selector/Comparison$Operator", "flipped", "()Lcom/example/bericht/bericht/selector/Comparison$Operator;"⟩ : MethodName)) hown (mvT hZ (hw _ (List.mem_of_getElem? (i := 28) rfl))) (mvT hZ (hw _ (List.mem_of_getElem? (i := 29) rfl))) (notFace_of_selects (args := #[]) (mvT hZ (hw _ (List.mem_of_getElem? (i := 31) rfl)))) (mvT hZ (hw _ (List.mem_of_getElem? (i := 31) rfl))) (mvT hZ (hw _ (List.mem_of_getElem? (i := 30) rfl))) (by decide) (backOf (W := 0) (rm5_3 l Z a0 hw [] w0 w1 w2 w3 w4 w5 h0 n0 Z0 K0) hZ (hw _ (List.mem_of_getElem? (i := 32) rfl)) (hw _ (List.mem_of_getElem? (i := 6) rfl)) (by decide) (by decide)) q50a q50c (g := (mkF m 63 #[.val (.int p0), .val (.long p1), .second, .val (.long p2), .second, .val (.ref w4), .val (.int (0 : Int32)), .val (.int (0 : Int32)), .val (.int (1 : Int32)), .unset] [(.ref w4)])) rfl (by rw [hml]; rfl) (Steps.refl _) (argsL := []) (rest := []) (lenOf pd4 rfl) rfl (by show 2 * 0 + _ ≤ _; exact Nat.le_of_eq rfl) (hb hby at_63) (fun _ _ => ⟨rfl, e49, (by decide : 0 + 0 ≤ _), (by decide : 0 + 0 ≤ _)⟩)
        dsimp only [Pt.U, Pt.locs, Pt.cells, Pt.slots] at X50 l50 y50 z50 st50 hQ50
        subst l50 y50 z50
        obtain ⟨rfl, e50, hO50⟩ := hQ50
        obtain rfl := hO50
        refine own_tr st50 ?_
        show own_Go p e below s _ _ _ (T50.setTop (mkF m 66 #[.val (.int p0), .val (.long p1), .second, .val (.long p2), .second, .val (.ref w4), .val (.int (0 : Int32)), .val (.int (0 : Int32)), .val (.int (1 : Int32)), .unset] [(.ref w5)]))
        refine own_via (fun _ k => XS.aload X50.here hx rfl (hb hby at_66) rfl rfl k) ?_
        show own_Go p e below s _ _ _ (T50.setTop (mkF m 68 #[.val (.int p0), .val (.long p1), .second, .val (.long p2), .second, .val (.ref w4), .val (.int (0 : Int32)), .val (.int (0 : Int32)), .val (.int (1 : Int32)), .unset] [(.ref w4), (.ref w5)]))
        refine own_via (fun _ k => Jvm.RoadKit.acmp (g := (mkF m 68 #[.val (.int p0), .val (.long p1), .second, .val (.long p2), .second, .val (.ref w4), .val (.int (0 : Int32)), .val (.int (0 : Int32)), .val (.int (1 : Int32)), .unset] [(.ref w4), (.ref w5)])) X50 hx rfl rfl rfl (pc0 := 68) (pc' := 75) (same := false) rfl (hb hby at_68) rfl (decide_eq_false fun q => (fun q => n_w4_w5 q.symm) (Value.ref.inj q)) (by decide) (by decide) k) ?_
        show own_Go p e below s _ _ _ (T50.setTop (mkF m 75 #[.val (.int p0), .val (.long p1), .second, .val (.long p2), .second, .val (.ref w4), .val (.int (0 : Int32)), .val (.int (0 : Int32)), .val (.int (1 : Int32)), .unset] []))
        refine own_via (fun _ k => XS.iconst X50.here hx rfl (hb hby at_75) k) ?_
        show own_Go p e below s _ _ _ (T50.setTop (mkF m 76 #[.val (.int p0), .val (.long p1), .second, .val (.long p2), .second, .val (.ref w4), .val (.int (0 : Int32)), .val (.int (0 : Int32)), .val (.int (1 : Int32)), .unset] [(.int (0 : Int32))]))
        refine own_via (fun _ k => XS.istore X50.here hx rfl (hb hby at_76) rfl (l' := #[.val (.int p0), .val (.long p1), .second, .val (.long p2), .second, .val (.ref w4), .val (.int (0 : Int32)), .val (.int (0 : Int32)), .val (.int (1 : Int32)), .val (.int (0 : Int32))]) rfl k) ?_
        show own_Go p e below s _ _ _ (T50.setTop (mkF m 78 #[.val (.int p0), .val (.long p1), .second, .val (.long p2), .second, .val (.ref w4), .val (.int (0 : Int32)), .val (.int (0 : Int32)), .val (.int (1 : Int32)), .val (.int (0 : Int32))] []))
        refine own_via (fun _ k => XS.iload X50.here hx rfl (hb hby at_78) rfl k) ?_
        show own_Go p e below s _ _ _ (T50.setTop (mkF m 80 #[.val (.int p0), .val (.long p1), .second, .val (.long p2), .second, .val (.ref w4), .val (.int (0 : Int32)), .val (.int (0 : Int32)), .val (.int (1 : Int32)), .val (.int (0 : Int32))] [(.int (0 : Int32))]))
        refine own_via (fun _ k => XS.ifYes X50.here hx rfl (pc0 := 80) (pc' := 104) rfl (hb hby at_80) rfl ((if0 _ _).trans (teq (by decide : (0 : Int32) = (0 : Int32))).1) (by decide) (by decide) k) ?_
        show own_Go p e below s _ _ _ (T50.setTop (mkF m 104 #[.val (.int p0), .val (.long p1), .second, .val (.long p2), .second, .val (.ref w4), .val (.int (0 : Int32)), .val (.int (0 : Int32)), .val (.int (1 : Int32)), .val (.int (0 : Int32))] []))
        refine own_via (fun _ k => XS.iload X50.here hx rfl (hb hby at_104) rfl k) ?_
        show own_Go p e below s _ _ _ (T50.setTop (mkF m 106 #[.val (.int p0), .val (.long p1), .second, .val (.long p2), .second, .val (.ref w4), .val (.int (0 : Int32)), .val (.int (0 : Int32)), .val (.int (1 : Int32)), .val (.int (0 : Int32))] [(.int (1 : Int32))]))
        refine own_via (fun _ k => XS.ifNo X50.here hx rfl (hb hby at_106) rfl ((if0 _ _).trans (feq (by decide : ¬ ((1 : Int32) = (0 : Int32)))).1) k) ?_
        show own_Go p e below s _ _ _ (T50.setTop (mkF m 109 #[.val (.int p0), .val (.long p1), .second, .val (.long p2), .second, .val (.ref w4), .val (.int (0 : Int32)), .val (.int (0 : Int32)), .val (.int (1 : Int32)), .val (.int (0 : Int32))] []))
        refine own_via (fun _ k => XS.iload X50.here hx rfl (hb hby at_109) rfl k) ?_
        show own_Go p e below s _ _ _ (T50.setTop (mkF m 111 #[.val (.int p0), .val (.long p1), .second, .val (.long p2), .second, .val (.ref w4), .val (.int (0 : Int32)), .val (.int (0 : Int32)), .val (.int (1 : Int32)), .val (.int (0 : Int32))] [(.int (0 : Int32))]))
        refine own_via (fun _ k => XS.ifNo X50.here hx rfl (hb hby at_111) rfl ((if0 _ _).trans (teq (by decide : (0 : Int32) = (0 : Int32))).2) k) ?_
        show own_Go p e below s _ _ _ (T50.setTop (mkF m 114 #[.val (.int p0), .val (.long p1), .second, .val (.long p2), .second, .val (.ref w4), .val (.int (0 : Int32)), .val (.int (0 : Int32)), .val (.int (1 : Int32)), .val (.int (0 : Int32))] []))
        refine own_via (fun _ k => XS.iconst X50.here hx rfl (hb hby at_114) k) ?_
        show own_Go p e below s _ _ _ (T50.setTop (mkF m 115 #[.val (.int p0), .val (.long p1), .second, .val (.long p2), .second, .val (.ref w4), .val (.int (0 : Int32)), .val (.int (0 : Int32)), .val (.int (1 : Int32)), .val (.int (0 : Int32))] [(.int (1 : Int32))]))
        refine own_via (fun _ k => XS.goto X50.here hx rfl (pc0 := 115) (pc' := 119) rfl (hb hby at_115) (by decide) (by decide) k) ?_
        show own_Go p e below s _ _ _ (T50.setTop (mkF m 119 #[.val (.int p0), .val (.long p1), .second, .val (.long p2), .second, .val (.ref w4), .val (.int (0 : Int32)), .val (.int (0 : Int32)), .val (.int (1 : Int32)), .val (.int (0 : Int32))] [(.int (1 : Int32))]))
        exact own_retZ X50 hx hlk (t := .boolean) Bd.returns (by simp) (hb hby at_119) (z' := (1 : Int32)) (by first | rfl | decide) ⟨rfl, (Fr.nil n0)⟩ (by decide) (by decide)
      · refine own_tr st47 ?_
        show own_Go p e below s _ _ _ (T47.setTop (mkF m 27 #[.val (.int p0), .val (.long p1), .second, .val (.long p2), .second, .val (.ref w4), .val (.int (0 : Int32)), .unset, .unset, .unset] [(.int (1 : Int32)), (.int (1 : Int32))]))
        refine own_via (fun _ k => XS.icmpNo X47.here hx rfl (hb hby at_27) rfl (teq (by decide : (1 : Int32) = (1 : Int32))).2 k) ?_
        show own_Go p e below s _ _ _ (T47.setTop (mkF m 30 #[.val (.int p0), .val (.long p1), .second, .val (.long p2), .second, .val (.ref w4), .val (.int (0 : Int32)), .unset, .unset, .unset] []))
        refine own_via (fun _ k => XS.iconst X47.here hx rfl (hb hby at_30) k) ?_
        show own_Go p e below s _ _ _ (T47.setTop (mkF m 31 #[.val (.int p0), .val (.long p1), .second, .val (.long p2), .second, .val (.ref w4), .val (.int (0 : Int32)), .unset, .unset, .unset] [(.int (1 : Int32))]))
        refine own_via (fun _ k => XS.goto X47.here hx rfl (pc0 := 31) (pc' := 35) rfl (hb hby at_31) (by decide) (by decide) k) ?_
        show own_Go p e below s _ _ _ (T47.setTop (mkF m 35 #[.val (.int p0), .val (.long p1), .second, .val (.long p2), .second, .val (.ref w4), .val (.int (0 : Int32)), .unset, .unset, .unset] [(.int (1 : Int32))]))
        refine own_via (fun _ k => XS.istore X47.here hx rfl (hb hby at_35) rfl (l' := #[.val (.int p0), .val (.long p1), .second, .val (.long p2), .second, .val (.ref w4), .val (.int (0 : Int32)), .val (.int (1 : Int32)), .unset, .unset]) rfl k) ?_
        show own_Go p e below s _ _ _ (T47.setTop (mkF m 37 #[.val (.int p0), .val (.long p1), .second, .val (.long p2), .second, .val (.ref w4), .val (.int (0 : Int32)), .val (.int (1 : Int32)), .unset, .unset] []))
        refine own_via (fun _ k => XS.aload X47.here hx rfl (hb hby at_37) rfl rfl k) ?_
        show own_Go p e below s _ _ _ (T47.setTop (mkF m 39 #[.val (.int p0), .val (.long p1), .second, .val (.long p2), .second, .val (.ref w4), .val (.int (0 : Int32)), .val (.int (1 : Int32)), .unset, .unset] [(.ref w4)]))
        refine own_via (fun _ k => XS.lconst X47.here hx rfl (hb hby at_39) k) ?_
        show own_Go p e below s _ _ _ (T47.setTop (mkF m 40 #[.val (.int p0), .val (.long p1), .second, .val (.long p2), .second, .val (.ref w4), .val (.int (0 : Int32)), .val (.int (1 : Int32)), .unset, .unset] [(.long (0 : Int64)), (.ref w4)]))
        refine own_via (fun _ k => XS.lconst X47.here hx rfl (hb hby at_40) k) ?_
        show own_Go p e below s _ _ _ (T47.setTop (mkF m 41 #[.val (.int p0), .val (.long p1), .second, .val (.long p2), .second, .val (.ref w4), .val (.int (0 : Int32)), .val (.int (1 : Int32)), .unset, .unset] [(.long (1 : Int64)), (.long (0 : Int64)), (.ref w4)]))
        obtain ⟨cq51, kq51, q51a, q51b, q51c⟩ := isOf hZ e47 E_w4
        obtain ⟨_, _, ⟨T51, L51, k51, n51⟩, -, X51, ⟨Lc51, hQ51, l51, y51, z51⟩, st51⟩ := X47.virtualBack hx (y := (⟨"com/example/bericht/bericht/selector/Comparison$Operator", "holds", "(JJ)Z"⟩ : MethodName)) (z := (⟨"com/example/bericht/bericht/selector/Comparison$Operator", "holds", "(JJ)Z"⟩ : MethodName)) hown (mvT hZ (hw _ (List.mem_of_getElem? (i := 14) rfl))) (mvT hZ (hw _ (List.mem_of_getElem? (i := 15) rfl))) (notFace_of_selects (args := #[]) (mvT hZ (hw _ (List.mem_of_getElem? (i := 17) rfl)))) (mvT hZ (hw _ (List.mem_of_getElem? (i := 17) rfl))) (mvT hZ (hw _ (List.mem_of_getElem? (i := 16) rfl))) (by decide) (backOf (W := 0) (rm3_10 l Z a0 hw [] w0 w1 w2 w3 w4 w5 h0 n0 Z0 K0) hZ (hw _ (List.mem_of_getElem? (i := 18) rfl)) (hw _ (List.mem_of_getElem? (i := 6) rfl)) (by decide) (by decide)) q51a q51c (g := (mkF m 41 #[.val (.int p0), .val (.long p1), .second, .val (.long p2), .second, .val (.ref w4), .val (.int (0 : Int32)), .val (.int (1 : Int32)), .unset, .unset] [(.long (1 : Int64)), (.long (0 : Int64)), (.ref w4)])) rfl (by rw [hml]; rfl) (Steps.refl _) (argsL := [(.long (0 : Int64)), (.long (1 : Int64))]) (rest := []) (lenOf pd3 rfl) rfl (by show 2 * 0 + _ ≤ _; exact Nat.le_of_eq rfl) (hb hby at_41) (fun _ _ => ⟨rfl, e47, (by decide : 0 + 0 ≤ _), (by decide : 0 + 0 ≤ _)⟩)
        dsimp only [Pt.U, Pt.locs, Pt.cells, Pt.slots] at X51 l51 y51 z51 st51 hQ51
        subst l51 y51 z51
        obtain ⟨rfl, e51, hO51⟩ := hQ51
        obtain rfl := hO51
        refine own_tr st51 ?_
        show own_Go p e below s _ _ _ (T51.setTop (mkF m 44 #[.val (.int p0), .val (.long p1), .second, .val (.long p2), .second, .val (.ref w4), .val (.int (0 : Int32)), .val (.int (1 : Int32)), .unset, .unset] [(.int (1 : Int32))]))
        refine own_via (fun _ k => XS.aload X51.here hx rfl (hb hby at_44) rfl rfl k) ?_
        show own_Go p e below s _ _ _ (T51.setTop (mkF m 46 #[.val (.int p0), .val (.long p1), .second, .val (.long p2), .second, .val (.ref w4), .val (.int (0 : Int32)), .val (.int (1 : Int32)), .unset, .unset] [(.ref w4), (.int (1 : Int32))]))
        refine own_via (fun _ k => XS.lconst X51.here hx rfl (hb hby at_46) k) ?_
        show own_Go p e below s _ _ _ (T51.setTop (mkF m 47 #[.val (.int p0), .val (.long p1), .second, .val (.long p2), .second, .val (.ref w4), .val (.int (0 : Int32)), .val (.int (1 : Int32)), .unset, .unset] [(.long (1 : Int64)), (.ref w4), (.int (1 : Int32))]))
        refine own_via (fun _ k => XS.lconst X51.here hx rfl (hb hby at_47) k) ?_
        show own_Go p e below s _ _ _ (T51.setTop (mkF m 48 #[.val (.int p0), .val (.long p1), .second, .val (.long p2), .second, .val (.ref w4), .val (.int (0 : Int32)), .val (.int (1 : Int32)), .unset, .unset] [(.long (0 : Int64)), (.long (1 : Int64)), (.ref w4), (.int (1 : Int32))]))
        obtain ⟨cq52, kq52, q52a, q52b, q52c⟩ := isOf hZ e51 E_w4
        obtain ⟨_, _, ⟨T52, L52, k52, n52⟩, -, X52, ⟨Lc52, hQ52, l52, y52, z52⟩, st52⟩ := X51.virtualBack hx (y := (⟨"com/example/bericht/bericht/selector/Comparison$Operator", "holds", "(JJ)Z"⟩ : MethodName)) (z := (⟨"com/example/bericht/bericht/selector/Comparison$Operator", "holds", "(JJ)Z"⟩ : MethodName)) hown (mvT hZ (hw _ (List.mem_of_getElem? (i := 14) rfl))) (mvT hZ (hw _ (List.mem_of_getElem? (i := 15) rfl))) (notFace_of_selects (args := #[]) (mvT hZ (hw _ (List.mem_of_getElem? (i := 17) rfl)))) (mvT hZ (hw _ (List.mem_of_getElem? (i := 17) rfl))) (mvT hZ (hw _ (List.mem_of_getElem? (i := 16) rfl))) (by decide) (backOf (W := 1) (rm3_11 l Z a0 hw [] w0 w1 w2 w3 w4 w5 h0 n0 Z0 K0) hZ (hw _ (List.mem_of_getElem? (i := 18) rfl)) (hw _ (List.mem_of_getElem? (i := 6) rfl)) (by decide) (by decide)) q52a q52c (g := (mkF m 48 #[.val (.int p0), .val (.long p1), .second, .val (.long p2), .second, .val (.ref w4), .val (.int (0 : Int32)), .val (.int (1 : Int32)), .unset, .unset] [(.long (0 : Int64)), (.long (1 : Int64)), (.ref w4), (.int (1 : Int32))])) rfl (by rw [hml]; rfl) (Steps.refl _) (argsL := [(.long (1 : Int64)), (.long (0 : Int64))]) (rest := [(.int (1 : Int32))]) (lenOf pd3 rfl) rfl (by show 2 * 0 + _ ≤ _; exact Nat.le_of_eq rfl) (hb hby at_48) (fun _ _ => ⟨rfl, e51, (by decide : 0 + 0 ≤ _), (by decide : 0 + 0 ≤ _)⟩)
        dsimp only [Pt.U, Pt.locs, Pt.cells, Pt.slots] at X52 l52 y52 z52 st52 hQ52
        subst l52 y52 z52
        obtain ⟨rfl, e52, hO52⟩ := hQ52
        obtain rfl := hO52
        refine own_tr st52 ?_
        show own_Go p e below s _ _ _ (T52.setTop (mkF m 51 #[.val (.int p0), .val (.long p1), .second, .val (.long p2), .second, .val (.ref w4), .val (.int (0 : Int32)), .val (.int (1 : Int32)), .unset, .unset] [(.int (0 : Int32)), (.int (1 : Int32))]))
        refine own_via (fun _ k => XS.icmpNo X52.here hx rfl (hb hby at_51) rfl (feq (by decide : ¬ ((1 : Int32) = (0 : Int32)))).1 k) ?_
        show own_Go p e below s _ _ _ (T52.setTop (mkF m 54 #[.val (.int p0), .val (.long p1), .second, .val (.long p2), .second, .val (.ref w4), .val (.int (0 : Int32)), .val (.int (1 : Int32)), .unset, .unset] []))
        refine own_via (fun _ k => XS.iconst X52.here hx rfl (hb hby at_54) k) ?_
        show own_Go p e below s _ _ _ (T52.setTop (mkF m 55 #[.val (.int p0), .val (.long p1), .second, .val (.long p2), .second, .val (.ref w4), .val (.int (0 : Int32)), .val (.int (1 : Int32)), .unset, .unset] [(.int (1 : Int32))]))
        refine own_via (fun _ k => XS.goto X52.here hx rfl (pc0 := 55) (pc' := 59) rfl (hb hby at_55) (by decide) (by decide) k) ?_
        show own_Go p e below s _ _ _ (T52.setTop (mkF m 59 #[.val (.int p0), .val (.long p1), .second, .val (.long p2), .second, .val (.ref w4), .val (.int (0 : Int32)), .val (.int (1 : Int32)), .unset, .unset] [(.int (1 : Int32))]))
        refine own_via (fun _ k => XS.istore X52.here hx rfl (hb hby at_59) rfl (l' := #[.val (.int p0), .val (.long p1), .second, .val (.long p2), .second, .val (.ref w4), .val (.int (0 : Int32)), .val (.int (1 : Int32)), .val (.int (1 : Int32)), .unset]) rfl k) ?_
        show own_Go p e below s _ _ _ (T52.setTop (mkF m 61 #[.val (.int p0), .val (.long p1), .second, .val (.long p2), .second, .val (.ref w4), .val (.int (0 : Int32)), .val (.int (1 : Int32)), .val (.int (1 : Int32)), .unset] []))
        refine own_via (fun _ k => XS.aload X52.here hx rfl (hb hby at_61) rfl rfl k) ?_
        show own_Go p e below s _ _ _ (T52.setTop (mkF m 63 #[.val (.int p0), .val (.long p1), .second, .val (.long p2), .second, .val (.ref w4), .val (.int (0 : Int32)), .val (.int (1 : Int32)), .val (.int (1 : Int32)), .unset] [(.ref w4)]))
        obtain ⟨cq53, kq53, q53a, q53b, q53c⟩ := isOf hZ e52 E_w4
        obtain ⟨_, _, ⟨T53, L53, k53, n53⟩, -, X53, ⟨Lc53, hQ53, l53, y53, z53⟩, st53⟩ := X52.virtualBack hx (y := (⟨"com/example/bericht/bericht/selector/Comparison$Operator", "flipped", "()Lcom/example/bericht/bericht/selector/Comparison$Operator;"⟩ : MethodName)) (z := (⟨"com/example/bericht/bericht/selector/Comparison$Operator", "flipped", "()Lcom/example/bericht/bericht/selector/Comparison$Operator;"⟩ : MethodName)) hown (mvT hZ (hw _ (List.mem_of_getElem? (i := 28) rfl))) (mvT hZ (hw _ (List.mem_of_getElem? (i := 29) rfl))) (notFace_of_selects (args := #[]) (mvT hZ (hw _ (List.mem_of_getElem? (i := 31) rfl)))) (mvT hZ (hw _ (List.mem_of_getElem? (i := 31) rfl))) (mvT hZ (hw _ (List.mem_of_getElem? (i := 30) rfl))) (by decide) (backOf (W := 0) (rm5_3 l Z a0 hw [] w0 w1 w2 w3 w4 w5 h0 n0 Z0 K0) hZ (hw _ (List.mem_of_getElem? (i := 32) rfl)) (hw _ (List.mem_of_getElem? (i := 6) rfl)) (by decide) (by decide)) q53a q53c (g := (mkF m 63 #[.val (.int p0), .val (.long p1), .second, .val (.long p2), .second, .val (.ref w4), .val (.int (0 : Int32)), .val (.int (1 : Int32)), .val (.int (1 : Int32)), .unset] [(.ref w4)])) rfl (by rw [hml]; rfl) (Steps.refl _) (argsL := []) (rest := []) (lenOf pd4 rfl) rfl (by show 2 * 0 + _ ≤ _; exact Nat.le_of_eq rfl) (hb hby at_63) (fun _ _ => ⟨rfl, e52, (by decide : 0 + 0 ≤ _), (by decide : 0 + 0 ≤ _)⟩)
        dsimp only [Pt.U, Pt.locs, Pt.cells, Pt.slots] at X53 l53 y53 z53 st53 hQ53
        subst l53 y53 z53
        obtain ⟨rfl, e53, hO53⟩ := hQ53
        obtain rfl := hO53
        refine own_tr st53 ?_
        show own_Go p e below s _ _ _ (T53.setTop (mkF m 66 #[.val (.int p0), .val (.long p1), .second, .val (.long p2), .second, .val (.ref w4), .val (.int (0 : Int32)), .val (.int (1 : Int32)), .val (.int (1 : Int32)), .unset] [(.ref w5)]))
        refine own_via (fun _ k => XS.aload X53.here hx rfl (hb hby at_66) rfl rfl k) ?_
        show own_Go p e below s _ _ _ (T53.setTop (mkF m 68 #[.val (.int p0), .val (.long p1), .second, .val (.long p2), .second, .val (.ref w4), .val (.int (0 : Int32)), .val (.int (1 : Int32)), .val (.int (1 : Int32)), .unset] [(.ref w4), (.ref w5)]))
        refine own_via (fun _ k => Jvm.RoadKit.acmp (g := (mkF m 68 #[.val (.int p0), .val (.long p1), .second, .val (.long p2), .second, .val (.ref w4), .val (.int (0 : Int32)), .val (.int (1 : Int32)), .val (.int (1 : Int32)), .unset] [(.ref w4), (.ref w5)])) X53 hx rfl rfl rfl (pc0 := 68) (pc' := 75) (same := false) rfl (hb hby at_68) rfl (decide_eq_false fun q => (fun q => n_w4_w5 q.symm) (Value.ref.inj q)) (by decide) (by decide) k) ?_
        show own_Go p e below s _ _ _ (T53.setTop (mkF m 75 #[.val (.int p0), .val (.long p1), .second, .val (.long p2), .second, .val (.ref w4), .val (.int (0 : Int32)), .val (.int (1 : Int32)), .val (.int (1 : Int32)), .unset] []))
        refine own_via (fun _ k => XS.iconst X53.here hx rfl (hb hby at_75) k) ?_
        show own_Go p e below s _ _ _ (T53.setTop (mkF m 76 #[.val (.int p0), .val (.long p1), .second, .val (.long p2), .second, .val (.ref w4), .val (.int (0 : Int32)), .val (.int (1 : Int32)), .val (.int (1 : Int32)), .unset] [(.int (0 : Int32))]))
        refine own_via (fun _ k => XS.istore X53.here hx rfl (hb hby at_76) rfl (l' := #[.val (.int p0), .val (.long p1), .second, .val (.long p2), .second, .val (.ref w4), .val (.int (0 : Int32)), .val (.int (1 : Int32)), .val (.int (1 : Int32)), .val (.int (0 : Int32))]) rfl k) ?_
        show own_Go p e below s _ _ _ (T53.setTop (mkF m 78 #[.val (.int p0), .val (.long p1), .second, .val (.long p2), .second, .val (.ref w4), .val (.int (0 : Int32)), .val (.int (1 : Int32)), .val (.int (1 : Int32)), .val (.int (0 : Int32))] []))
        refine own_via (fun _ k => XS.iload X53.here hx rfl (hb hby at_78) rfl k) ?_
        show own_Go p e below s _ _ _ (T53.setTop (mkF m 80 #[.val (.int p0), .val (.long p1), .second, .val (.long p2), .second, .val (.ref w4), .val (.int (0 : Int32)), .val (.int (1 : Int32)), .val (.int (1 : Int32)), .val (.int (0 : Int32))] [(.int (0 : Int32))]))
        refine own_via (fun _ k => XS.ifYes X53.here hx rfl (pc0 := 80) (pc' := 104) rfl (hb hby at_80) rfl ((if0 _ _).trans (teq (by decide : (0 : Int32) = (0 : Int32))).1) (by decide) (by decide) k) ?_
        show own_Go p e below s _ _ _ (T53.setTop (mkF m 104 #[.val (.int p0), .val (.long p1), .second, .val (.long p2), .second, .val (.ref w4), .val (.int (0 : Int32)), .val (.int (1 : Int32)), .val (.int (1 : Int32)), .val (.int (0 : Int32))] []))
        refine own_via (fun _ k => XS.iload X53.here hx rfl (hb hby at_104) rfl k) ?_
        show own_Go p e below s _ _ _ (T53.setTop (mkF m 106 #[.val (.int p0), .val (.long p1), .second, .val (.long p2), .second, .val (.ref w4), .val (.int (0 : Int32)), .val (.int (1 : Int32)), .val (.int (1 : Int32)), .val (.int (0 : Int32))] [(.int (1 : Int32))]))
        refine own_via (fun _ k => XS.ifNo X53.here hx rfl (hb hby at_106) rfl ((if0 _ _).trans (feq (by decide : ¬ ((1 : Int32) = (0 : Int32)))).1) k) ?_
        show own_Go p e below s _ _ _ (T53.setTop (mkF m 109 #[.val (.int p0), .val (.long p1), .second, .val (.long p2), .second, .val (.ref w4), .val (.int (0 : Int32)), .val (.int (1 : Int32)), .val (.int (1 : Int32)), .val (.int (0 : Int32))] []))
        refine own_via (fun _ k => XS.iload X53.here hx rfl (hb hby at_109) rfl k) ?_
        show own_Go p e below s _ _ _ (T53.setTop (mkF m 111 #[.val (.int p0), .val (.long p1), .second, .val (.long p2), .second, .val (.ref w4), .val (.int (0 : Int32)), .val (.int (1 : Int32)), .val (.int (1 : Int32)), .val (.int (0 : Int32))] [(.int (0 : Int32))]))
        refine own_via (fun _ k => XS.ifNo X53.here hx rfl (hb hby at_111) rfl ((if0 _ _).trans (teq (by decide : (0 : Int32) = (0 : Int32))).2) k) ?_
        show own_Go p e below s _ _ _ (T53.setTop (mkF m 114 #[.val (.int p0), .val (.long p1), .second, .val (.long p2), .second, .val (.ref w4), .val (.int (0 : Int32)), .val (.int (1 : Int32)), .val (.int (1 : Int32)), .val (.int (0 : Int32))] []))
        refine own_via (fun _ k => XS.iconst X53.here hx rfl (hb hby at_114) k) ?_
        show own_Go p e below s _ _ _ (T53.setTop (mkF m 115 #[.val (.int p0), .val (.long p1), .second, .val (.long p2), .second, .val (.ref w4), .val (.int (0 : Int32)), .val (.int (1 : Int32)), .val (.int (1 : Int32)), .val (.int (0 : Int32))] [(.int (1 : Int32))]))
        refine own_via (fun _ k => XS.goto X53.here hx rfl (pc0 := 115) (pc' := 119) rfl (hb hby at_115) (by decide) (by decide) k) ?_
        show own_Go p e below s _ _ _ (T53.setTop (mkF m 119 #[.val (.int p0), .val (.long p1), .second, .val (.long p2), .second, .val (.ref w4), .val (.int (0 : Int32)), .val (.int (1 : Int32)), .val (.int (1 : Int32)), .val (.int (0 : Int32))] [(.int (1 : Int32))]))
        exact own_retZ X53 hx hlk (t := .boolean) Bd.returns (by simp) (hb hby at_119) (z' := (1 : Int32)) (by first | rfl | decide) ⟨rfl, (Fr.nil n0)⟩ (by decide) (by decide)
  · refine own_via st1 ?_
    show own_Go p e below s _ _ _ (T1.setTop (mkF m 4 #[.val (.int p0), .val (.long p1), .second, .val (.long p2), .second, .unset, .unset, .unset, .unset, .unset] [(.ref w1)]))
    refine own_via (fun _ k => XS.astore X1.here hx rfl (hb hby at_4) rfl rfl (l' := #[.val (.int p0), .val (.long p1), .second, .val (.long p2), .second, .val (.ref w1), .unset, .unset, .unset, .unset]) rfl k) ?_
    show own_Go p e below s _ _ _ (T1.setTop (mkF m 6 #[.val (.int p0), .val (.long p1), .second, .val (.long p2), .second, .val (.ref w1), .unset, .unset, .unset, .unset] []))
    refine own_via (fun _ k => XS.aload X1.here hx rfl (hb hby at_6) rfl rfl k) ?_
    show own_Go p e below s _ _ _ (T1.setTop (mkF m 8 #[.val (.int p0), .val (.long p1), .second, .val (.long p2), .second, .val (.ref w1), .unset, .unset, .unset, .unset] [(.ref w1)]))
    obtain ⟨cq54, kq54, q54a, q54b, q54c⟩ := isOf hZ e1 E_w1
    obtain ⟨_, _, ⟨T54, L54, k54, n54⟩, -, X54, ⟨Lc54, hQ54, l54, y54, z54⟩, st54⟩ := X1.virtualBack hx (y := (⟨"com/example/bericht/bericht/selector/Comparison$Operator", "isEquality", "()Z"⟩ : MethodName)) (z := (⟨"com/example/bericht/bericht/selector/Comparison$Operator", "isEquality", "()Z"⟩ : MethodName)) hown (mvT hZ (hw _ (List.mem_of_getElem? (i := 8) rfl))) (mvT hZ (hw _ (List.mem_of_getElem? (i := 9) rfl))) (notFace_of_selects (args := #[]) (mvT hZ (hw _ (List.mem_of_getElem? (i := 11) rfl)))) (mvT hZ (hw _ (List.mem_of_getElem? (i := 11) rfl))) (mvT hZ (hw _ (List.mem_of_getElem? (i := 10) rfl))) (by decide) (backOf (W := 0) (rm2_4 l Z a0 hw [] w0 w1 w2 w3 w4 w5 h0 n0 Z0 K0) hZ (hw _ (List.mem_of_getElem? (i := 12) rfl)) (hw _ (List.mem_of_getElem? (i := 6) rfl)) (by decide) (by decide)) q54a q54c (g := (mkF m 8 #[.val (.int p0), .val (.long p1), .second, .val (.long p2), .second, .val (.ref w1), .unset, .unset, .unset, .unset] [(.ref w1)])) rfl (by rw [hml]; rfl) (Steps.refl _) (argsL := []) (rest := []) (lenOf pd1 rfl) rfl (by show 2 * 0 + _ ≤ _; exact Nat.le_of_eq rfl) (hb hby at_8) (fun _ _ => ⟨rfl, e1, (by decide : 0 + 0 ≤ _), (by decide : 0 + 0 ≤ _)⟩)
    dsimp only [Pt.U, Pt.locs, Pt.cells, Pt.slots] at X54 l54 y54 z54 st54 hQ54
    subst l54 y54 z54
    obtain ⟨rfl, e54, hO54⟩ := hQ54
    obtain rfl := hO54
    refine own_tr st54 ?_
    show own_Go p e below s _ _ _ (T54.setTop (mkF m 11 #[.val (.int p0), .val (.long p1), .second, .val (.long p2), .second, .val (.ref w1), .unset, .unset, .unset, .unset] [(.int (0 : Int32))]))
    refine own_via (fun _ k => XS.istore X54.here hx rfl (hb hby at_11) rfl (l' := #[.val (.int p0), .val (.long p1), .second, .val (.long p2), .second, .val (.ref w1), .val (.int (0 : Int32)), .unset, .unset, .unset]) rfl k) ?_
    show own_Go p e below s _ _ _ (T54.setTop (mkF m 13 #[.val (.int p0), .val (.long p1), .second, .val (.long p2), .second, .val (.ref w1), .val (.int (0 : Int32)), .unset, .unset, .unset] []))
    refine own_via (fun _ k => XS.aload X54.here hx rfl (hb hby at_13) rfl rfl k) ?_
    show own_Go p e below s _ _ _ (T54.setTop (mkF m 15 #[.val (.int p0), .val (.long p1), .second, .val (.long p2), .second, .val (.ref w1), .val (.int (0 : Int32)), .unset, .unset, .unset] [(.ref w1)]))
    refine own_via (fun _ k => XS.lloadN X54.here hx rfl (hb hby at_15) rfl k) ?_
    show own_Go p e below s _ _ _ (T54.setTop (mkF m 16 #[.val (.int p0), .val (.long p1), .second, .val (.long p2), .second, .val (.ref w1), .val (.int (0 : Int32)), .unset, .unset, .unset] [(.long p1), (.ref w1)]))
    refine own_via (fun _ k => XS.lloadN X54.here hx rfl (hb hby at_16) rfl k) ?_
    show own_Go p e below s _ _ _ (T54.setTop (mkF m 17 #[.val (.int p0), .val (.long p1), .second, .val (.long p2), .second, .val (.ref w1), .val (.int (0 : Int32)), .unset, .unset, .unset] [(.long p2), (.long p1), (.ref w1)]))
    obtain ⟨cq55, kq55, q55a, q55b, q55c⟩ := isOf hZ e54 E_w1
    obtain ⟨_, _, ⟨T55, L55, k55, n55⟩, -, X55, ⟨Lc55, hQ55, l55, y55, z55⟩, st55⟩ := X54.virtualBack hx (y := (⟨"com/example/bericht/bericht/selector/Comparison$Operator", "holds", "(JJ)Z"⟩ : MethodName)) (z := (⟨"com/example/bericht/bericht/selector/Comparison$Operator", "holds", "(JJ)Z"⟩ : MethodName)) hown (mvT hZ (hw _ (List.mem_of_getElem? (i := 14) rfl))) (mvT hZ (hw _ (List.mem_of_getElem? (i := 15) rfl))) (notFace_of_selects (args := #[]) (mvT hZ (hw _ (List.mem_of_getElem? (i := 17) rfl)))) (mvT hZ (hw _ (List.mem_of_getElem? (i := 17) rfl))) (mvT hZ (hw _ (List.mem_of_getElem? (i := 16) rfl))) (by decide) (backOf (W := 0) (rm3_12 l Z a0 hw [] p1 p2 w0 w1 w2 w3 w4 w5 h0 n0 Z0 K0) hZ (hw _ (List.mem_of_getElem? (i := 18) rfl)) (hw _ (List.mem_of_getElem? (i := 6) rfl)) (by decide) (by decide)) q55a q55c (g := (mkF m 17 #[.val (.int p0), .val (.long p1), .second, .val (.long p2), .second, .val (.ref w1), .val (.int (0 : Int32)), .unset, .unset, .unset] [(.long p2), (.long p1), (.ref w1)])) rfl (by rw [hml]; rfl) (Steps.refl _) (argsL := [(.long p1), (.long p2)]) (rest := []) (lenOf pd3 rfl) rfl (by show 2 * 0 + _ ≤ _; exact Nat.le_of_eq rfl) (hb hby at_17) (fun _ _ => ⟨rfl, e54, (by decide : 0 + 0 ≤ _), (by decide : 0 + 0 ≤ _)⟩)
    dsimp only [Pt.U, Pt.locs, Pt.cells, Pt.slots] at X55 l55 y55 z55 st55 hQ55
    subst l55 y55 z55
    obtain ⟨rfl, e55, hO55⟩ := hQ55
    rcases hO55 with ⟨hr55_0_0, rfl⟩ | ⟨hr55_1_0, rfl⟩
    · refine own_tr st55 ?_
      show own_Go p e below s _ _ _ (T55.setTop (mkF m 20 #[.val (.int p0), .val (.long p1), .second, .val (.long p2), .second, .val (.ref w1), .val (.int (0 : Int32)), .unset, .unset, .unset] [(.int (1 : Int32))]))
      refine own_via (fun _ k => XS.aload X55.here hx rfl (hb hby at_20) rfl rfl k) ?_
      show own_Go p e below s _ _ _ (T55.setTop (mkF m 22 #[.val (.int p0), .val (.long p1), .second, .val (.long p2), .second, .val (.ref w1), .val (.int (0 : Int32)), .unset, .unset, .unset] [(.ref w1), (.int (1 : Int32))]))
      refine own_via (fun _ k => XS.lloadN X55.here hx rfl (hb hby at_22) rfl k) ?_
      show own_Go p e below s _ _ _ (T55.setTop (mkF m 23 #[.val (.int p0), .val (.long p1), .second, .val (.long p2), .second, .val (.ref w1), .val (.int (0 : Int32)), .unset, .unset, .unset] [(.long p2), (.ref w1), (.int (1 : Int32))]))
      refine own_via (fun _ k => XS.lloadN X55.here hx rfl (hb hby at_23) rfl k) ?_
      show own_Go p e below s _ _ _ (T55.setTop (mkF m 24 #[.val (.int p0), .val (.long p1), .second, .val (.long p2), .second, .val (.ref w1), .val (.int (0 : Int32)), .unset, .unset, .unset] [(.long p1), (.long p2), (.ref w1), (.int (1 : Int32))]))
      obtain ⟨cq56, kq56, q56a, q56b, q56c⟩ := isOf hZ e55 E_w1
      obtain ⟨_, _, ⟨T56, L56, k56, n56⟩, -, X56, ⟨Lc56, hQ56, l56, y56, z56⟩, st56⟩ := X55.virtualBack hx (y := (⟨"com/example/bericht/bericht/selector/Comparison$Operator", "holds", "(JJ)Z"⟩ : MethodName)) (z := (⟨"com/example/bericht/bericht/selector/Comparison$Operator", "holds", "(JJ)Z"⟩ : MethodName)) hown (mvT hZ (hw _ (List.mem_of_getElem? (i := 14) rfl))) (mvT hZ (hw _ (List.mem_of_getElem? (i := 15) rfl))) (notFace_of_selects (args := #[]) (mvT hZ (hw _ (List.mem_of_getElem? (i := 17) rfl)))) (mvT hZ (hw _ (List.mem_of_getElem? (i := 17) rfl))) (mvT hZ (hw _ (List.mem_of_getElem? (i := 16) rfl))) (by decide) (backOf (W := 1) (rm3_12 l Z a0 hw [] p2 p1 w0 w1 w2 w3 w4 w5 h0 n0 Z0 K0) hZ (hw _ (List.mem_of_getElem? (i := 18) rfl)) (hw _ (List.mem_of_getElem? (i := 6) rfl)) (by decide) (by decide)) q56a q56c (g := (mkF m 24 #[.val (.int p0), .val (.long p1), .second, .val (.long p2), .second, .val (.ref w1), .val (.int (0 : Int32)), .unset, .unset, .unset] [(.long p1), (.long p2), (.ref w1), (.int (1 : Int32))])) rfl (by rw [hml]; rfl) (Steps.refl _) (argsL := [(.long p2), (.long p1)]) (rest := [(.int (1 : Int32))]) (lenOf pd3 rfl) rfl (by show 2 * 0 + _ ≤ _; exact Nat.le_of_eq rfl) (hb hby at_24) (fun _ _ => ⟨rfl, e55, (by decide : 0 + 0 ≤ _), (by decide : 0 + 0 ≤ _)⟩)
      dsimp only [Pt.U, Pt.locs, Pt.cells, Pt.slots] at X56 l56 y56 z56 st56 hQ56
      subst l56 y56 z56
      obtain ⟨rfl, e56, hO56⟩ := hQ56
      rcases hO56 with ⟨hr56_0_0, rfl⟩ | ⟨hr56_1_0, rfl⟩
      · refine own_tr st56 ?_
        show own_Go p e below s _ _ _ (T56.setTop (mkF m 27 #[.val (.int p0), .val (.long p1), .second, .val (.long p2), .second, .val (.ref w1), .val (.int (0 : Int32)), .unset, .unset, .unset] [(.int (1 : Int32)), (.int (1 : Int32))]))
        refine own_via (fun _ k => XS.icmpNo X56.here hx rfl (hb hby at_27) rfl (teq (by decide : (1 : Int32) = (1 : Int32))).2 k) ?_
        show own_Go p e below s _ _ _ (T56.setTop (mkF m 30 #[.val (.int p0), .val (.long p1), .second, .val (.long p2), .second, .val (.ref w1), .val (.int (0 : Int32)), .unset, .unset, .unset] []))
        refine own_via (fun _ k => XS.iconst X56.here hx rfl (hb hby at_30) k) ?_
        show own_Go p e below s _ _ _ (T56.setTop (mkF m 31 #[.val (.int p0), .val (.long p1), .second, .val (.long p2), .second, .val (.ref w1), .val (.int (0 : Int32)), .unset, .unset, .unset] [(.int (1 : Int32))]))
        refine own_via (fun _ k => XS.goto X56.here hx rfl (pc0 := 31) (pc' := 35) rfl (hb hby at_31) (by decide) (by decide) k) ?_
        show own_Go p e below s _ _ _ (T56.setTop (mkF m 35 #[.val (.int p0), .val (.long p1), .second, .val (.long p2), .second, .val (.ref w1), .val (.int (0 : Int32)), .unset, .unset, .unset] [(.int (1 : Int32))]))
        refine own_via (fun _ k => XS.istore X56.here hx rfl (hb hby at_35) rfl (l' := #[.val (.int p0), .val (.long p1), .second, .val (.long p2), .second, .val (.ref w1), .val (.int (0 : Int32)), .val (.int (1 : Int32)), .unset, .unset]) rfl k) ?_
        show own_Go p e below s _ _ _ (T56.setTop (mkF m 37 #[.val (.int p0), .val (.long p1), .second, .val (.long p2), .second, .val (.ref w1), .val (.int (0 : Int32)), .val (.int (1 : Int32)), .unset, .unset] []))
        refine own_via (fun _ k => XS.aload X56.here hx rfl (hb hby at_37) rfl rfl k) ?_
        show own_Go p e below s _ _ _ (T56.setTop (mkF m 39 #[.val (.int p0), .val (.long p1), .second, .val (.long p2), .second, .val (.ref w1), .val (.int (0 : Int32)), .val (.int (1 : Int32)), .unset, .unset] [(.ref w1)]))
        refine own_via (fun _ k => XS.lconst X56.here hx rfl (hb hby at_39) k) ?_
        show own_Go p e below s _ _ _ (T56.setTop (mkF m 40 #[.val (.int p0), .val (.long p1), .second, .val (.long p2), .second, .val (.ref w1), .val (.int (0 : Int32)), .val (.int (1 : Int32)), .unset, .unset] [(.long (0 : Int64)), (.ref w1)]))
        refine own_via (fun _ k => XS.lconst X56.here hx rfl (hb hby at_40) k) ?_
        show own_Go p e below s _ _ _ (T56.setTop (mkF m 41 #[.val (.int p0), .val (.long p1), .second, .val (.long p2), .second, .val (.ref w1), .val (.int (0 : Int32)), .val (.int (1 : Int32)), .unset, .unset] [(.long (1 : Int64)), (.long (0 : Int64)), (.ref w1)]))
        obtain ⟨cq57, kq57, q57a, q57b, q57c⟩ := isOf hZ e56 E_w1
        obtain ⟨_, _, ⟨T57, L57, k57, n57⟩, -, X57, ⟨Lc57, hQ57, l57, y57, z57⟩, st57⟩ := X56.virtualBack hx (y := (⟨"com/example/bericht/bericht/selector/Comparison$Operator", "holds", "(JJ)Z"⟩ : MethodName)) (z := (⟨"com/example/bericht/bericht/selector/Comparison$Operator", "holds", "(JJ)Z"⟩ : MethodName)) hown (mvT hZ (hw _ (List.mem_of_getElem? (i := 14) rfl))) (mvT hZ (hw _ (List.mem_of_getElem? (i := 15) rfl))) (notFace_of_selects (args := #[]) (mvT hZ (hw _ (List.mem_of_getElem? (i := 17) rfl)))) (mvT hZ (hw _ (List.mem_of_getElem? (i := 17) rfl))) (mvT hZ (hw _ (List.mem_of_getElem? (i := 16) rfl))) (by decide) (backOf (W := 0) (rm3_13 l Z a0 hw [] w0 w1 w2 w3 w4 w5 h0 n0 Z0 K0) hZ (hw _ (List.mem_of_getElem? (i := 18) rfl)) (hw _ (List.mem_of_getElem? (i := 6) rfl)) (by decide) (by decide)) q57a q57c (g := (mkF m 41 #[.val (.int p0), .val (.long p1), .second, .val (.long p2), .second, .val (.ref w1), .val (.int (0 : Int32)), .val (.int (1 : Int32)), .unset, .unset] [(.long (1 : Int64)), (.long (0 : Int64)), (.ref w1)])) rfl (by rw [hml]; rfl) (Steps.refl _) (argsL := [(.long (0 : Int64)), (.long (1 : Int64))]) (rest := []) (lenOf pd3 rfl) rfl (by show 2 * 0 + _ ≤ _; exact Nat.le_of_eq rfl) (hb hby at_41) (fun _ _ => ⟨rfl, e56, (by decide : 0 + 0 ≤ _), (by decide : 0 + 0 ≤ _)⟩)
        dsimp only [Pt.U, Pt.locs, Pt.cells, Pt.slots] at X57 l57 y57 z57 st57 hQ57
        subst l57 y57 z57
        obtain ⟨rfl, e57, hO57⟩ := hQ57
        obtain rfl := hO57
        refine own_tr st57 ?_
        show own_Go p e below s _ _ _ (T57.setTop (mkF m 44 #[.val (.int p0), .val (.long p1), .second, .val (.long p2), .second, .val (.ref w1), .val (.int (0 : Int32)), .val (.int (1 : Int32)), .unset, .unset] [(.int (0 : Int32))]))
        refine own_via (fun _ k => XS.aload X57.here hx rfl (hb hby at_44) rfl rfl k) ?_
        show own_Go p e below s _ _ _ (T57.setTop (mkF m 46 #[.val (.int p0), .val (.long p1), .second, .val (.long p2), .second, .val (.ref w1), .val (.int (0 : Int32)), .val (.int (1 : Int32)), .unset, .unset] [(.ref w1), (.int (0 : Int32))]))
        refine own_via (fun _ k => XS.lconst X57.here hx rfl (hb hby at_46) k) ?_
        show own_Go p e below s _ _ _ (T57.setTop (mkF m 47 #[.val (.int p0), .val (.long p1), .second, .val (.long p2), .second, .val (.ref w1), .val (.int (0 : Int32)), .val (.int (1 : Int32)), .unset, .unset] [(.long (1 : Int64)), (.ref w1), (.int (0 : Int32))]))
        refine own_via (fun _ k => XS.lconst X57.here hx rfl (hb hby at_47) k) ?_
        show own_Go p e below s _ _ _ (T57.setTop (mkF m 48 #[.val (.int p0), .val (.long p1), .second, .val (.long p2), .second, .val (.ref w1), .val (.int (0 : Int32)), .val (.int (1 : Int32)), .unset, .unset] [(.long (0 : Int64)), (.long (1 : Int64)), (.ref w1), (.int (0 : Int32))]))
        obtain ⟨cq58, kq58, q58a, q58b, q58c⟩ := isOf hZ e57 E_w1
        obtain ⟨_, _, ⟨T58, L58, k58, n58⟩, -, X58, ⟨Lc58, hQ58, l58, y58, z58⟩, st58⟩ := X57.virtualBack hx (y := (⟨"com/example/bericht/bericht/selector/Comparison$Operator", "holds", "(JJ)Z"⟩ : MethodName)) (z := (⟨"com/example/bericht/bericht/selector/Comparison$Operator", "holds", "(JJ)Z"⟩ : MethodName)) hown (mvT hZ (hw _ (List.mem_of_getElem? (i := 14) rfl))) (mvT hZ (hw _ (List.mem_of_getElem? (i := 15) rfl))) (notFace_of_selects (args := #[]) (mvT hZ (hw _ (List.mem_of_getElem? (i := 17) rfl)))) (mvT hZ (hw _ (List.mem_of_getElem? (i := 17) rfl))) (mvT hZ (hw _ (List.mem_of_getElem? (i := 16) rfl))) (by decide) (backOf (W := 1) (rm3_14 l Z a0 hw [] w0 w1 w2 w3 w4 w5 h0 n0 Z0 K0) hZ (hw _ (List.mem_of_getElem? (i := 18) rfl)) (hw _ (List.mem_of_getElem? (i := 6) rfl)) (by decide) (by decide)) q58a q58c (g := (mkF m 48 #[.val (.int p0), .val (.long p1), .second, .val (.long p2), .second, .val (.ref w1), .val (.int (0 : Int32)), .val (.int (1 : Int32)), .unset, .unset] [(.long (0 : Int64)), (.long (1 : Int64)), (.ref w1), (.int (0 : Int32))])) rfl (by rw [hml]; rfl) (Steps.refl _) (argsL := [(.long (1 : Int64)), (.long (0 : Int64))]) (rest := [(.int (0 : Int32))]) (lenOf pd3 rfl) rfl (by show 2 * 0 + _ ≤ _; exact Nat.le_of_eq rfl) (hb hby at_48) (fun _ _ => ⟨rfl, e57, (by decide : 0 + 0 ≤ _), (by decide : 0 + 0 ≤ _)⟩)
        dsimp only [Pt.U, Pt.locs, Pt.cells, Pt.slots] at X58 l58 y58 z58 st58 hQ58
        subst l58 y58 z58
        obtain ⟨rfl, e58, hO58⟩ := hQ58
        obtain rfl := hO58
        refine own_tr st58 ?_
        show own_Go p e below s _ _ _ (T58.setTop (mkF m 51 #[.val (.int p0), .val (.long p1), .second, .val (.long p2), .second, .val (.ref w1), .val (.int (0 : Int32)), .val (.int (1 : Int32)), .unset, .unset] [(.int (1 : Int32)), (.int (0 : Int32))]))
        refine own_via (fun _ k => XS.icmpNo X58.here hx rfl (hb hby at_51) rfl (feq (by decide : ¬ ((0 : Int32) = (1 : Int32)))).1 k) ?_
        show own_Go p e below s _ _ _ (T58.setTop (mkF m 54 #[.val (.int p0), .val (.long p1), .second, .val (.long p2), .second, .val (.ref w1), .val (.int (0 : Int32)), .val (.int (1 : Int32)), .unset, .unset] []))
        refine own_via (fun _ k => XS.iconst X58.here hx rfl (hb hby at_54) k) ?_
        show own_Go p e below s _ _ _ (T58.setTop (mkF m 55 #[.val (.int p0), .val (.long p1), .second, .val (.long p2), .second, .val (.ref w1), .val (.int (0 : Int32)), .val (.int (1 : Int32)), .unset, .unset] [(.int (1 : Int32))]))
        refine own_via (fun _ k => XS.goto X58.here hx rfl (pc0 := 55) (pc' := 59) rfl (hb hby at_55) (by decide) (by decide) k) ?_
        show own_Go p e below s _ _ _ (T58.setTop (mkF m 59 #[.val (.int p0), .val (.long p1), .second, .val (.long p2), .second, .val (.ref w1), .val (.int (0 : Int32)), .val (.int (1 : Int32)), .unset, .unset] [(.int (1 : Int32))]))
        refine own_via (fun _ k => XS.istore X58.here hx rfl (hb hby at_59) rfl (l' := #[.val (.int p0), .val (.long p1), .second, .val (.long p2), .second, .val (.ref w1), .val (.int (0 : Int32)), .val (.int (1 : Int32)), .val (.int (1 : Int32)), .unset]) rfl k) ?_
        show own_Go p e below s _ _ _ (T58.setTop (mkF m 61 #[.val (.int p0), .val (.long p1), .second, .val (.long p2), .second, .val (.ref w1), .val (.int (0 : Int32)), .val (.int (1 : Int32)), .val (.int (1 : Int32)), .unset] []))
        refine own_via (fun _ k => XS.aload X58.here hx rfl (hb hby at_61) rfl rfl k) ?_
        show own_Go p e below s _ _ _ (T58.setTop (mkF m 63 #[.val (.int p0), .val (.long p1), .second, .val (.long p2), .second, .val (.ref w1), .val (.int (0 : Int32)), .val (.int (1 : Int32)), .val (.int (1 : Int32)), .unset] [(.ref w1)]))
        obtain ⟨cq59, kq59, q59a, q59b, q59c⟩ := isOf hZ e58 E_w1
        obtain ⟨_, _, ⟨T59, L59, k59, n59⟩, -, X59, ⟨Lc59, hQ59, l59, y59, z59⟩, st59⟩ := X58.virtualBack hx (y := (⟨"com/example/bericht/bericht/selector/Comparison$Operator", "flipped", "()Lcom/example/bericht/bericht/selector/Comparison$Operator;"⟩ : MethodName)) (z := (⟨"com/example/bericht/bericht/selector/Comparison$Operator", "flipped", "()Lcom/example/bericht/bericht/selector/Comparison$Operator;"⟩ : MethodName)) hown (mvT hZ (hw _ (List.mem_of_getElem? (i := 28) rfl))) (mvT hZ (hw _ (List.mem_of_getElem? (i := 29) rfl))) (notFace_of_selects (args := #[]) (mvT hZ (hw _ (List.mem_of_getElem? (i := 31) rfl)))) (mvT hZ (hw _ (List.mem_of_getElem? (i := 31) rfl))) (mvT hZ (hw _ (List.mem_of_getElem? (i := 30) rfl))) (by decide) (backOf (W := 0) (rm5_4 l Z a0 hw [] w0 w1 w2 w3 w4 w5 h0 n0 Z0 K0) hZ (hw _ (List.mem_of_getElem? (i := 32) rfl)) (hw _ (List.mem_of_getElem? (i := 6) rfl)) (by decide) (by decide)) q59a q59c (g := (mkF m 63 #[.val (.int p0), .val (.long p1), .second, .val (.long p2), .second, .val (.ref w1), .val (.int (0 : Int32)), .val (.int (1 : Int32)), .val (.int (1 : Int32)), .unset] [(.ref w1)])) rfl (by rw [hml]; rfl) (Steps.refl _) (argsL := []) (rest := []) (lenOf pd4 rfl) rfl (by show 2 * 0 + _ ≤ _; exact Nat.le_of_eq rfl) (hb hby at_63) (fun _ _ => ⟨rfl, e58, (by decide : 0 + 0 ≤ _), (by decide : 0 + 0 ≤ _)⟩)
        dsimp only [Pt.U, Pt.locs, Pt.cells, Pt.slots] at X59 l59 y59 z59 st59 hQ59
        subst l59 y59 z59
        obtain ⟨rfl, e59, hO59⟩ := hQ59
        obtain rfl := hO59
        refine own_tr st59 ?_
        show own_Go p e below s _ _ _ (T59.setTop (mkF m 66 #[.val (.int p0), .val (.long p1), .second, .val (.long p2), .second, .val (.ref w1), .val (.int (0 : Int32)), .val (.int (1 : Int32)), .val (.int (1 : Int32)), .unset] [(.ref w3)]))
        refine own_via (fun _ k => XS.aload X59.here hx rfl (hb hby at_66) rfl rfl k) ?_
        show own_Go p e below s _ _ _ (T59.setTop (mkF m 68 #[.val (.int p0), .val (.long p1), .second, .val (.long p2), .second, .val (.ref w1), .val (.int (0 : Int32)), .val (.int (1 : Int32)), .val (.int (1 : Int32)), .unset] [(.ref w1), (.ref w3)]))
        refine own_via (fun _ k => Jvm.RoadKit.acmp (g := (mkF m 68 #[.val (.int p0), .val (.long p1), .second, .val (.long p2), .second, .val (.ref w1), .val (.int (0 : Int32)), .val (.int (1 : Int32)), .val (.int (1 : Int32)), .unset] [(.ref w1), (.ref w3)])) X59 hx rfl rfl rfl (pc0 := 68) (pc' := 75) (same := false) rfl (hb hby at_68) rfl (decide_eq_false fun q => (fun q => n_w1_w3 q.symm) (Value.ref.inj q)) (by decide) (by decide) k) ?_
        show own_Go p e below s _ _ _ (T59.setTop (mkF m 75 #[.val (.int p0), .val (.long p1), .second, .val (.long p2), .second, .val (.ref w1), .val (.int (0 : Int32)), .val (.int (1 : Int32)), .val (.int (1 : Int32)), .unset] []))
        refine own_via (fun _ k => XS.iconst X59.here hx rfl (hb hby at_75) k) ?_
        show own_Go p e below s _ _ _ (T59.setTop (mkF m 76 #[.val (.int p0), .val (.long p1), .second, .val (.long p2), .second, .val (.ref w1), .val (.int (0 : Int32)), .val (.int (1 : Int32)), .val (.int (1 : Int32)), .unset] [(.int (0 : Int32))]))
        refine own_via (fun _ k => XS.istore X59.here hx rfl (hb hby at_76) rfl (l' := #[.val (.int p0), .val (.long p1), .second, .val (.long p2), .second, .val (.ref w1), .val (.int (0 : Int32)), .val (.int (1 : Int32)), .val (.int (1 : Int32)), .val (.int (0 : Int32))]) rfl k) ?_
        show own_Go p e below s _ _ _ (T59.setTop (mkF m 78 #[.val (.int p0), .val (.long p1), .second, .val (.long p2), .second, .val (.ref w1), .val (.int (0 : Int32)), .val (.int (1 : Int32)), .val (.int (1 : Int32)), .val (.int (0 : Int32))] []))
        refine own_via (fun _ k => XS.iload X59.here hx rfl (hb hby at_78) rfl k) ?_
        show own_Go p e below s _ _ _ (T59.setTop (mkF m 80 #[.val (.int p0), .val (.long p1), .second, .val (.long p2), .second, .val (.ref w1), .val (.int (0 : Int32)), .val (.int (1 : Int32)), .val (.int (1 : Int32)), .val (.int (0 : Int32))] [(.int (0 : Int32))]))
        refine own_via (fun _ k => XS.ifYes X59.here hx rfl (pc0 := 80) (pc' := 104) rfl (hb hby at_80) rfl ((if0 _ _).trans (teq (by decide : (0 : Int32) = (0 : Int32))).1) (by decide) (by decide) k) ?_
        show own_Go p e below s _ _ _ (T59.setTop (mkF m 104 #[.val (.int p0), .val (.long p1), .second, .val (.long p2), .second, .val (.ref w1), .val (.int (0 : Int32)), .val (.int (1 : Int32)), .val (.int (1 : Int32)), .val (.int (0 : Int32))] []))
        refine own_via (fun _ k => XS.iload X59.here hx rfl (hb hby at_104) rfl k) ?_
        show own_Go p e below s _ _ _ (T59.setTop (mkF m 106 #[.val (.int p0), .val (.long p1), .second, .val (.long p2), .second, .val (.ref w1), .val (.int (0 : Int32)), .val (.int (1 : Int32)), .val (.int (1 : Int32)), .val (.int (0 : Int32))] [(.int (1 : Int32))]))
        refine own_via (fun _ k => XS.ifNo X59.here hx rfl (hb hby at_106) rfl ((if0 _ _).trans (feq (by decide : ¬ ((1 : Int32) = (0 : Int32)))).1) k) ?_
        show own_Go p e below s _ _ _ (T59.setTop (mkF m 109 #[.val (.int p0), .val (.long p1), .second, .val (.long p2), .second, .val (.ref w1), .val (.int (0 : Int32)), .val (.int (1 : Int32)), .val (.int (1 : Int32)), .val (.int (0 : Int32))] []))
        refine own_via (fun _ k => XS.iload X59.here hx rfl (hb hby at_109) rfl k) ?_
        show own_Go p e below s _ _ _ (T59.setTop (mkF m 111 #[.val (.int p0), .val (.long p1), .second, .val (.long p2), .second, .val (.ref w1), .val (.int (0 : Int32)), .val (.int (1 : Int32)), .val (.int (1 : Int32)), .val (.int (0 : Int32))] [(.int (0 : Int32))]))
        refine own_via (fun _ k => XS.ifNo X59.here hx rfl (hb hby at_111) rfl ((if0 _ _).trans (teq (by decide : (0 : Int32) = (0 : Int32))).2) k) ?_
        show own_Go p e below s _ _ _ (T59.setTop (mkF m 114 #[.val (.int p0), .val (.long p1), .second, .val (.long p2), .second, .val (.ref w1), .val (.int (0 : Int32)), .val (.int (1 : Int32)), .val (.int (1 : Int32)), .val (.int (0 : Int32))] []))
        refine own_via (fun _ k => XS.iconst X59.here hx rfl (hb hby at_114) k) ?_
        show own_Go p e below s _ _ _ (T59.setTop (mkF m 115 #[.val (.int p0), .val (.long p1), .second, .val (.long p2), .second, .val (.ref w1), .val (.int (0 : Int32)), .val (.int (1 : Int32)), .val (.int (1 : Int32)), .val (.int (0 : Int32))] [(.int (1 : Int32))]))
        refine own_via (fun _ k => XS.goto X59.here hx rfl (pc0 := 115) (pc' := 119) rfl (hb hby at_115) (by decide) (by decide) k) ?_
        show own_Go p e below s _ _ _ (T59.setTop (mkF m 119 #[.val (.int p0), .val (.long p1), .second, .val (.long p2), .second, .val (.ref w1), .val (.int (0 : Int32)), .val (.int (1 : Int32)), .val (.int (1 : Int32)), .val (.int (0 : Int32))] [(.int (1 : Int32))]))
        exact own_retZ X59 hx hlk (t := .boolean) Bd.returns (by simp) (hb hby at_119) (z' := (1 : Int32)) (by first | rfl | decide) ⟨rfl, (Fr.nil n0)⟩ (by decide) (by decide)
      · refine own_tr st56 ?_
        show own_Go p e below s _ _ _ (T56.setTop (mkF m 27 #[.val (.int p0), .val (.long p1), .second, .val (.long p2), .second, .val (.ref w1), .val (.int (0 : Int32)), .unset, .unset, .unset] [(.int (0 : Int32)), (.int (1 : Int32))]))
        refine own_via (fun _ k => XS.icmpYes X56.here hx rfl (pc0 := 27) (pc' := 34) rfl (hb hby at_27) rfl (feq (by decide : ¬ ((1 : Int32) = (0 : Int32)))).2 (by decide) (by decide) k) ?_
        show own_Go p e below s _ _ _ (T56.setTop (mkF m 34 #[.val (.int p0), .val (.long p1), .second, .val (.long p2), .second, .val (.ref w1), .val (.int (0 : Int32)), .unset, .unset, .unset] []))
        refine own_via (fun _ k => XS.iconst X56.here hx rfl (hb hby at_34) k) ?_
        show own_Go p e below s _ _ _ (T56.setTop (mkF m 35 #[.val (.int p0), .val (.long p1), .second, .val (.long p2), .second, .val (.ref w1), .val (.int (0 : Int32)), .unset, .unset, .unset] [(.int (0 : Int32))]))
        refine own_via (fun _ k => XS.istore X56.here hx rfl (hb hby at_35) rfl (l' := #[.val (.int p0), .val (.long p1), .second, .val (.long p2), .second, .val (.ref w1), .val (.int (0 : Int32)), .val (.int (0 : Int32)), .unset, .unset]) rfl k) ?_
        show own_Go p e below s _ _ _ (T56.setTop (mkF m 37 #[.val (.int p0), .val (.long p1), .second, .val (.long p2), .second, .val (.ref w1), .val (.int (0 : Int32)), .val (.int (0 : Int32)), .unset, .unset] []))
        refine own_via (fun _ k => XS.aload X56.here hx rfl (hb hby at_37) rfl rfl k) ?_
        show own_Go p e below s _ _ _ (T56.setTop (mkF m 39 #[.val (.int p0), .val (.long p1), .second, .val (.long p2), .second, .val (.ref w1), .val (.int (0 : Int32)), .val (.int (0 : Int32)), .unset, .unset] [(.ref w1)]))
        refine own_via (fun _ k => XS.lconst X56.here hx rfl (hb hby at_39) k) ?_
        show own_Go p e below s _ _ _ (T56.setTop (mkF m 40 #[.val (.int p0), .val (.long p1), .second, .val (.long p2), .second, .val (.ref w1), .val (.int (0 : Int32)), .val (.int (0 : Int32)), .unset, .unset] [(.long (0 : Int64)), (.ref w1)]))
        refine own_via (fun _ k => XS.lconst X56.here hx rfl (hb hby at_40) k) ?_
        show own_Go p e below s _ _ _ (T56.setTop (mkF m 41 #[.val (.int p0), .val (.long p1), .second, .val (.long p2), .second, .val (.ref w1), .val (.int (0 : Int32)), .val (.int (0 : Int32)), .unset, .unset] [(.long (1 : Int64)), (.long (0 : Int64)), (.ref w1)]))
        obtain ⟨cq60, kq60, q60a, q60b, q60c⟩ := isOf hZ e56 E_w1
        obtain ⟨_, _, ⟨T60, L60, k60, n60⟩, -, X60, ⟨Lc60, hQ60, l60, y60, z60⟩, st60⟩ := X56.virtualBack hx (y := (⟨"com/example/bericht/bericht/selector/Comparison$Operator", "holds", "(JJ)Z"⟩ : MethodName)) (z := (⟨"com/example/bericht/bericht/selector/Comparison$Operator", "holds", "(JJ)Z"⟩ : MethodName)) hown (mvT hZ (hw _ (List.mem_of_getElem? (i := 14) rfl))) (mvT hZ (hw _ (List.mem_of_getElem? (i := 15) rfl))) (notFace_of_selects (args := #[]) (mvT hZ (hw _ (List.mem_of_getElem? (i := 17) rfl)))) (mvT hZ (hw _ (List.mem_of_getElem? (i := 17) rfl))) (mvT hZ (hw _ (List.mem_of_getElem? (i := 16) rfl))) (by decide) (backOf (W := 0) (rm3_13 l Z a0 hw [] w0 w1 w2 w3 w4 w5 h0 n0 Z0 K0) hZ (hw _ (List.mem_of_getElem? (i := 18) rfl)) (hw _ (List.mem_of_getElem? (i := 6) rfl)) (by decide) (by decide)) q60a q60c (g := (mkF m 41 #[.val (.int p0), .val (.long p1), .second, .val (.long p2), .second, .val (.ref w1), .val (.int (0 : Int32)), .val (.int (0 : Int32)), .unset, .unset] [(.long (1 : Int64)), (.long (0 : Int64)), (.ref w1)])) rfl (by rw [hml]; rfl) (Steps.refl _) (argsL := [(.long (0 : Int64)), (.long (1 : Int64))]) (rest := []) (lenOf pd3 rfl) rfl (by show 2 * 0 + _ ≤ _; exact Nat.le_of_eq rfl) (hb hby at_41) (fun _ _ => ⟨rfl, e56, (by decide : 0 + 0 ≤ _), (by decide : 0 + 0 ≤ _)⟩)
        dsimp only [Pt.U, Pt.locs, Pt.cells, Pt.slots] at X60 l60 y60 z60 st60 hQ60
        subst l60 y60 z60
        obtain ⟨rfl, e60, hO60⟩ := hQ60
        obtain rfl := hO60
        refine own_tr st60 ?_
        show own_Go p e below s _ _ _ (T60.setTop (mkF m 44 #[.val (.int p0), .val (.long p1), .second, .val (.long p2), .second, .val (.ref w1), .val (.int (0 : Int32)), .val (.int (0 : Int32)), .unset, .unset] [(.int (0 : Int32))]))
        refine own_via (fun _ k => XS.aload X60.here hx rfl (hb hby at_44) rfl rfl k) ?_
        show own_Go p e below s _ _ _ (T60.setTop (mkF m 46 #[.val (.int p0), .val (.long p1), .second, .val (.long p2), .second, .val (.ref w1), .val (.int (0 : Int32)), .val (.int (0 : Int32)), .unset, .unset] [(.ref w1), (.int (0 : Int32))]))
        refine own_via (fun _ k => XS.lconst X60.here hx rfl (hb hby at_46) k) ?_
        show own_Go p e below s _ _ _ (T60.setTop (mkF m 47 #[.val (.int p0), .val (.long p1), .second, .val (.long p2), .second, .val (.ref w1), .val (.int (0 : Int32)), .val (.int (0 : Int32)), .unset, .unset] [(.long (1 : Int64)), (.ref w1), (.int (0 : Int32))]))
        refine own_via (fun _ k => XS.lconst X60.here hx rfl (hb hby at_47) k) ?_
        show own_Go p e below s _ _ _ (T60.setTop (mkF m 48 #[.val (.int p0), .val (.long p1), .second, .val (.long p2), .second, .val (.ref w1), .val (.int (0 : Int32)), .val (.int (0 : Int32)), .unset, .unset] [(.long (0 : Int64)), (.long (1 : Int64)), (.ref w1), (.int (0 : Int32))]))
        obtain ⟨cq61, kq61, q61a, q61b, q61c⟩ := isOf hZ e60 E_w1
        obtain ⟨_, _, ⟨T61, L61, k61, n61⟩, -, X61, ⟨Lc61, hQ61, l61, y61, z61⟩, st61⟩ := X60.virtualBack hx (y := (⟨"com/example/bericht/bericht/selector/Comparison$Operator", "holds", "(JJ)Z"⟩ : MethodName)) (z := (⟨"com/example/bericht/bericht/selector/Comparison$Operator", "holds", "(JJ)Z"⟩ : MethodName)) hown (mvT hZ (hw _ (List.mem_of_getElem? (i := 14) rfl))) (mvT hZ (hw _ (List.mem_of_getElem? (i := 15) rfl))) (notFace_of_selects (args := #[]) (mvT hZ (hw _ (List.mem_of_getElem? (i := 17) rfl)))) (mvT hZ (hw _ (List.mem_of_getElem? (i := 17) rfl))) (mvT hZ (hw _ (List.mem_of_getElem? (i := 16) rfl))) (by decide) (backOf (W := 1) (rm3_14 l Z a0 hw [] w0 w1 w2 w3 w4 w5 h0 n0 Z0 K0) hZ (hw _ (List.mem_of_getElem? (i := 18) rfl)) (hw _ (List.mem_of_getElem? (i := 6) rfl)) (by decide) (by decide)) q61a q61c (g := (mkF m 48 #[.val (.int p0), .val (.long p1), .second, .val (.long p2), .second, .val (.ref w1), .val (.int (0 : Int32)), .val (.int (0 : Int32)), .unset, .unset] [(.long (0 : Int64)), (.long (1 : Int64)), (.ref w1), (.int (0 : Int32))])) rfl (by rw [hml]; rfl) (Steps.refl _) (argsL := [(.long (1 : Int64)), (.long (0 : Int64))]) (rest := [(.int (0 : Int32))]) (lenOf pd3 rfl) rfl (by show 2 * 0 + _ ≤ _; exact Nat.le_of_eq rfl) (hb hby at_48) (fun _ _ => ⟨rfl, e60, (by decide : 0 + 0 ≤ _), (by decide : 0 + 0 ≤ _)⟩)
        dsimp only [Pt.U, Pt.locs, Pt.cells, Pt.slots] at X61 l61 y61 z61 st61 hQ61
        subst l61 y61 z61
        obtain ⟨rfl, e61, hO61⟩ := hQ61
        obtain rfl := hO61
        refine own_tr st61 ?_
        show own_Go p e below s _ _ _ (T61.setTop (mkF m 51 #[.val (.int p0), .val (.long p1), .second, .val (.long p2), .second, .val (.ref w1), .val (.int (0 : Int32)), .val (.int (0 : Int32)), .unset, .unset] [(.int (1 : Int32)), (.int (0 : Int32))]))
        refine own_via (fun _ k => XS.icmpNo X61.here hx rfl (hb hby at_51) rfl (feq (by decide : ¬ ((0 : Int32) = (1 : Int32)))).1 k) ?_
        show own_Go p e below s _ _ _ (T61.setTop (mkF m 54 #[.val (.int p0), .val (.long p1), .second, .val (.long p2), .second, .val (.ref w1), .val (.int (0 : Int32)), .val (.int (0 : Int32)), .unset, .unset] []))
        refine own_via (fun _ k => XS.iconst X61.here hx rfl (hb hby at_54) k) ?_
        show own_Go p e below s _ _ _ (T61.setTop (mkF m 55 #[.val (.int p0), .val (.long p1), .second, .val (.long p2), .second, .val (.ref w1), .val (.int (0 : Int32)), .val (.int (0 : Int32)), .unset, .unset] [(.int (1 : Int32))]))
        refine own_via (fun _ k => XS.goto X61.here hx rfl (pc0 := 55) (pc' := 59) rfl (hb hby at_55) (by decide) (by decide) k) ?_
        show own_Go p e below s _ _ _ (T61.setTop (mkF m 59 #[.val (.int p0), .val (.long p1), .second, .val (.long p2), .second, .val (.ref w1), .val (.int (0 : Int32)), .val (.int (0 : Int32)), .unset, .unset] [(.int (1 : Int32))]))
        refine own_via (fun _ k => XS.istore X61.here hx rfl (hb hby at_59) rfl (l' := #[.val (.int p0), .val (.long p1), .second, .val (.long p2), .second, .val (.ref w1), .val (.int (0 : Int32)), .val (.int (0 : Int32)), .val (.int (1 : Int32)), .unset]) rfl k) ?_
        show own_Go p e below s _ _ _ (T61.setTop (mkF m 61 #[.val (.int p0), .val (.long p1), .second, .val (.long p2), .second, .val (.ref w1), .val (.int (0 : Int32)), .val (.int (0 : Int32)), .val (.int (1 : Int32)), .unset] []))
        refine own_via (fun _ k => XS.aload X61.here hx rfl (hb hby at_61) rfl rfl k) ?_
        show own_Go p e below s _ _ _ (T61.setTop (mkF m 63 #[.val (.int p0), .val (.long p1), .second, .val (.long p2), .second, .val (.ref w1), .val (.int (0 : Int32)), .val (.int (0 : Int32)), .val (.int (1 : Int32)), .unset] [(.ref w1)]))
        obtain ⟨cq62, kq62, q62a, q62b, q62c⟩ := isOf hZ e61 E_w1
        obtain ⟨_, _, ⟨T62, L62, k62, n62⟩, -, X62, ⟨Lc62, hQ62, l62, y62, z62⟩, st62⟩ := X61.virtualBack hx (y := (⟨"com/example/bericht/bericht/selector/Comparison$Operator", "flipped", "()Lcom/example/bericht/bericht/selector/Comparison$Operator;"⟩ : MethodName)) (z := (⟨"com/example/bericht/bericht/selector/Comparison$Operator", "flipped", "()Lcom/example/bericht/bericht/selector/Comparison$Operator;"⟩ : MethodName)) hown (mvT hZ (hw _ (List.mem_of_getElem? (i := 28) rfl))) (mvT hZ (hw _ (List.mem_of_getElem? (i := 29) rfl))) (notFace_of_selects (args := #[]) (mvT hZ (hw _ (List.mem_of_getElem? (i := 31) rfl)))) (mvT hZ (hw _ (List.mem_of_getElem? (i := 31) rfl))) (mvT hZ (hw _ (List.mem_of_getElem? (i := 30) rfl))) (by decide) (backOf (W := 0) (rm5_4 l Z a0 hw [] w0 w1 w2 w3 w4 w5 h0 n0 Z0 K0) hZ (hw _ (List.mem_of_getElem? (i := 32) rfl)) (hw _ (List.mem_of_getElem? (i := 6) rfl)) (by decide) (by decide)) q62a q62c (g := (mkF m 63 #[.val (.int p0), .val (.long p1), .second, .val (.long p2), .second, .val (.ref w1), .val (.int (0 : Int32)), .val (.int (0 : Int32)), .val (.int (1 : Int32)), .unset] [(.ref w1)])) rfl (by rw [hml]; rfl) (Steps.refl _) (argsL := []) (rest := []) (lenOf pd4 rfl) rfl (by show 2 * 0 + _ ≤ _; exact Nat.le_of_eq rfl) (hb hby at_63) (fun _ _ => ⟨rfl, e61, (by decide : 0 + 0 ≤ _), (by decide : 0 + 0 ≤ _)⟩)
        dsimp only [Pt.U, Pt.locs, Pt.cells, Pt.slots] at X62 l62 y62 z62 st62 hQ62
        subst l62 y62 z62
        obtain ⟨rfl, e62, hO62⟩ := hQ62
        obtain rfl := hO62
        refine own_tr st62 ?_
        show own_Go p e below s _ _ _ (T62.setTop (mkF m 66 #[.val (.int p0), .val (.long p1), .second, .val (.long p2), .second, .val (.ref w1), .val (.int (0 : Int32)), .val (.int (0 : Int32)), .val (.int (1 : Int32)), .unset] [(.ref w3)]))
        refine own_via (fun _ k => XS.aload X62.here hx rfl (hb hby at_66) rfl rfl k) ?_
        show own_Go p e below s _ _ _ (T62.setTop (mkF m 68 #[.val (.int p0), .val (.long p1), .second, .val (.long p2), .second, .val (.ref w1), .val (.int (0 : Int32)), .val (.int (0 : Int32)), .val (.int (1 : Int32)), .unset] [(.ref w1), (.ref w3)]))
        refine own_via (fun _ k => Jvm.RoadKit.acmp (g := (mkF m 68 #[.val (.int p0), .val (.long p1), .second, .val (.long p2), .second, .val (.ref w1), .val (.int (0 : Int32)), .val (.int (0 : Int32)), .val (.int (1 : Int32)), .unset] [(.ref w1), (.ref w3)])) X62 hx rfl rfl rfl (pc0 := 68) (pc' := 75) (same := false) rfl (hb hby at_68) rfl (decide_eq_false fun q => (fun q => n_w1_w3 q.symm) (Value.ref.inj q)) (by decide) (by decide) k) ?_
        show own_Go p e below s _ _ _ (T62.setTop (mkF m 75 #[.val (.int p0), .val (.long p1), .second, .val (.long p2), .second, .val (.ref w1), .val (.int (0 : Int32)), .val (.int (0 : Int32)), .val (.int (1 : Int32)), .unset] []))
        refine own_via (fun _ k => XS.iconst X62.here hx rfl (hb hby at_75) k) ?_
        show own_Go p e below s _ _ _ (T62.setTop (mkF m 76 #[.val (.int p0), .val (.long p1), .second, .val (.long p2), .second, .val (.ref w1), .val (.int (0 : Int32)), .val (.int (0 : Int32)), .val (.int (1 : Int32)), .unset] [(.int (0 : Int32))]))
        refine own_via (fun _ k => XS.istore X62.here hx rfl (hb hby at_76) rfl (l' := #[.val (.int p0), .val (.long p1), .second, .val (.long p2), .second, .val (.ref w1), .val (.int (0 : Int32)), .val (.int (0 : Int32)), .val (.int (1 : Int32)), .val (.int (0 : Int32))]) rfl k) ?_
        show own_Go p e below s _ _ _ (T62.setTop (mkF m 78 #[.val (.int p0), .val (.long p1), .second, .val (.long p2), .second, .val (.ref w1), .val (.int (0 : Int32)), .val (.int (0 : Int32)), .val (.int (1 : Int32)), .val (.int (0 : Int32))] []))
        refine own_via (fun _ k => XS.iload X62.here hx rfl (hb hby at_78) rfl k) ?_
        show own_Go p e below s _ _ _ (T62.setTop (mkF m 80 #[.val (.int p0), .val (.long p1), .second, .val (.long p2), .second, .val (.ref w1), .val (.int (0 : Int32)), .val (.int (0 : Int32)), .val (.int (1 : Int32)), .val (.int (0 : Int32))] [(.int (0 : Int32))]))
        refine own_via (fun _ k => XS.ifYes X62.here hx rfl (pc0 := 80) (pc' := 104) rfl (hb hby at_80) rfl ((if0 _ _).trans (teq (by decide : (0 : Int32) = (0 : Int32))).1) (by decide) (by decide) k) ?_
        show own_Go p e below s _ _ _ (T62.setTop (mkF m 104 #[.val (.int p0), .val (.long p1), .second, .val (.long p2), .second, .val (.ref w1), .val (.int (0 : Int32)), .val (.int (0 : Int32)), .val (.int (1 : Int32)), .val (.int (0 : Int32))] []))
        refine own_via (fun _ k => XS.iload X62.here hx rfl (hb hby at_104) rfl k) ?_
        show own_Go p e below s _ _ _ (T62.setTop (mkF m 106 #[.val (.int p0), .val (.long p1), .second, .val (.long p2), .second, .val (.ref w1), .val (.int (0 : Int32)), .val (.int (0 : Int32)), .val (.int (1 : Int32)), .val (.int (0 : Int32))] [(.int (1 : Int32))]))
        refine own_via (fun _ k => XS.ifNo X62.here hx rfl (hb hby at_106) rfl ((if0 _ _).trans (feq (by decide : ¬ ((1 : Int32) = (0 : Int32)))).1) k) ?_
        show own_Go p e below s _ _ _ (T62.setTop (mkF m 109 #[.val (.int p0), .val (.long p1), .second, .val (.long p2), .second, .val (.ref w1), .val (.int (0 : Int32)), .val (.int (0 : Int32)), .val (.int (1 : Int32)), .val (.int (0 : Int32))] []))
        refine own_via (fun _ k => XS.iload X62.here hx rfl (hb hby at_109) rfl k) ?_
        show own_Go p e below s _ _ _ (T62.setTop (mkF m 111 #[.val (.int p0), .val (.long p1), .second, .val (.long p2), .second, .val (.ref w1), .val (.int (0 : Int32)), .val (.int (0 : Int32)), .val (.int (1 : Int32)), .val (.int (0 : Int32))] [(.int (0 : Int32))]))
        refine own_via (fun _ k => XS.ifNo X62.here hx rfl (hb hby at_111) rfl ((if0 _ _).trans (teq (by decide : (0 : Int32) = (0 : Int32))).2) k) ?_
        show own_Go p e below s _ _ _ (T62.setTop (mkF m 114 #[.val (.int p0), .val (.long p1), .second, .val (.long p2), .second, .val (.ref w1), .val (.int (0 : Int32)), .val (.int (0 : Int32)), .val (.int (1 : Int32)), .val (.int (0 : Int32))] []))
        refine own_via (fun _ k => XS.iconst X62.here hx rfl (hb hby at_114) k) ?_
        show own_Go p e below s _ _ _ (T62.setTop (mkF m 115 #[.val (.int p0), .val (.long p1), .second, .val (.long p2), .second, .val (.ref w1), .val (.int (0 : Int32)), .val (.int (0 : Int32)), .val (.int (1 : Int32)), .val (.int (0 : Int32))] [(.int (1 : Int32))]))
        refine own_via (fun _ k => XS.goto X62.here hx rfl (pc0 := 115) (pc' := 119) rfl (hb hby at_115) (by decide) (by decide) k) ?_
        show own_Go p e below s _ _ _ (T62.setTop (mkF m 119 #[.val (.int p0), .val (.long p1), .second, .val (.long p2), .second, .val (.ref w1), .val (.int (0 : Int32)), .val (.int (0 : Int32)), .val (.int (1 : Int32)), .val (.int (0 : Int32))] [(.int (1 : Int32))]))
        exact own_retZ X62 hx hlk (t := .boolean) Bd.returns (by simp) (hb hby at_119) (z' := (1 : Int32)) (by first | rfl | decide) ⟨rfl, (Fr.nil n0)⟩ (by decide) (by decide)
    · refine own_tr st55 ?_
      show own_Go p e below s _ _ _ (T55.setTop (mkF m 20 #[.val (.int p0), .val (.long p1), .second, .val (.long p2), .second, .val (.ref w1), .val (.int (0 : Int32)), .unset, .unset, .unset] [(.int (0 : Int32))]))
      refine own_via (fun _ k => XS.aload X55.here hx rfl (hb hby at_20) rfl rfl k) ?_
      show own_Go p e below s _ _ _ (T55.setTop (mkF m 22 #[.val (.int p0), .val (.long p1), .second, .val (.long p2), .second, .val (.ref w1), .val (.int (0 : Int32)), .unset, .unset, .unset] [(.ref w1), (.int (0 : Int32))]))
      refine own_via (fun _ k => XS.lloadN X55.here hx rfl (hb hby at_22) rfl k) ?_
      show own_Go p e below s _ _ _ (T55.setTop (mkF m 23 #[.val (.int p0), .val (.long p1), .second, .val (.long p2), .second, .val (.ref w1), .val (.int (0 : Int32)), .unset, .unset, .unset] [(.long p2), (.ref w1), (.int (0 : Int32))]))
      refine own_via (fun _ k => XS.lloadN X55.here hx rfl (hb hby at_23) rfl k) ?_
      show own_Go p e below s _ _ _ (T55.setTop (mkF m 24 #[.val (.int p0), .val (.long p1), .second, .val (.long p2), .second, .val (.ref w1), .val (.int (0 : Int32)), .unset, .unset, .unset] [(.long p1), (.long p2), (.ref w1), (.int (0 : Int32))]))
      obtain ⟨cq63, kq63, q63a, q63b, q63c⟩ := isOf hZ e55 E_w1
      obtain ⟨_, _, ⟨T63, L63, k63, n63⟩, -, X63, ⟨Lc63, hQ63, l63, y63, z63⟩, st63⟩ := X55.virtualBack hx (y := (⟨"com/example/bericht/bericht/selector/Comparison$Operator", "holds", "(JJ)Z"⟩ : MethodName)) (z := (⟨"com/example/bericht/bericht/selector/Comparison$Operator", "holds", "(JJ)Z"⟩ : MethodName)) hown (mvT hZ (hw _ (List.mem_of_getElem? (i := 14) rfl))) (mvT hZ (hw _ (List.mem_of_getElem? (i := 15) rfl))) (notFace_of_selects (args := #[]) (mvT hZ (hw _ (List.mem_of_getElem? (i := 17) rfl)))) (mvT hZ (hw _ (List.mem_of_getElem? (i := 17) rfl))) (mvT hZ (hw _ (List.mem_of_getElem? (i := 16) rfl))) (by decide) (backOf (W := 1) (rm3_12 l Z a0 hw [] p2 p1 w0 w1 w2 w3 w4 w5 h0 n0 Z0 K0) hZ (hw _ (List.mem_of_getElem? (i := 18) rfl)) (hw _ (List.mem_of_getElem? (i := 6) rfl)) (by decide) (by decide)) q63a q63c (g := (mkF m 24 #[.val (.int p0), .val (.long p1), .second, .val (.long p2), .second, .val (.ref w1), .val (.int (0 : Int32)), .unset, .unset, .unset] [(.long p1), (.long p2), (.ref w1), (.int (0 : Int32))])) rfl (by rw [hml]; rfl) (Steps.refl _) (argsL := [(.long p2), (.long p1)]) (rest := [(.int (0 : Int32))]) (lenOf pd3 rfl) rfl (by show 2 * 0 + _ ≤ _; exact Nat.le_of_eq rfl) (hb hby at_24) (fun _ _ => ⟨rfl, e55, (by decide : 0 + 0 ≤ _), (by decide : 0 + 0 ≤ _)⟩)
      dsimp only [Pt.U, Pt.locs, Pt.cells, Pt.slots] at X63 l63 y63 z63 st63 hQ63
      subst l63 y63 z63
      obtain ⟨rfl, e63, hO63⟩ := hQ63
      rcases hO63 with ⟨hr63_0_0, rfl⟩ | ⟨hr63_1_0, rfl⟩
      · refine own_tr st63 ?_
        show own_Go p e below s _ _ _ (T63.setTop (mkF m 27 #[.val (.int p0), .val (.long p1), .second, .val (.long p2), .second, .val (.ref w1), .val (.int (0 : Int32)), .unset, .unset, .unset] [(.int (1 : Int32)), (.int (0 : Int32))]))
        refine own_via (fun _ k => XS.icmpYes X63.here hx rfl (pc0 := 27) (pc' := 34) rfl (hb hby at_27) rfl (feq (by decide : ¬ ((0 : Int32) = (1 : Int32)))).2 (by decide) (by decide) k) ?_
        show own_Go p e below s _ _ _ (T63.setTop (mkF m 34 #[.val (.int p0), .val (.long p1), .second, .val (.long p2), .second, .val (.ref w1), .val (.int (0 : Int32)), .unset, .unset, .unset] []))
        refine own_via (fun _ k => XS.iconst X63.here hx rfl (hb hby at_34) k) ?_
        show own_Go p e below s _ _ _ (T63.setTop (mkF m 35 #[.val (.int p0), .val (.long p1), .second, .val (.long p2), .second, .val (.ref w1), .val (.int (0 : Int32)), .unset, .unset, .unset] [(.int (0 : Int32))]))
        refine own_via (fun _ k => XS.istore X63.here hx rfl (hb hby at_35) rfl (l' := #[.val (.int p0), .val (.long p1), .second, .val (.long p2), .second, .val (.ref w1), .val (.int (0 : Int32)), .val (.int (0 : Int32)), .unset, .unset]) rfl k) ?_
        show own_Go p e below s _ _ _ (T63.setTop (mkF m 37 #[.val (.int p0), .val (.long p1), .second, .val (.long p2), .second, .val (.ref w1), .val (.int (0 : Int32)), .val (.int (0 : Int32)), .unset, .unset] []))
        refine own_via (fun _ k => XS.aload X63.here hx rfl (hb hby at_37) rfl rfl k) ?_
        show own_Go p e below s _ _ _ (T63.setTop (mkF m 39 #[.val (.int p0), .val (.long p1), .second, .val (.long p2), .second, .val (.ref w1), .val (.int (0 : Int32)), .val (.int (0 : Int32)), .unset, .unset] [(.ref w1)]))
        refine own_via (fun _ k => XS.lconst X63.here hx rfl (hb hby at_39) k) ?_
        show own_Go p e below s _ _ _ (T63.setTop (mkF m 40 #[.val (.int p0), .val (.long p1), .second, .val (.long p2), .second, .val (.ref w1), .val (.int (0 : Int32)), .val (.int (0 : Int32)), .unset, .unset] [(.long (0 : Int64)), (.ref w1)]))
        refine own_via (fun _ k => XS.lconst X63.here hx rfl (hb hby at_40) k) ?_
        show own_Go p e below s _ _ _ (T63.setTop (mkF m 41 #[.val (.int p0), .val (.long p1), .second, .val (.long p2), .second, .val (.ref w1), .val (.int (0 : Int32)), .val (.int (0 : Int32)), .unset, .unset] [(.long (1 : Int64)), (.long (0 : Int64)), (.ref w1)]))
        obtain ⟨cq64, kq64, q64a, q64b, q64c⟩ := isOf hZ e63 E_w1
        obtain ⟨_, _, ⟨T64, L64, k64, n64⟩, -, X64, ⟨Lc64, hQ64, l64, y64, z64⟩, st64⟩ := X63.virtualBack hx (y := (⟨"com/example/bericht/bericht/selector/Comparison$Operator", "holds", "(JJ)Z"⟩ : MethodName)) (z := (⟨"com/example/bericht/bericht/selector/Comparison$Operator", "holds", "(JJ)Z"⟩ : MethodName)) hown (mvT hZ (hw _ (List.mem_of_getElem? (i := 14) rfl))) (mvT hZ (hw _ (List.mem_of_getElem? (i := 15) rfl))) (notFace_of_selects (args := #[]) (mvT hZ (hw _ (List.mem_of_getElem? (i := 17) rfl)))) (mvT hZ (hw _ (List.mem_of_getElem? (i := 17) rfl))) (mvT hZ (hw _ (List.mem_of_getElem? (i := 16) rfl))) (by decide) (backOf (W := 0) (rm3_13 l Z a0 hw [] w0 w1 w2 w3 w4 w5 h0 n0 Z0 K0) hZ (hw _ (List.mem_of_getElem? (i := 18) rfl)) (hw _ (List.mem_of_getElem? (i := 6) rfl)) (by decide) (by decide)) q64a q64c (g := (mkF m 41 #[.val (.int p0), .val (.long p1), .second, .val (.long p2), .second, .val (.ref w1), .val (.int (0 : Int32)), .val (.int (0 : Int32)), .unset, .unset] [(.long (1 : Int64)), (.long (0 : Int64)), (.ref w1)])) rfl (by rw [hml]; rfl) (Steps.refl _) (argsL := [(.long (0 : Int64)), (.long (1 : Int64))]) (rest := []) (lenOf pd3 rfl) rfl (by show 2 * 0 + _ ≤ _; exact Nat.le_of_eq rfl) (hb hby at_41) (fun _ _ => ⟨rfl, e63, (by decide : 0 + 0 ≤ _), (by decide : 0 + 0 ≤ _)⟩)
        dsimp only [Pt.U, Pt.locs, Pt.cells, Pt.slots] at X64 l64 y64 z64 st64 hQ64
        subst l64 y64 z64
        obtain ⟨rfl, e64, hO64⟩ := hQ64
        obtain rfl := hO64
        refine own_tr st64 ?_
        show own_Go p e below s _ _ _ (T64.setTop (mkF m 44 #[.val (.int p0), .val (.long p1), .second, .val (.long p2), .second, .val (.ref w1), .val (.int (0 : Int32)), .val (.int (0 : Int32)), .unset, .unset] [(.int (0 : Int32))]))
        refine own_via (fun _ k => XS.aload X64.here hx rfl (hb hby at_44) rfl rfl k) ?_
        show own_Go p e below s _ _ _ (T64.setTop (mkF m 46 #[.val (.int p0), .val (.long p1), .second, .val (.long p2), .second, .val (.ref w1), .val (.int (0 : Int32)), .val (.int (0 : Int32)), .unset, .unset] [(.ref w1), (.int (0 : Int32))]))
        refine own_via (fun _ k => XS.lconst X64.here hx rfl (hb hby at_46) k) ?_
        show own_Go p e below s _ _ _ (T64.setTop (mkF m 47 #[.val (.int p0), .val (.long p1), .second, .val (.long p2), .second, .val (.ref w1), .val (.int (0 : Int32)), .val (.int (0 : Int32)), .unset, .unset] [(.long (1 : Int64)), (.ref w1), (.int (0 : Int32))]))
        refine own_via (fun _ k => XS.lconst X64.here hx rfl (hb hby at_47) k) ?_
        show own_Go p e below s _ _ _ (T64.setTop (mkF m 48 #[.val (.int p0), .val (.long p1), .second, .val (.long p2), .second, .val (.ref w1), .val (.int (0 : Int32)), .val (.int (0 : Int32)), .unset, .unset] [(.long (0 : Int64)), (.long (1 : Int64)), (.ref w1), (.int (0 : Int32))]))
        obtain ⟨cq65, kq65, q65a, q65b, q65c⟩ := isOf hZ e64 E_w1
        obtain ⟨_, _, ⟨T65, L65, k65, n65⟩, -, X65, ⟨Lc65, hQ65, l65, y65, z65⟩, st65⟩ := X64.virtualBack hx (y := (⟨"com/example/bericht/bericht/selector/Comparison$Operator", "holds", "(JJ)Z"⟩ : MethodName)) (z := (⟨"com/example/bericht/bericht/selector/Comparison$Operator", "holds", "(JJ)Z"⟩ : MethodName)) hown (mvT hZ (hw _ (List.mem_of_getElem? (i := 14) rfl))) (mvT hZ (hw _ (List.mem_of_getElem? (i := 15) rfl))) (notFace_of_selects (args := #[]) (mvT hZ (hw _ (List.mem_of_getElem? (i := 17) rfl)))) (mvT hZ (hw _ (List.mem_of_getElem? (i := 17) rfl))) (mvT hZ (hw _ (List.mem_of_getElem? (i := 16) rfl))) (by decide) (backOf (W := 1) (rm3_14 l Z a0 hw [] w0 w1 w2 w3 w4 w5 h0 n0 Z0 K0) hZ (hw _ (List.mem_of_getElem? (i := 18) rfl)) (hw _ (List.mem_of_getElem? (i := 6) rfl)) (by decide) (by decide)) q65a q65c (g := (mkF m 48 #[.val (.int p0), .val (.long p1), .second, .val (.long p2), .second, .val (.ref w1), .val (.int (0 : Int32)), .val (.int (0 : Int32)), .unset, .unset] [(.long (0 : Int64)), (.long (1 : Int64)), (.ref w1), (.int (0 : Int32))])) rfl (by rw [hml]; rfl) (Steps.refl _) (argsL := [(.long (1 : Int64)), (.long (0 : Int64))]) (rest := [(.int (0 : Int32))]) (lenOf pd3 rfl) rfl (by show 2 * 0 + _ ≤ _; exact Nat.le_of_eq rfl) (hb hby at_48) (fun _ _ => ⟨rfl, e64, (by decide : 0 + 0 ≤ _), (by decide : 0 + 0 ≤ _)⟩)
        dsimp only [Pt.U, Pt.locs, Pt.cells, Pt.slots] at X65 l65 y65 z65 st65 hQ65
        subst l65 y65 z65
        obtain ⟨rfl, e65, hO65⟩ := hQ65
        obtain rfl := hO65
        refine own_tr st65 ?_
        show own_Go p e below s _ _ _ (T65.setTop (mkF m 51 #[.val (.int p0), .val (.long p1), .second, .val (.long p2), .second, .val (.ref w1), .val (.int (0 : Int32)), .val (.int (0 : Int32)), .unset, .unset] [(.int (1 : Int32)), (.int (0 : Int32))]))
        refine own_via (fun _ k => XS.icmpNo X65.here hx rfl (hb hby at_51) rfl (feq (by decide : ¬ ((0 : Int32) = (1 : Int32)))).1 k) ?_
        show own_Go p e below s _ _ _ (T65.setTop (mkF m 54 #[.val (.int p0), .val (.long p1), .second, .val (.long p2), .second, .val (.ref w1), .val (.int (0 : Int32)), .val (.int (0 : Int32)), .unset, .unset] []))
        refine own_via (fun _ k => XS.iconst X65.here hx rfl (hb hby at_54) k) ?_
        show own_Go p e below s _ _ _ (T65.setTop (mkF m 55 #[.val (.int p0), .val (.long p1), .second, .val (.long p2), .second, .val (.ref w1), .val (.int (0 : Int32)), .val (.int (0 : Int32)), .unset, .unset] [(.int (1 : Int32))]))
        refine own_via (fun _ k => XS.goto X65.here hx rfl (pc0 := 55) (pc' := 59) rfl (hb hby at_55) (by decide) (by decide) k) ?_
        show own_Go p e below s _ _ _ (T65.setTop (mkF m 59 #[.val (.int p0), .val (.long p1), .second, .val (.long p2), .second, .val (.ref w1), .val (.int (0 : Int32)), .val (.int (0 : Int32)), .unset, .unset] [(.int (1 : Int32))]))
        refine own_via (fun _ k => XS.istore X65.here hx rfl (hb hby at_59) rfl (l' := #[.val (.int p0), .val (.long p1), .second, .val (.long p2), .second, .val (.ref w1), .val (.int (0 : Int32)), .val (.int (0 : Int32)), .val (.int (1 : Int32)), .unset]) rfl k) ?_
        show own_Go p e below s _ _ _ (T65.setTop (mkF m 61 #[.val (.int p0), .val (.long p1), .second, .val (.long p2), .second, .val (.ref w1), .val (.int (0 : Int32)), .val (.int (0 : Int32)), .val (.int (1 : Int32)), .unset] []))
        refine own_via (fun _ k => XS.aload X65.here hx rfl (hb hby at_61) rfl rfl k) ?_
        show own_Go p e below s _ _ _ (T65.setTop (mkF m 63 #[.val (.int p0), .val (.long p1), .second, .val (.long p2), .second, .val (.ref w1), .val (.int (0 : Int32)), .val (.int (0 : Int32)), .val (.int (1 : Int32)), .unset] [(.ref w1)]))
        obtain ⟨cq66, kq66, q66a, q66b, q66c⟩ := isOf hZ e65 E_w1
        obtain ⟨_, _, ⟨T66, L66, k66, n66⟩, -, X66, ⟨Lc66, hQ66, l66, y66, z66⟩, st66⟩ := X65.virtualBack hx (y := (⟨"com/example/bericht/bericht/selector/Comparison$Operator", "flipped", "()Lcom/example/bericht/bericht/selector/Comparison$Operator;"⟩ : MethodName)) (z := (⟨"com/example/bericht/bericht/selector/Comparison$Operator", "flipped", "()Lcom/example/bericht/bericht/selector/Comparison$Operator;"⟩ : MethodName)) hown (mvT hZ (hw _ (List.mem_of_getElem? (i := 28) rfl))) (mvT hZ (hw _ (List.mem_of_getElem? (i := 29) rfl))) (notFace_of_selects (args := #[]) (mvT hZ (hw _ (List.mem_of_getElem? (i := 31) rfl)))) (mvT hZ (hw _ (List.mem_of_getElem? (i := 31) rfl))) (mvT hZ (hw _ (List.mem_of_getElem? (i := 30) rfl))) (by decide) (backOf (W := 0) (rm5_4 l Z a0 hw [] w0 w1 w2 w3 w4 w5 h0 n0 Z0 K0) hZ (hw _ (List.mem_of_getElem? (i := 32) rfl)) (hw _ (List.mem_of_getElem? (i := 6) rfl)) (by decide) (by decide)) q66a q66c (g := (mkF m 63 #[.val (.int p0), .val (.long p1), .second, .val (.long p2), .second, .val (.ref w1), .val (.int (0 : Int32)), .val (.int (0 : Int32)), .val (.int (1 : Int32)), .unset] [(.ref w1)])) rfl (by rw [hml]; rfl) (Steps.refl _) (argsL := []) (rest := []) (lenOf pd4 rfl) rfl (by show 2 * 0 + _ ≤ _; exact Nat.le_of_eq rfl) (hb hby at_63) (fun _ _ => ⟨rfl, e65, (by decide : 0 + 0 ≤ _), (by decide : 0 + 0 ≤ _)⟩)
        dsimp only [Pt.U, Pt.locs, Pt.cells, Pt.slots] at X66 l66 y66 z66 st66 hQ66
        subst l66 y66 z66
        obtain ⟨rfl, e66, hO66⟩ := hQ66
        obtain rfl := hO66
        refine own_tr st66 ?_
        show own_Go p e below s _ _ _ (T66.setTop (mkF m 66 #[.val (.int p0), .val (.long p1), .second, .val (.long p2), .second, .val (.ref w1), .val (.int (0 : Int32)), .val (.int (0 : Int32)), .val (.int (1 : Int32)), .unset] [(.ref w3)]))
        refine own_via (fun _ k => XS.aload X66.here hx rfl (hb hby at_66) rfl rfl k) ?_
        show own_Go p e below s _ _ _ (T66.setTop (mkF m 68 #[.val (.int p0), .val (.long p1), .second, .val (.long p2), .second, .val (.ref w1), .val (.int (0 : Int32)), .val (.int (0 : Int32)), .val (.int (1 : Int32)), .unset] [(.ref w1), (.ref w3)]))
        refine own_via (fun _ k => Jvm.RoadKit.acmp (g := (mkF m 68 #[.val (.int p0), .val (.long p1), .second, .val (.long p2), .second, .val (.ref w1), .val (.int (0 : Int32)), .val (.int (0 : Int32)), .val (.int (1 : Int32)), .unset] [(.ref w1), (.ref w3)])) X66 hx rfl rfl rfl (pc0 := 68) (pc' := 75) (same := false) rfl (hb hby at_68) rfl (decide_eq_false fun q => (fun q => n_w1_w3 q.symm) (Value.ref.inj q)) (by decide) (by decide) k) ?_
        show own_Go p e below s _ _ _ (T66.setTop (mkF m 75 #[.val (.int p0), .val (.long p1), .second, .val (.long p2), .second, .val (.ref w1), .val (.int (0 : Int32)), .val (.int (0 : Int32)), .val (.int (1 : Int32)), .unset] []))
        refine own_via (fun _ k => XS.iconst X66.here hx rfl (hb hby at_75) k) ?_
        show own_Go p e below s _ _ _ (T66.setTop (mkF m 76 #[.val (.int p0), .val (.long p1), .second, .val (.long p2), .second, .val (.ref w1), .val (.int (0 : Int32)), .val (.int (0 : Int32)), .val (.int (1 : Int32)), .unset] [(.int (0 : Int32))]))
        refine own_via (fun _ k => XS.istore X66.here hx rfl (hb hby at_76) rfl (l' := #[.val (.int p0), .val (.long p1), .second, .val (.long p2), .second, .val (.ref w1), .val (.int (0 : Int32)), .val (.int (0 : Int32)), .val (.int (1 : Int32)), .val (.int (0 : Int32))]) rfl k) ?_
        show own_Go p e below s _ _ _ (T66.setTop (mkF m 78 #[.val (.int p0), .val (.long p1), .second, .val (.long p2), .second, .val (.ref w1), .val (.int (0 : Int32)), .val (.int (0 : Int32)), .val (.int (1 : Int32)), .val (.int (0 : Int32))] []))
        refine own_via (fun _ k => XS.iload X66.here hx rfl (hb hby at_78) rfl k) ?_
        show own_Go p e below s _ _ _ (T66.setTop (mkF m 80 #[.val (.int p0), .val (.long p1), .second, .val (.long p2), .second, .val (.ref w1), .val (.int (0 : Int32)), .val (.int (0 : Int32)), .val (.int (1 : Int32)), .val (.int (0 : Int32))] [(.int (0 : Int32))]))
        refine own_via (fun _ k => XS.ifYes X66.here hx rfl (pc0 := 80) (pc' := 104) rfl (hb hby at_80) rfl ((if0 _ _).trans (teq (by decide : (0 : Int32) = (0 : Int32))).1) (by decide) (by decide) k) ?_
        show own_Go p e below s _ _ _ (T66.setTop (mkF m 104 #[.val (.int p0), .val (.long p1), .second, .val (.long p2), .second, .val (.ref w1), .val (.int (0 : Int32)), .val (.int (0 : Int32)), .val (.int (1 : Int32)), .val (.int (0 : Int32))] []))
        refine own_via (fun _ k => XS.iload X66.here hx rfl (hb hby at_104) rfl k) ?_
        show own_Go p e below s _ _ _ (T66.setTop (mkF m 106 #[.val (.int p0), .val (.long p1), .second, .val (.long p2), .second, .val (.ref w1), .val (.int (0 : Int32)), .val (.int (0 : Int32)), .val (.int (1 : Int32)), .val (.int (0 : Int32))] [(.int (1 : Int32))]))
        refine own_via (fun _ k => XS.ifNo X66.here hx rfl (hb hby at_106) rfl ((if0 _ _).trans (feq (by decide : ¬ ((1 : Int32) = (0 : Int32)))).1) k) ?_
        show own_Go p e below s _ _ _ (T66.setTop (mkF m 109 #[.val (.int p0), .val (.long p1), .second, .val (.long p2), .second, .val (.ref w1), .val (.int (0 : Int32)), .val (.int (0 : Int32)), .val (.int (1 : Int32)), .val (.int (0 : Int32))] []))
        refine own_via (fun _ k => XS.iload X66.here hx rfl (hb hby at_109) rfl k) ?_
        show own_Go p e below s _ _ _ (T66.setTop (mkF m 111 #[.val (.int p0), .val (.long p1), .second, .val (.long p2), .second, .val (.ref w1), .val (.int (0 : Int32)), .val (.int (0 : Int32)), .val (.int (1 : Int32)), .val (.int (0 : Int32))] [(.int (0 : Int32))]))
        refine own_via (fun _ k => XS.ifNo X66.here hx rfl (hb hby at_111) rfl ((if0 _ _).trans (teq (by decide : (0 : Int32) = (0 : Int32))).2) k) ?_
        show own_Go p e below s _ _ _ (T66.setTop (mkF m 114 #[.val (.int p0), .val (.long p1), .second, .val (.long p2), .second, .val (.ref w1), .val (.int (0 : Int32)), .val (.int (0 : Int32)), .val (.int (1 : Int32)), .val (.int (0 : Int32))] []))
        refine own_via (fun _ k => XS.iconst X66.here hx rfl (hb hby at_114) k) ?_
        show own_Go p e below s _ _ _ (T66.setTop (mkF m 115 #[.val (.int p0), .val (.long p1), .second, .val (.long p2), .second, .val (.ref w1), .val (.int (0 : Int32)), .val (.int (0 : Int32)), .val (.int (1 : Int32)), .val (.int (0 : Int32))] [(.int (1 : Int32))]))
        refine own_via (fun _ k => XS.goto X66.here hx rfl (pc0 := 115) (pc' := 119) rfl (hb hby at_115) (by decide) (by decide) k) ?_
        show own_Go p e below s _ _ _ (T66.setTop (mkF m 119 #[.val (.int p0), .val (.long p1), .second, .val (.long p2), .second, .val (.ref w1), .val (.int (0 : Int32)), .val (.int (0 : Int32)), .val (.int (1 : Int32)), .val (.int (0 : Int32))] [(.int (1 : Int32))]))
        exact own_retZ X66 hx hlk (t := .boolean) Bd.returns (by simp) (hb hby at_119) (z' := (1 : Int32)) (by first | rfl | decide) ⟨rfl, (Fr.nil n0)⟩ (by decide) (by decide)
      · refine own_tr st63 ?_
        show own_Go p e below s _ _ _ (T63.setTop (mkF m 27 #[.val (.int p0), .val (.long p1), .second, .val (.long p2), .second, .val (.ref w1), .val (.int (0 : Int32)), .unset, .unset, .unset] [(.int (0 : Int32)), (.int (0 : Int32))]))
        refine own_via (fun _ k => XS.icmpNo X63.here hx rfl (hb hby at_27) rfl (teq (by decide : (0 : Int32) = (0 : Int32))).2 k) ?_
        show own_Go p e below s _ _ _ (T63.setTop (mkF m 30 #[.val (.int p0), .val (.long p1), .second, .val (.long p2), .second, .val (.ref w1), .val (.int (0 : Int32)), .unset, .unset, .unset] []))
        refine own_via (fun _ k => XS.iconst X63.here hx rfl (hb hby at_30) k) ?_
        show own_Go p e below s _ _ _ (T63.setTop (mkF m 31 #[.val (.int p0), .val (.long p1), .second, .val (.long p2), .second, .val (.ref w1), .val (.int (0 : Int32)), .unset, .unset, .unset] [(.int (1 : Int32))]))
        refine own_via (fun _ k => XS.goto X63.here hx rfl (pc0 := 31) (pc' := 35) rfl (hb hby at_31) (by decide) (by decide) k) ?_
        show own_Go p e below s _ _ _ (T63.setTop (mkF m 35 #[.val (.int p0), .val (.long p1), .second, .val (.long p2), .second, .val (.ref w1), .val (.int (0 : Int32)), .unset, .unset, .unset] [(.int (1 : Int32))]))
        refine own_via (fun _ k => XS.istore X63.here hx rfl (hb hby at_35) rfl (l' := #[.val (.int p0), .val (.long p1), .second, .val (.long p2), .second, .val (.ref w1), .val (.int (0 : Int32)), .val (.int (1 : Int32)), .unset, .unset]) rfl k) ?_
        show own_Go p e below s _ _ _ (T63.setTop (mkF m 37 #[.val (.int p0), .val (.long p1), .second, .val (.long p2), .second, .val (.ref w1), .val (.int (0 : Int32)), .val (.int (1 : Int32)), .unset, .unset] []))
        refine own_via (fun _ k => XS.aload X63.here hx rfl (hb hby at_37) rfl rfl k) ?_
        show own_Go p e below s _ _ _ (T63.setTop (mkF m 39 #[.val (.int p0), .val (.long p1), .second, .val (.long p2), .second, .val (.ref w1), .val (.int (0 : Int32)), .val (.int (1 : Int32)), .unset, .unset] [(.ref w1)]))
        refine own_via (fun _ k => XS.lconst X63.here hx rfl (hb hby at_39) k) ?_
        show own_Go p e below s _ _ _ (T63.setTop (mkF m 40 #[.val (.int p0), .val (.long p1), .second, .val (.long p2), .second, .val (.ref w1), .val (.int (0 : Int32)), .val (.int (1 : Int32)), .unset, .unset] [(.long (0 : Int64)), (.ref w1)]))
        refine own_via (fun _ k => XS.lconst X63.here hx rfl (hb hby at_40) k) ?_
        show own_Go p e below s _ _ _ (T63.setTop (mkF m 41 #[.val (.int p0), .val (.long p1), .second, .val (.long p2), .second, .val (.ref w1), .val (.int (0 : Int32)), .val (.int (1 : Int32)), .unset, .unset] [(.long (1 : Int64)), (.long (0 : Int64)), (.ref w1)]))
        obtain ⟨cq67, kq67, q67a, q67b, q67c⟩ := isOf hZ e63 E_w1
        obtain ⟨_, _, ⟨T67, L67, k67, n67⟩, -, X67, ⟨Lc67, hQ67, l67, y67, z67⟩, st67⟩ := X63.virtualBack hx (y := (⟨"com/example/bericht/bericht/selector/Comparison$Operator", "holds", "(JJ)Z"⟩ : MethodName)) (z := (⟨"com/example/bericht/bericht/selector/Comparison$Operator", "holds", "(JJ)Z"⟩ : MethodName)) hown (mvT hZ (hw _ (List.mem_of_getElem? (i := 14) rfl))) (mvT hZ (hw _ (List.mem_of_getElem? (i := 15) rfl))) (notFace_of_selects (args := #[]) (mvT hZ (hw _ (List.mem_of_getElem? (i := 17) rfl)))) (mvT hZ (hw _ (List.mem_of_getElem? (i := 17) rfl))) (mvT hZ (hw _ (List.mem_of_getElem? (i := 16) rfl))) (by decide) (backOf (W := 0) (rm3_13 l Z a0 hw [] w0 w1 w2 w3 w4 w5 h0 n0 Z0 K0) hZ (hw _ (List.mem_of_getElem? (i := 18) rfl)) (hw _ (List.mem_of_getElem? (i := 6) rfl)) (by decide) (by decide)) q67a q67c (g := (mkF m 41 #[.val (.int p0), .val (.long p1), .second, .val (.long p2), .second, .val (.ref w1), .val (.int (0 : Int32)), .val (.int (1 : Int32)), .unset, .unset] [(.long (1 : Int64)), (.long (0 : Int64)), (.ref w1)])) rfl (by rw [hml]; rfl) (Steps.refl _) (argsL := [(.long (0 : Int64)), (.long (1 : Int64))]) (rest := []) (lenOf pd3 rfl) rfl (by show 2 * 0 + _ ≤ _; exact Nat.le_of_eq rfl) (hb hby at_41) (fun _ _ => ⟨rfl, e63, (by decide : 0 + 0 ≤ _), (by decide : 0 + 0 ≤ _)⟩)
        dsimp only [Pt.U, Pt.locs, Pt.cells, Pt.slots] at X67 l67 y67 z67 st67 hQ67
        subst l67 y67 z67
        obtain ⟨rfl, e67, hO67⟩ := hQ67
        obtain rfl := hO67
        refine own_tr st67 ?_
        show own_Go p e below s _ _ _ (T67.setTop (mkF m 44 #[.val (.int p0), .val (.long p1), .second, .val (.long p2), .second, .val (.ref w1), .val (.int (0 : Int32)), .val (.int (1 : Int32)), .unset, .unset] [(.int (0 : Int32))]))
        refine own_via (fun _ k => XS.aload X67.here hx rfl (hb hby at_44) rfl rfl k) ?_
        show own_Go p e below s _ _ _ (T67.setTop (mkF m 46 #[.val (.int p0), .val (.long p1), .second, .val (.long p2), .second, .val (.ref w1), .val (.int (0 : Int32)), .val (.int (1 : Int32)), .unset, .unset] [(.ref w1), (.int (0 : Int32))]))
        refine own_via (fun _ k => XS.lconst X67.here hx rfl (hb hby at_46) k) ?_
        show own_Go p e below s _ _ _ (T67.setTop (mkF m 47 #[.val (.int p0), .val (.long p1), .second, .val (.long p2), .second, .val (.ref w1), .val (.int (0 : Int32)), .val (.int (1 : Int32)), .unset, .unset] [(.long (1 : Int64)), (.ref w1), (.int (0 : Int32))]))
        refine own_via (fun _ k => XS.lconst X67.here hx rfl (hb hby at_47) k) ?_
        show own_Go p e below s _ _ _ (T67.setTop (mkF m 48 #[.val (.int p0), .val (.long p1), .second, .val (.long p2), .second, .val (.ref w1), .val (.int (0 : Int32)), .val (.int (1 : Int32)), .unset, .unset] [(.long (0 : Int64)), (.long (1 : Int64)), (.ref w1), (.int (0 : Int32))]))
        obtain ⟨cq68, kq68, q68a, q68b, q68c⟩ := isOf hZ e67 E_w1
        obtain ⟨_, _, ⟨T68, L68, k68, n68⟩, -, X68, ⟨Lc68, hQ68, l68, y68, z68⟩, st68⟩ := X67.virtualBack hx (y := (⟨"com/example/bericht/bericht/selector/Comparison$Operator", "holds", "(JJ)Z"⟩ : MethodName)) (z := (⟨"com/example/bericht/bericht/selector/Comparison$Operator", "holds", "(JJ)Z"⟩ : MethodName)) hown (mvT hZ (hw _ (List.mem_of_getElem? (i := 14) rfl))) (mvT hZ (hw _ (List.mem_of_getElem? (i := 15) rfl))) (notFace_of_selects (args := #[]) (mvT hZ (hw _ (List.mem_of_getElem? (i := 17) rfl)))) (mvT hZ (hw _ (List.mem_of_getElem? (i := 17) rfl))) (mvT hZ (hw _ (List.mem_of_getElem? (i := 16) rfl))) (by decide) (backOf (W := 1) (rm3_14 l Z a0 hw [] w0 w1 w2 w3 w4 w5 h0 n0 Z0 K0) hZ (hw _ (List.mem_of_getElem? (i := 18) rfl)) (hw _ (List.mem_of_getElem? (i := 6) rfl)) (by decide) (by decide)) q68a q68c (g := (mkF m 48 #[.val (.int p0), .val (.long p1), .second, .val (.long p2), .second, .val (.ref w1), .val (.int (0 : Int32)), .val (.int (1 : Int32)), .unset, .unset] [(.long (0 : Int64)), (.long (1 : Int64)), (.ref w1), (.int (0 : Int32))])) rfl (by rw [hml]; rfl) (Steps.refl _) (argsL := [(.long (1 : Int64)), (.long (0 : Int64))]) (rest := [(.int (0 : Int32))]) (lenOf pd3 rfl) rfl (by show 2 * 0 + _ ≤ _; exact Nat.le_of_eq rfl) (hb hby at_48) (fun _ _ => ⟨rfl, e67, (by decide : 0 + 0 ≤ _), (by decide : 0 + 0 ≤ _)⟩)
        dsimp only [Pt.U, Pt.locs, Pt.cells, Pt.slots] at X68 l68 y68 z68 st68 hQ68
        subst l68 y68 z68
        obtain ⟨rfl, e68, hO68⟩ := hQ68
        obtain rfl := hO68
        refine own_tr st68 ?_
        show own_Go p e below s _ _ _ (T68.setTop (mkF m 51 #[.val (.int p0), .val (.long p1), .second, .val (.long p2), .second, .val (.ref w1), .val (.int (0 : Int32)), .val (.int (1 : Int32)), .unset, .unset] [(.int (1 : Int32)), (.int (0 : Int32))]))
        refine own_via (fun _ k => XS.icmpNo X68.here hx rfl (hb hby at_51) rfl (feq (by decide : ¬ ((0 : Int32) = (1 : Int32)))).1 k) ?_
        show own_Go p e below s _ _ _ (T68.setTop (mkF m 54 #[.val (.int p0), .val (.long p1), .second, .val (.long p2), .second, .val (.ref w1), .val (.int (0 : Int32)), .val (.int (1 : Int32)), .unset, .unset] []))
        refine own_via (fun _ k => XS.iconst X68.here hx rfl (hb hby at_54) k) ?_
        show own_Go p e below s _ _ _ (T68.setTop (mkF m 55 #[.val (.int p0), .val (.long p1), .second, .val (.long p2), .second, .val (.ref w1), .val (.int (0 : Int32)), .val (.int (1 : Int32)), .unset, .unset] [(.int (1 : Int32))]))
        refine own_via (fun _ k => XS.goto X68.here hx rfl (pc0 := 55) (pc' := 59) rfl (hb hby at_55) (by decide) (by decide) k) ?_
        show own_Go p e below s _ _ _ (T68.setTop (mkF m 59 #[.val (.int p0), .val (.long p1), .second, .val (.long p2), .second, .val (.ref w1), .val (.int (0 : Int32)), .val (.int (1 : Int32)), .unset, .unset] [(.int (1 : Int32))]))
        refine own_via (fun _ k => XS.istore X68.here hx rfl (hb hby at_59) rfl (l' := #[.val (.int p0), .val (.long p1), .second, .val (.long p2), .second, .val (.ref w1), .val (.int (0 : Int32)), .val (.int (1 : Int32)), .val (.int (1 : Int32)), .unset]) rfl k) ?_
        show own_Go p e below s _ _ _ (T68.setTop (mkF m 61 #[.val (.int p0), .val (.long p1), .second, .val (.long p2), .second, .val (.ref w1), .val (.int (0 : Int32)), .val (.int (1 : Int32)), .val (.int (1 : Int32)), .unset] []))
        refine own_via (fun _ k => XS.aload X68.here hx rfl (hb hby at_61) rfl rfl k) ?_
        show own_Go p e below s _ _ _ (T68.setTop (mkF m 63 #[.val (.int p0), .val (.long p1), .second, .val (.long p2), .second, .val (.ref w1), .val (.int (0 : Int32)), .val (.int (1 : Int32)), .val (.int (1 : Int32)), .unset] [(.ref w1)]))
        obtain ⟨cq69, kq69, q69a, q69b, q69c⟩ := isOf hZ e68 E_w1
        obtain ⟨_, _, ⟨T69, L69, k69, n69⟩, -, X69, ⟨Lc69, hQ69, l69, y69, z69⟩, st69⟩ := X68.virtualBack hx (y := (⟨"com/example/bericht/bericht/selector/Comparison$Operator", "flipped", "()Lcom/example/bericht/bericht/selector/Comparison$Operator;"⟩ : MethodName)) (z := (⟨"com/example/bericht/bericht/selector/Comparison$Operator", "flipped", "()Lcom/example/bericht/bericht/selector/Comparison$Operator;"⟩ : MethodName)) hown (mvT hZ (hw _ (List.mem_of_getElem? (i := 28) rfl))) (mvT hZ (hw _ (List.mem_of_getElem? (i := 29) rfl))) (notFace_of_selects (args := #[]) (mvT hZ (hw _ (List.mem_of_getElem? (i := 31) rfl)))) (mvT hZ (hw _ (List.mem_of_getElem? (i := 31) rfl))) (mvT hZ (hw _ (List.mem_of_getElem? (i := 30) rfl))) (by decide) (backOf (W := 0) (rm5_4 l Z a0 hw [] w0 w1 w2 w3 w4 w5 h0 n0 Z0 K0) hZ (hw _ (List.mem_of_getElem? (i := 32) rfl)) (hw _ (List.mem_of_getElem? (i := 6) rfl)) (by decide) (by decide)) q69a q69c (g := (mkF m 63 #[.val (.int p0), .val (.long p1), .second, .val (.long p2), .second, .val (.ref w1), .val (.int (0 : Int32)), .val (.int (1 : Int32)), .val (.int (1 : Int32)), .unset] [(.ref w1)])) rfl (by rw [hml]; rfl) (Steps.refl _) (argsL := []) (rest := []) (lenOf pd4 rfl) rfl (by show 2 * 0 + _ ≤ _; exact Nat.le_of_eq rfl) (hb hby at_63) (fun _ _ => ⟨rfl, e68, (by decide : 0 + 0 ≤ _), (by decide : 0 + 0 ≤ _)⟩)
        dsimp only [Pt.U, Pt.locs, Pt.cells, Pt.slots] at X69 l69 y69 z69 st69 hQ69
        subst l69 y69 z69
        obtain ⟨rfl, e69, hO69⟩ := hQ69
        obtain rfl := hO69
        refine own_tr st69 ?_
        show own_Go p e below s _ _ _ (T69.setTop (mkF m 66 #[.val (.int p0), .val (.long p1), .second, .val (.long p2), .second, .val (.ref w1), .val (.int (0 : Int32)), .val (.int (1 : Int32)), .val (.int (1 : Int32)), .unset] [(.ref w3)]))
        refine own_via (fun _ k => XS.aload X69.here hx rfl (hb hby at_66) rfl rfl k) ?_
        show own_Go p e below s _ _ _ (T69.setTop (mkF m 68 #[.val (.int p0), .val (.long p1), .second, .val (.long p2), .second, .val (.ref w1), .val (.int (0 : Int32)), .val (.int (1 : Int32)), .val (.int (1 : Int32)), .unset] [(.ref w1), (.ref w3)]))
        refine own_via (fun _ k => Jvm.RoadKit.acmp (g := (mkF m 68 #[.val (.int p0), .val (.long p1), .second, .val (.long p2), .second, .val (.ref w1), .val (.int (0 : Int32)), .val (.int (1 : Int32)), .val (.int (1 : Int32)), .unset] [(.ref w1), (.ref w3)])) X69 hx rfl rfl rfl (pc0 := 68) (pc' := 75) (same := false) rfl (hb hby at_68) rfl (decide_eq_false fun q => (fun q => n_w1_w3 q.symm) (Value.ref.inj q)) (by decide) (by decide) k) ?_
        show own_Go p e below s _ _ _ (T69.setTop (mkF m 75 #[.val (.int p0), .val (.long p1), .second, .val (.long p2), .second, .val (.ref w1), .val (.int (0 : Int32)), .val (.int (1 : Int32)), .val (.int (1 : Int32)), .unset] []))
        refine own_via (fun _ k => XS.iconst X69.here hx rfl (hb hby at_75) k) ?_
        show own_Go p e below s _ _ _ (T69.setTop (mkF m 76 #[.val (.int p0), .val (.long p1), .second, .val (.long p2), .second, .val (.ref w1), .val (.int (0 : Int32)), .val (.int (1 : Int32)), .val (.int (1 : Int32)), .unset] [(.int (0 : Int32))]))
        refine own_via (fun _ k => XS.istore X69.here hx rfl (hb hby at_76) rfl (l' := #[.val (.int p0), .val (.long p1), .second, .val (.long p2), .second, .val (.ref w1), .val (.int (0 : Int32)), .val (.int (1 : Int32)), .val (.int (1 : Int32)), .val (.int (0 : Int32))]) rfl k) ?_
        show own_Go p e below s _ _ _ (T69.setTop (mkF m 78 #[.val (.int p0), .val (.long p1), .second, .val (.long p2), .second, .val (.ref w1), .val (.int (0 : Int32)), .val (.int (1 : Int32)), .val (.int (1 : Int32)), .val (.int (0 : Int32))] []))
        refine own_via (fun _ k => XS.iload X69.here hx rfl (hb hby at_78) rfl k) ?_
        show own_Go p e below s _ _ _ (T69.setTop (mkF m 80 #[.val (.int p0), .val (.long p1), .second, .val (.long p2), .second, .val (.ref w1), .val (.int (0 : Int32)), .val (.int (1 : Int32)), .val (.int (1 : Int32)), .val (.int (0 : Int32))] [(.int (0 : Int32))]))
        refine own_via (fun _ k => XS.ifYes X69.here hx rfl (pc0 := 80) (pc' := 104) rfl (hb hby at_80) rfl ((if0 _ _).trans (teq (by decide : (0 : Int32) = (0 : Int32))).1) (by decide) (by decide) k) ?_
        show own_Go p e below s _ _ _ (T69.setTop (mkF m 104 #[.val (.int p0), .val (.long p1), .second, .val (.long p2), .second, .val (.ref w1), .val (.int (0 : Int32)), .val (.int (1 : Int32)), .val (.int (1 : Int32)), .val (.int (0 : Int32))] []))
        refine own_via (fun _ k => XS.iload X69.here hx rfl (hb hby at_104) rfl k) ?_
        show own_Go p e below s _ _ _ (T69.setTop (mkF m 106 #[.val (.int p0), .val (.long p1), .second, .val (.long p2), .second, .val (.ref w1), .val (.int (0 : Int32)), .val (.int (1 : Int32)), .val (.int (1 : Int32)), .val (.int (0 : Int32))] [(.int (1 : Int32))]))
        refine own_via (fun _ k => XS.ifNo X69.here hx rfl (hb hby at_106) rfl ((if0 _ _).trans (feq (by decide : ¬ ((1 : Int32) = (0 : Int32)))).1) k) ?_
        show own_Go p e below s _ _ _ (T69.setTop (mkF m 109 #[.val (.int p0), .val (.long p1), .second, .val (.long p2), .second, .val (.ref w1), .val (.int (0 : Int32)), .val (.int (1 : Int32)), .val (.int (1 : Int32)), .val (.int (0 : Int32))] []))
        refine own_via (fun _ k => XS.iload X69.here hx rfl (hb hby at_109) rfl k) ?_
        show own_Go p e below s _ _ _ (T69.setTop (mkF m 111 #[.val (.int p0), .val (.long p1), .second, .val (.long p2), .second, .val (.ref w1), .val (.int (0 : Int32)), .val (.int (1 : Int32)), .val (.int (1 : Int32)), .val (.int (0 : Int32))] [(.int (0 : Int32))]))
        refine own_via (fun _ k => XS.ifNo X69.here hx rfl (hb hby at_111) rfl ((if0 _ _).trans (teq (by decide : (0 : Int32) = (0 : Int32))).2) k) ?_
        show own_Go p e below s _ _ _ (T69.setTop (mkF m 114 #[.val (.int p0), .val (.long p1), .second, .val (.long p2), .second, .val (.ref w1), .val (.int (0 : Int32)), .val (.int (1 : Int32)), .val (.int (1 : Int32)), .val (.int (0 : Int32))] []))
        refine own_via (fun _ k => XS.iconst X69.here hx rfl (hb hby at_114) k) ?_
        show own_Go p e below s _ _ _ (T69.setTop (mkF m 115 #[.val (.int p0), .val (.long p1), .second, .val (.long p2), .second, .val (.ref w1), .val (.int (0 : Int32)), .val (.int (1 : Int32)), .val (.int (1 : Int32)), .val (.int (0 : Int32))] [(.int (1 : Int32))]))
        refine own_via (fun _ k => XS.goto X69.here hx rfl (pc0 := 115) (pc' := 119) rfl (hb hby at_115) (by decide) (by decide) k) ?_
        show own_Go p e below s _ _ _ (T69.setTop (mkF m 119 #[.val (.int p0), .val (.long p1), .second, .val (.long p2), .second, .val (.ref w1), .val (.int (0 : Int32)), .val (.int (1 : Int32)), .val (.int (1 : Int32)), .val (.int (0 : Int32))] [(.int (1 : Int32))]))
        exact own_retZ X69 hx hlk (t := .boolean) Bd.returns (by simp) (hb hby at_119) (z' := (1 : Int32)) (by first | rfl | decide) ⟨rfl, (Fr.nil n0)⟩ (by decide) (by decide)
  · refine own_via st1 ?_
    show own_Go p e below s _ _ _ (T1.setTop (mkF m 4 #[.val (.int p0), .val (.long p1), .second, .val (.long p2), .second, .unset, .unset, .unset, .unset, .unset] [(.ref w5)]))
    refine own_via (fun _ k => XS.astore X1.here hx rfl (hb hby at_4) rfl rfl (l' := #[.val (.int p0), .val (.long p1), .second, .val (.long p2), .second, .val (.ref w5), .unset, .unset, .unset, .unset]) rfl k) ?_
    show own_Go p e below s _ _ _ (T1.setTop (mkF m 6 #[.val (.int p0), .val (.long p1), .second, .val (.long p2), .second, .val (.ref w5), .unset, .unset, .unset, .unset] []))
    refine own_via (fun _ k => XS.aload X1.here hx rfl (hb hby at_6) rfl rfl k) ?_
    show own_Go p e below s _ _ _ (T1.setTop (mkF m 8 #[.val (.int p0), .val (.long p1), .second, .val (.long p2), .second, .val (.ref w5), .unset, .unset, .unset, .unset] [(.ref w5)]))
    obtain ⟨cq70, kq70, q70a, q70b, q70c⟩ := isOf hZ e1 E_w5
    obtain ⟨_, _, ⟨T70, L70, k70, n70⟩, -, X70, ⟨Lc70, hQ70, l70, y70, z70⟩, st70⟩ := X1.virtualBack hx (y := (⟨"com/example/bericht/bericht/selector/Comparison$Operator", "isEquality", "()Z"⟩ : MethodName)) (z := (⟨"com/example/bericht/bericht/selector/Comparison$Operator", "isEquality", "()Z"⟩ : MethodName)) hown (mvT hZ (hw _ (List.mem_of_getElem? (i := 8) rfl))) (mvT hZ (hw _ (List.mem_of_getElem? (i := 9) rfl))) (notFace_of_selects (args := #[]) (mvT hZ (hw _ (List.mem_of_getElem? (i := 11) rfl)))) (mvT hZ (hw _ (List.mem_of_getElem? (i := 11) rfl))) (mvT hZ (hw _ (List.mem_of_getElem? (i := 10) rfl))) (by decide) (backOf (W := 0) (rm2_5 l Z a0 hw [] w0 w1 w2 w3 w4 w5 h0 n0 Z0 K0) hZ (hw _ (List.mem_of_getElem? (i := 12) rfl)) (hw _ (List.mem_of_getElem? (i := 6) rfl)) (by decide) (by decide)) q70a q70c (g := (mkF m 8 #[.val (.int p0), .val (.long p1), .second, .val (.long p2), .second, .val (.ref w5), .unset, .unset, .unset, .unset] [(.ref w5)])) rfl (by rw [hml]; rfl) (Steps.refl _) (argsL := []) (rest := []) (lenOf pd1 rfl) rfl (by show 2 * 0 + _ ≤ _; exact Nat.le_of_eq rfl) (hb hby at_8) (fun _ _ => ⟨rfl, e1, (by decide : 0 + 0 ≤ _), (by decide : 0 + 0 ≤ _)⟩)
    dsimp only [Pt.U, Pt.locs, Pt.cells, Pt.slots] at X70 l70 y70 z70 st70 hQ70
    subst l70 y70 z70
    obtain ⟨rfl, e70, hO70⟩ := hQ70
    obtain rfl := hO70
    refine own_tr st70 ?_
    show own_Go p e below s _ _ _ (T70.setTop (mkF m 11 #[.val (.int p0), .val (.long p1), .second, .val (.long p2), .second, .val (.ref w5), .unset, .unset, .unset, .unset] [(.int (0 : Int32))]))
    refine own_via (fun _ k => XS.istore X70.here hx rfl (hb hby at_11) rfl (l' := #[.val (.int p0), .val (.long p1), .second, .val (.long p2), .second, .val (.ref w5), .val (.int (0 : Int32)), .unset, .unset, .unset]) rfl k) ?_
    show own_Go p e below s _ _ _ (T70.setTop (mkF m 13 #[.val (.int p0), .val (.long p1), .second, .val (.long p2), .second, .val (.ref w5), .val (.int (0 : Int32)), .unset, .unset, .unset] []))
    refine own_via (fun _ k => XS.aload X70.here hx rfl (hb hby at_13) rfl rfl k) ?_
    show own_Go p e below s _ _ _ (T70.setTop (mkF m 15 #[.val (.int p0), .val (.long p1), .second, .val (.long p2), .second, .val (.ref w5), .val (.int (0 : Int32)), .unset, .unset, .unset] [(.ref w5)]))
    refine own_via (fun _ k => XS.lloadN X70.here hx rfl (hb hby at_15) rfl k) ?_
    show own_Go p e below s _ _ _ (T70.setTop (mkF m 16 #[.val (.int p0), .val (.long p1), .second, .val (.long p2), .second, .val (.ref w5), .val (.int (0 : Int32)), .unset, .unset, .unset] [(.long p1), (.ref w5)]))
    refine own_via (fun _ k => XS.lloadN X70.here hx rfl (hb hby at_16) rfl k) ?_
    show own_Go p e below s _ _ _ (T70.setTop (mkF m 17 #[.val (.int p0), .val (.long p1), .second, .val (.long p2), .second, .val (.ref w5), .val (.int (0 : Int32)), .unset, .unset, .unset] [(.long p2), (.long p1), (.ref w5)]))
    obtain ⟨cq71, kq71, q71a, q71b, q71c⟩ := isOf hZ e70 E_w5
    obtain ⟨_, _, ⟨T71, L71, k71, n71⟩, -, X71, ⟨Lc71, hQ71, l71, y71, z71⟩, st71⟩ := X70.virtualBack hx (y := (⟨"com/example/bericht/bericht/selector/Comparison$Operator", "holds", "(JJ)Z"⟩ : MethodName)) (z := (⟨"com/example/bericht/bericht/selector/Comparison$Operator", "holds", "(JJ)Z"⟩ : MethodName)) hown (mvT hZ (hw _ (List.mem_of_getElem? (i := 14) rfl))) (mvT hZ (hw _ (List.mem_of_getElem? (i := 15) rfl))) (notFace_of_selects (args := #[]) (mvT hZ (hw _ (List.mem_of_getElem? (i := 17) rfl)))) (mvT hZ (hw _ (List.mem_of_getElem? (i := 17) rfl))) (mvT hZ (hw _ (List.mem_of_getElem? (i := 16) rfl))) (by decide) (backOf (W := 0) (rm3_15 l Z a0 hw [] p1 p2 w0 w1 w2 w3 w4 w5 h0 n0 Z0 K0) hZ (hw _ (List.mem_of_getElem? (i := 18) rfl)) (hw _ (List.mem_of_getElem? (i := 6) rfl)) (by decide) (by decide)) q71a q71c (g := (mkF m 17 #[.val (.int p0), .val (.long p1), .second, .val (.long p2), .second, .val (.ref w5), .val (.int (0 : Int32)), .unset, .unset, .unset] [(.long p2), (.long p1), (.ref w5)])) rfl (by rw [hml]; rfl) (Steps.refl _) (argsL := [(.long p1), (.long p2)]) (rest := []) (lenOf pd3 rfl) rfl (by show 2 * 0 + _ ≤ _; exact Nat.le_of_eq rfl) (hb hby at_17) (fun _ _ => ⟨rfl, e70, (by decide : 0 + 0 ≤ _), (by decide : 0 + 0 ≤ _)⟩)
    dsimp only [Pt.U, Pt.locs, Pt.cells, Pt.slots] at X71 l71 y71 z71 st71 hQ71
    subst l71 y71 z71
    obtain ⟨rfl, e71, hO71⟩ := hQ71
    rcases hO71 with ⟨hr71_0_0, rfl⟩ | ⟨hr71_1_0, rfl⟩
    · refine own_tr st71 ?_
      show own_Go p e below s _ _ _ (T71.setTop (mkF m 20 #[.val (.int p0), .val (.long p1), .second, .val (.long p2), .second, .val (.ref w5), .val (.int (0 : Int32)), .unset, .unset, .unset] [(.int (0 : Int32))]))
      refine own_via (fun _ k => XS.aload X71.here hx rfl (hb hby at_20) rfl rfl k) ?_
      show own_Go p e below s _ _ _ (T71.setTop (mkF m 22 #[.val (.int p0), .val (.long p1), .second, .val (.long p2), .second, .val (.ref w5), .val (.int (0 : Int32)), .unset, .unset, .unset] [(.ref w5), (.int (0 : Int32))]))
      refine own_via (fun _ k => XS.lloadN X71.here hx rfl (hb hby at_22) rfl k) ?_
      show own_Go p e below s _ _ _ (T71.setTop (mkF m 23 #[.val (.int p0), .val (.long p1), .second, .val (.long p2), .second, .val (.ref w5), .val (.int (0 : Int32)), .unset, .unset, .unset] [(.long p2), (.ref w5), (.int (0 : Int32))]))
      refine own_via (fun _ k => XS.lloadN X71.here hx rfl (hb hby at_23) rfl k) ?_
      show own_Go p e below s _ _ _ (T71.setTop (mkF m 24 #[.val (.int p0), .val (.long p1), .second, .val (.long p2), .second, .val (.ref w5), .val (.int (0 : Int32)), .unset, .unset, .unset] [(.long p1), (.long p2), (.ref w5), (.int (0 : Int32))]))
      obtain ⟨cq72, kq72, q72a, q72b, q72c⟩ := isOf hZ e71 E_w5
      obtain ⟨_, _, ⟨T72, L72, k72, n72⟩, -, X72, ⟨Lc72, hQ72, l72, y72, z72⟩, st72⟩ := X71.virtualBack hx (y := (⟨"com/example/bericht/bericht/selector/Comparison$Operator", "holds", "(JJ)Z"⟩ : MethodName)) (z := (⟨"com/example/bericht/bericht/selector/Comparison$Operator", "holds", "(JJ)Z"⟩ : MethodName)) hown (mvT hZ (hw _ (List.mem_of_getElem? (i := 14) rfl))) (mvT hZ (hw _ (List.mem_of_getElem? (i := 15) rfl))) (notFace_of_selects (args := #[]) (mvT hZ (hw _ (List.mem_of_getElem? (i := 17) rfl)))) (mvT hZ (hw _ (List.mem_of_getElem? (i := 17) rfl))) (mvT hZ (hw _ (List.mem_of_getElem? (i := 16) rfl))) (by decide) (backOf (W := 1) (rm3_15 l Z a0 hw [] p2 p1 w0 w1 w2 w3 w4 w5 h0 n0 Z0 K0) hZ (hw _ (List.mem_of_getElem? (i := 18) rfl)) (hw _ (List.mem_of_getElem? (i := 6) rfl)) (by decide) (by decide)) q72a q72c (g := (mkF m 24 #[.val (.int p0), .val (.long p1), .second, .val (.long p2), .second, .val (.ref w5), .val (.int (0 : Int32)), .unset, .unset, .unset] [(.long p1), (.long p2), (.ref w5), (.int (0 : Int32))])) rfl (by rw [hml]; rfl) (Steps.refl _) (argsL := [(.long p2), (.long p1)]) (rest := [(.int (0 : Int32))]) (lenOf pd3 rfl) rfl (by show 2 * 0 + _ ≤ _; exact Nat.le_of_eq rfl) (hb hby at_24) (fun _ _ => ⟨rfl, e71, (by decide : 0 + 0 ≤ _), (by decide : 0 + 0 ≤ _)⟩)
      dsimp only [Pt.U, Pt.locs, Pt.cells, Pt.slots] at X72 l72 y72 z72 st72 hQ72
      subst l72 y72 z72
      obtain ⟨rfl, e72, hO72⟩ := hQ72
      rcases hO72 with ⟨hr72_0_0, rfl⟩ | ⟨hr72_1_0, rfl⟩
      · refine own_tr st72 ?_
        show own_Go p e below s _ _ _ (T72.setTop (mkF m 27 #[.val (.int p0), .val (.long p1), .second, .val (.long p2), .second, .val (.ref w5), .val (.int (0 : Int32)), .unset, .unset, .unset] [(.int (0 : Int32)), (.int (0 : Int32))]))
        refine own_via (fun _ k => XS.icmpNo X72.here hx rfl (hb hby at_27) rfl (teq (by decide : (0 : Int32) = (0 : Int32))).2 k) ?_
        show own_Go p e below s _ _ _ (T72.setTop (mkF m 30 #[.val (.int p0), .val (.long p1), .second, .val (.long p2), .second, .val (.ref w5), .val (.int (0 : Int32)), .unset, .unset, .unset] []))
        refine own_via (fun _ k => XS.iconst X72.here hx rfl (hb hby at_30) k) ?_
        show own_Go p e below s _ _ _ (T72.setTop (mkF m 31 #[.val (.int p0), .val (.long p1), .second, .val (.long p2), .second, .val (.ref w5), .val (.int (0 : Int32)), .unset, .unset, .unset] [(.int (1 : Int32))]))
        refine own_via (fun _ k => XS.goto X72.here hx rfl (pc0 := 31) (pc' := 35) rfl (hb hby at_31) (by decide) (by decide) k) ?_
        show own_Go p e below s _ _ _ (T72.setTop (mkF m 35 #[.val (.int p0), .val (.long p1), .second, .val (.long p2), .second, .val (.ref w5), .val (.int (0 : Int32)), .unset, .unset, .unset] [(.int (1 : Int32))]))
        refine own_via (fun _ k => XS.istore X72.here hx rfl (hb hby at_35) rfl (l' := #[.val (.int p0), .val (.long p1), .second, .val (.long p2), .second, .val (.ref w5), .val (.int (0 : Int32)), .val (.int (1 : Int32)), .unset, .unset]) rfl k) ?_
        show own_Go p e below s _ _ _ (T72.setTop (mkF m 37 #[.val (.int p0), .val (.long p1), .second, .val (.long p2), .second, .val (.ref w5), .val (.int (0 : Int32)), .val (.int (1 : Int32)), .unset, .unset] []))
        refine own_via (fun _ k => XS.aload X72.here hx rfl (hb hby at_37) rfl rfl k) ?_
        show own_Go p e below s _ _ _ (T72.setTop (mkF m 39 #[.val (.int p0), .val (.long p1), .second, .val (.long p2), .second, .val (.ref w5), .val (.int (0 : Int32)), .val (.int (1 : Int32)), .unset, .unset] [(.ref w5)]))
        refine own_via (fun _ k => XS.lconst X72.here hx rfl (hb hby at_39) k) ?_
        show own_Go p e below s _ _ _ (T72.setTop (mkF m 40 #[.val (.int p0), .val (.long p1), .second, .val (.long p2), .second, .val (.ref w5), .val (.int (0 : Int32)), .val (.int (1 : Int32)), .unset, .unset] [(.long (0 : Int64)), (.ref w5)]))
        refine own_via (fun _ k => XS.lconst X72.here hx rfl (hb hby at_40) k) ?_
        show own_Go p e below s _ _ _ (T72.setTop (mkF m 41 #[.val (.int p0), .val (.long p1), .second, .val (.long p2), .second, .val (.ref w5), .val (.int (0 : Int32)), .val (.int (1 : Int32)), .unset, .unset] [(.long (1 : Int64)), (.long (0 : Int64)), (.ref w5)]))
        obtain ⟨cq73, kq73, q73a, q73b, q73c⟩ := isOf hZ e72 E_w5
        obtain ⟨_, _, ⟨T73, L73, k73, n73⟩, -, X73, ⟨Lc73, hQ73, l73, y73, z73⟩, st73⟩ := X72.virtualBack hx (y := (⟨"com/example/bericht/bericht/selector/Comparison$Operator", "holds", "(JJ)Z"⟩ : MethodName)) (z := (⟨"com/example/bericht/bericht/selector/Comparison$Operator", "holds", "(JJ)Z"⟩ : MethodName)) hown (mvT hZ (hw _ (List.mem_of_getElem? (i := 14) rfl))) (mvT hZ (hw _ (List.mem_of_getElem? (i := 15) rfl))) (notFace_of_selects (args := #[]) (mvT hZ (hw _ (List.mem_of_getElem? (i := 17) rfl)))) (mvT hZ (hw _ (List.mem_of_getElem? (i := 17) rfl))) (mvT hZ (hw _ (List.mem_of_getElem? (i := 16) rfl))) (by decide) (backOf (W := 0) (rm3_16 l Z a0 hw [] w0 w1 w2 w3 w4 w5 h0 n0 Z0 K0) hZ (hw _ (List.mem_of_getElem? (i := 18) rfl)) (hw _ (List.mem_of_getElem? (i := 6) rfl)) (by decide) (by decide)) q73a q73c (g := (mkF m 41 #[.val (.int p0), .val (.long p1), .second, .val (.long p2), .second, .val (.ref w5), .val (.int (0 : Int32)), .val (.int (1 : Int32)), .unset, .unset] [(.long (1 : Int64)), (.long (0 : Int64)), (.ref w5)])) rfl (by rw [hml]; rfl) (Steps.refl _) (argsL := [(.long (0 : Int64)), (.long (1 : Int64))]) (rest := []) (lenOf pd3 rfl) rfl (by show 2 * 0 + _ ≤ _; exact Nat.le_of_eq rfl) (hb hby at_41) (fun _ _ => ⟨rfl, e72, (by decide : 0 + 0 ≤ _), (by decide : 0 + 0 ≤ _)⟩)
        dsimp only [Pt.U, Pt.locs, Pt.cells, Pt.slots] at X73 l73 y73 z73 st73 hQ73
        subst l73 y73 z73
        obtain ⟨rfl, e73, hO73⟩ := hQ73
        obtain rfl := hO73
        refine own_tr st73 ?_
        show own_Go p e below s _ _ _ (T73.setTop (mkF m 44 #[.val (.int p0), .val (.long p1), .second, .val (.long p2), .second, .val (.ref w5), .val (.int (0 : Int32)), .val (.int (1 : Int32)), .unset, .unset] [(.int (0 : Int32))]))
        refine own_via (fun _ k => XS.aload X73.here hx rfl (hb hby at_44) rfl rfl k) ?_
        show own_Go p e below s _ _ _ (T73.setTop (mkF m 46 #[.val (.int p0), .val (.long p1), .second, .val (.long p2), .second, .val (.ref w5), .val (.int (0 : Int32)), .val (.int (1 : Int32)), .unset, .unset] [(.ref w5), (.int (0 : Int32))]))
        refine own_via (fun _ k => XS.lconst X73.here hx rfl (hb hby at_46) k) ?_
        show own_Go p e below s _ _ _ (T73.setTop (mkF m 47 #[.val (.int p0), .val (.long p1), .second, .val (.long p2), .second, .val (.ref w5), .val (.int (0 : Int32)), .val (.int (1 : Int32)), .unset, .unset] [(.long (1 : Int64)), (.ref w5), (.int (0 : Int32))]))
        refine own_via (fun _ k => XS.lconst X73.here hx rfl (hb hby at_47) k) ?_
        show own_Go p e below s _ _ _ (T73.setTop (mkF m 48 #[.val (.int p0), .val (.long p1), .second, .val (.long p2), .second, .val (.ref w5), .val (.int (0 : Int32)), .val (.int (1 : Int32)), .unset, .unset] [(.long (0 : Int64)), (.long (1 : Int64)), (.ref w5), (.int (0 : Int32))]))
        obtain ⟨cq74, kq74, q74a, q74b, q74c⟩ := isOf hZ e73 E_w5
        obtain ⟨_, _, ⟨T74, L74, k74, n74⟩, -, X74, ⟨Lc74, hQ74, l74, y74, z74⟩, st74⟩ := X73.virtualBack hx (y := (⟨"com/example/bericht/bericht/selector/Comparison$Operator", "holds", "(JJ)Z"⟩ : MethodName)) (z := (⟨"com/example/bericht/bericht/selector/Comparison$Operator", "holds", "(JJ)Z"⟩ : MethodName)) hown (mvT hZ (hw _ (List.mem_of_getElem? (i := 14) rfl))) (mvT hZ (hw _ (List.mem_of_getElem? (i := 15) rfl))) (notFace_of_selects (args := #[]) (mvT hZ (hw _ (List.mem_of_getElem? (i := 17) rfl)))) (mvT hZ (hw _ (List.mem_of_getElem? (i := 17) rfl))) (mvT hZ (hw _ (List.mem_of_getElem? (i := 16) rfl))) (by decide) (backOf (W := 1) (rm3_17 l Z a0 hw [] w0 w1 w2 w3 w4 w5 h0 n0 Z0 K0) hZ (hw _ (List.mem_of_getElem? (i := 18) rfl)) (hw _ (List.mem_of_getElem? (i := 6) rfl)) (by decide) (by decide)) q74a q74c (g := (mkF m 48 #[.val (.int p0), .val (.long p1), .second, .val (.long p2), .second, .val (.ref w5), .val (.int (0 : Int32)), .val (.int (1 : Int32)), .unset, .unset] [(.long (0 : Int64)), (.long (1 : Int64)), (.ref w5), (.int (0 : Int32))])) rfl (by rw [hml]; rfl) (Steps.refl _) (argsL := [(.long (1 : Int64)), (.long (0 : Int64))]) (rest := [(.int (0 : Int32))]) (lenOf pd3 rfl) rfl (by show 2 * 0 + _ ≤ _; exact Nat.le_of_eq rfl) (hb hby at_48) (fun _ _ => ⟨rfl, e73, (by decide : 0 + 0 ≤ _), (by decide : 0 + 0 ≤ _)⟩)
        dsimp only [Pt.U, Pt.locs, Pt.cells, Pt.slots] at X74 l74 y74 z74 st74 hQ74
        subst l74 y74 z74
        obtain ⟨rfl, e74, hO74⟩ := hQ74
        obtain rfl := hO74
        refine own_tr st74 ?_
        show own_Go p e below s _ _ _ (T74.setTop (mkF m 51 #[.val (.int p0), .val (.long p1), .second, .val (.long p2), .second, .val (.ref w5), .val (.int (0 : Int32)), .val (.int (1 : Int32)), .unset, .unset] [(.int (1 : Int32)), (.int (0 : Int32))]))
        refine own_via (fun _ k => XS.icmpNo X74.here hx rfl (hb hby at_51) rfl (feq (by decide : ¬ ((0 : Int32) = (1 : Int32)))).1 k) ?_
        show own_Go p e below s _ _ _ (T74.setTop (mkF m 54 #[.val (.int p0), .val (.long p1), .second, .val (.long p2), .second, .val (.ref w5), .val (.int (0 : Int32)), .val (.int (1 : Int32)), .unset, .unset] []))
        refine own_via (fun _ k => XS.iconst X74.here hx rfl (hb hby at_54) k) ?_
        show own_Go p e below s _ _ _ (T74.setTop (mkF m 55 #[.val (.int p0), .val (.long p1), .second, .val (.long p2), .second, .val (.ref w5), .val (.int (0 : Int32)), .val (.int (1 : Int32)), .unset, .unset] [(.int (1 : Int32))]))
        refine own_via (fun _ k => XS.goto X74.here hx rfl (pc0 := 55) (pc' := 59) rfl (hb hby at_55) (by decide) (by decide) k) ?_
        show own_Go p e below s _ _ _ (T74.setTop (mkF m 59 #[.val (.int p0), .val (.long p1), .second, .val (.long p2), .second, .val (.ref w5), .val (.int (0 : Int32)), .val (.int (1 : Int32)), .unset, .unset] [(.int (1 : Int32))]))
        refine own_via (fun _ k => XS.istore X74.here hx rfl (hb hby at_59) rfl (l' := #[.val (.int p0), .val (.long p1), .second, .val (.long p2), .second, .val (.ref w5), .val (.int (0 : Int32)), .val (.int (1 : Int32)), .val (.int (1 : Int32)), .unset]) rfl k) ?_
        show own_Go p e below s _ _ _ (T74.setTop (mkF m 61 #[.val (.int p0), .val (.long p1), .second, .val (.long p2), .second, .val (.ref w5), .val (.int (0 : Int32)), .val (.int (1 : Int32)), .val (.int (1 : Int32)), .unset] []))
        refine own_via (fun _ k => XS.aload X74.here hx rfl (hb hby at_61) rfl rfl k) ?_
        show own_Go p e below s _ _ _ (T74.setTop (mkF m 63 #[.val (.int p0), .val (.long p1), .second, .val (.long p2), .second, .val (.ref w5), .val (.int (0 : Int32)), .val (.int (1 : Int32)), .val (.int (1 : Int32)), .unset] [(.ref w5)]))
        obtain ⟨cq75, kq75, q75a, q75b, q75c⟩ := isOf hZ e74 E_w5
        obtain ⟨_, _, ⟨T75, L75, k75, n75⟩, -, X75, ⟨Lc75, hQ75, l75, y75, z75⟩, st75⟩ := X74.virtualBack hx (y := (⟨"com/example/bericht/bericht/selector/Comparison$Operator", "flipped", "()Lcom/example/bericht/bericht/selector/Comparison$Operator;"⟩ : MethodName)) (z := (⟨"com/example/bericht/bericht/selector/Comparison$Operator", "flipped", "()Lcom/example/bericht/bericht/selector/Comparison$Operator;"⟩ : MethodName)) hown (mvT hZ (hw _ (List.mem_of_getElem? (i := 28) rfl))) (mvT hZ (hw _ (List.mem_of_getElem? (i := 29) rfl))) (notFace_of_selects (args := #[]) (mvT hZ (hw _ (List.mem_of_getElem? (i := 31) rfl)))) (mvT hZ (hw _ (List.mem_of_getElem? (i := 31) rfl))) (mvT hZ (hw _ (List.mem_of_getElem? (i := 30) rfl))) (by decide) (backOf (W := 0) (rm5_5 l Z a0 hw [] w0 w1 w2 w3 w4 w5 h0 n0 Z0 K0) hZ (hw _ (List.mem_of_getElem? (i := 32) rfl)) (hw _ (List.mem_of_getElem? (i := 6) rfl)) (by decide) (by decide)) q75a q75c (g := (mkF m 63 #[.val (.int p0), .val (.long p1), .second, .val (.long p2), .second, .val (.ref w5), .val (.int (0 : Int32)), .val (.int (1 : Int32)), .val (.int (1 : Int32)), .unset] [(.ref w5)])) rfl (by rw [hml]; rfl) (Steps.refl _) (argsL := []) (rest := []) (lenOf pd4 rfl) rfl (by show 2 * 0 + _ ≤ _; exact Nat.le_of_eq rfl) (hb hby at_63) (fun _ _ => ⟨rfl, e74, (by decide : 0 + 0 ≤ _), (by decide : 0 + 0 ≤ _)⟩)
        dsimp only [Pt.U, Pt.locs, Pt.cells, Pt.slots] at X75 l75 y75 z75 st75 hQ75
        subst l75 y75 z75
        obtain ⟨rfl, e75, hO75⟩ := hQ75
        obtain rfl := hO75
        refine own_tr st75 ?_
        show own_Go p e below s _ _ _ (T75.setTop (mkF m 66 #[.val (.int p0), .val (.long p1), .second, .val (.long p2), .second, .val (.ref w5), .val (.int (0 : Int32)), .val (.int (1 : Int32)), .val (.int (1 : Int32)), .unset] [(.ref w4)]))
        refine own_via (fun _ k => XS.aload X75.here hx rfl (hb hby at_66) rfl rfl k) ?_
        show own_Go p e below s _ _ _ (T75.setTop (mkF m 68 #[.val (.int p0), .val (.long p1), .second, .val (.long p2), .second, .val (.ref w5), .val (.int (0 : Int32)), .val (.int (1 : Int32)), .val (.int (1 : Int32)), .unset] [(.ref w5), (.ref w4)]))
        refine own_via (fun _ k => Jvm.RoadKit.acmp (g := (mkF m 68 #[.val (.int p0), .val (.long p1), .second, .val (.long p2), .second, .val (.ref w5), .val (.int (0 : Int32)), .val (.int (1 : Int32)), .val (.int (1 : Int32)), .unset] [(.ref w5), (.ref w4)])) X75 hx rfl rfl rfl (pc0 := 68) (pc' := 75) (same := false) rfl (hb hby at_68) rfl (decide_eq_false fun q => n_w4_w5 (Value.ref.inj q)) (by decide) (by decide) k) ?_
        show own_Go p e below s _ _ _ (T75.setTop (mkF m 75 #[.val (.int p0), .val (.long p1), .second, .val (.long p2), .second, .val (.ref w5), .val (.int (0 : Int32)), .val (.int (1 : Int32)), .val (.int (1 : Int32)), .unset] []))
        refine own_via (fun _ k => XS.iconst X75.here hx rfl (hb hby at_75) k) ?_
        show own_Go p e below s _ _ _ (T75.setTop (mkF m 76 #[.val (.int p0), .val (.long p1), .second, .val (.long p2), .second, .val (.ref w5), .val (.int (0 : Int32)), .val (.int (1 : Int32)), .val (.int (1 : Int32)), .unset] [(.int (0 : Int32))]))
        refine own_via (fun _ k => XS.istore X75.here hx rfl (hb hby at_76) rfl (l' := #[.val (.int p0), .val (.long p1), .second, .val (.long p2), .second, .val (.ref w5), .val (.int (0 : Int32)), .val (.int (1 : Int32)), .val (.int (1 : Int32)), .val (.int (0 : Int32))]) rfl k) ?_
        show own_Go p e below s _ _ _ (T75.setTop (mkF m 78 #[.val (.int p0), .val (.long p1), .second, .val (.long p2), .second, .val (.ref w5), .val (.int (0 : Int32)), .val (.int (1 : Int32)), .val (.int (1 : Int32)), .val (.int (0 : Int32))] []))
        refine own_via (fun _ k => XS.iload X75.here hx rfl (hb hby at_78) rfl k) ?_
        show own_Go p e below s _ _ _ (T75.setTop (mkF m 80 #[.val (.int p0), .val (.long p1), .second, .val (.long p2), .second, .val (.ref w5), .val (.int (0 : Int32)), .val (.int (1 : Int32)), .val (.int (1 : Int32)), .val (.int (0 : Int32))] [(.int (0 : Int32))]))
        refine own_via (fun _ k => XS.ifYes X75.here hx rfl (pc0 := 80) (pc' := 104) rfl (hb hby at_80) rfl ((if0 _ _).trans (teq (by decide : (0 : Int32) = (0 : Int32))).1) (by decide) (by decide) k) ?_
        show own_Go p e below s _ _ _ (T75.setTop (mkF m 104 #[.val (.int p0), .val (.long p1), .second, .val (.long p2), .second, .val (.ref w5), .val (.int (0 : Int32)), .val (.int (1 : Int32)), .val (.int (1 : Int32)), .val (.int (0 : Int32))] []))
        refine own_via (fun _ k => XS.iload X75.here hx rfl (hb hby at_104) rfl k) ?_
        show own_Go p e below s _ _ _ (T75.setTop (mkF m 106 #[.val (.int p0), .val (.long p1), .second, .val (.long p2), .second, .val (.ref w5), .val (.int (0 : Int32)), .val (.int (1 : Int32)), .val (.int (1 : Int32)), .val (.int (0 : Int32))] [(.int (1 : Int32))]))
        refine own_via (fun _ k => XS.ifNo X75.here hx rfl (hb hby at_106) rfl ((if0 _ _).trans (feq (by decide : ¬ ((1 : Int32) = (0 : Int32)))).1) k) ?_
        show own_Go p e below s _ _ _ (T75.setTop (mkF m 109 #[.val (.int p0), .val (.long p1), .second, .val (.long p2), .second, .val (.ref w5), .val (.int (0 : Int32)), .val (.int (1 : Int32)), .val (.int (1 : Int32)), .val (.int (0 : Int32))] []))
        refine own_via (fun _ k => XS.iload X75.here hx rfl (hb hby at_109) rfl k) ?_
        show own_Go p e below s _ _ _ (T75.setTop (mkF m 111 #[.val (.int p0), .val (.long p1), .second, .val (.long p2), .second, .val (.ref w5), .val (.int (0 : Int32)), .val (.int (1 : Int32)), .val (.int (1 : Int32)), .val (.int (0 : Int32))] [(.int (0 : Int32))]))
        refine own_via (fun _ k => XS.ifNo X75.here hx rfl (hb hby at_111) rfl ((if0 _ _).trans (teq (by decide : (0 : Int32) = (0 : Int32))).2) k) ?_
        show own_Go p e below s _ _ _ (T75.setTop (mkF m 114 #[.val (.int p0), .val (.long p1), .second, .val (.long p2), .second, .val (.ref w5), .val (.int (0 : Int32)), .val (.int (1 : Int32)), .val (.int (1 : Int32)), .val (.int (0 : Int32))] []))
        refine own_via (fun _ k => XS.iconst X75.here hx rfl (hb hby at_114) k) ?_
        show own_Go p e below s _ _ _ (T75.setTop (mkF m 115 #[.val (.int p0), .val (.long p1), .second, .val (.long p2), .second, .val (.ref w5), .val (.int (0 : Int32)), .val (.int (1 : Int32)), .val (.int (1 : Int32)), .val (.int (0 : Int32))] [(.int (1 : Int32))]))
        refine own_via (fun _ k => XS.goto X75.here hx rfl (pc0 := 115) (pc' := 119) rfl (hb hby at_115) (by decide) (by decide) k) ?_
        show own_Go p e below s _ _ _ (T75.setTop (mkF m 119 #[.val (.int p0), .val (.long p1), .second, .val (.long p2), .second, .val (.ref w5), .val (.int (0 : Int32)), .val (.int (1 : Int32)), .val (.int (1 : Int32)), .val (.int (0 : Int32))] [(.int (1 : Int32))]))
        exact own_retZ X75 hx hlk (t := .boolean) Bd.returns (by simp) (hb hby at_119) (z' := (1 : Int32)) (by first | rfl | decide) ⟨rfl, (Fr.nil n0)⟩ (by decide) (by decide)
      · refine own_tr st72 ?_
        show own_Go p e below s _ _ _ (T72.setTop (mkF m 27 #[.val (.int p0), .val (.long p1), .second, .val (.long p2), .second, .val (.ref w5), .val (.int (0 : Int32)), .unset, .unset, .unset] [(.int (1 : Int32)), (.int (0 : Int32))]))
        refine own_via (fun _ k => XS.icmpYes X72.here hx rfl (pc0 := 27) (pc' := 34) rfl (hb hby at_27) rfl (feq (by decide : ¬ ((0 : Int32) = (1 : Int32)))).2 (by decide) (by decide) k) ?_
        show own_Go p e below s _ _ _ (T72.setTop (mkF m 34 #[.val (.int p0), .val (.long p1), .second, .val (.long p2), .second, .val (.ref w5), .val (.int (0 : Int32)), .unset, .unset, .unset] []))
        refine own_via (fun _ k => XS.iconst X72.here hx rfl (hb hby at_34) k) ?_
        show own_Go p e below s _ _ _ (T72.setTop (mkF m 35 #[.val (.int p0), .val (.long p1), .second, .val (.long p2), .second, .val (.ref w5), .val (.int (0 : Int32)), .unset, .unset, .unset] [(.int (0 : Int32))]))
        refine own_via (fun _ k => XS.istore X72.here hx rfl (hb hby at_35) rfl (l' := #[.val (.int p0), .val (.long p1), .second, .val (.long p2), .second, .val (.ref w5), .val (.int (0 : Int32)), .val (.int (0 : Int32)), .unset, .unset]) rfl k) ?_
        show own_Go p e below s _ _ _ (T72.setTop (mkF m 37 #[.val (.int p0), .val (.long p1), .second, .val (.long p2), .second, .val (.ref w5), .val (.int (0 : Int32)), .val (.int (0 : Int32)), .unset, .unset] []))
        refine own_via (fun _ k => XS.aload X72.here hx rfl (hb hby at_37) rfl rfl k) ?_
        show own_Go p e below s _ _ _ (T72.setTop (mkF m 39 #[.val (.int p0), .val (.long p1), .second, .val (.long p2), .second, .val (.ref w5), .val (.int (0 : Int32)), .val (.int (0 : Int32)), .unset, .unset] [(.ref w5)]))
        refine own_via (fun _ k => XS.lconst X72.here hx rfl (hb hby at_39) k) ?_
        show own_Go p e below s _ _ _ (T72.setTop (mkF m 40 #[.val (.int p0), .val (.long p1), .second, .val (.long p2), .second, .val (.ref w5), .val (.int (0 : Int32)), .val (.int (0 : Int32)), .unset, .unset] [(.long (0 : Int64)), (.ref w5)]))
        refine own_via (fun _ k => XS.lconst X72.here hx rfl (hb hby at_40) k) ?_
        show own_Go p e below s _ _ _ (T72.setTop (mkF m 41 #[.val (.int p0), .val (.long p1), .second, .val (.long p2), .second, .val (.ref w5), .val (.int (0 : Int32)), .val (.int (0 : Int32)), .unset, .unset] [(.long (1 : Int64)), (.long (0 : Int64)), (.ref w5)]))
        obtain ⟨cq76, kq76, q76a, q76b, q76c⟩ := isOf hZ e72 E_w5
        obtain ⟨_, _, ⟨T76, L76, k76, n76⟩, -, X76, ⟨Lc76, hQ76, l76, y76, z76⟩, st76⟩ := X72.virtualBack hx (y := (⟨"com/example/bericht/bericht/selector/Comparison$Operator", "holds", "(JJ)Z"⟩ : MethodName)) (z := (⟨"com/example/bericht/bericht/selector/Comparison$Operator", "holds", "(JJ)Z"⟩ : MethodName)) hown (mvT hZ (hw _ (List.mem_of_getElem? (i := 14) rfl))) (mvT hZ (hw _ (List.mem_of_getElem? (i := 15) rfl))) (notFace_of_selects (args := #[]) (mvT hZ (hw _ (List.mem_of_getElem? (i := 17) rfl)))) (mvT hZ (hw _ (List.mem_of_getElem? (i := 17) rfl))) (mvT hZ (hw _ (List.mem_of_getElem? (i := 16) rfl))) (by decide) (backOf (W := 0) (rm3_16 l Z a0 hw [] w0 w1 w2 w3 w4 w5 h0 n0 Z0 K0) hZ (hw _ (List.mem_of_getElem? (i := 18) rfl)) (hw _ (List.mem_of_getElem? (i := 6) rfl)) (by decide) (by decide)) q76a q76c (g := (mkF m 41 #[.val (.int p0), .val (.long p1), .second, .val (.long p2), .second, .val (.ref w5), .val (.int (0 : Int32)), .val (.int (0 : Int32)), .unset, .unset] [(.long (1 : Int64)), (.long (0 : Int64)), (.ref w5)])) rfl (by rw [hml]; rfl) (Steps.refl _) (argsL := [(.long (0 : Int64)), (.long (1 : Int64))]) (rest := []) (lenOf pd3 rfl) rfl (by show 2 * 0 + _ ≤ _; exact Nat.le_of_eq rfl) (hb hby at_41) (fun _ _ => ⟨rfl, e72, (by decide : 0 + 0 ≤ _), (by decide : 0 + 0 ≤ _)⟩)
        dsimp only [Pt.U, Pt.locs, Pt.cells, Pt.slots] at X76 l76 y76 z76 st76 hQ76
        subst l76 y76 z76
        obtain ⟨rfl, e76, hO76⟩ := hQ76
        obtain rfl := hO76
        refine own_tr st76 ?_
        show own_Go p e below s _ _ _ (T76.setTop (mkF m 44 #[.val (.int p0), .val (.long p1), .second, .val (.long p2), .second, .val (.ref w5), .val (.int (0 : Int32)), .val (.int (0 : Int32)), .unset, .unset] [(.int (0 : Int32))]))
        refine own_via (fun _ k => XS.aload X76.here hx rfl (hb hby at_44) rfl rfl k) ?_
        show own_Go p e below s _ _ _ (T76.setTop (mkF m 46 #[.val (.int p0), .val (.long p1), .second, .val (.long p2), .second, .val (.ref w5), .val (.int (0 : Int32)), .val (.int (0 : Int32)), .unset, .unset] [(.ref w5), (.int (0 : Int32))]))
        refine own_via (fun _ k => XS.lconst X76.here hx rfl (hb hby at_46) k) ?_
        show own_Go p e below s _ _ _ (T76.setTop (mkF m 47 #[.val (.int p0), .val (.long p1), .second, .val (.long p2), .second, .val (.ref w5), .val (.int (0 : Int32)), .val (.int (0 : Int32)), .unset, .unset] [(.long (1 : Int64)), (.ref w5), (.int (0 : Int32))]))
        refine own_via (fun _ k => XS.lconst X76.here hx rfl (hb hby at_47) k) ?_
        show own_Go p e below s _ _ _ (T76.setTop (mkF m 48 #[.val (.int p0), .val (.long p1), .second, .val (.long p2), .second, .val (.ref w5), .val (.int (0 : Int32)), .val (.int (0 : Int32)), .unset, .unset] [(.long (0 : Int64)), (.long (1 : Int64)), (.ref w5), (.int (0 : Int32))]))
        obtain ⟨cq77, kq77, q77a, q77b, q77c⟩ := isOf hZ e76 E_w5
        obtain ⟨_, _, ⟨T77, L77, k77, n77⟩, -, X77, ⟨Lc77, hQ77, l77, y77, z77⟩, st77⟩ := X76.virtualBack hx (y := (⟨"com/example/bericht/bericht/selector/Comparison$Operator", "holds", "(JJ)Z"⟩ : MethodName)) (z := (⟨"com/example/bericht/bericht/selector/Comparison$Operator", "holds", "(JJ)Z"⟩ : MethodName)) hown (mvT hZ (hw _ (List.mem_of_getElem? (i := 14) rfl))) (mvT hZ (hw _ (List.mem_of_getElem? (i := 15) rfl))) (notFace_of_selects (args := #[]) (mvT hZ (hw _ (List.mem_of_getElem? (i := 17) rfl)))) (mvT hZ (hw _ (List.mem_of_getElem? (i := 17) rfl))) (mvT hZ (hw _ (List.mem_of_getElem? (i := 16) rfl))) (by decide) (backOf (W := 1) (rm3_17 l Z a0 hw [] w0 w1 w2 w3 w4 w5 h0 n0 Z0 K0) hZ (hw _ (List.mem_of_getElem? (i := 18) rfl)) (hw _ (List.mem_of_getElem? (i := 6) rfl)) (by decide) (by decide)) q77a q77c (g := (mkF m 48 #[.val (.int p0), .val (.long p1), .second, .val (.long p2), .second, .val (.ref w5), .val (.int (0 : Int32)), .val (.int (0 : Int32)), .unset, .unset] [(.long (0 : Int64)), (.long (1 : Int64)), (.ref w5), (.int (0 : Int32))])) rfl (by rw [hml]; rfl) (Steps.refl _) (argsL := [(.long (1 : Int64)), (.long (0 : Int64))]) (rest := [(.int (0 : Int32))]) (lenOf pd3 rfl) rfl (by show 2 * 0 + _ ≤ _; exact Nat.le_of_eq rfl) (hb hby at_48) (fun _ _ => ⟨rfl, e76, (by decide : 0 + 0 ≤ _), (by decide : 0 + 0 ≤ _)⟩)
        dsimp only [Pt.U, Pt.locs, Pt.cells, Pt.slots] at X77 l77 y77 z77 st77 hQ77
        subst l77 y77 z77
        obtain ⟨rfl, e77, hO77⟩ := hQ77
        obtain rfl := hO77
        refine own_tr st77 ?_
        show own_Go p e below s _ _ _ (T77.setTop (mkF m 51 #[.val (.int p0), .val (.long p1), .second, .val (.long p2), .second, .val (.ref w5), .val (.int (0 : Int32)), .val (.int (0 : Int32)), .unset, .unset] [(.int (1 : Int32)), (.int (0 : Int32))]))
        refine own_via (fun _ k => XS.icmpNo X77.here hx rfl (hb hby at_51) rfl (feq (by decide : ¬ ((0 : Int32) = (1 : Int32)))).1 k) ?_
        show own_Go p e below s _ _ _ (T77.setTop (mkF m 54 #[.val (.int p0), .val (.long p1), .second, .val (.long p2), .second, .val (.ref w5), .val (.int (0 : Int32)), .val (.int (0 : Int32)), .unset, .unset] []))
        refine own_via (fun _ k => XS.iconst X77.here hx rfl (hb hby at_54) k) ?_
        show own_Go p e below s _ _ _ (T77.setTop (mkF m 55 #[.val (.int p0), .val (.long p1), .second, .val (.long p2), .second, .val (.ref w5), .val (.int (0 : Int32)), .val (.int (0 : Int32)), .unset, .unset] [(.int (1 : Int32))]))
        refine own_via (fun _ k => XS.goto X77.here hx rfl (pc0 := 55) (pc' := 59) rfl (hb hby at_55) (by decide) (by decide) k) ?_
        show own_Go p e below s _ _ _ (T77.setTop (mkF m 59 #[.val (.int p0), .val (.long p1), .second, .val (.long p2), .second, .val (.ref w5), .val (.int (0 : Int32)), .val (.int (0 : Int32)), .unset, .unset] [(.int (1 : Int32))]))
        refine own_via (fun _ k => XS.istore X77.here hx rfl (hb hby at_59) rfl (l' := #[.val (.int p0), .val (.long p1), .second, .val (.long p2), .second, .val (.ref w5), .val (.int (0 : Int32)), .val (.int (0 : Int32)), .val (.int (1 : Int32)), .unset]) rfl k) ?_
        show own_Go p e below s _ _ _ (T77.setTop (mkF m 61 #[.val (.int p0), .val (.long p1), .second, .val (.long p2), .second, .val (.ref w5), .val (.int (0 : Int32)), .val (.int (0 : Int32)), .val (.int (1 : Int32)), .unset] []))
        refine own_via (fun _ k => XS.aload X77.here hx rfl (hb hby at_61) rfl rfl k) ?_
        show own_Go p e below s _ _ _ (T77.setTop (mkF m 63 #[.val (.int p0), .val (.long p1), .second, .val (.long p2), .second, .val (.ref w5), .val (.int (0 : Int32)), .val (.int (0 : Int32)), .val (.int (1 : Int32)), .unset] [(.ref w5)]))
        obtain ⟨cq78, kq78, q78a, q78b, q78c⟩ := isOf hZ e77 E_w5
        obtain ⟨_, _, ⟨T78, L78, k78, n78⟩, -, X78, ⟨Lc78, hQ78, l78, y78, z78⟩, st78⟩ := X77.virtualBack hx (y := (⟨"com/example/bericht/bericht/selector/Comparison$Operator", "flipped", "()Lcom/example/bericht/bericht/selector/Comparison$Operator;"⟩ : MethodName)) (z := (⟨"com/example/bericht/bericht/selector/Comparison$Operator", "flipped", "()Lcom/example/bericht/bericht/selector/Comparison$Operator;"⟩ : MethodName)) hown (mvT hZ (hw _ (List.mem_of_getElem? (i := 28) rfl))) (mvT hZ (hw _ (List.mem_of_getElem? (i := 29) rfl))) (notFace_of_selects (args := #[]) (mvT hZ (hw _ (List.mem_of_getElem? (i := 31) rfl)))) (mvT hZ (hw _ (List.mem_of_getElem? (i := 31) rfl))) (mvT hZ (hw _ (List.mem_of_getElem? (i := 30) rfl))) (by decide) (backOf (W := 0) (rm5_5 l Z a0 hw [] w0 w1 w2 w3 w4 w5 h0 n0 Z0 K0) hZ (hw _ (List.mem_of_getElem? (i := 32) rfl)) (hw _ (List.mem_of_getElem? (i := 6) rfl)) (by decide) (by decide)) q78a q78c (g := (mkF m 63 #[.val (.int p0), .val (.long p1), .second, .val (.long p2), .second, .val (.ref w5), .val (.int (0 : Int32)), .val (.int (0 : Int32)), .val (.int (1 : Int32)), .unset] [(.ref w5)])) rfl (by rw [hml]; rfl) (Steps.refl _) (argsL := []) (rest := []) (lenOf pd4 rfl) rfl (by show 2 * 0 + _ ≤ _; exact Nat.le_of_eq rfl) (hb hby at_63) (fun _ _ => ⟨rfl, e77, (by decide : 0 + 0 ≤ _), (by decide : 0 + 0 ≤ _)⟩)
        dsimp only [Pt.U, Pt.locs, Pt.cells, Pt.slots] at X78 l78 y78 z78 st78 hQ78
        subst l78 y78 z78
        obtain ⟨rfl, e78, hO78⟩ := hQ78
        obtain rfl := hO78
        refine own_tr st78 ?_
        show own_Go p e below s _ _ _ (T78.setTop (mkF m 66 #[.val (.int p0), .val (.long p1), .second, .val (.long p2), .second, .val (.ref w5), .val (.int (0 : Int32)), .val (.int (0 : Int32)), .val (.int (1 : Int32)), .unset] [(.ref w4)]))
        refine own_via (fun _ k => XS.aload X78.here hx rfl (hb hby at_66) rfl rfl k) ?_
        show own_Go p e below s _ _ _ (T78.setTop (mkF m 68 #[.val (.int p0), .val (.long p1), .second, .val (.long p2), .second, .val (.ref w5), .val (.int (0 : Int32)), .val (.int (0 : Int32)), .val (.int (1 : Int32)), .unset] [(.ref w5), (.ref w4)]))
        refine own_via (fun _ k => Jvm.RoadKit.acmp (g := (mkF m 68 #[.val (.int p0), .val (.long p1), .second, .val (.long p2), .second, .val (.ref w5), .val (.int (0 : Int32)), .val (.int (0 : Int32)), .val (.int (1 : Int32)), .unset] [(.ref w5), (.ref w4)])) X78 hx rfl rfl rfl (pc0 := 68) (pc' := 75) (same := false) rfl (hb hby at_68) rfl (decide_eq_false fun q => n_w4_w5 (Value.ref.inj q)) (by decide) (by decide) k) ?_
        show own_Go p e below s _ _ _ (T78.setTop (mkF m 75 #[.val (.int p0), .val (.long p1), .second, .val (.long p2), .second, .val (.ref w5), .val (.int (0 : Int32)), .val (.int (0 : Int32)), .val (.int (1 : Int32)), .unset] []))
        refine own_via (fun _ k => XS.iconst X78.here hx rfl (hb hby at_75) k) ?_
        show own_Go p e below s _ _ _ (T78.setTop (mkF m 76 #[.val (.int p0), .val (.long p1), .second, .val (.long p2), .second, .val (.ref w5), .val (.int (0 : Int32)), .val (.int (0 : Int32)), .val (.int (1 : Int32)), .unset] [(.int (0 : Int32))]))
        refine own_via (fun _ k => XS.istore X78.here hx rfl (hb hby at_76) rfl (l' := #[.val (.int p0), .val (.long p1), .second, .val (.long p2), .second, .val (.ref w5), .val (.int (0 : Int32)), .val (.int (0 : Int32)), .val (.int (1 : Int32)), .val (.int (0 : Int32))]) rfl k) ?_
        show own_Go p e below s _ _ _ (T78.setTop (mkF m 78 #[.val (.int p0), .val (.long p1), .second, .val (.long p2), .second, .val (.ref w5), .val (.int (0 : Int32)), .val (.int (0 : Int32)), .val (.int (1 : Int32)), .val (.int (0 : Int32))] []))
        refine own_via (fun _ k => XS.iload X78.here hx rfl (hb hby at_78) rfl k) ?_
        show own_Go p e below s _ _ _ (T78.setTop (mkF m 80 #[.val (.int p0), .val (.long p1), .second, .val (.long p2), .second, .val (.ref w5), .val (.int (0 : Int32)), .val (.int (0 : Int32)), .val (.int (1 : Int32)), .val (.int (0 : Int32))] [(.int (0 : Int32))]))
        refine own_via (fun _ k => XS.ifYes X78.here hx rfl (pc0 := 80) (pc' := 104) rfl (hb hby at_80) rfl ((if0 _ _).trans (teq (by decide : (0 : Int32) = (0 : Int32))).1) (by decide) (by decide) k) ?_
        show own_Go p e below s _ _ _ (T78.setTop (mkF m 104 #[.val (.int p0), .val (.long p1), .second, .val (.long p2), .second, .val (.ref w5), .val (.int (0 : Int32)), .val (.int (0 : Int32)), .val (.int (1 : Int32)), .val (.int (0 : Int32))] []))
        refine own_via (fun _ k => XS.iload X78.here hx rfl (hb hby at_104) rfl k) ?_
        show own_Go p e below s _ _ _ (T78.setTop (mkF m 106 #[.val (.int p0), .val (.long p1), .second, .val (.long p2), .second, .val (.ref w5), .val (.int (0 : Int32)), .val (.int (0 : Int32)), .val (.int (1 : Int32)), .val (.int (0 : Int32))] [(.int (1 : Int32))]))
        refine own_via (fun _ k => XS.ifNo X78.here hx rfl (hb hby at_106) rfl ((if0 _ _).trans (feq (by decide : ¬ ((1 : Int32) = (0 : Int32)))).1) k) ?_
        show own_Go p e below s _ _ _ (T78.setTop (mkF m 109 #[.val (.int p0), .val (.long p1), .second, .val (.long p2), .second, .val (.ref w5), .val (.int (0 : Int32)), .val (.int (0 : Int32)), .val (.int (1 : Int32)), .val (.int (0 : Int32))] []))
        refine own_via (fun _ k => XS.iload X78.here hx rfl (hb hby at_109) rfl k) ?_
        show own_Go p e below s _ _ _ (T78.setTop (mkF m 111 #[.val (.int p0), .val (.long p1), .second, .val (.long p2), .second, .val (.ref w5), .val (.int (0 : Int32)), .val (.int (0 : Int32)), .val (.int (1 : Int32)), .val (.int (0 : Int32))] [(.int (0 : Int32))]))
        refine own_via (fun _ k => XS.ifNo X78.here hx rfl (hb hby at_111) rfl ((if0 _ _).trans (teq (by decide : (0 : Int32) = (0 : Int32))).2) k) ?_
        show own_Go p e below s _ _ _ (T78.setTop (mkF m 114 #[.val (.int p0), .val (.long p1), .second, .val (.long p2), .second, .val (.ref w5), .val (.int (0 : Int32)), .val (.int (0 : Int32)), .val (.int (1 : Int32)), .val (.int (0 : Int32))] []))
        refine own_via (fun _ k => XS.iconst X78.here hx rfl (hb hby at_114) k) ?_
        show own_Go p e below s _ _ _ (T78.setTop (mkF m 115 #[.val (.int p0), .val (.long p1), .second, .val (.long p2), .second, .val (.ref w5), .val (.int (0 : Int32)), .val (.int (0 : Int32)), .val (.int (1 : Int32)), .val (.int (0 : Int32))] [(.int (1 : Int32))]))
        refine own_via (fun _ k => XS.goto X78.here hx rfl (pc0 := 115) (pc' := 119) rfl (hb hby at_115) (by decide) (by decide) k) ?_
        show own_Go p e below s _ _ _ (T78.setTop (mkF m 119 #[.val (.int p0), .val (.long p1), .second, .val (.long p2), .second, .val (.ref w5), .val (.int (0 : Int32)), .val (.int (0 : Int32)), .val (.int (1 : Int32)), .val (.int (0 : Int32))] [(.int (1 : Int32))]))
        exact own_retZ X78 hx hlk (t := .boolean) Bd.returns (by simp) (hb hby at_119) (z' := (1 : Int32)) (by first | rfl | decide) ⟨rfl, (Fr.nil n0)⟩ (by decide) (by decide)
    · refine own_tr st71 ?_
      show own_Go p e below s _ _ _ (T71.setTop (mkF m 20 #[.val (.int p0), .val (.long p1), .second, .val (.long p2), .second, .val (.ref w5), .val (.int (0 : Int32)), .unset, .unset, .unset] [(.int (1 : Int32))]))
      refine own_via (fun _ k => XS.aload X71.here hx rfl (hb hby at_20) rfl rfl k) ?_
      show own_Go p e below s _ _ _ (T71.setTop (mkF m 22 #[.val (.int p0), .val (.long p1), .second, .val (.long p2), .second, .val (.ref w5), .val (.int (0 : Int32)), .unset, .unset, .unset] [(.ref w5), (.int (1 : Int32))]))
      refine own_via (fun _ k => XS.lloadN X71.here hx rfl (hb hby at_22) rfl k) ?_
      show own_Go p e below s _ _ _ (T71.setTop (mkF m 23 #[.val (.int p0), .val (.long p1), .second, .val (.long p2), .second, .val (.ref w5), .val (.int (0 : Int32)), .unset, .unset, .unset] [(.long p2), (.ref w5), (.int (1 : Int32))]))
      refine own_via (fun _ k => XS.lloadN X71.here hx rfl (hb hby at_23) rfl k) ?_
      show own_Go p e below s _ _ _ (T71.setTop (mkF m 24 #[.val (.int p0), .val (.long p1), .second, .val (.long p2), .second, .val (.ref w5), .val (.int (0 : Int32)), .unset, .unset, .unset] [(.long p1), (.long p2), (.ref w5), (.int (1 : Int32))]))
      obtain ⟨cq79, kq79, q79a, q79b, q79c⟩ := isOf hZ e71 E_w5
      obtain ⟨_, _, ⟨T79, L79, k79, n79⟩, -, X79, ⟨Lc79, hQ79, l79, y79, z79⟩, st79⟩ := X71.virtualBack hx (y := (⟨"com/example/bericht/bericht/selector/Comparison$Operator", "holds", "(JJ)Z"⟩ : MethodName)) (z := (⟨"com/example/bericht/bericht/selector/Comparison$Operator", "holds", "(JJ)Z"⟩ : MethodName)) hown (mvT hZ (hw _ (List.mem_of_getElem? (i := 14) rfl))) (mvT hZ (hw _ (List.mem_of_getElem? (i := 15) rfl))) (notFace_of_selects (args := #[]) (mvT hZ (hw _ (List.mem_of_getElem? (i := 17) rfl)))) (mvT hZ (hw _ (List.mem_of_getElem? (i := 17) rfl))) (mvT hZ (hw _ (List.mem_of_getElem? (i := 16) rfl))) (by decide) (backOf (W := 1) (rm3_15 l Z a0 hw [] p2 p1 w0 w1 w2 w3 w4 w5 h0 n0 Z0 K0) hZ (hw _ (List.mem_of_getElem? (i := 18) rfl)) (hw _ (List.mem_of_getElem? (i := 6) rfl)) (by decide) (by decide)) q79a q79c (g := (mkF m 24 #[.val (.int p0), .val (.long p1), .second, .val (.long p2), .second, .val (.ref w5), .val (.int (0 : Int32)), .unset, .unset, .unset] [(.long p1), (.long p2), (.ref w5), (.int (1 : Int32))])) rfl (by rw [hml]; rfl) (Steps.refl _) (argsL := [(.long p2), (.long p1)]) (rest := [(.int (1 : Int32))]) (lenOf pd3 rfl) rfl (by show 2 * 0 + _ ≤ _; exact Nat.le_of_eq rfl) (hb hby at_24) (fun _ _ => ⟨rfl, e71, (by decide : 0 + 0 ≤ _), (by decide : 0 + 0 ≤ _)⟩)
      dsimp only [Pt.U, Pt.locs, Pt.cells, Pt.slots] at X79 l79 y79 z79 st79 hQ79
      subst l79 y79 z79
      obtain ⟨rfl, e79, hO79⟩ := hQ79
      rcases hO79 with ⟨hr79_0_0, rfl⟩ | ⟨hr79_1_0, rfl⟩
      · refine own_tr st79 ?_
        show own_Go p e below s _ _ _ (T79.setTop (mkF m 27 #[.val (.int p0), .val (.long p1), .second, .val (.long p2), .second, .val (.ref w5), .val (.int (0 : Int32)), .unset, .unset, .unset] [(.int (0 : Int32)), (.int (1 : Int32))]))
        refine own_via (fun _ k => XS.icmpYes X79.here hx rfl (pc0 := 27) (pc' := 34) rfl (hb hby at_27) rfl (feq (by decide : ¬ ((1 : Int32) = (0 : Int32)))).2 (by decide) (by decide) k) ?_
        show own_Go p e below s _ _ _ (T79.setTop (mkF m 34 #[.val (.int p0), .val (.long p1), .second, .val (.long p2), .second, .val (.ref w5), .val (.int (0 : Int32)), .unset, .unset, .unset] []))
        refine own_via (fun _ k => XS.iconst X79.here hx rfl (hb hby at_34) k) ?_
        show own_Go p e below s _ _ _ (T79.setTop (mkF m 35 #[.val (.int p0), .val (.long p1), .second, .val (.long p2), .second, .val (.ref w5), .val (.int (0 : Int32)), .unset, .unset, .unset] [(.int (0 : Int32))]))
        refine own_via (fun _ k => XS.istore X79.here hx rfl (hb hby at_35) rfl (l' := #[.val (.int p0), .val (.long p1), .second, .val (.long p2), .second, .val (.ref w5), .val (.int (0 : Int32)), .val (.int (0 : Int32)), .unset, .unset]) rfl k) ?_
        show own_Go p e below s _ _ _ (T79.setTop (mkF m 37 #[.val (.int p0), .val (.long p1), .second, .val (.long p2), .second, .val (.ref w5), .val (.int (0 : Int32)), .val (.int (0 : Int32)), .unset, .unset] []))
        refine own_via (fun _ k => XS.aload X79.here hx rfl (hb hby at_37) rfl rfl k) ?_
        show own_Go p e below s _ _ _ (T79.setTop (mkF m 39 #[.val (.int p0), .val (.long p1), .second, .val (.long p2), .second, .val (.ref w5), .val (.int (0 : Int32)), .val (.int (0 : Int32)), .unset, .unset] [(.ref w5)]))
        refine own_via (fun _ k => XS.lconst X79.here hx rfl (hb hby at_39) k) ?_
        show own_Go p e below s _ _ _ (T79.setTop (mkF m 40 #[.val (.int p0), .val (.long p1), .second, .val (.long p2), .second, .val (.ref w5), .val (.int (0 : Int32)), .val (.int (0 : Int32)), .unset, .unset] [(.long (0 : Int64)), (.ref w5)]))
        refine own_via (fun _ k => XS.lconst X79.here hx rfl (hb hby at_40) k) ?_
        show own_Go p e below s _ _ _ (T79.setTop (mkF m 41 #[.val (.int p0), .val (.long p1), .second, .val (.long p2), .second, .val (.ref w5), .val (.int (0 : Int32)), .val (.int (0 : Int32)), .unset, .unset] [(.long (1 : Int64)), (.long (0 : Int64)), (.ref w5)]))
        obtain ⟨cq80, kq80, q80a, q80b, q80c⟩ := isOf hZ e79 E_w5
        obtain ⟨_, _, ⟨T80, L80, k80, n80⟩, -, X80, ⟨Lc80, hQ80, l80, y80, z80⟩, st80⟩ := X79.virtualBack hx (y := (⟨"com/example/bericht/bericht/selector/Comparison$Operator", "holds", "(JJ)Z"⟩ : MethodName)) (z := (⟨"com/example/bericht/bericht/selector/Comparison$Operator", "holds", "(JJ)Z"⟩ : MethodName)) hown (mvT hZ (hw _ (List.mem_of_getElem? (i := 14) rfl))) (mvT hZ (hw _ (List.mem_of_getElem? (i := 15) rfl))) (notFace_of_selects (args := #[]) (mvT hZ (hw _ (List.mem_of_getElem? (i := 17) rfl)))) (mvT hZ (hw _ (List.mem_of_getElem? (i := 17) rfl))) (mvT hZ (hw _ (List.mem_of_getElem? (i := 16) rfl))) (by decide) (backOf (W := 0) (rm3_16 l Z a0 hw [] w0 w1 w2 w3 w4 w5 h0 n0 Z0 K0) hZ (hw _ (List.mem_of_getElem? (i := 18) rfl)) (hw _ (List.mem_of_getElem? (i := 6) rfl)) (by decide) (by decide)) q80a q80c (g := (mkF m 41 #[.val (.int p0), .val (.long p1), .second, .val (.long p2), .second, .val (.ref w5), .val (.int (0 : Int32)), .val (.int (0 : Int32)), .unset, .unset] [(.long (1 : Int64)), (.long (0 : Int64)), (.ref w5)])) rfl (by rw [hml]; rfl) (Steps.refl _) (argsL := [(.long (0 : Int64)), (.long (1 : Int64))]) (rest := []) (lenOf pd3 rfl) rfl (by show 2 * 0 + _ ≤ _; exact Nat.le_of_eq rfl) (hb hby at_41) (fun _ _ => ⟨rfl, e79, (by decide : 0 + 0 ≤ _), (by decide : 0 + 0 ≤ _)⟩)
        dsimp only [Pt.U, Pt.locs, Pt.cells, Pt.slots] at X80 l80 y80 z80 st80 hQ80
        subst l80 y80 z80
        obtain ⟨rfl, e80, hO80⟩ := hQ80
        obtain rfl := hO80
        refine own_tr st80 ?_
        show own_Go p e below s _ _ _ (T80.setTop (mkF m 44 #[.val (.int p0), .val (.long p1), .second, .val (.long p2), .second, .val (.ref w5), .val (.int (0 : Int32)), .val (.int (0 : Int32)), .unset, .unset] [(.int (0 : Int32))]))
        refine own_via (fun _ k => XS.aload X80.here hx rfl (hb hby at_44) rfl rfl k) ?_
        show own_Go p e below s _ _ _ (T80.setTop (mkF m 46 #[.val (.int p0), .val (.long p1), .second, .val (.long p2), .second, .val (.ref w5), .val (.int (0 : Int32)), .val (.int (0 : Int32)), .unset, .unset] [(.ref w5), (.int (0 : Int32))]))
        refine own_via (fun _ k => XS.lconst X80.here hx rfl (hb hby at_46) k) ?_
        show own_Go p e below s _ _ _ (T80.setTop (mkF m 47 #[.val (.int p0), .val (.long p1), .second, .val (.long p2), .second, .val (.ref w5), .val (.int (0 : Int32)), .val (.int (0 : Int32)), .unset, .unset] [(.long (1 : Int64)), (.ref w5), (.int (0 : Int32))]))
        refine own_via (fun _ k => XS.lconst X80.here hx rfl (hb hby at_47) k) ?_
        show own_Go p e below s _ _ _ (T80.setTop (mkF m 48 #[.val (.int p0), .val (.long p1), .second, .val (.long p2), .second, .val (.ref w5), .val (.int (0 : Int32)), .val (.int (0 : Int32)), .unset, .unset] [(.long (0 : Int64)), (.long (1 : Int64)), (.ref w5), (.int (0 : Int32))]))
        obtain ⟨cq81, kq81, q81a, q81b, q81c⟩ := isOf hZ e80 E_w5
        obtain ⟨_, _, ⟨T81, L81, k81, n81⟩, -, X81, ⟨Lc81, hQ81, l81, y81, z81⟩, st81⟩ := X80.virtualBack hx (y := (⟨"com/example/bericht/bericht/selector/Comparison$Operator", "holds", "(JJ)Z"⟩ : MethodName)) (z := (⟨"com/example/bericht/bericht/selector/Comparison$Operator", "holds", "(JJ)Z"⟩ : MethodName)) hown (mvT hZ (hw _ (List.mem_of_getElem? (i := 14) rfl))) (mvT hZ (hw _ (List.mem_of_getElem? (i := 15) rfl))) (notFace_of_selects (args := #[]) (mvT hZ (hw _ (List.mem_of_getElem? (i := 17) rfl)))) (mvT hZ (hw _ (List.mem_of_getElem? (i := 17) rfl))) (mvT hZ (hw _ (List.mem_of_getElem? (i := 16) rfl))) (by decide) (backOf (W := 1) (rm3_17 l Z a0 hw [] w0 w1 w2 w3 w4 w5 h0 n0 Z0 K0) hZ (hw _ (List.mem_of_getElem? (i := 18) rfl)) (hw _ (List.mem_of_getElem? (i := 6) rfl)) (by decide) (by decide)) q81a q81c (g := (mkF m 48 #[.val (.int p0), .val (.long p1), .second, .val (.long p2), .second, .val (.ref w5), .val (.int (0 : Int32)), .val (.int (0 : Int32)), .unset, .unset] [(.long (0 : Int64)), (.long (1 : Int64)), (.ref w5), (.int (0 : Int32))])) rfl (by rw [hml]; rfl) (Steps.refl _) (argsL := [(.long (1 : Int64)), (.long (0 : Int64))]) (rest := [(.int (0 : Int32))]) (lenOf pd3 rfl) rfl (by show 2 * 0 + _ ≤ _; exact Nat.le_of_eq rfl) (hb hby at_48) (fun _ _ => ⟨rfl, e80, (by decide : 0 + 0 ≤ _), (by decide : 0 + 0 ≤ _)⟩)
        dsimp only [Pt.U, Pt.locs, Pt.cells, Pt.slots] at X81 l81 y81 z81 st81 hQ81
        subst l81 y81 z81
        obtain ⟨rfl, e81, hO81⟩ := hQ81
        obtain rfl := hO81
        refine own_tr st81 ?_
        show own_Go p e below s _ _ _ (T81.setTop (mkF m 51 #[.val (.int p0), .val (.long p1), .second, .val (.long p2), .second, .val (.ref w5), .val (.int (0 : Int32)), .val (.int (0 : Int32)), .unset, .unset] [(.int (1 : Int32)), (.int (0 : Int32))]))
        refine own_via (fun _ k => XS.icmpNo X81.here hx rfl (hb hby at_51) rfl (feq (by decide : ¬ ((0 : Int32) = (1 : Int32)))).1 k) ?_
        show own_Go p e below s _ _ _ (T81.setTop (mkF m 54 #[.val (.int p0), .val (.long p1), .second, .val (.long p2), .second, .val (.ref w5), .val (.int (0 : Int32)), .val (.int (0 : Int32)), .unset, .unset] []))
        refine own_via (fun _ k => XS.iconst X81.here hx rfl (hb hby at_54) k) ?_
        show own_Go p e below s _ _ _ (T81.setTop (mkF m 55 #[.val (.int p0), .val (.long p1), .second, .val (.long p2), .second, .val (.ref w5), .val (.int (0 : Int32)), .val (.int (0 : Int32)), .unset, .unset] [(.int (1 : Int32))]))
        refine own_via (fun _ k => XS.goto X81.here hx rfl (pc0 := 55) (pc' := 59) rfl (hb hby at_55) (by decide) (by decide) k) ?_
        show own_Go p e below s _ _ _ (T81.setTop (mkF m 59 #[.val (.int p0), .val (.long p1), .second, .val (.long p2), .second, .val (.ref w5), .val (.int (0 : Int32)), .val (.int (0 : Int32)), .unset, .unset] [(.int (1 : Int32))]))
        refine own_via (fun _ k => XS.istore X81.here hx rfl (hb hby at_59) rfl (l' := #[.val (.int p0), .val (.long p1), .second, .val (.long p2), .second, .val (.ref w5), .val (.int (0 : Int32)), .val (.int (0 : Int32)), .val (.int (1 : Int32)), .unset]) rfl k) ?_
        show own_Go p e below s _ _ _ (T81.setTop (mkF m 61 #[.val (.int p0), .val (.long p1), .second, .val (.long p2), .second, .val (.ref w5), .val (.int (0 : Int32)), .val (.int (0 : Int32)), .val (.int (1 : Int32)), .unset] []))
        refine own_via (fun _ k => XS.aload X81.here hx rfl (hb hby at_61) rfl rfl k) ?_
        show own_Go p e below s _ _ _ (T81.setTop (mkF m 63 #[.val (.int p0), .val (.long p1), .second, .val (.long p2), .second, .val (.ref w5), .val (.int (0 : Int32)), .val (.int (0 : Int32)), .val (.int (1 : Int32)), .unset] [(.ref w5)]))
        obtain ⟨cq82, kq82, q82a, q82b, q82c⟩ := isOf hZ e81 E_w5
        obtain ⟨_, _, ⟨T82, L82, k82, n82⟩, -, X82, ⟨Lc82, hQ82, l82, y82, z82⟩, st82⟩ := X81.virtualBack hx (y := (⟨"com/example/bericht/bericht/selector/Comparison$Operator", "flipped", "()Lcom/example/bericht/bericht/selector/Comparison$Operator;"⟩ : MethodName)) (z := (⟨"com/example/bericht/bericht/selector/Comparison$Operator", "flipped", "()Lcom/example/bericht/bericht/selector/Comparison$Operator;"⟩ : MethodName)) hown (mvT hZ (hw _ (List.mem_of_getElem? (i := 28) rfl))) (mvT hZ (hw _ (List.mem_of_getElem? (i := 29) rfl))) (notFace_of_selects (args := #[]) (mvT hZ (hw _ (List.mem_of_getElem? (i := 31) rfl)))) (mvT hZ (hw _ (List.mem_of_getElem? (i := 31) rfl))) (mvT hZ (hw _ (List.mem_of_getElem? (i := 30) rfl))) (by decide) (backOf (W := 0) (rm5_5 l Z a0 hw [] w0 w1 w2 w3 w4 w5 h0 n0 Z0 K0) hZ (hw _ (List.mem_of_getElem? (i := 32) rfl)) (hw _ (List.mem_of_getElem? (i := 6) rfl)) (by decide) (by decide)) q82a q82c (g := (mkF m 63 #[.val (.int p0), .val (.long p1), .second, .val (.long p2), .second, .val (.ref w5), .val (.int (0 : Int32)), .val (.int (0 : Int32)), .val (.int (1 : Int32)), .unset] [(.ref w5)])) rfl (by rw [hml]; rfl) (Steps.refl _) (argsL := []) (rest := []) (lenOf pd4 rfl) rfl (by show 2 * 0 + _ ≤ _; exact Nat.le_of_eq rfl) (hb hby at_63) (fun _ _ => ⟨rfl, e81, (by decide : 0 + 0 ≤ _), (by decide : 0 + 0 ≤ _)⟩)
        dsimp only [Pt.U, Pt.locs, Pt.cells, Pt.slots] at X82 l82 y82 z82 st82 hQ82
        subst l82 y82 z82
        obtain ⟨rfl, e82, hO82⟩ := hQ82
        obtain rfl := hO82
        refine own_tr st82 ?_
        show own_Go p e below s _ _ _ (T82.setTop (mkF m 66 #[.val (.int p0), .val (.long p1), .second, .val (.long p2), .second, .val (.ref w5), .val (.int (0 : Int32)), .val (.int (0 : Int32)), .val (.int (1 : Int32)), .unset] [(.ref w4)]))
        refine own_via (fun _ k => XS.aload X82.here hx rfl (hb hby at_66) rfl rfl k) ?_
        show own_Go p e below s _ _ _ (T82.setTop (mkF m 68 #[.val (.int p0), .val (.long p1), .second, .val (.long p2), .second, .val (.ref w5), .val (.int (0 : Int32)), .val (.int (0 : Int32)), .val (.int (1 : Int32)), .unset] [(.ref w5), (.ref w4)]))
        refine own_via (fun _ k => Jvm.RoadKit.acmp (g := (mkF m 68 #[.val (.int p0), .val (.long p1), .second, .val (.long p2), .second, .val (.ref w5), .val (.int (0 : Int32)), .val (.int (0 : Int32)), .val (.int (1 : Int32)), .unset] [(.ref w5), (.ref w4)])) X82 hx rfl rfl rfl (pc0 := 68) (pc' := 75) (same := false) rfl (hb hby at_68) rfl (decide_eq_false fun q => n_w4_w5 (Value.ref.inj q)) (by decide) (by decide) k) ?_
        show own_Go p e below s _ _ _ (T82.setTop (mkF m 75 #[.val (.int p0), .val (.long p1), .second, .val (.long p2), .second, .val (.ref w5), .val (.int (0 : Int32)), .val (.int (0 : Int32)), .val (.int (1 : Int32)), .unset] []))
        refine own_via (fun _ k => XS.iconst X82.here hx rfl (hb hby at_75) k) ?_
        show own_Go p e below s _ _ _ (T82.setTop (mkF m 76 #[.val (.int p0), .val (.long p1), .second, .val (.long p2), .second, .val (.ref w5), .val (.int (0 : Int32)), .val (.int (0 : Int32)), .val (.int (1 : Int32)), .unset] [(.int (0 : Int32))]))
        refine own_via (fun _ k => XS.istore X82.here hx rfl (hb hby at_76) rfl (l' := #[.val (.int p0), .val (.long p1), .second, .val (.long p2), .second, .val (.ref w5), .val (.int (0 : Int32)), .val (.int (0 : Int32)), .val (.int (1 : Int32)), .val (.int (0 : Int32))]) rfl k) ?_
        show own_Go p e below s _ _ _ (T82.setTop (mkF m 78 #[.val (.int p0), .val (.long p1), .second, .val (.long p2), .second, .val (.ref w5), .val (.int (0 : Int32)), .val (.int (0 : Int32)), .val (.int (1 : Int32)), .val (.int (0 : Int32))] []))
        refine own_via (fun _ k => XS.iload X82.here hx rfl (hb hby at_78) rfl k) ?_
        show own_Go p e below s _ _ _ (T82.setTop (mkF m 80 #[.val (.int p0), .val (.long p1), .second, .val (.long p2), .second, .val (.ref w5), .val (.int (0 : Int32)), .val (.int (0 : Int32)), .val (.int (1 : Int32)), .val (.int (0 : Int32))] [(.int (0 : Int32))]))
        refine own_via (fun _ k => XS.ifYes X82.here hx rfl (pc0 := 80) (pc' := 104) rfl (hb hby at_80) rfl ((if0 _ _).trans (teq (by decide : (0 : Int32) = (0 : Int32))).1) (by decide) (by decide) k) ?_
        show own_Go p e below s _ _ _ (T82.setTop (mkF m 104 #[.val (.int p0), .val (.long p1), .second, .val (.long p2), .second, .val (.ref w5), .val (.int (0 : Int32)), .val (.int (0 : Int32)), .val (.int (1 : Int32)), .val (.int (0 : Int32))] []))
        refine own_via (fun _ k => XS.iload X82.here hx rfl (hb hby at_104) rfl k) ?_
        show own_Go p e below s _ _ _ (T82.setTop (mkF m 106 #[.val (.int p0), .val (.long p1), .second, .val (.long p2), .second, .val (.ref w5), .val (.int (0 : Int32)), .val (.int (0 : Int32)), .val (.int (1 : Int32)), .val (.int (0 : Int32))] [(.int (1 : Int32))]))
        refine own_via (fun _ k => XS.ifNo X82.here hx rfl (hb hby at_106) rfl ((if0 _ _).trans (feq (by decide : ¬ ((1 : Int32) = (0 : Int32)))).1) k) ?_
        show own_Go p e below s _ _ _ (T82.setTop (mkF m 109 #[.val (.int p0), .val (.long p1), .second, .val (.long p2), .second, .val (.ref w5), .val (.int (0 : Int32)), .val (.int (0 : Int32)), .val (.int (1 : Int32)), .val (.int (0 : Int32))] []))
        refine own_via (fun _ k => XS.iload X82.here hx rfl (hb hby at_109) rfl k) ?_
        show own_Go p e below s _ _ _ (T82.setTop (mkF m 111 #[.val (.int p0), .val (.long p1), .second, .val (.long p2), .second, .val (.ref w5), .val (.int (0 : Int32)), .val (.int (0 : Int32)), .val (.int (1 : Int32)), .val (.int (0 : Int32))] [(.int (0 : Int32))]))
        refine own_via (fun _ k => XS.ifNo X82.here hx rfl (hb hby at_111) rfl ((if0 _ _).trans (teq (by decide : (0 : Int32) = (0 : Int32))).2) k) ?_
        show own_Go p e below s _ _ _ (T82.setTop (mkF m 114 #[.val (.int p0), .val (.long p1), .second, .val (.long p2), .second, .val (.ref w5), .val (.int (0 : Int32)), .val (.int (0 : Int32)), .val (.int (1 : Int32)), .val (.int (0 : Int32))] []))
        refine own_via (fun _ k => XS.iconst X82.here hx rfl (hb hby at_114) k) ?_
        show own_Go p e below s _ _ _ (T82.setTop (mkF m 115 #[.val (.int p0), .val (.long p1), .second, .val (.long p2), .second, .val (.ref w5), .val (.int (0 : Int32)), .val (.int (0 : Int32)), .val (.int (1 : Int32)), .val (.int (0 : Int32))] [(.int (1 : Int32))]))
        refine own_via (fun _ k => XS.goto X82.here hx rfl (pc0 := 115) (pc' := 119) rfl (hb hby at_115) (by decide) (by decide) k) ?_
        show own_Go p e below s _ _ _ (T82.setTop (mkF m 119 #[.val (.int p0), .val (.long p1), .second, .val (.long p2), .second, .val (.ref w5), .val (.int (0 : Int32)), .val (.int (0 : Int32)), .val (.int (1 : Int32)), .val (.int (0 : Int32))] [(.int (1 : Int32))]))
        exact own_retZ X82 hx hlk (t := .boolean) Bd.returns (by simp) (hb hby at_119) (z' := (1 : Int32)) (by first | rfl | decide) ⟨rfl, (Fr.nil n0)⟩ (by decide) (by decide)
      · refine own_tr st79 ?_
        show own_Go p e below s _ _ _ (T79.setTop (mkF m 27 #[.val (.int p0), .val (.long p1), .second, .val (.long p2), .second, .val (.ref w5), .val (.int (0 : Int32)), .unset, .unset, .unset] [(.int (1 : Int32)), (.int (1 : Int32))]))
        refine own_via (fun _ k => XS.icmpNo X79.here hx rfl (hb hby at_27) rfl (teq (by decide : (1 : Int32) = (1 : Int32))).2 k) ?_
        show own_Go p e below s _ _ _ (T79.setTop (mkF m 30 #[.val (.int p0), .val (.long p1), .second, .val (.long p2), .second, .val (.ref w5), .val (.int (0 : Int32)), .unset, .unset, .unset] []))
        refine own_via (fun _ k => XS.iconst X79.here hx rfl (hb hby at_30) k) ?_
        show own_Go p e below s _ _ _ (T79.setTop (mkF m 31 #[.val (.int p0), .val (.long p1), .second, .val (.long p2), .second, .val (.ref w5), .val (.int (0 : Int32)), .unset, .unset, .unset] [(.int (1 : Int32))]))
        refine own_via (fun _ k => XS.goto X79.here hx rfl (pc0 := 31) (pc' := 35) rfl (hb hby at_31) (by decide) (by decide) k) ?_
        show own_Go p e below s _ _ _ (T79.setTop (mkF m 35 #[.val (.int p0), .val (.long p1), .second, .val (.long p2), .second, .val (.ref w5), .val (.int (0 : Int32)), .unset, .unset, .unset] [(.int (1 : Int32))]))
        refine own_via (fun _ k => XS.istore X79.here hx rfl (hb hby at_35) rfl (l' := #[.val (.int p0), .val (.long p1), .second, .val (.long p2), .second, .val (.ref w5), .val (.int (0 : Int32)), .val (.int (1 : Int32)), .unset, .unset]) rfl k) ?_
        show own_Go p e below s _ _ _ (T79.setTop (mkF m 37 #[.val (.int p0), .val (.long p1), .second, .val (.long p2), .second, .val (.ref w5), .val (.int (0 : Int32)), .val (.int (1 : Int32)), .unset, .unset] []))
        refine own_via (fun _ k => XS.aload X79.here hx rfl (hb hby at_37) rfl rfl k) ?_
        show own_Go p e below s _ _ _ (T79.setTop (mkF m 39 #[.val (.int p0), .val (.long p1), .second, .val (.long p2), .second, .val (.ref w5), .val (.int (0 : Int32)), .val (.int (1 : Int32)), .unset, .unset] [(.ref w5)]))
        refine own_via (fun _ k => XS.lconst X79.here hx rfl (hb hby at_39) k) ?_
        show own_Go p e below s _ _ _ (T79.setTop (mkF m 40 #[.val (.int p0), .val (.long p1), .second, .val (.long p2), .second, .val (.ref w5), .val (.int (0 : Int32)), .val (.int (1 : Int32)), .unset, .unset] [(.long (0 : Int64)), (.ref w5)]))
        refine own_via (fun _ k => XS.lconst X79.here hx rfl (hb hby at_40) k) ?_
        show own_Go p e below s _ _ _ (T79.setTop (mkF m 41 #[.val (.int p0), .val (.long p1), .second, .val (.long p2), .second, .val (.ref w5), .val (.int (0 : Int32)), .val (.int (1 : Int32)), .unset, .unset] [(.long (1 : Int64)), (.long (0 : Int64)), (.ref w5)]))
        obtain ⟨cq83, kq83, q83a, q83b, q83c⟩ := isOf hZ e79 E_w5
        obtain ⟨_, _, ⟨T83, L83, k83, n83⟩, -, X83, ⟨Lc83, hQ83, l83, y83, z83⟩, st83⟩ := X79.virtualBack hx (y := (⟨"com/example/bericht/bericht/selector/Comparison$Operator", "holds", "(JJ)Z"⟩ : MethodName)) (z := (⟨"com/example/bericht/bericht/selector/Comparison$Operator", "holds", "(JJ)Z"⟩ : MethodName)) hown (mvT hZ (hw _ (List.mem_of_getElem? (i := 14) rfl))) (mvT hZ (hw _ (List.mem_of_getElem? (i := 15) rfl))) (notFace_of_selects (args := #[]) (mvT hZ (hw _ (List.mem_of_getElem? (i := 17) rfl)))) (mvT hZ (hw _ (List.mem_of_getElem? (i := 17) rfl))) (mvT hZ (hw _ (List.mem_of_getElem? (i := 16) rfl))) (by decide) (backOf (W := 0) (rm3_16 l Z a0 hw [] w0 w1 w2 w3 w4 w5 h0 n0 Z0 K0) hZ (hw _ (List.mem_of_getElem? (i := 18) rfl)) (hw _ (List.mem_of_getElem? (i := 6) rfl)) (by decide) (by decide)) q83a q83c (g := (mkF m 41 #[.val (.int p0), .val (.long p1), .second, .val (.long p2), .second, .val (.ref w5), .val (.int (0 : Int32)), .val (.int (1 : Int32)), .unset, .unset] [(.long (1 : Int64)), (.long (0 : Int64)), (.ref w5)])) rfl (by rw [hml]; rfl) (Steps.refl _) (argsL := [(.long (0 : Int64)), (.long (1 : Int64))]) (rest := []) (lenOf pd3 rfl) rfl (by show 2 * 0 + _ ≤ _; exact Nat.le_of_eq rfl) (hb hby at_41) (fun _ _ => ⟨rfl, e79, (by decide : 0 + 0 ≤ _), (by decide : 0 + 0 ≤ _)⟩)
        dsimp only [Pt.U, Pt.locs, Pt.cells, Pt.slots] at X83 l83 y83 z83 st83 hQ83
        subst l83 y83 z83
        obtain ⟨rfl, e83, hO83⟩ := hQ83
        obtain rfl := hO83
        refine own_tr st83 ?_
        show own_Go p e below s _ _ _ (T83.setTop (mkF m 44 #[.val (.int p0), .val (.long p1), .second, .val (.long p2), .second, .val (.ref w5), .val (.int (0 : Int32)), .val (.int (1 : Int32)), .unset, .unset] [(.int (0 : Int32))]))
        refine own_via (fun _ k => XS.aload X83.here hx rfl (hb hby at_44) rfl rfl k) ?_
        show own_Go p e below s _ _ _ (T83.setTop (mkF m 46 #[.val (.int p0), .val (.long p1), .second, .val (.long p2), .second, .val (.ref w5), .val (.int (0 : Int32)), .val (.int (1 : Int32)), .unset, .unset] [(.ref w5), (.int (0 : Int32))]))
        refine own_via (fun _ k => XS.lconst X83.here hx rfl (hb hby at_46) k) ?_
        show own_Go p e below s _ _ _ (T83.setTop (mkF m 47 #[.val (.int p0), .val (.long p1), .second, .val (.long p2), .second, .val (.ref w5), .val (.int (0 : Int32)), .val (.int (1 : Int32)), .unset, .unset] [(.long (1 : Int64)), (.ref w5), (.int (0 : Int32))]))
        refine own_via (fun _ k => XS.lconst X83.here hx rfl (hb hby at_47) k) ?_
        show own_Go p e below s _ _ _ (T83.setTop (mkF m 48 #[.val (.int p0), .val (.long p1), .second, .val (.long p2), .second, .val (.ref w5), .val (.int (0 : Int32)), .val (.int (1 : Int32)), .unset, .unset] [(.long (0 : Int64)), (.long (1 : Int64)), (.ref w5), (.int (0 : Int32))]))
        obtain ⟨cq84, kq84, q84a, q84b, q84c⟩ := isOf hZ e83 E_w5
        obtain ⟨_, _, ⟨T84, L84, k84, n84⟩, -, X84, ⟨Lc84, hQ84, l84, y84, z84⟩, st84⟩ := X83.virtualBack hx (y := (⟨"com/example/bericht/bericht/selector/Comparison$Operator", "holds", "(JJ)Z"⟩ : MethodName)) (z := (⟨"com/example/bericht/bericht/selector/Comparison$Operator", "holds", "(JJ)Z"⟩ : MethodName)) hown (mvT hZ (hw _ (List.mem_of_getElem? (i := 14) rfl))) (mvT hZ (hw _ (List.mem_of_getElem? (i := 15) rfl))) (notFace_of_selects (args := #[]) (mvT hZ (hw _ (List.mem_of_getElem? (i := 17) rfl)))) (mvT hZ (hw _ (List.mem_of_getElem? (i := 17) rfl))) (mvT hZ (hw _ (List.mem_of_getElem? (i := 16) rfl))) (by decide) (backOf (W := 1) (rm3_17 l Z a0 hw [] w0 w1 w2 w3 w4 w5 h0 n0 Z0 K0) hZ (hw _ (List.mem_of_getElem? (i := 18) rfl)) (hw _ (List.mem_of_getElem? (i := 6) rfl)) (by decide) (by decide)) q84a q84c (g := (mkF m 48 #[.val (.int p0), .val (.long p1), .second, .val (.long p2), .second, .val (.ref w5), .val (.int (0 : Int32)), .val (.int (1 : Int32)), .unset, .unset] [(.long (0 : Int64)), (.long (1 : Int64)), (.ref w5), (.int (0 : Int32))])) rfl (by rw [hml]; rfl) (Steps.refl _) (argsL := [(.long (1 : Int64)), (.long (0 : Int64))]) (rest := [(.int (0 : Int32))]) (lenOf pd3 rfl) rfl (by show 2 * 0 + _ ≤ _; exact Nat.le_of_eq rfl) (hb hby at_48) (fun _ _ => ⟨rfl, e83, (by decide : 0 + 0 ≤ _), (by decide : 0 + 0 ≤ _)⟩)
        dsimp only [Pt.U, Pt.locs, Pt.cells, Pt.slots] at X84 l84 y84 z84 st84 hQ84
        subst l84 y84 z84
        obtain ⟨rfl, e84, hO84⟩ := hQ84
        obtain rfl := hO84
        refine own_tr st84 ?_
        show own_Go p e below s _ _ _ (T84.setTop (mkF m 51 #[.val (.int p0), .val (.long p1), .second, .val (.long p2), .second, .val (.ref w5), .val (.int (0 : Int32)), .val (.int (1 : Int32)), .unset, .unset] [(.int (1 : Int32)), (.int (0 : Int32))]))
        refine own_via (fun _ k => XS.icmpNo X84.here hx rfl (hb hby at_51) rfl (feq (by decide : ¬ ((0 : Int32) = (1 : Int32)))).1 k) ?_
        show own_Go p e below s _ _ _ (T84.setTop (mkF m 54 #[.val (.int p0), .val (.long p1), .second, .val (.long p2), .second, .val (.ref w5), .val (.int (0 : Int32)), .val (.int (1 : Int32)), .unset, .unset] []))
        refine own_via (fun _ k => XS.iconst X84.here hx rfl (hb hby at_54) k) ?_
        show own_Go p e below s _ _ _ (T84.setTop (mkF m 55 #[.val (.int p0), .val (.long p1), .second, .val (.long p2), .second, .val (.ref w5), .val (.int (0 : Int32)), .val (.int (1 : Int32)), .unset, .unset] [(.int (1 : Int32))]))
        refine own_via (fun _ k => XS.goto X84.here hx rfl (pc0 := 55) (pc' := 59) rfl (hb hby at_55) (by decide) (by decide) k) ?_
        show own_Go p e below s _ _ _ (T84.setTop (mkF m 59 #[.val (.int p0), .val (.long p1), .second, .val (.long p2), .second, .val (.ref w5), .val (.int (0 : Int32)), .val (.int (1 : Int32)), .unset, .unset] [(.int (1 : Int32))]))
        refine own_via (fun _ k => XS.istore X84.here hx rfl (hb hby at_59) rfl (l' := #[.val (.int p0), .val (.long p1), .second, .val (.long p2), .second, .val (.ref w5), .val (.int (0 : Int32)), .val (.int (1 : Int32)), .val (.int (1 : Int32)), .unset]) rfl k) ?_
        show own_Go p e below s _ _ _ (T84.setTop (mkF m 61 #[.val (.int p0), .val (.long p1), .second, .val (.long p2), .second, .val (.ref w5), .val (.int (0 : Int32)), .val (.int (1 : Int32)), .val (.int (1 : Int32)), .unset] []))
        refine own_via (fun _ k => XS.aload X84.here hx rfl (hb hby at_61) rfl rfl k) ?_
        show own_Go p e below s _ _ _ (T84.setTop (mkF m 63 #[.val (.int p0), .val (.long p1), .second, .val (.long p2), .second, .val (.ref w5), .val (.int (0 : Int32)), .val (.int (1 : Int32)), .val (.int (1 : Int32)), .unset] [(.ref w5)]))
        obtain ⟨cq85, kq85, q85a, q85b, q85c⟩ := isOf hZ e84 E_w5
        obtain ⟨_, _, ⟨T85, L85, k85, n85⟩, -, X85, ⟨Lc85, hQ85, l85, y85, z85⟩, st85⟩ := X84.virtualBack hx (y := (⟨"com/example/bericht/bericht/selector/Comparison$Operator", "flipped", "()Lcom/example/bericht/bericht/selector/Comparison$Operator;"⟩ : MethodName)) (z := (⟨"com/example/bericht/bericht/selector/Comparison$Operator", "flipped", "()Lcom/example/bericht/bericht/selector/Comparison$Operator;"⟩ : MethodName)) hown (mvT hZ (hw _ (List.mem_of_getElem? (i := 28) rfl))) (mvT hZ (hw _ (List.mem_of_getElem? (i := 29) rfl))) (notFace_of_selects (args := #[]) (mvT hZ (hw _ (List.mem_of_getElem? (i := 31) rfl)))) (mvT hZ (hw _ (List.mem_of_getElem? (i := 31) rfl))) (mvT hZ (hw _ (List.mem_of_getElem? (i := 30) rfl))) (by decide) (backOf (W := 0) (rm5_5 l Z a0 hw [] w0 w1 w2 w3 w4 w5 h0 n0 Z0 K0) hZ (hw _ (List.mem_of_getElem? (i := 32) rfl)) (hw _ (List.mem_of_getElem? (i := 6) rfl)) (by decide) (by decide)) q85a q85c (g := (mkF m 63 #[.val (.int p0), .val (.long p1), .second, .val (.long p2), .second, .val (.ref w5), .val (.int (0 : Int32)), .val (.int (1 : Int32)), .val (.int (1 : Int32)), .unset] [(.ref w5)])) rfl (by rw [hml]; rfl) (Steps.refl _) (argsL := []) (rest := []) (lenOf pd4 rfl) rfl (by show 2 * 0 + _ ≤ _; exact Nat.le_of_eq rfl) (hb hby at_63) (fun _ _ => ⟨rfl, e84, (by decide : 0 + 0 ≤ _), (by decide : 0 + 0 ≤ _)⟩)
        dsimp only [Pt.U, Pt.locs, Pt.cells, Pt.slots] at X85 l85 y85 z85 st85 hQ85
        subst l85 y85 z85
        obtain ⟨rfl, e85, hO85⟩ := hQ85
        obtain rfl := hO85
        refine own_tr st85 ?_
        show own_Go p e below s _ _ _ (T85.setTop (mkF m 66 #[.val (.int p0), .val (.long p1), .second, .val (.long p2), .second, .val (.ref w5), .val (.int (0 : Int32)), .val (.int (1 : Int32)), .val (.int (1 : Int32)), .unset] [(.ref w4)]))
        refine own_via (fun _ k => XS.aload X85.here hx rfl (hb hby at_66) rfl rfl k) ?_
        show own_Go p e below s _ _ _ (T85.setTop (mkF m 68 #[.val (.int p0), .val (.long p1), .second, .val (.long p2), .second, .val (.ref w5), .val (.int (0 : Int32)), .val (.int (1 : Int32)), .val (.int (1 : Int32)), .unset] [(.ref w5), (.ref w4)]))
        refine own_via (fun _ k => Jvm.RoadKit.acmp (g := (mkF m 68 #[.val (.int p0), .val (.long p1), .second, .val (.long p2), .second, .val (.ref w5), .val (.int (0 : Int32)), .val (.int (1 : Int32)), .val (.int (1 : Int32)), .unset] [(.ref w5), (.ref w4)])) X85 hx rfl rfl rfl (pc0 := 68) (pc' := 75) (same := false) rfl (hb hby at_68) rfl (decide_eq_false fun q => n_w4_w5 (Value.ref.inj q)) (by decide) (by decide) k) ?_
        show own_Go p e below s _ _ _ (T85.setTop (mkF m 75 #[.val (.int p0), .val (.long p1), .second, .val (.long p2), .second, .val (.ref w5), .val (.int (0 : Int32)), .val (.int (1 : Int32)), .val (.int (1 : Int32)), .unset] []))
        refine own_via (fun _ k => XS.iconst X85.here hx rfl (hb hby at_75) k) ?_
        show own_Go p e below s _ _ _ (T85.setTop (mkF m 76 #[.val (.int p0), .val (.long p1), .second, .val (.long p2), .second, .val (.ref w5), .val (.int (0 : Int32)), .val (.int (1 : Int32)), .val (.int (1 : Int32)), .unset] [(.int (0 : Int32))]))
        refine own_via (fun _ k => XS.istore X85.here hx rfl (hb hby at_76) rfl (l' := #[.val (.int p0), .val (.long p1), .second, .val (.long p2), .second, .val (.ref w5), .val (.int (0 : Int32)), .val (.int (1 : Int32)), .val (.int (1 : Int32)), .val (.int (0 : Int32))]) rfl k) ?_
        show own_Go p e below s _ _ _ (T85.setTop (mkF m 78 #[.val (.int p0), .val (.long p1), .second, .val (.long p2), .second, .val (.ref w5), .val (.int (0 : Int32)), .val (.int (1 : Int32)), .val (.int (1 : Int32)), .val (.int (0 : Int32))] []))
        refine own_via (fun _ k => XS.iload X85.here hx rfl (hb hby at_78) rfl k) ?_
        show own_Go p e below s _ _ _ (T85.setTop (mkF m 80 #[.val (.int p0), .val (.long p1), .second, .val (.long p2), .second, .val (.ref w5), .val (.int (0 : Int32)), .val (.int (1 : Int32)), .val (.int (1 : Int32)), .val (.int (0 : Int32))] [(.int (0 : Int32))]))
        refine own_via (fun _ k => XS.ifYes X85.here hx rfl (pc0 := 80) (pc' := 104) rfl (hb hby at_80) rfl ((if0 _ _).trans (teq (by decide : (0 : Int32) = (0 : Int32))).1) (by decide) (by decide) k) ?_
        show own_Go p e below s _ _ _ (T85.setTop (mkF m 104 #[.val (.int p0), .val (.long p1), .second, .val (.long p2), .second, .val (.ref w5), .val (.int (0 : Int32)), .val (.int (1 : Int32)), .val (.int (1 : Int32)), .val (.int (0 : Int32))] []))
        refine own_via (fun _ k => XS.iload X85.here hx rfl (hb hby at_104) rfl k) ?_
        show own_Go p e below s _ _ _ (T85.setTop (mkF m 106 #[.val (.int p0), .val (.long p1), .second, .val (.long p2), .second, .val (.ref w5), .val (.int (0 : Int32)), .val (.int (1 : Int32)), .val (.int (1 : Int32)), .val (.int (0 : Int32))] [(.int (1 : Int32))]))
        refine own_via (fun _ k => XS.ifNo X85.here hx rfl (hb hby at_106) rfl ((if0 _ _).trans (feq (by decide : ¬ ((1 : Int32) = (0 : Int32)))).1) k) ?_
        show own_Go p e below s _ _ _ (T85.setTop (mkF m 109 #[.val (.int p0), .val (.long p1), .second, .val (.long p2), .second, .val (.ref w5), .val (.int (0 : Int32)), .val (.int (1 : Int32)), .val (.int (1 : Int32)), .val (.int (0 : Int32))] []))
        refine own_via (fun _ k => XS.iload X85.here hx rfl (hb hby at_109) rfl k) ?_
        show own_Go p e below s _ _ _ (T85.setTop (mkF m 111 #[.val (.int p0), .val (.long p1), .second, .val (.long p2), .second, .val (.ref w5), .val (.int (0 : Int32)), .val (.int (1 : Int32)), .val (.int (1 : Int32)), .val (.int (0 : Int32))] [(.int (0 : Int32))]))
        refine own_via (fun _ k => XS.ifNo X85.here hx rfl (hb hby at_111) rfl ((if0 _ _).trans (teq (by decide : (0 : Int32) = (0 : Int32))).2) k) ?_
        show own_Go p e below s _ _ _ (T85.setTop (mkF m 114 #[.val (.int p0), .val (.long p1), .second, .val (.long p2), .second, .val (.ref w5), .val (.int (0 : Int32)), .val (.int (1 : Int32)), .val (.int (1 : Int32)), .val (.int (0 : Int32))] []))
        refine own_via (fun _ k => XS.iconst X85.here hx rfl (hb hby at_114) k) ?_
        show own_Go p e below s _ _ _ (T85.setTop (mkF m 115 #[.val (.int p0), .val (.long p1), .second, .val (.long p2), .second, .val (.ref w5), .val (.int (0 : Int32)), .val (.int (1 : Int32)), .val (.int (1 : Int32)), .val (.int (0 : Int32))] [(.int (1 : Int32))]))
        refine own_via (fun _ k => XS.goto X85.here hx rfl (pc0 := 115) (pc' := 119) rfl (hb hby at_115) (by decide) (by decide) k) ?_
        show own_Go p e below s _ _ _ (T85.setTop (mkF m 119 #[.val (.int p0), .val (.long p1), .second, .val (.long p2), .second, .val (.ref w5), .val (.int (0 : Int32)), .val (.int (1 : Int32)), .val (.int (1 : Int32)), .val (.int (0 : Int32))] [(.int (1 : Int32))]))
        exact own_retZ X85 hx hlk (t := .boolean) Bd.returns (by simp) (hb hby at_119) (z' := (1 : Int32)) (by first | rfl | decide) ⟨rfl, (Fr.nil n0)⟩ (by decide) (by decide)
set_option maxRecDepth 65536 in
set_option maxHeartbeats 40000000 in
theorem comes_1 {Post : Tables → Env → Array Value → State → Outcome → State → Prop} (hpost : ∀ tb e args s v u, (limb_1_1.after args s (.returned v) u = true ∧ limb_1_2.after args s (.returned v) u = true ∧ True) → FrameEnd s (.returned v) u (Jvm.fieldLocs frame_1_writes args s ++ Jvm.arrayLocs frame_1_arrays args s ++ Jvm.staticLocs frame_1_statics s) 0 0 → Post tb e args s (.returned v) u) :
    ArmFor flags0 classFile x code maxLocals ret World_1 tables_1 room_1 Calls_1 rest_1 Pre_1 Post := by
  intro l hfl _ _ p e ha hc hk s m args below hf hA hF happ hP
  obtain ⟨hcalls, hrest, hpre⟩ := hP
  obtain ⟨-, -, -, hnamed, -, -, -, hat⟩ := (Spec.applies_iff hf).mp happ
  obtain ⟨hg, hn⟩ := and_e (Cond.before_iff.mp (show (Jvm.Cond.and given_1 narrow_1).before args s = true from hpre))
  obtain ⟨g0, hg0⟩ := and_e hg
  obtain ⟨g1, hg1⟩ := and_e hg0
  obtain ⟨g2, hg2⟩ := and_e hg1
  obtain ⟨u0, u1, u2, rfl⟩ : ∃ u0 u1 u2 : Value, args = #[u0, u1, u2] := by
    have hs : args.size = 3 := by simpa [Cond.value, given_1] using g0
    obtain ⟨L⟩ := args
    match L, hs with
    | [u0, u1, u2], _ => exact ⟨u0, u1, u2, rfl⟩
  have hw := fun d (hd : d ∈ tables_1) => atoms_spec (ws := Jvm.Cond.code x code maxLocals ret :: tables_1) hat d (List.mem_cons_of_mem _ hd)
  obtain ⟨i0, ei0⟩ := is_v g1
  obtain rfl : u0 = (.int i0) := Option.some.inj ei0
  obtain ⟨i1, ei1⟩ := isL_v g2
  obtain rfl : u1 = (.long i1) := Option.some.inj ei1
  obtain ⟨i2, ei2⟩ := isL_v hg2
  obtain rfl : u2 = (.long i2) := Option.some.inj ei2
  obtain ⟨t0, hn0⟩ := and_e hn
  obtain ⟨t1, hn1⟩ := and_e hn0
  obtain ⟨t2, hn2⟩ := and_e hn1
  obtain ⟨t3, hn3⟩ := and_e hn2
  obtain ⟨t4, hn4⟩ := and_e hn3
  obtain ⟨t5, hn5⟩ := and_e hn4
  obtain ⟨t6, hn6⟩ := and_e hn5
  obtain ⟨t7, hn7⟩ := and_e hn6
  obtain ⟨t8, hn8⟩ := and_e hn7
  obtain ⟨t9, hn9⟩ := and_e hn8
  obtain ⟨t10, hn10⟩ := and_e hn9
  obtain ⟨w0, v_w0⟩ := exa_v t0
  have E_w0 := Exa.start v_w0 t0
  have S_w0 := Sta.start v_w0 (Or.inr ⟨(hw _ (List.mem_of_getElem? (i := 6) rfl)), (hw _ (List.mem_of_getElem? (i := 7) rfl))⟩)
  obtain ⟨w1, v_w1⟩ := exa_v t2
  have E_w1 := Exa.start v_w1 t2
  have S_w1 := Sta.start v_w1 (Or.inr ⟨(hw _ (List.mem_of_getElem? (i := 6) rfl)), (hw _ (List.mem_of_getElem? (i := 34) rfl))⟩)
  obtain ⟨w2, v_w2⟩ := exa_v t4
  have E_w2 := Exa.start v_w2 t4
  have S_w2 := Sta.start v_w2 (Or.inr ⟨(hw _ (List.mem_of_getElem? (i := 6) rfl)), (hw _ (List.mem_of_getElem? (i := 36) rfl))⟩)
  obtain ⟨w3, v_w3⟩ := exa_v t6
  have E_w3 := Exa.start v_w3 t6
  have S_w3 := Sta.start v_w3 (Or.inr ⟨(hw _ (List.mem_of_getElem? (i := 6) rfl)), (hw _ (List.mem_of_getElem? (i := 38) rfl))⟩)
  obtain ⟨w4, v_w4⟩ := exa_v t8
  have E_w4 := Exa.start v_w4 t8
  have S_w4 := Sta.start v_w4 (Or.inr ⟨(hw _ (List.mem_of_getElem? (i := 6) rfl)), (hw _ (List.mem_of_getElem? (i := 40) rfl))⟩)
  obtain ⟨w5, v_w5⟩ := exa_v t10
  have E_w5 := Exa.start v_w5 t10
  have S_w5 := Sta.start v_w5 (Or.inr ⟨(hw _ (List.mem_of_getElem? (i := 6) rfl)), (hw _ (List.mem_of_getElem? (i := 42) rfl))⟩)
  have F_w0_ordinal := own_fld v_w0 t1
  have F_w1_ordinal := own_fld v_w1 t3
  have F_w2_ordinal := own_fld v_w2 t5
  have F_w3_ordinal := own_fld v_w3 t7
  have F_w4_ordinal := own_fld v_w4 t9
  have F_w5_ordinal := own_fld v_w5 hn10
  have n_w0_w1 : ¬ (w0 = w1) := Fld.ne F_w0_ordinal F_w1_ordinal (by decide)
  have n_w0_w2 : ¬ (w0 = w2) := Fld.ne F_w0_ordinal F_w2_ordinal (by decide)
  have n_w0_w3 : ¬ (w0 = w3) := Fld.ne F_w0_ordinal F_w3_ordinal (by decide)
  have n_w0_w4 : ¬ (w0 = w4) := Fld.ne F_w0_ordinal F_w4_ordinal (by decide)
  have n_w0_w5 : ¬ (w0 = w5) := Fld.ne F_w0_ordinal F_w5_ordinal (by decide)
  have n_w1_w2 : ¬ (w1 = w2) := Fld.ne F_w1_ordinal F_w2_ordinal (by decide)
  have n_w1_w3 : ¬ (w1 = w3) := Fld.ne F_w1_ordinal F_w3_ordinal (by decide)
  have n_w1_w4 : ¬ (w1 = w4) := Fld.ne F_w1_ordinal F_w4_ordinal (by decide)
  have n_w1_w5 : ¬ (w1 = w5) := Fld.ne F_w1_ordinal F_w5_ordinal (by decide)
  have n_w2_w3 : ¬ (w2 = w3) := Fld.ne F_w2_ordinal F_w3_ordinal (by decide)
  have n_w2_w4 : ¬ (w2 = w4) := Fld.ne F_w2_ordinal F_w4_ordinal (by decide)
  have n_w2_w5 : ¬ (w2 = w5) := Fld.ne F_w2_ordinal F_w5_ordinal (by decide)
  have n_w3_w4 : ¬ (w3 = w4) := Fld.ne F_w3_ordinal F_w4_ordinal (by decide)
  have n_w3_w5 : ¬ (w3 = w5) := Fld.ne F_w3_ordinal F_w5_ordinal (by decide)
  have n_w4_w5 : ¬ (w4 = w5) := Fld.ne F_w4_ordinal F_w5_ordinal (by decide)
  obtain ⟨n, o, h1, h2, h3, _, L, rfl, ⟨rfl, N⟩, hq⟩ := rm0 l s _ hw tables_1 i0 i1 i2 w0 w1 w2 w3 w4 w5 s.heap s.heap.size (Nat.le_refl _) ⟨S_w0, S_w1, S_w2, S_w3, S_w4, S_w5, E_w0, E_w1, E_w2, E_w3, E_w4, E_w5, F_w0_ordinal, F_w1_ordinal, F_w2_ordinal, F_w3_ordinal, F_w4_ordinal, F_w5_ordinal, n_w0_w1, n_w0_w2, n_w0_w3, n_w0_w4, n_w0_w5, n_w1_w2, n_w1_w3, n_w1_w4, n_w1_w5, n_w2_w3, n_w2_w4, n_w2_w5, n_w3_w4, n_w3_w5, n_w4_w5⟩ p e ha hc hk s m _ below hf ((Spec.applies_iff_loose hf).mp happ).1 ⟨rfl, State.Warmed39.refl s, rfl⟩ trivial
  refine ⟨n, _, h1, h2, h3, hpost _ _ _ _ _ _ ⟨Cond.after_iff.mpr rfl, Cond.after_iff.mpr (eq_i res_at (Term.int_eval (1)) rfl), trivial⟩ ⟨hq.1, hq.2.1, (hq.2.2.sift fun y hy => Or.inr (N y hy)).mono (by decide) (by decide)⟩⟩
theorem main_1_1 : Claimed_1_1 := comes_1 fun _ _ _ _ _ _ h hF => ⟨h.1, hF⟩
theorem main_1_2 : Claimed_1_2 := comes_1 fun _ _ _ _ _ _ h hF => ⟨h.2.1, hF⟩
end Jvm.Pilot.@@N@@
namespace Jvm.Pilot.@@N@@
open Jvm Jvm.ClassFile Sem Op Lib Jvm.Free Jvm.Stand Jvm.Pilot.@@N@@.Jvm.D
/-! MADE BY PROGRAM (witnessworld.py) out of the Statement's table words and the real class files: 12 classes; the members and pool entries that the words name. The judged class is class 1, her method 2. -/
namespace start1
open Jvm.ClassFile
def u (s : String) : CpInfo := .utf8 (stringToUtf16 s)
/-- a pool by its gaps: so many unusable entries, then the entry; so many at the end -/
def gap : Nat → List CpInfo → List CpInfo
  | 0, r => r
  | n + 1, r => .unusable :: gap n r
def poolList (es : List (Nat × CpInfo)) (last : Nat) : List CpInfo := es.foldr (fun e r => gap e.1 (e.2 :: r)) (gap last [])
def pool (es : List (Nat × CpInfo)) (last : Nat) : Array CpInfo := ⟨poolList es last⟩
def fileOf (pool : Array CpInfo) (this : Nat) (attrs : Array Attribute := #[]) (ms : Array MethodInfo := #[]) (fl : Nat := 33) (sup : Nat := 0) (ifs : Array Nat := #[]) (fds : Array FieldInfo := #[]) : ClassFile where
  minorVersion := 0
  majorVersion := 65
  constantPool := pool
  accessFlags := fl
  thisClass := this
  superClass := sup
  interfaces := ifs
  fields := fds
  methods := ms
  attributes := attrs
def plain (name : String) (sup : Option ClassId) : Class where
  name := name
  kind := .ordinary
  loader := none
  accessFlags := 33
  super := sup
  interfaces := #[]
  cf := none
  fields := #[]
  methods := #[]
  instanceTypes := #[]
  staticTypes := #[]
  resolved := #[]
  callSites := []
  init := .initialized
  statics := none
  mirror := none

def pool0 : Array CpInfo := pool [(5, u "<init>"), (0, u "()V"), (1, .class_ 10), (1, u "java/lang/Object")] 113

def k0m0 : Method := { name := "<init>", desc := "()V", sig := { parameters := [], returnType := none }, accessFlags := 1, code := none }
/-- java/lang/Object -/
def k0 : Class := { plain "java/lang/Object" none with
  accessFlags := 33
  interfaces := #[]
  cf := some (fileOf pool0 8 #[] #[{ accessFlags := 1, nameIndex := 5, descriptorIndex := 6, attributes := #[] }] 33 0 #[] #[])
  fields := #[]
  methods := #[k0m0]
  instanceTypes := #[]
  staticTypes := #[]
  resolved := Array.replicate 124 none
  statics := none }

def pool1 : Array CpInfo := pool [(2, .class_ 4), (1, u "java/lang/Object"), (0, u "<init>"), (0, u "()V"), (0, .integer 2147483647), (0, .fieldref 9 10), (0, .class_ 11), (0, .nameAndType 12 13), (0, u "com/example/bericht/bericht/selector/Comparison$Operator"), (0, u "EQUAL"), (0, u "Lcom/example/bericht/bericht/selector/Comparison$Operator;"), (0, .fieldref 9 15), (0, .nameAndType 16 13), (0, u "NOT_EQUAL"), (0, .fieldref 9 18), (0, .nameAndType 19 13), (0, u "LESS"), (0, .fieldref 9 21), (0, .nameAndType 22 13), (0, u "LESS_OR_EQUAL"), (0, .fieldref 9 24), (0, .nameAndType 25 13), (0, u "GREATER"), (0, .fieldref 9 27), (0, .nameAndType 28 13), (0, u "GREATER_OR_EQUAL"), (0, .methodref 30 31), (0, .class_ 32), (0, .nameAndType 33 34), (0, u "com/example/bericht/bericht/selector/OperatorIsEqualityPinLaw"), (0, u "pick"), (0, u "(I)Lcom/example/bericht/bericht/selector/Comparison$Operator;"), (0, .methodref 9 36), (0, .nameAndType 37 38), (0, u "isEquality"), (0, u "()Z"), (0, .methodref 9 40), (0, .nameAndType 41 42), (0, u "holds"), (0, u "(JJ)Z"), (0, .methodref 9 44), (0, .nameAndType 45 46), (0, u "flipped"), (0, u "()Lcom/example/bericht/bericht/selector/Comparison$Operator;"), (3, u "law"), (0, u "(IJJ)Z")] 6

def k1m0 : Method := { name := "<init>", desc := "()V", sig := { parameters := [], returnType := none }, accessFlags := 1, code := none }
def k1c1 : Code := { maxStack := 2, maxLocals := 2, code := method_2_code, exceptionTable := #[], attributes := #[] }
def k1m1 : Method := { name := "pick", desc := "(I)Lcom/example/bericht/bericht/selector/Comparison$Operator;", sig := { parameters := [.int], returnType := some (.object "com/example/bericht/bericht/selector/Comparison$Operator") }, accessFlags := 10, code := some k1c1 }
def k1c2 : Code := { maxStack := 6, maxLocals := 10, code := code, exceptionTable := #[], attributes := #[] }
def k1m2 : Method := { name := "law", desc := "(IJJ)Z", sig := { parameters := [.int, .long, .long], returnType := some .boolean }, accessFlags := 9, code := some k1c2 }
/-- com/example/bericht/bericht/selector/OperatorIsEqualityPinLaw -/
def k1 : Class := { plain "com/example/bericht/bericht/selector/OperatorIsEqualityPinLaw" (some 0) with
  accessFlags := 49
  interfaces := #[]
  cf := some (fileOf pool1 30 #[] #[{ accessFlags := 1, nameIndex := 5, descriptorIndex := 6, attributes := #[] }, { accessFlags := 10, nameIndex := 33, descriptorIndex := 34, attributes := #[] }, { accessFlags := 9, nameIndex := 50, descriptorIndex := 51, attributes := #[] }] 49 2 #[] #[])
  fields := #[]
  methods := #[k1m0, k1m1, k1m2]
  instanceTypes := #[]
  staticTypes := #[]
  resolved := Array.replicate 58 none
  statics := none }

def pool2 : Array CpInfo := pool [(1, .class_ 2), (0, u "java/lang/constant/Constable"), (0, .class_ 4), (0, u "java/lang/Object")] 6

/-- java/lang/constant/Constable -/
def k2 : Class := { plain "java/lang/constant/Constable" (some 0) with
  accessFlags := 1537
  interfaces := #[]
  cf := some (fileOf pool2 1 #[] #[] 1537 3 #[] #[])
  fields := #[]
  methods := #[]
  instanceTypes := #[]
  staticTypes := #[]
  resolved := Array.replicate 11 none
  statics := none }

def pool3 : Array CpInfo := pool [(1, .class_ 2), (0, u "java/lang/Comparable"), (0, .class_ 4), (0, u "java/lang/Object")] 7

/-- java/lang/Comparable -/
def k3 : Class := { plain "java/lang/Comparable" (some 0) with
  accessFlags := 1537
  interfaces := #[]
  cf := some (fileOf pool3 1 #[] #[] 1537 3 #[] #[])
  fields := #[]
  methods := #[]
  instanceTypes := #[]
  staticTypes := #[]
  resolved := Array.replicate 12 none
  statics := none }

def pool4 : Array CpInfo := pool [(1, .class_ 2), (0, u "java/io/Serializable"), (0, .class_ 4), (0, u "java/lang/Object")] 2

/-- java/io/Serializable -/
def k4 : Class := { plain "java/io/Serializable" (some 0) with
  accessFlags := 1537
  interfaces := #[]
  cf := some (fileOf pool4 1 #[] #[] 1537 3 #[] #[])
  fields := #[]
  methods := #[]
  instanceTypes := #[]
  staticTypes := #[]
  resolved := Array.replicate 7 none
  statics := none }

def pool5 : Array CpInfo := pool [(2, .class_ 4), (1, u "java/lang/Enum"), (0, u "name"), (0, u "Ljava/lang/String;"), (0, .fieldref 2 8), (0, .nameAndType 9 10), (0, u "ordinal"), (0, u "I"), (1, .class_ 14), (1, u "java/lang/Object"), (4, u "hash"), (86, .class_ 108), (1, u "java/lang/Enum$EnumDesc"), (2, .class_ 112), (0, u "java/lang/constant/Constable"), (0, .class_ 114), (0, u "java/lang/Comparable"), (0, .class_ 116), (0, u "java/io/Serializable"), (9, u "()I")] 77

def k5c0 : Code := { maxStack := 1, maxLocals := 1, code := jdk_37_method_2_code, exceptionTable := #[], attributes := #[] }
def k5m0 : Method := { name := "ordinal", desc := "()I", sig := { parameters := [], returnType := some .int }, accessFlags := 17, code := some k5c0 }
/-- java/lang/Enum -/
def k5 : Class := { plain "java/lang/Enum" (some 0) with
  accessFlags := 1057
  interfaces := #[2, 3, 4]
  cf := some (fileOf pool5 2 #[.nestMembers #[106]] #[{ accessFlags := 17, nameIndex := 9, descriptorIndex := 126, attributes := #[] }] 1057 12 #[111, 113, 115] #[{ accessFlags := 18, nameIndex := 5, descriptorIndex := 6, attributes := #[] }, { accessFlags := 18, nameIndex := 9, descriptorIndex := 10, attributes := #[] }, { accessFlags := 2, nameIndex := 19, descriptorIndex := 10, attributes := #[] }])
  fields := #[{ name := "name", type := (.object "java/lang/String"), accessFlags := 18, slot := 0, constantValue := 0 }, { name := "ordinal", type := .int, accessFlags := 18, slot := 1, constantValue := 0 }, { name := "hash", type := .int, accessFlags := 2, slot := 2, constantValue := 0 }]
  methods := #[k5m0]
  instanceTypes := #[(.object "java/lang/String"), .int, .int]
  staticTypes := #[]
  resolved := Array.replicate 204 none
  statics := none }

def pool6 : Array CpInfo := pool [(1, .class_ 2), (0, u "com/example/bericht/bericht/selector/Comparison$Operator"), (0, .fieldref 1 4), (0, .nameAndType 5 6), (0, u "EQUAL"), (0, u "Lcom/example/bericht/bericht/selector/Comparison$Operator;"), (0, .fieldref 1 8), (0, .nameAndType 9 6), (0, u "NOT_EQUAL"), (0, .fieldref 1 11), (0, .nameAndType 12 6), (0, u "LESS"), (0, .fieldref 1 14), (0, .nameAndType 15 6), (0, u "LESS_OR_EQUAL"), (0, .fieldref 1 17), (0, .nameAndType 18 6), (0, u "GREATER"), (0, .fieldref 1 20), (0, .nameAndType 21 6), (0, u "GREATER_OR_EQUAL"), (2, u "$VALUES"), (0, u "[Lcom/example/bericht/bericht/selector/Comparison$Operator;"), (6, .class_ 34), (1, u "java/lang/Enum"), (8, u "symbol"), (0, u "Ljava/lang/String;"), (19, .methodref 1 65), (0, .nameAndType 66 67), (0, u "ordinal"), (0, u "()I"), (7, u "isEquality"), (0, u "()Z"), (37, u "holds"), (0, u "(JJ)Z"), (1, u "flipped"), (0, u "()Lcom/example/bericht/bericht/selector/Comparison$Operator;"), (8, .class_ 128), (0, u "com/example/bericht/bericht/selector/Comparison")] 16

def k6c0 : Code := { maxStack := 4, maxLocals := 5, code := prog_22_method_5_code, exceptionTable := #[], attributes := #[] }
def k6m0 : Method := { name := "holds", desc := "(JJ)Z", sig := { parameters := [.long, .long], returnType := some .boolean }, accessFlags := 0, code := some k6c0 }
def k6c1 : Code := { maxStack := 4, maxLocals := 1, code := prog_22_method_7_code, exceptionTable := #[], attributes := #[] }
def k6m1 : Method := { name := "flipped", desc := "()Lcom/example/bericht/bericht/selector/Comparison$Operator;", sig := { parameters := [], returnType := some (.object "com/example/bericht/bericht/selector/Comparison$Operator") }, accessFlags := 0, code := some k6c1 }
def k6c2 : Code := { maxStack := 2, maxLocals := 1, code := prog_22_method_8_code, exceptionTable := #[], attributes := #[] }
def k6m2 : Method := { name := "isEquality", desc := "()Z", sig := { parameters := [], returnType := some .boolean }, accessFlags := 0, code := some k6c2 }
/-- com/example/bericht/bericht/selector/Comparison$Operator -/
def k6 : Class := { plain "com/example/bericht/bericht/selector/Comparison$Operator" (some 5) with
  accessFlags := 16432
  interfaces := #[]
  cf := some (fileOf pool6 1 #[.nestHost 127] #[{ accessFlags := 0, nameIndex := 114, descriptorIndex := 115, attributes := #[] }, { accessFlags := 0, nameIndex := 117, descriptorIndex := 118, attributes := #[] }, { accessFlags := 0, nameIndex := 75, descriptorIndex := 76, attributes := #[] }] 16432 32 #[] #[{ accessFlags := 16409, nameIndex := 5, descriptorIndex := 6, attributes := #[] }, { accessFlags := 16409, nameIndex := 9, descriptorIndex := 6, attributes := #[] }, { accessFlags := 16409, nameIndex := 12, descriptorIndex := 6, attributes := #[] }, { accessFlags := 16409, nameIndex := 15, descriptorIndex := 6, attributes := #[] }, { accessFlags := 16409, nameIndex := 18, descriptorIndex := 6, attributes := #[] }, { accessFlags := 16409, nameIndex := 21, descriptorIndex := 6, attributes := #[] }, { accessFlags := 18, nameIndex := 43, descriptorIndex := 44, attributes := #[] }, { accessFlags := 4122, nameIndex := 24, descriptorIndex := 25, attributes := #[] }])
  fields := #[{ name := "EQUAL", type := (.object "com/example/bericht/bericht/selector/Comparison$Operator"), accessFlags := 16409, slot := 0, constantValue := 0 }, { name := "NOT_EQUAL", type := (.object "com/example/bericht/bericht/selector/Comparison$Operator"), accessFlags := 16409, slot := 1, constantValue := 0 }, { name := "LESS", type := (.object "com/example/bericht/bericht/selector/Comparison$Operator"), accessFlags := 16409, slot := 2, constantValue := 0 }, { name := "LESS_OR_EQUAL", type := (.object "com/example/bericht/bericht/selector/Comparison$Operator"), accessFlags := 16409, slot := 3, constantValue := 0 }, { name := "GREATER", type := (.object "com/example/bericht/bericht/selector/Comparison$Operator"), accessFlags := 16409, slot := 4, constantValue := 0 }, { name := "GREATER_OR_EQUAL", type := (.object "com/example/bericht/bericht/selector/Comparison$Operator"), accessFlags := 16409, slot := 5, constantValue := 0 }, { name := "symbol", type := (.object "java/lang/String"), accessFlags := 18, slot := 3, constantValue := 0 }, { name := "$VALUES", type := (.array (.object "com/example/bericht/bericht/selector/Comparison$Operator")), accessFlags := 4122, slot := 6, constantValue := 0 }]
  methods := #[k6m0, k6m1, k6m2]
  instanceTypes := #[(.object "java/lang/String"), .int, .int, (.object "java/lang/String")]
  staticTypes := #[(.object "com/example/bericht/bericht/selector/Comparison$Operator"), (.object "com/example/bericht/bericht/selector/Comparison$Operator"), (.object "com/example/bericht/bericht/selector/Comparison$Operator"), (.object "com/example/bericht/bericht/selector/Comparison$Operator"), (.object "com/example/bericht/bericht/selector/Comparison$Operator"), (.object "com/example/bericht/bericht/selector/Comparison$Operator"), (.array (.object "com/example/bericht/bericht/selector/Comparison$Operator"))]
  resolved := Array.replicate 145 none
  statics := some 0 }

def pool7 : Array CpInfo := pool [(1, u "java/lang/Cloneable"), (0, .class_ 1), (0, u "java/lang/Object"), (0, .class_ 3)] 3

/-- java/lang/Cloneable -/
def k7 : Class := { plain "java/lang/Cloneable" (some 0) with
  accessFlags := 1537
  interfaces := #[]
  cf := some (fileOf pool7 2 #[] #[] 1537 4 #[] #[])
  fields := #[]
  methods := #[]
  instanceTypes := #[]
  staticTypes := #[]
  resolved := Array.replicate 8 none
  statics := none }

/-- the primitive byte -/
def k8 : Class := { plain "byte" none with kind := .primitive 'B', accessFlags := 0x411 }
/-- [B -/
def k9 : Class := { plain "[B" (some 0) with kind := .array 8 .byte, interfaces := #[7, 4], accessFlags := 1041 }

/-- the primitive int -/
def k10 : Class := { plain "int" none with kind := .primitive 'I', accessFlags := 0x411 }
/-- [I -/
def k11 : Class := { plain "[I" (some 0) with kind := .array 10 .int, interfaces := #[7, 4], accessFlags := 1041 }

def heap : Heap := #[{ cls := 6, slots := #[.ref 1, .ref 3, .ref 4, .ref 5, .ref 2, .ref 6, .null], vm := .statics 6 },
  { cls := 6, slots := #[.null, .int 0, .int 0, .null], vm := .none },
  { cls := 6, slots := #[.null, .int 4, .int 0, .null], vm := .none },
  { cls := 6, slots := #[.null, .int 1, .int 0, .null], vm := .none },
  { cls := 6, slots := #[.null, .int 2, .int 0, .null], vm := .none },
  { cls := 6, slots := #[.null, .int 3, .int 0, .null], vm := .none },
  { cls := 6, slots := #[.null, .int 5, .int 0, .null], vm := .none }]
def classes : Array Class := #[k0, k1, k2, k3, k4, k5, k6, k7, k8, k9, k10, k11]
def interned : List (Array UInt16 × Addr) := []
def slotsUsed : Nat := 31
def theMethod : MethodId := ⟨1, 2⟩
def args0 : Array Value := #[.int 5, .long 5, .long 5]
def aboutOver (below : List Frame) : State where
  vm := { classes := classes, interned := interned.toArray }
  heap := heap
  slotsUsed := slotsUsed
  threads := #[{ frames := .invoking theMethod args0 :: below }]
def below0 : List Frame := [.native { method := ⟨0, 0⟩, args := #[] }]
def about1 : State := aboutOver below0
def p0 : Program := .bare "" "" ""
def e0 : Env := launch0.env 0 0 0
theorem w_frames : about1.frames = Frame.invoking theMethod args0 :: below0 := rfl
set_option maxRecDepth 65536 in
theorem w_args : argsFit about1.vm theMethod args0 = true := by decide +kernel
set_option maxRecDepth 65536 in
theorem w_heap : heapFits about1 = true := by decide +kernel
set_option maxRecDepth 65536 in
theorem w_runnable : about1.curStatus? = some .runnable := by decide +kernel
set_option maxRecDepth 65536 in
theorem w_alone : about1.alone = true := by decide +kernel
set_option maxRecDepth 65536 in
theorem w_named : about1.methodNamed? x = some theMethod := by decide +kernel
set_option maxRecDepth 65536 in
theorem w_hears : about1.hears theMethod below0 = true := by decide +kernel
set_option maxRecDepth 65536 in
theorem w_ripe : about1.ripe theMethod args0 below0 = true := by decide +kernel
theorem w_running : about1.status = .running := rfl
set_option maxRecDepth 65536 in
theorem w_room : about1.hasRoom e0.platform room_1 = true :=
  launch0.hasRoom_least _ room_1 (by decide +kernel) (by decide +kernel) (by decide +kernel) (by decide +kernel) (by decide +kernel) (by decide +kernel)
theorem allAtoms_all (ts : List Jvm.Cond) (a : Array Jvm.Value) (st : Jvm.State) : (allAtoms ts).before a st = ts.all (fun c => c.before a st) := by
  induction ts with
  | nil => rfl
  | cons c t ih =>
    show (Jvm.Cond.and c (allAtoms t)).before a st = _
    rw [Jvm.Cond.before_and, ih, List.all_cons]
def words1 : List Jvm.Cond := Jvm.Cond.code x code maxLocals ret :: tables_1
/-- a 'code' word, met by the world's own term for the bytes: nothing is compared byte by byte -/
theorem code_word {y : MethodName} {bytes : ByteArray} {mx : Nat} {rt : Option FieldType} {a : Array Value} {s : State} {m : MethodId} {meth : Method} {c : Code} (h1 : s.methodNamed? y = some m) (h2 : s.vm.method? m = some meth) (h3 : meth.code = some c) (h4 : c.code = bytes)
    (h5 : (c.maxLocals == mx && c.exceptionTable.isEmpty && decide (c.maxStack ≤ mostOperands) && decide (meth.sig.returnType = rt) && !meth.locks && decide (parseMethodDescriptor y.desc = some meth.sig)) = true) : (Jvm.Cond.code y bytes mx rt).before a s = true := by
  simp only [Bool.and_eq_true, beq_iff_eq, Bool.not_eq_true', decide_eq_true_eq] at h5
  obtain ⟨⟨⟨⟨⟨g1, g2⟩, g3⟩, g4⟩, g5⟩, g6⟩ := h5
  simp [Cond.before, Cond.holds, Cond.value, h1, h2, h3, h4, g1, g2, g3, g4, g5, g6]
def isCode : Jvm.Cond → Bool
  | .code _ _ _ _ => true
  | _ => false
theorem all_split {L : List Jvm.Cond} {P : Jvm.Cond → Bool} (h1 : L.all (fun c => isCode c || P c) = true) (h2 : ∀ c ∈ L.filter isCode, P c = true) : L.all P = true := by
  refine List.all_eq_true.mpr fun c hc => ?_
  have h := List.all_eq_true.mp h1 c hc
  rcases Bool.eq_false_or_eq_true (isCode c) with hi | hi
  · exact h2 c (List.mem_filter.mpr ⟨hc, hi⟩)
  · simpa [hi] using h
set_option maxRecDepth 65536 in
theorem w_c0 : (Jvm.Cond.code x code maxLocals ret).before args0 about1 = true := code_word (m := ⟨1, 2⟩) (meth := k1m2) (c := k1c2) (by decide +kernel) rfl rfl rfl (by decide +kernel)
set_option maxRecDepth 65536 in
theorem w_c1 : (Jvm.Cond.code ({ cls := "com/example/bericht/bericht/selector/OperatorIsEqualityPinLaw", name := "pick", desc := "(I)Lcom/example/bericht/bericht/selector/Comparison$Operator;" } : Jvm.MethodName) method_2_code (2 : Nat) (Option.some (Jvm.ClassFile.FieldType.object "com/example/bericht/bericht/selector/Comparison$Operator"))).before args0 about1 = true := code_word (m := ⟨1, 1⟩) (meth := k1m1) (c := k1c1) (by decide +kernel) rfl rfl rfl (by decide +kernel)
set_option maxRecDepth 65536 in
theorem w_c2 : (Jvm.Cond.code ({ cls := "com/example/bericht/bericht/selector/Comparison$Operator", name := "isEquality", desc := "()Z" } : Jvm.MethodName) prog_22_method_8_code (1 : Nat) (Option.some Jvm.ClassFile.FieldType.boolean)).before args0 about1 = true := code_word (m := ⟨6, 2⟩) (meth := k6m2) (c := k6c2) (by decide +kernel) rfl rfl rfl (by decide +kernel)
set_option maxRecDepth 65536 in
theorem w_c3 : (Jvm.Cond.code ({ cls := "com/example/bericht/bericht/selector/Comparison$Operator", name := "holds", desc := "(JJ)Z" } : Jvm.MethodName) prog_22_method_5_code (5 : Nat) (Option.some Jvm.ClassFile.FieldType.boolean)).before args0 about1 = true := code_word (m := ⟨6, 0⟩) (meth := k6m0) (c := k6c0) (by decide +kernel) rfl rfl rfl (by decide +kernel)
set_option maxRecDepth 65536 in
theorem w_c4 : (Jvm.Cond.code ({ cls := "java/lang/Enum", name := "ordinal", desc := "()I" } : Jvm.MethodName) jdk_37_method_2_code (1 : Nat) (Option.some Jvm.ClassFile.FieldType.int)).before args0 about1 = true := code_word (m := ⟨5, 0⟩) (meth := k5m0) (c := k5c0) (by decide +kernel) rfl rfl rfl (by decide +kernel)
set_option maxRecDepth 65536 in
theorem w_c5 : (Jvm.Cond.code ({ cls := "com/example/bericht/bericht/selector/Comparison$Operator", name := "flipped", desc := "()Lcom/example/bericht/bericht/selector/Comparison$Operator;" } : Jvm.MethodName) prog_22_method_7_code (1 : Nat) (Option.some (Jvm.ClassFile.FieldType.object "com/example/bericht/bericht/selector/Comparison$Operator"))).before args0 about1 = true := code_word (m := ⟨6, 1⟩) (meth := k6m1) (c := k6c1) (by decide +kernel) rfl rfl rfl (by decide +kernel)
def codes1 : List Jvm.Cond := [Jvm.Cond.code x code maxLocals ret, Jvm.Cond.code ({ cls := "com/example/bericht/bericht/selector/OperatorIsEqualityPinLaw", name := "pick", desc := "(I)Lcom/example/bericht/bericht/selector/Comparison$Operator;" } : Jvm.MethodName) method_2_code (2 : Nat) (Option.some (Jvm.ClassFile.FieldType.object "com/example/bericht/bericht/selector/Comparison$Operator")), Jvm.Cond.code ({ cls := "com/example/bericht/bericht/selector/Comparison$Operator", name := "isEquality", desc := "()Z" } : Jvm.MethodName) prog_22_method_8_code (1 : Nat) (Option.some Jvm.ClassFile.FieldType.boolean), Jvm.Cond.code ({ cls := "com/example/bericht/bericht/selector/Comparison$Operator", name := "holds", desc := "(JJ)Z" } : Jvm.MethodName) prog_22_method_5_code (5 : Nat) (Option.some Jvm.ClassFile.FieldType.boolean), Jvm.Cond.code ({ cls := "java/lang/Enum", name := "ordinal", desc := "()I" } : Jvm.MethodName) jdk_37_method_2_code (1 : Nat) (Option.some Jvm.ClassFile.FieldType.int), Jvm.Cond.code ({ cls := "com/example/bericht/bericht/selector/Comparison$Operator", name := "flipped", desc := "()Lcom/example/bericht/bericht/selector/Comparison$Operator;" } : Jvm.MethodName) prog_22_method_7_code (1 : Nat) (Option.some (Jvm.ClassFile.FieldType.object "com/example/bericht/bericht/selector/Comparison$Operator"))]
set_option maxRecDepth 65536 in
theorem codes_eq : words1.filter isCode = codes1 := rfl
theorem w_codes : ∀ c ∈ words1.filter isCode, c.before args0 about1 = true := by
  rw [codes_eq]
  intro c hc
  simp only [codes1, List.mem_cons, List.not_mem_nil, or_false] at hc
  rcases hc with rfl | rfl | rfl | rfl | rfl | rfl
  · exact w_c0
  · exact w_c1
  · exact w_c2
  · exact w_c3
  · exact w_c4
  · exact w_c5
set_option maxRecDepth 65536 in
theorem w_t1 : (words1.take 24).all (fun c => isCode c || c.before args0 about1) = true := by decide +kernel
set_option maxRecDepth 65536 in
theorem w_t2 : ((words1.drop 24).take 24).all (fun c => isCode c || c.before args0 about1) = true := by decide +kernel
set_option maxRecDepth 65536 in
theorem w_t3 : ((words1.drop 24).drop 24).all (fun c => isCode c || c.before args0 about1) = true := by decide +kernel
theorem w_tables : (allAtoms (Jvm.Cond.code x code maxLocals ret :: tables_1)).before args0 about1 = true := by
  rw [allAtoms_all]
  show words1.all (fun c => c.before args0 about1) = true
  refine all_split ?_ w_codes
  rw [← List.take_append_drop 24 words1, List.all_append, w_t1, ← List.take_append_drop 24 (words1.drop 24), List.all_append, w_t2, w_t3]
  rfl
set_option maxRecDepth 65536 in
theorem w_case : (Jvm.Cond.and given_1 narrow_1).before args0 about1 = true := by decide +kernel
theorem w_applies : (headSpec (Jvm.Cond.code x code maxLocals ret :: tables_1) room_1).applies x e0.platform about1 = true :=
  (Spec.applies_iff w_frames).mpr ⟨w_running, w_runnable, w_alone, w_named, w_hears, w_ripe, w_room, w_tables⟩
theorem atStart : AtStart classFile x code maxLocals ret World_1 tables_1 room_1 Calls_1 rest_1 Pre_1 launch0 p0 e0 about1 theMethod args0 below0 :=
  ⟨lists_1, trivial, launch0.admits_env _ _ _, launch0.least_env, fairChoices_fair.cas, fairChoices_fair.clock, w_frames, w_args, w_heap, w_applies, trivial, trivial, w_case⟩
end start1
theorem witness_1 : WitnessClaimed_1 := ⟨start1.p0, start1.e0, start1.about1, start1.theMethod, start1.args0, start1.below0, start1.atStart⟩
end Jvm.Pilot.@@N@@
