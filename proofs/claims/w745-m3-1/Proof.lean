import JvmDerived
import JvmDerived.Pilot.@@N@@Statement
import JvmDerived.Pilot.@@N@@Code
set_option linter.unusedVariables false
set_option linter.unusedSimpArgs false
namespace Jvm.Pilot.@@N@@
open Jvm Jvm.ClassFile Sem Op Lib Jvm.Free Jvm.Stand Jvm.LawKit Jvm.RoadKit Bundle Jvm.Pilot.@@N@@.Jvm.D
def own_Go (p : Program) (e : Env) (below : List Frame) (s : State) (Q : Option Value → Heap → List Loc → Prop) (kc ks : Nat) (A : State) : Prop :=
  ∃ s₂ o, Steps p.tables e below A s₂ ∧ s₂.status = .running ∧ Ended s₂ below o ∧ ∃ v L, o = .returned v ∧ Q v s₂.heap L ∧ FrameEnd s o s₂ L kc ks
section OwnLayer
variable {p : Program} {l : Launch} {e : Env} {R : Room} {s : State} {m : MethodId} {args : Array Value} {below : List Frame} {meth : Method} {c : Code} {T : State} {locs : List Loc} {cells slots : Nat}
variable {Q : Option Value → Heap → List Loc → Prop} {kc ks : Nat} {A B : State}
theorem own_via (h : ∀ t, Steps p.tables e below B t → Steps p.tables e below A t) (g : own_Go p e below s Q kc ks B) : own_Go p e below s Q kc ks A := by
  obtain ⟨t, o, h1, r⟩ := g
  exact ⟨t, o, h _ h1, r⟩
theorem own_tr (h : Steps p.tables e below A B) (g : own_Go p e below s Q kc ks B) : own_Go p e below s Q kc ks A := by
  obtain ⟨t, o, h1, r⟩ := g
  exact ⟨t, o, h.trans h1, r⟩
theorem own_end (X : Stand p l e R s m args below meth c T locs cells slots) (hlk : meth.locks = false) {v : Option Value} (hv : meth.sig.returnType = none → v = none) {A : State}
    (hstep : ∀ fs, (∀ (f : JFrame) (acts : List Action), f.method = m → f.locked = none → f.entered = [] → (doReturn e (T.setTop f) acts v).1 = T.setFrames fs) → Steps p.tables e below A (T.setFrames fs))
    (hQ : Q v T.heap locs) (hc : cells ≤ kc) (hs : slots ≤ ks) : own_Go p e below s Q kc ks A := by
  obtain ⟨fs, hr, hrun, hended, hW, hsame⟩ := X.leave (v := v) hv hlk
  exact ⟨_, _, hstep fs hr, hrun, hended, _, _, rfl, hQ, ⟨_, rfl⟩, hW, hsame.mono hc hs⟩
theorem own_retZ (X : Stand p l e R s m args below meth c T locs cells slots) (hx : p.tables.exec = Jvm.exec) (hlk : meth.locks = false) {pc : Nat} {Ls : Array Slot} {z z' : Int32} {t : FieldType} {rest : List Value} (hret : meth.sig.returnType = some t) (ht : t = .boolean ∨ t = .byte ∨ t = .char ∨ t = .short)
    (hd : decode c.code pc = .ok (.ireturn, 1)) (hz : nar t z = z') (hQ : Q (some (.int z')) T.heap locs) (hc : cells ≤ kc) (hs : slots ≤ ks) : own_Go p e below s Q kc ks (T.setTop (mkF m pc Ls (.int z :: rest))) := by
  subst hz
  exact own_end X hlk (fun h => by rw [hret] at h; cases h) (fun fs hr => retN X hx hret ht hd hr) hQ hc hs
theorem own_retO (X : Stand p l e R s m args below meth c T locs cells slots) (hx : p.tables.exec = Jvm.exec) (hlk : meth.locks = false) {pc : Nat} {Ls : Array Slot} {w : Value} {t : FieldType} {i : Instr} {rest : List Value} (hret : meth.sig.returnType = some t) (hn : narrow t w = w)
    (hi : (i = .ireturn ∧ (t = .int ∨ t = .boolean ∨ t = .byte ∨ t = .char ∨ t = .short) ∧ ∃ z, w = .int z) ∨ (i = .lreturn ∧ t = .long ∧ ∃ z, w = .long z) ∨ (i = .dreturn ∧ t = .double ∧ ∃ z, w = .double z) ∨ (i = .freturn ∧ t = .float ∧ ∃ z, w = .float z) ∨ (i = .areturn ∧ t.isReference = true ∧ w.isRef = true))
    (hd : decode c.code pc = .ok (i, 1)) (hQ : Q (some w) T.heap locs) (hc : cells ≤ kc) (hs : slots ≤ ks) : own_Go p e below s Q kc ks (T.setTop (mkF m pc Ls (w :: rest))) :=
  own_end X hlk (fun h => by rw [hret] at h; cases h) (fun fs hr => retOut X hx hret hn hi hd hr) hQ hc hs
theorem own_retI (X : Stand p l e R s m args below meth c T locs cells slots) (hx : p.tables.exec = Jvm.exec) (hlk : meth.locks = false) {pc : Nat} {Ls : Array Slot} {z : Int32} {rest : List Value} (hret : meth.sig.returnType = some .int)
    (hd : decode c.code pc = .ok (.ireturn, 1)) (hQ : Q (some (.int z)) T.heap locs) (hc : cells ≤ kc) (hs : slots ≤ ks) : own_Go p e below s Q kc ks (T.setTop (mkF m pc Ls (.int z :: rest))) :=
  own_retO X hx hlk hret rfl (Or.inl ⟨rfl, Or.inl rfl, _, rfl⟩) hd hQ hc hs
theorem own_retJ (X : Stand p l e R s m args below meth c T locs cells slots) (hx : p.tables.exec = Jvm.exec) (hlk : meth.locks = false) {pc : Nat} {Ls : Array Slot} {z : Int64} {rest : List Value} (hret : meth.sig.returnType = some .long)
    (hd : decode c.code pc = .ok (.lreturn, 1)) (hQ : Q (some (.long z)) T.heap locs) (hc : cells ≤ kc) (hs : slots ≤ ks) : own_Go p e below s Q kc ks (T.setTop (mkF m pc Ls (.long z :: rest))) :=
  own_retO X hx hlk hret rfl (Or.inr (Or.inl ⟨rfl, rfl, _, rfl⟩)) hd hQ hc hs
theorem own_retR (X : Stand p l e R s m args below meth c T locs cells slots) (hx : p.tables.exec = Jvm.exec) (hlk : meth.locks = false) {pc : Nat} {Ls : Array Slot} {w : Value} {t : FieldType} {rest : List Value} (hret : meth.sig.returnType = some t) (ht : t.isReference = true) (hw : w.isRef = true)
    (hd : decode c.code pc = .ok (.areturn, 1)) (hQ : Q (some w) T.heap locs) (hc : cells ≤ kc) (hs : slots ≤ ks) : own_Go p e below s Q kc ks (T.setTop (mkF m pc Ls (w :: rest))) :=
  own_retO X hx hlk hret (by cases t <;> first | (cases ht; done) | rfl) (Or.inr (Or.inr (Or.inr (Or.inr ⟨rfl, ht, hw⟩)))) hd hQ hc hs
theorem own_retV (X : Stand p l e R s m args below meth c T locs cells slots) (hx : p.tables.exec = Jvm.exec) (hlk : meth.locks = false) {pc : Nat} {Ls : Array Slot} (hret : meth.sig.returnType = none)
    (hd : decode c.code pc = .ok (.return_, 1)) (hQ : Q none T.heap locs) (hc : cells ≤ kc) (hs : slots ≤ ks) : own_Go p e below s Q kc ks (T.setTop (mkF m pc Ls [])) :=
  own_end X hlk (fun _ => rfl) (fun fs hr => X.returnOut hx hret hd hr) hQ hc hs
end OwnLayer
def own_GoW (p : Program) (e : Env) (below : List Frame) (s : State) (Q : Option Value → Heap → List Loc → Prop) (kc ks : Nat) (A : State) : Prop :=
  ∃ s₂ o, Steps p.tables e below A s₂ ∧ s₂.status = .running ∧ Ended s₂ below o ∧ ∃ v L, o = .returned v ∧ Q v s₂.heap L ∧ ReturnedEndW s o s₂ L kc ks
section OwnLayerW
variable {p : Program} {l : Launch} {e : Env} {R : Room} {s : State} {m : MethodId} {args : Array Value} {below : List Frame} {meth : Method} {c : Code} {T : State} {locs : List Loc} {cells slots : Nat}
variable {Q : Option Value → Heap → List Loc → Prop} {kc ks : Nat} {A B : State} {vm₁ : Vm} {n : Nat}
theorem own_viaW (h : ∀ t, Steps p.tables e below B t → Steps p.tables e below A t) (g : own_GoW p e below s Q kc ks B) : own_GoW p e below s Q kc ks A := by
  obtain ⟨t, o, h1, r⟩ := g
  exact ⟨t, o, h _ h1, r⟩
theorem own_trW (h : Steps p.tables e below A B) (g : own_GoW p e below s Q kc ks B) : own_GoW p e below s Q kc ks A := by
  obtain ⟨t, o, h1, r⟩ := g
  exact ⟨t, o, h.trans h1, r⟩
theorem own_endW (X : Stand p l e R (s.setVm vm₁) m args below meth c T locs cells slots) (hS : s.Since vm₁ n) (hk : n ≤ T.heap.size) (hlk : meth.locks = false) {v : Option Value} (hv : meth.sig.returnType = none → v = none) {A : State}
    (hstep : ∀ fs, (∀ (f : JFrame) (acts : List Action), f.method = m → f.locked = none → f.entered = [] → (doReturn e (T.setTop f) acts v).1 = T.setFrames fs) → Steps p.tables e below A (T.setFrames fs))
    (hQ : Q v T.heap locs) (hc : cells ≤ kc) (hs : slots ≤ ks) : own_GoW p e below s Q kc ks A := by
  obtain ⟨fs, hr, hrun, hended, h1, h2, h3, h4⟩ := X.leaveW hS hk (v := v) hv hlk
  exact ⟨_, _, hstep fs hr, hrun, hended, _, _, rfl, hQ, h1, h2, h3, h4.mono hc hs⟩
theorem own_retZW (X : Stand p l e R (s.setVm vm₁) m args below meth c T locs cells slots) (hS : s.Since vm₁ n) (hk : n ≤ T.heap.size) (hx : p.tables.exec = Jvm.exec) (hlk : meth.locks = false) {pc : Nat} {Ls : Array Slot} {z z' : Int32} {t : FieldType} {rest : List Value} (hret : meth.sig.returnType = some t) (ht : t = .boolean ∨ t = .byte ∨ t = .char ∨ t = .short)
    (hd : decode c.code pc = .ok (.ireturn, 1)) (hz : nar t z = z') (hQ : Q (some (.int z')) T.heap locs) (hc : cells ≤ kc) (hs : slots ≤ ks) : own_GoW p e below s Q kc ks (T.setTop (mkF m pc Ls (.int z :: rest))) := by
  subst hz
  exact own_endW X hS hk hlk (fun h => by rw [hret] at h; cases h) (fun fs hr => retN X hx hret ht hd hr) hQ hc hs
theorem own_retRW (X : Stand p l e R (s.setVm vm₁) m args below meth c T locs cells slots) (hS : s.Since vm₁ n) (hk : n ≤ T.heap.size) (hx : p.tables.exec = Jvm.exec) (hlk : meth.locks = false) {pc : Nat} {Ls : Array Slot} {w : Value} {t : FieldType} {rest : List Value} (hret : meth.sig.returnType = some t) (ht : t.isReference = true) (hw : w.isRef = true)
    (hd : decode c.code pc = .ok (.areturn, 1)) (hQ : Q (some w) T.heap locs) (hc : cells ≤ kc) (hs : slots ≤ ks) : own_GoW p e below s Q kc ks (T.setTop (mkF m pc Ls (w :: rest))) :=
  own_endW X hS hk hlk (fun h => by rw [hret] at h; cases h) (fun fs hr => retOut X hx hret (by cases t <;> first | (cases ht; done) | rfl) (Or.inr (Or.inr (Or.inr (Or.inr ⟨rfl, ht, hw⟩)))) hd hr) hQ hc hs
end OwnLayerW
theorem own_eqv {args : Array Value} {Z : State} {t : Term} {k : Int32} (h : (Jvm.Cond.eq t (Term.int k)).value args Z none Z [] = some true) : t.eval args Z none [] Z = some (.int k) := by
  simp only [Jvm.Cond.value, Term.eval] at h
  cases ht : t.eval args Z none [] Z with
  | none => simp [ht] at h
  | some x => cases x <;> simp [ht] at h ⊢; exact h
theorem own_eqvL {args : Array Value} {Z : State} {t : Term} {k : Int64} (h : (Jvm.Cond.eq t (Term.long k)).value args Z none Z [] = some true) : t.eval args Z none [] Z = some (.long k) := by
  simp only [Jvm.Cond.value, Term.eval] at h
  cases ht : t.eval args Z none [] Z with
  | none => simp [ht] at h
  | some x => cases x <;> simp [ht] at h ⊢; exact h
theorem own_fld {args : Array Value} {Z : State} {t : Term} {C n d : String} {a : Addr} {k : Int32} (ev : t.eval args Z none [] Z = some (.ref a)) (h : (Jvm.Cond.eq (Term.field t C n d) (Term.int k)).value args Z none Z [] = some true) : Fld Z Z.heap a C n d (.int k) :=
  Fld.start ((fld_at ev).symm.trans (own_eqv h))
theorem own_fldL {args : Array Value} {Z : State} {t : Term} {C n d : String} {a : Addr} {k : Int64} (ev : t.eval args Z none [] Z = some (.ref a)) (h : (Jvm.Cond.eq (Term.field t C n d) (Term.long k)).value args Z none Z [] = some true) : Fld Z Z.heap a C n d (.long k) :=
  Fld.start ((fld_at ev).symm.trans (own_eqvL h))
theorem own_mod (x : Int32) (n : Int32) (k : Int) (hn : n.toInt = k) (hk : 0 < k) : 0 ≤ ((x &&& 2147483647) % n).toInt ∧ ((x &&& 2147483647) % n).toInt < k := by
  have h := (c_and x 2147483647 (by decide)).1
  rw [Int32.toInt_mod, hn, Int.tmod_eq_emod_of_nonneg h]
  exact ⟨Int.emod_nonneg _ (by omega), Int.emod_lt_of_pos _ hk⟩
theorem own_z {x y : Int32} (h : x.toInt = y.toInt) : x = y := Int32.toInt_inj.mp h
theorem own_mod3 (x : Int32) : (x &&& 2147483647) % 3 = 0 ∨ (x &&& 2147483647) % 3 = 1 ∨ (x &&& 2147483647) % 3 = 2 := by
  have h := own_mod x 3 3 rfl (by decide)
  simp only [← Int32.toInt_inj, show (0 : Int32).toInt = 0 from rfl, show (1 : Int32).toInt = 1 from rfl, show (2 : Int32).toInt = 2 from rfl]
  omega
theorem own_mod5 (x : Int32) : (x &&& 2147483647) % 5 = 0 ∨ (x &&& 2147483647) % 5 = 1 ∨ (x &&& 2147483647) % 5 = 2 ∨ (x &&& 2147483647) % 5 = 3 ∨ (x &&& 2147483647) % 5 = 4 := by
  have h := own_mod x 5 5 rfl (by decide)
  simp only [← Int32.toInt_inj, show (0 : Int32).toInt = 0 from rfl, show (1 : Int32).toInt = 1 from rfl, show (2 : Int32).toInt = 2 from rfl, show (3 : Int32).toInt = 3 from rfl, show (4 : Int32).toInt = 4 from rfl]
  omega
theorem own_mod6 (x : Int32) : (x &&& 2147483647) % 6 = 0 ∨ (x &&& 2147483647) % 6 = 1 ∨ (x &&& 2147483647) % 6 = 2 ∨ (x &&& 2147483647) % 6 = 3 ∨ (x &&& 2147483647) % 6 = 4 ∨ (x &&& 2147483647) % 6 = 5 := by
  have h := own_mod x 6 6 rfl (by decide)
  simp only [← Int32.toInt_inj, show (0 : Int32).toInt = 0 from rfl, show (1 : Int32).toInt = 1 from rfl, show (2 : Int32).toInt = 2 from rfl, show (3 : Int32).toInt = 3 from rfl, show (4 : Int32).toInt = 4 from rfl, show (5 : Int32).toInt = 5 from rfl]
  omega
theorem own_and1 (x : Int32) : x &&& 1 = 0 ∨ x &&& 1 = 1 := by
  have h := c_and x 1 (by decide)
  simp only [← Int32.toInt_inj, show (0 : Int32).toInt = 0 from rfl, show (1 : Int32).toInt = 1 from rfl] at *
  omega
theorem own_and3 (x : Int32) : x &&& 3 = 0 ∨ x &&& 3 = 1 ∨ x &&& 3 = 2 ∨ x &&& 3 = 3 := by
  have h := c_and x 3 (by decide)
  simp only [← Int32.toInt_inj, show (0 : Int32).toInt = 0 from rfl, show (1 : Int32).toInt = 1 from rfl, show (2 : Int32).toInt = 2 from rfl, show (3 : Int32).toInt = 3 from rfl] at *
  omega
def own_K (Z : State) (h0 : Heap) (w0 : Addr) (w1 : Addr) (w2 : Addr) : Prop :=
  Sta Z h0 "com/example/bericht/bericht/selector/Truth" "FALSE" "Lcom/example/bericht/bericht/selector/Truth;" (.ref w0) ∧
  Sta Z h0 "com/example/bericht/bericht/selector/Truth" "TRUE" "Lcom/example/bericht/bericht/selector/Truth;" (.ref w1) ∧
  Sta Z h0 "com/example/bericht/bericht/selector/Truth" "UNKNOWN" "Lcom/example/bericht/bericht/selector/Truth;" (.ref w2) ∧
  Exa Z h0 w0 "com/example/bericht/bericht/selector/Truth" ∧
  Exa Z h0 w1 "com/example/bericht/bericht/selector/Truth" ∧
  Exa Z h0 w2 "com/example/bericht/bericht/selector/Truth" ∧
  Fld Z h0 w0 "java/lang/Enum" "ordinal" "I" (.int (1 : Int32)) ∧
  Fld Z h0 w2 "java/lang/Enum" "ordinal" "I" (.int (2 : Int32)) ∧
  Fld Z h0 w1 "java/lang/Enum" "ordinal" "I" (.int (0 : Int32)) ∧
  ¬ (w0 = w1) ∧
  ¬ (w0 = w2) ∧
  ¬ (w1 = w2)
theorem own_wS {Z : State} {a0 : Array Value} (hw : ∀ d ∈ tables_1, d.before a0 Z = true) : ∀ a ∈ Bundle.stringAtoms, a.before a0 Z = true := by
  intro d hd
  simp only [Bundle.stringAtoms, List.mem_cons, List.not_mem_nil, or_false] at hd
  rcases hd with rfl | rfl | rfl | rfl | rfl | rfl | rfl
  · exact (hw _ (List.mem_of_getElem? (i := 31) rfl))
  · exact (hw _ (List.mem_of_getElem? (i := 32) rfl))
  · exact (hw _ (List.mem_of_getElem? (i := 33) rfl))
  · exact (hw _ (List.mem_of_getElem? (i := 34) rfl))
  · exact (hw _ (List.mem_of_getElem? (i := 35) rfl))
  · exact (hw _ (List.mem_of_getElem? (i := 36) rfl))
  · exact (hw _ (List.mem_of_getElem? (i := 37) rfl))
theorem pn0 : plainName "com/example/bericht/bericht/selector/Truth" = true := by first | (simp [plainName, overriddenIn]; done) | decide +kernel
theorem pn1 : plainName "java/lang/Enum" = true := by first | (simp [plainName, overriddenIn]; done) | decide +kernel
theorem pn2 : plainName "java/util/Objects" = true := by first | (simp [plainName, overriddenIn]; done) | decide +kernel
theorem pn3 : plainName "com/example/bericht/bericht/selector/TruthOfPinLaw" = true := by first | (simp [plainName, overriddenIn]; done) | decide +kernel
theorem pd0 : parseMethodDescriptor "(Z)Lcom/example/bericht/bericht/selector/Truth;" = some ⟨[.boolean], some (.object "com/example/bericht/bericht/selector/Truth")⟩ := by decide +kernel
theorem pd1 : parseMethodDescriptor "()I" = some ⟨[], some .int⟩ := by decide +kernel
theorem pd2 : parseMethodDescriptor "()Lcom/example/bericht/bericht/selector/Truth;" = some ⟨[], some (.object "com/example/bericht/bericht/selector/Truth")⟩ := by decide +kernel
theorem pd3 : parseMethodDescriptor "(Ljava/lang/Object;Ljava/lang/String;)Ljava/lang/Object;" = some ⟨[(.object "java/lang/Object"), (.object "java/lang/String")], some (.object "java/lang/Object")⟩ := by decide +kernel
theorem pd4 : parseMethodDescriptor "(Lcom/example/bericht/bericht/selector/Truth;)Lcom/example/bericht/bericht/selector/Truth;" = some ⟨[(.object "com/example/bericht/bericht/selector/Truth")], some (.object "com/example/bericht/bericht/selector/Truth")⟩ := by decide +kernel
theorem d1_0 : decode prog_93_method_4_code 0 = .ok (.iload_n 0, 1) := by decide +kernel
theorem d1_1 : decode prog_93_method_4_code 1 = .ok (.ifCond .eq 9, 3) := by decide +kernel
theorem d1_4 : decode prog_93_method_4_code 4 = .ok (.getstatic 3, 3) := by decide +kernel
theorem d1_7 : decode prog_93_method_4_code 7 = .ok (.goto 6, 3) := by decide +kernel
theorem d1_10 : decode prog_93_method_4_code 10 = .ok (.getstatic 7, 3) := by decide +kernel
theorem d1_13 : decode prog_93_method_4_code 13 = .ok (.areturn, 1) := by decide +kernel
theorem d2_0 : decode prog_93_method_5_code 0 = .ok (.aload_n 0, 1) := by decide +kernel
theorem d2_1 : decode prog_93_method_5_code 1 = .ok (.invokevirtual 32, 3) := by decide +kernel
theorem d2_4 : decode prog_93_method_5_code 4 = .ok (.tableswitch 28 0 2 #[38, 44, 50], 28) := by decide +kernel
theorem d2_42 : decode prog_93_method_5_code 42 = .ok (.getstatic 7, 3) := by decide +kernel
theorem d2_45 : decode prog_93_method_5_code 45 = .ok (.goto 12, 3) := by decide +kernel
theorem d2_48 : decode prog_93_method_5_code 48 = .ok (.getstatic 3, 3) := by decide +kernel
theorem d2_51 : decode prog_93_method_5_code 51 = .ok (.goto 6, 3) := by decide +kernel
theorem d2_57 : decode prog_93_method_5_code 57 = .ok (.areturn, 1) := by decide +kernel
theorem d3_0 : decode jdk_37_method_2_code 0 = .ok (.aload_n 0, 1) := by decide +kernel
theorem d3_1 : decode jdk_37_method_2_code 1 = .ok (.getfield 7, 3) := by decide +kernel
theorem d3_4 : decode jdk_37_method_2_code 4 = .ok (.ireturn, 1) := by decide +kernel
theorem d4_0 : decode prog_93_method_6_code 0 = .ok (.aload_n 1, 1) := by decide +kernel
theorem d4_1 : decode prog_93_method_6_code 1 = .ok (.ldc 41, 2) := by decide +kernel
theorem d4_3 : decode prog_93_method_6_code 3 = .ok (.invokestatic 43, 3) := by decide +kernel
theorem d4_6 : decode prog_93_method_6_code 6 = .ok (.pop, 1) := by decide +kernel
theorem d4_7 : decode prog_93_method_6_code 7 = .ok (.aload_n 0, 1) := by decide +kernel
theorem d4_8 : decode prog_93_method_6_code 8 = .ok (.getstatic 7, 3) := by decide +kernel
theorem d4_11 : decode prog_93_method_6_code 11 = .ok (.if_acmp .eq 10, 3) := by decide +kernel
theorem d4_14 : decode prog_93_method_6_code 14 = .ok (.aload_n 1, 1) := by decide +kernel
theorem d4_15 : decode prog_93_method_6_code 15 = .ok (.getstatic 7, 3) := by decide +kernel
theorem d4_18 : decode prog_93_method_6_code 18 = .ok (.if_acmp .ne 10, 3) := by decide +kernel
theorem d4_21 : decode prog_93_method_6_code 21 = .ok (.getstatic 7, 3) := by decide +kernel
theorem d4_24 : decode prog_93_method_6_code 24 = .ok (.astore_n 2, 1) := by decide +kernel
theorem d4_25 : decode prog_93_method_6_code 25 = .ok (.goto 28, 3) := by decide +kernel
theorem d4_28 : decode prog_93_method_6_code 28 = .ok (.aload_n 0, 1) := by decide +kernel
theorem d4_29 : decode prog_93_method_6_code 29 = .ok (.getstatic 10, 3) := by decide +kernel
theorem d4_32 : decode prog_93_method_6_code 32 = .ok (.if_acmp .eq 10, 3) := by decide +kernel
theorem d4_35 : decode prog_93_method_6_code 35 = .ok (.aload_n 1, 1) := by decide +kernel
theorem d4_36 : decode prog_93_method_6_code 36 = .ok (.getstatic 10, 3) := by decide +kernel
theorem d4_39 : decode prog_93_method_6_code 39 = .ok (.if_acmp .ne 10, 3) := by decide +kernel
theorem d4_49 : decode prog_93_method_6_code 49 = .ok (.getstatic 3, 3) := by decide +kernel
theorem d4_52 : decode prog_93_method_6_code 52 = .ok (.astore_n 2, 1) := by decide +kernel
theorem d4_53 : decode prog_93_method_6_code 53 = .ok (.aload_n 2, 1) := by decide +kernel
theorem d4_54 : decode prog_93_method_6_code 54 = .ok (.areturn, 1) := by decide +kernel
theorem d5_0 : decode jdk_31_method_11_code 0 = .ok (.aload_n 0, 1) := by decide +kernel
theorem d5_1 : decode jdk_31_method_11_code 1 = .ok (.ifnonnull 12, 3) := by decide +kernel
theorem d5_13 : decode jdk_31_method_11_code 13 = .ok (.aload_n 0, 1) := by decide +kernel
theorem d5_14 : decode jdk_31_method_11_code 14 = .ok (.areturn, 1) := by decide +kernel
theorem d6_0 : decode prog_93_method_7_code 0 = .ok (.aload_n 1, 1) := by decide +kernel
theorem d6_1 : decode prog_93_method_7_code 1 = .ok (.ldc 41, 2) := by decide +kernel
theorem d6_3 : decode prog_93_method_7_code 3 = .ok (.invokestatic 43, 3) := by decide +kernel
theorem d6_6 : decode prog_93_method_7_code 6 = .ok (.pop, 1) := by decide +kernel
theorem d6_7 : decode prog_93_method_7_code 7 = .ok (.aload_n 0, 1) := by decide +kernel
theorem d6_8 : decode prog_93_method_7_code 8 = .ok (.getstatic 3, 3) := by decide +kernel
theorem d6_11 : decode prog_93_method_7_code 11 = .ok (.if_acmp .eq 10, 3) := by decide +kernel
theorem d6_14 : decode prog_93_method_7_code 14 = .ok (.aload_n 1, 1) := by decide +kernel
theorem d6_15 : decode prog_93_method_7_code 15 = .ok (.getstatic 3, 3) := by decide +kernel
theorem d6_18 : decode prog_93_method_7_code 18 = .ok (.if_acmp .ne 10, 3) := by decide +kernel
theorem d6_21 : decode prog_93_method_7_code 21 = .ok (.getstatic 3, 3) := by decide +kernel
theorem d6_24 : decode prog_93_method_7_code 24 = .ok (.astore_n 2, 1) := by decide +kernel
theorem d6_25 : decode prog_93_method_7_code 25 = .ok (.goto 28, 3) := by decide +kernel
theorem d6_28 : decode prog_93_method_7_code 28 = .ok (.aload_n 0, 1) := by decide +kernel
theorem d6_29 : decode prog_93_method_7_code 29 = .ok (.getstatic 10, 3) := by decide +kernel
theorem d6_32 : decode prog_93_method_7_code 32 = .ok (.if_acmp .eq 10, 3) := by decide +kernel
theorem d6_35 : decode prog_93_method_7_code 35 = .ok (.aload_n 1, 1) := by decide +kernel
theorem d6_36 : decode prog_93_method_7_code 36 = .ok (.getstatic 10, 3) := by decide +kernel
theorem d6_39 : decode prog_93_method_7_code 39 = .ok (.if_acmp .ne 10, 3) := by decide +kernel
theorem d6_49 : decode prog_93_method_7_code 49 = .ok (.getstatic 7, 3) := by decide +kernel
theorem d6_52 : decode prog_93_method_7_code 52 = .ok (.astore_n 2, 1) := by decide +kernel
theorem d6_53 : decode prog_93_method_7_code 53 = .ok (.aload_n 2, 1) := by decide +kernel
theorem d6_54 : decode prog_93_method_7_code 54 = .ok (.areturn, 1) := by decide +kernel
def Q1_0 (w0 : Addr) (w1 : Addr) (w2 : Addr) (h0 : Heap) (v : Option Value) (h : Heap) (L : List Loc) : Prop := L = [] ∧ h = h0 ∧ ((v = some (.ref w0)))
set_option maxRecDepth 65536 in
set_option maxHeartbeats 40000000 in
theorem rm1_0 (l : Launch) (Z : State) (a0 : Array Value) (hw : ∀ d ∈ tables_1, d.before a0 Z = true) (ws : List Jvm.Cond) (w0 : Addr) (w1 : Addr) (w2 : Addr) (h0 : Heap) (n0 : Nat) (Z0 : n0 ≤ h0.size) (K : own_K Z Z.heap w0 w1 w2) (OL : Old Z n0 h0) :
    MetFree l (⟨"com/example/bericht/bericht/selector/Truth", "of", "(Z)Lcom/example/bericht/bericht/selector/Truth;"⟩ : MethodName) (head1 (Jvm.Cond.code (⟨"com/example/bericht/bericht/selector/Truth", "of", "(Z)Lcom/example/bericht/bericht/selector/Truth;"⟩ : MethodName) prog_93_method_4_code 1 (some (.object "com/example/bericht/bericht/selector/Truth")) :: ws) ({ frames := 0, cells := 0, slots := 0, locals := 0 } : Room)) (fun a U => a = #[(.int (0 : Int32))] ∧ Z.Warmed39 U.vm ∧ U.heap = h0) (fun _ _ _ _ _ => True) (fun _ U o U' => ∃ v L, o = .returned v ∧ Q1_0 w0 w1 w2 h0 v U'.heap L ∧ FrameEnd U o U' L ({ frames := 0, cells := 0, slots := 0, locals := 0 } : Room).cells ({ frames := 0, cells := 0, slots := 0, locals := 0 } : Room).slots) := by
  refine MetFree.of_bodySF (plainFor_of_name pn0) hisR ?_
  intro p e s m args below meth c s₁ Bd hml0 hP hK
  obtain ⟨rfl, hZ, hh⟩ := hP
  have hx := Bd.exec
  have hby := Bd.bytes
  have hml : c.maxLocals = 1 := hml0
  have hown : s.vm.findClass "com/example/bericht/bericht/selector/Truth" = some m.cls := findClass_of_methodNamed Bd.named
  have hnm := (name_of_methodNamed Bd.named Bd.method).1
  have hlk := Bd.notSynchronized
  have X0 : Stand p l e ({ frames := 0, cells := 0, slots := 0, locals := 0 } : Room) s m #[(.int (0 : Int32))] below meth c s₁ [] 0 0 := Stand.of_body Bd
  have e0 : s₁.heap = h0 := by rw [← hh, Bd.state]; rfl
  have K0 := K
  obtain ⟨S_w0, S_w1, S_w2, E_w0, E_w1, E_w2, F_w0_ordinal, F_w2_ordinal, F_w1_ordinal, n_w0_w1, n_w0_w2, n_w1_w2⟩ := K
  show own_Go p e below s (Q1_0 w0 w1 w2 h0) 0 0 (s₁.setTop (entryFrame m #[(.int (0 : Int32))] 1))
  rw [show entryFrame m #[(.int (0 : Int32))] 1 = mkF m 0 #[.val (.int (0 : Int32))] [] from by first | (simp [entryFrame, mkF, argsToLocals, Value.category]; done) | rfl]
  show own_Go p e below s _ _ _ (s₁.setTop (mkF m 0 #[.val (.int (0 : Int32))] []))
  refine own_via (fun _ k => XS.iloadN X0.here hx rfl (hb hby d1_0) rfl k) ?_
  show own_Go p e below s _ _ _ (s₁.setTop (mkF m 1 #[.val (.int (0 : Int32))] [(.int (0 : Int32))]))
  refine own_via (fun _ k => XS.ifYes X0.here hx rfl (pc0 := 1) (pc' := 10) rfl (hb hby d1_1) rfl ((if0 _ _).trans (teq (by decide : (0 : Int32) = (0 : Int32))).1) (by decide) (by decide) k) ?_
  show own_Go p e below s _ _ _ (s₁.setTop (mkF m 10 #[.val (.int (0 : Int32))] []))
  obtain ⟨T1, X1, e1, st1⟩ := getS2 X0 hx hZ hown (host := "") (Or.inl (hw _ (List.mem_of_getElem? (i := 4) rfl))) Via.refl e0 (S_w0.ext OL.2) (g := (mkF m 10 #[.val (.int (0 : Int32))] [])) rfl (hb hby d1_10)
  refine own_via st1 ?_
  show own_Go p e below s _ _ _ (T1.setTop (mkF m 13 #[.val (.int (0 : Int32))] [(.ref w0)]))
  exact own_retR X1 hx hlk Bd.returns rfl rfl (hb hby d1_13) ⟨rfl, e1, rfl⟩ (by decide) (by decide)
def Q1_1 (w0 : Addr) (w1 : Addr) (w2 : Addr) (h0 : Heap) (v : Option Value) (h : Heap) (L : List Loc) : Prop := L = [] ∧ h = h0 ∧ ((v = some (.ref w1)))
set_option maxRecDepth 65536 in
set_option maxHeartbeats 40000000 in
theorem rm1_1 (l : Launch) (Z : State) (a0 : Array Value) (hw : ∀ d ∈ tables_1, d.before a0 Z = true) (ws : List Jvm.Cond) (w0 : Addr) (w1 : Addr) (w2 : Addr) (h0 : Heap) (n0 : Nat) (Z0 : n0 ≤ h0.size) (K : own_K Z Z.heap w0 w1 w2) (OL : Old Z n0 h0) :
    MetFree l (⟨"com/example/bericht/bericht/selector/Truth", "of", "(Z)Lcom/example/bericht/bericht/selector/Truth;"⟩ : MethodName) (head1 (Jvm.Cond.code (⟨"com/example/bericht/bericht/selector/Truth", "of", "(Z)Lcom/example/bericht/bericht/selector/Truth;"⟩ : MethodName) prog_93_method_4_code 1 (some (.object "com/example/bericht/bericht/selector/Truth")) :: ws) ({ frames := 0, cells := 0, slots := 0, locals := 0 } : Room)) (fun a U => a = #[(.int (1 : Int32))] ∧ Z.Warmed39 U.vm ∧ U.heap = h0) (fun _ _ _ _ _ => True) (fun _ U o U' => ∃ v L, o = .returned v ∧ Q1_1 w0 w1 w2 h0 v U'.heap L ∧ FrameEnd U o U' L ({ frames := 0, cells := 0, slots := 0, locals := 0 } : Room).cells ({ frames := 0, cells := 0, slots := 0, locals := 0 } : Room).slots) := by
  refine MetFree.of_bodySF (plainFor_of_name pn0) hisR ?_
  intro p e s m args below meth c s₁ Bd hml0 hP hK
  obtain ⟨rfl, hZ, hh⟩ := hP
  have hx := Bd.exec
  have hby := Bd.bytes
  have hml : c.maxLocals = 1 := hml0
  have hown : s.vm.findClass "com/example/bericht/bericht/selector/Truth" = some m.cls := findClass_of_methodNamed Bd.named
  have hnm := (name_of_methodNamed Bd.named Bd.method).1
  have hlk := Bd.notSynchronized
  have X0 : Stand p l e ({ frames := 0, cells := 0, slots := 0, locals := 0 } : Room) s m #[(.int (1 : Int32))] below meth c s₁ [] 0 0 := Stand.of_body Bd
  have e0 : s₁.heap = h0 := by rw [← hh, Bd.state]; rfl
  have K0 := K
  obtain ⟨S_w0, S_w1, S_w2, E_w0, E_w1, E_w2, F_w0_ordinal, F_w2_ordinal, F_w1_ordinal, n_w0_w1, n_w0_w2, n_w1_w2⟩ := K
  show own_Go p e below s (Q1_1 w0 w1 w2 h0) 0 0 (s₁.setTop (entryFrame m #[(.int (1 : Int32))] 1))
  rw [show entryFrame m #[(.int (1 : Int32))] 1 = mkF m 0 #[.val (.int (1 : Int32))] [] from by first | (simp [entryFrame, mkF, argsToLocals, Value.category]; done) | rfl]
  show own_Go p e below s _ _ _ (s₁.setTop (mkF m 0 #[.val (.int (1 : Int32))] []))
  refine own_via (fun _ k => XS.iloadN X0.here hx rfl (hb hby d1_0) rfl k) ?_
  show own_Go p e below s _ _ _ (s₁.setTop (mkF m 1 #[.val (.int (1 : Int32))] [(.int (1 : Int32))]))
  refine own_via (fun _ k => XS.ifNo X0.here hx rfl (hb hby d1_1) rfl ((if0 _ _).trans (feq (by decide : ¬ ((1 : Int32) = (0 : Int32)))).1) k) ?_
  show own_Go p e below s _ _ _ (s₁.setTop (mkF m 4 #[.val (.int (1 : Int32))] []))
  obtain ⟨T1, X1, e1, st1⟩ := getS2 X0 hx hZ hown (host := "") (Or.inl (hw _ (List.mem_of_getElem? (i := 6) rfl))) Via.refl e0 (S_w1.ext OL.2) (g := (mkF m 4 #[.val (.int (1 : Int32))] [])) rfl (hb hby d1_4)
  refine own_via st1 ?_
  show own_Go p e below s _ _ _ (T1.setTop (mkF m 7 #[.val (.int (1 : Int32))] [(.ref w1)]))
  refine own_via (fun _ k => XS.goto X1.here hx rfl (pc0 := 7) (pc' := 13) rfl (hb hby d1_7) (by decide) (by decide) k) ?_
  show own_Go p e below s _ _ _ (T1.setTop (mkF m 13 #[.val (.int (1 : Int32))] [(.ref w1)]))
  exact own_retR X1 hx hlk Bd.returns rfl rfl (hb hby d1_13) ⟨rfl, e1, rfl⟩ (by decide) (by decide)
def Q3_0 (w0 : Addr) (w1 : Addr) (w2 : Addr) (h0 : Heap) (v : Option Value) (h : Heap) (L : List Loc) : Prop := L = [] ∧ h = h0 ∧ ((v = some (.int (1 : Int32))))
set_option maxRecDepth 65536 in
set_option maxHeartbeats 40000000 in
theorem rm3_0 (l : Launch) (Z : State) (a0 : Array Value) (hw : ∀ d ∈ tables_1, d.before a0 Z = true) (ws : List Jvm.Cond) (w0 : Addr) (w1 : Addr) (w2 : Addr) (h0 : Heap) (n0 : Nat) (Z0 : n0 ≤ h0.size) (K : own_K Z Z.heap w0 w1 w2) (OL : Old Z n0 h0) :
    MetFree l (⟨"java/lang/Enum", "ordinal", "()I"⟩ : MethodName) (head1 (Jvm.Cond.code (⟨"java/lang/Enum", "ordinal", "()I"⟩ : MethodName) jdk_37_method_2_code 1 (some .int) :: ws) ({ frames := 0, cells := 0, slots := 0, locals := 0 } : Room)) (fun a U => a = #[(.ref w0)] ∧ Z.Warmed39 U.vm ∧ U.heap = h0) (fun _ _ _ _ _ => True) (fun _ U o U' => ∃ v L, o = .returned v ∧ Q3_0 w0 w1 w2 h0 v U'.heap L ∧ FrameEnd U o U' L ({ frames := 0, cells := 0, slots := 0, locals := 0 } : Room).cells ({ frames := 0, cells := 0, slots := 0, locals := 0 } : Room).slots) := by
  refine MetFree.of_bodySF (plainFor_of_name pn1) hisR ?_
  intro p e s m args below meth c s₁ Bd hml0 hP hK
  obtain ⟨rfl, hZ, hh⟩ := hP
  have hx := Bd.exec
  have hby := Bd.bytes
  have hml : c.maxLocals = 1 := hml0
  have hown : s.vm.findClass "java/lang/Enum" = some m.cls := findClass_of_methodNamed Bd.named
  have hnm := (name_of_methodNamed Bd.named Bd.method).1
  have hlk := Bd.notSynchronized
  have X0 : Stand p l e ({ frames := 0, cells := 0, slots := 0, locals := 0 } : Room) s m #[(.ref w0)] below meth c s₁ [] 0 0 := Stand.of_body Bd
  have e0 : s₁.heap = h0 := by rw [← hh, Bd.state]; rfl
  have K0 := K
  obtain ⟨S_w0, S_w1, S_w2, E_w0, E_w1, E_w2, F_w0_ordinal, F_w2_ordinal, F_w1_ordinal, n_w0_w1, n_w0_w2, n_w1_w2⟩ := K
  show own_Go p e below s (Q3_0 w0 w1 w2 h0) 0 0 (s₁.setTop (entryFrame m #[(.ref w0)] 1))
  rw [show entryFrame m #[(.ref w0)] 1 = mkF m 0 #[.val (.ref w0)] [] from by first | (simp [entryFrame, mkF, argsToLocals, Value.category]; done) | rfl]
  show own_Go p e below s _ _ _ (s₁.setTop (mkF m 0 #[.val (.ref w0)] []))
  refine own_via (fun _ k => XS.aloadN X0.here hx rfl (hb hby d3_0) rfl rfl k) ?_
  show own_Go p e below s _ _ _ (s₁.setTop (mkF m 1 #[.val (.ref w0)] [(.ref w0)]))
  obtain ⟨T1, X1, e1, st1⟩ := getF X0 hx hZ hown (host := "") (Or.inl (hw _ (List.mem_of_getElem? (i := 23) rfl))) Via.refl e0 (F_w0_ordinal.ext OL.2) (g := (mkF m 1 #[.val (.ref w0)] [(.ref w0)])) rfl rfl (hb hby d3_1)
  refine own_via st1 ?_
  show own_Go p e below s _ _ _ (T1.setTop (mkF m 4 #[.val (.ref w0)] [(.int (1 : Int32))]))
  exact own_retI X1 hx hlk Bd.returns (hb hby d3_4) ⟨rfl, e1, rfl⟩ (by decide) (by decide)
def Q2_0 (w0 : Addr) (w1 : Addr) (w2 : Addr) (h0 : Heap) (v : Option Value) (h : Heap) (L : List Loc) : Prop := L = [] ∧ h = h0 ∧ ((v = some (.ref w1)))
set_option maxRecDepth 65536 in
set_option maxHeartbeats 40000000 in
theorem rm2_0 (l : Launch) (Z : State) (a0 : Array Value) (hw : ∀ d ∈ tables_1, d.before a0 Z = true) (ws : List Jvm.Cond) (w0 : Addr) (w1 : Addr) (w2 : Addr) (h0 : Heap) (n0 : Nat) (Z0 : n0 ≤ h0.size) (K : own_K Z Z.heap w0 w1 w2) (OL : Old Z n0 h0) :
    MetFree l (⟨"com/example/bericht/bericht/selector/Truth", "not", "()Lcom/example/bericht/bericht/selector/Truth;"⟩ : MethodName) (head1 (Jvm.Cond.code (⟨"com/example/bericht/bericht/selector/Truth", "not", "()Lcom/example/bericht/bericht/selector/Truth;"⟩ : MethodName) prog_93_method_5_code 1 (some (.object "com/example/bericht/bericht/selector/Truth")) :: ws) ({ frames := 1, cells := 0, slots := 0, locals := 12 } : Room)) (fun a U => a = #[(.ref w0)] ∧ Z.Warmed39 U.vm ∧ U.heap = h0) (fun _ _ _ _ _ => True) (fun _ U o U' => ∃ v L, o = .returned v ∧ Q2_0 w0 w1 w2 h0 v U'.heap L ∧ FrameEnd U o U' L ({ frames := 1, cells := 0, slots := 0, locals := 12 } : Room).cells ({ frames := 1, cells := 0, slots := 0, locals := 12 } : Room).slots) := by
  refine MetFree.of_bodySF (plainFor_of_name pn0) hisR ?_
  intro p e s m args below meth c s₁ Bd hml0 hP hK
  obtain ⟨rfl, hZ, hh⟩ := hP
  have hx := Bd.exec
  have hby := Bd.bytes
  have hml : c.maxLocals = 1 := hml0
  have hown : s.vm.findClass "com/example/bericht/bericht/selector/Truth" = some m.cls := findClass_of_methodNamed Bd.named
  have hnm := (name_of_methodNamed Bd.named Bd.method).1
  have hlk := Bd.notSynchronized
  have X0 : Stand p l e ({ frames := 1, cells := 0, slots := 0, locals := 12 } : Room) s m #[(.ref w0)] below meth c s₁ [] 0 0 := Stand.of_body Bd
  have e0 : s₁.heap = h0 := by rw [← hh, Bd.state]; rfl
  have K0 := K
  obtain ⟨S_w0, S_w1, S_w2, E_w0, E_w1, E_w2, F_w0_ordinal, F_w2_ordinal, F_w1_ordinal, n_w0_w1, n_w0_w2, n_w1_w2⟩ := K
  show own_Go p e below s (Q2_0 w0 w1 w2 h0) 0 0 (s₁.setTop (entryFrame m #[(.ref w0)] 1))
  rw [show entryFrame m #[(.ref w0)] 1 = mkF m 0 #[.val (.ref w0)] [] from by first | (simp [entryFrame, mkF, argsToLocals, Value.category]; done) | rfl]
  show own_Go p e below s _ _ _ (s₁.setTop (mkF m 0 #[.val (.ref w0)] []))
  refine own_via (fun _ k => XS.aloadN X0.here hx rfl (hb hby d2_0) rfl rfl k) ?_
  show own_Go p e below s _ _ _ (s₁.setTop (mkF m 1 #[.val (.ref w0)] [(.ref w0)]))
  obtain ⟨cq1, kq1, q1a, q1b, q1c⟩ := isOf hZ e0 (E_w0.ext OL.2)
  obtain ⟨_, _, ⟨T1, L1, k1, n1⟩, -, X1, ⟨Lc1, hQ1, l1, y1, z1⟩, st1⟩ := X0.virtualBackUp hx (x := (⟨"com/example/bericht/bericht/selector/Truth", "ordinal", "()I"⟩ : MethodName)) (y := (⟨"java/lang/Enum", "ordinal", "()I"⟩ : MethodName)) (owner := "java/lang/Enum") hown (mvT hZ (hw _ (List.mem_of_getElem? (i := 16) rfl))) (mvT hZ (hw _ (List.mem_of_getElem? (i := 17) rfl))) (mvT hZ (hw _ (List.mem_of_getElem? (i := 18) rfl))) (by decide) (mvT hZ (hw _ (List.mem_of_getElem? (i := 20) rfl))) (mvT hZ (hw _ (List.mem_of_getElem? (i := 19) rfl))) (backOf (W := 0) (rm3_0 l Z a0 hw [] w0 w1 w2 h0 n0 Z0 K0 OL) hZ (hw _ (List.mem_of_getElem? (i := 22) rfl)) (hw _ (List.mem_of_getElem? (i := 21) rfl)) (by decide) (by decide)) q1a q1c (g := (mkF m 1 #[.val (.ref w0)] [(.ref w0)])) rfl (by rw [hml]; rfl) (Steps.refl _) (argsL := []) (rest := []) (lenOf pd1 rfl) rfl (by show 2 * 0 + _ ≤ _; exact Nat.le_of_eq rfl) (hb hby d2_1) (fun _ _ => ⟨rfl, e0, (by decide : 0 + 0 ≤ _), (by decide : 0 + 0 ≤ _)⟩)
  dsimp only [Pt.U, Pt.locs, Pt.cells, Pt.slots] at X1 l1 y1 z1 st1 hQ1
  subst l1 y1 z1
  obtain ⟨rfl, e1, hO1⟩ := hQ1
  obtain rfl := hO1
  refine own_tr st1 ?_
  show own_Go p e below s _ _ _ (T1.setTop (mkF m 4 #[.val (.ref w0)] [(.int (1 : Int32))]))
  refine own_via (fun _ k => XS.tswIn X1.here hx rfl (o := 44) (pc0 := 4) (pc' := 48) rfl (hb hby d2_4) rfl (by decide) (by decide) (by decide) (by decide) k) ?_
  show own_Go p e below s _ _ _ (T1.setTop (mkF m 48 #[.val (.ref w0)] []))
  obtain ⟨T2, X2, e2, st2⟩ := getS2 X1 hx hZ hown (host := "") (Or.inl (hw _ (List.mem_of_getElem? (i := 6) rfl))) Via.refl e1 (S_w1.ext OL.2) (g := (mkF m 48 #[.val (.ref w0)] [])) rfl (hb hby d2_48)
  refine own_via st2 ?_
  show own_Go p e below s _ _ _ (T2.setTop (mkF m 51 #[.val (.ref w0)] [(.ref w1)]))
  refine own_via (fun _ k => XS.goto X2.here hx rfl (pc0 := 51) (pc' := 57) rfl (hb hby d2_51) (by decide) (by decide) k) ?_
  show own_Go p e below s _ _ _ (T2.setTop (mkF m 57 #[.val (.ref w0)] [(.ref w1)]))
  exact own_retR X2 hx hlk Bd.returns rfl rfl (hb hby d2_57) ⟨rfl, e2, rfl⟩ (by decide) (by decide)
def Q5_0 (x1 : Addr) (w0 : Addr) (w1 : Addr) (w2 : Addr) (h0 : Heap) (v : Option Value) (h : Heap) (L : List Loc) : Prop := L = [] ∧ h = h0 ∧ ((v = some (.ref w0)))
set_option maxRecDepth 65536 in
set_option maxHeartbeats 40000000 in
theorem rm5_0 (l : Launch) (Z : State) (a0 : Array Value) (hw : ∀ d ∈ tables_1, d.before a0 Z = true) (ws : List Jvm.Cond) (x1 : Addr) (w0 : Addr) (w1 : Addr) (w2 : Addr) (h0 : Heap) (n0 : Nat) (Z0 : n0 ≤ h0.size) (K : own_K Z Z.heap w0 w1 w2) (OL : Old Z n0 h0) :
    MetFree l (⟨"java/util/Objects", "requireNonNull", "(Ljava/lang/Object;Ljava/lang/String;)Ljava/lang/Object;"⟩ : MethodName) (head1 (Jvm.Cond.code (⟨"java/util/Objects", "requireNonNull", "(Ljava/lang/Object;Ljava/lang/String;)Ljava/lang/Object;"⟩ : MethodName) jdk_31_method_11_code 2 (some (.object "java/lang/Object")) :: ws) ({ frames := 0, cells := 0, slots := 0, locals := 0 } : Room)) (fun a U => a = #[(.ref w0), (.ref x1)] ∧ Z.Warmed39 U.vm ∧ U.heap = h0) (fun _ _ _ _ _ => True) (fun _ U o U' => ∃ v L, o = .returned v ∧ Q5_0 x1 w0 w1 w2 h0 v U'.heap L ∧ FrameEnd U o U' L ({ frames := 0, cells := 0, slots := 0, locals := 0 } : Room).cells ({ frames := 0, cells := 0, slots := 0, locals := 0 } : Room).slots) := by
  refine MetFree.of_bodySF (plainFor_of_name pn2) hisR ?_
  intro p e s m args below meth c s₁ Bd hml0 hP hK
  obtain ⟨rfl, hZ, hh⟩ := hP
  have hx := Bd.exec
  have hby := Bd.bytes
  have hml : c.maxLocals = 2 := hml0
  have hown : s.vm.findClass "java/util/Objects" = some m.cls := findClass_of_methodNamed Bd.named
  have hnm := (name_of_methodNamed Bd.named Bd.method).1
  have hlk := Bd.notSynchronized
  have X0 : Stand p l e ({ frames := 0, cells := 0, slots := 0, locals := 0 } : Room) s m #[(.ref w0), (.ref x1)] below meth c s₁ [] 0 0 := Stand.of_body Bd
  have e0 : s₁.heap = h0 := by rw [← hh, Bd.state]; rfl
  have K0 := K
  obtain ⟨S_w0, S_w1, S_w2, E_w0, E_w1, E_w2, F_w0_ordinal, F_w2_ordinal, F_w1_ordinal, n_w0_w1, n_w0_w2, n_w1_w2⟩ := K
  show own_Go p e below s (Q5_0 x1 w0 w1 w2 h0) 0 0 (s₁.setTop (entryFrame m #[(.ref w0), (.ref x1)] 2))
  rw [show entryFrame m #[(.ref w0), (.ref x1)] 2 = mkF m 0 #[.val (.ref w0), .val (.ref x1)] [] from by first | (simp [entryFrame, mkF, argsToLocals, Value.category]; done) | rfl]
  show own_Go p e below s _ _ _ (s₁.setTop (mkF m 0 #[.val (.ref w0), .val (.ref x1)] []))
  refine own_via (fun _ k => XS.aloadN X0.here hx rfl (hb hby d5_0) rfl rfl k) ?_
  show own_Go p e below s _ _ _ (s₁.setTop (mkF m 1 #[.val (.ref w0), .val (.ref x1)] [(.ref w0)]))
  refine own_via (fun _ k => XS.ifnonnullYes X0.here hx rfl (pc0 := 1) (pc' := 13) rfl (hb hby d5_1) rfl (by decide) (by decide) k) ?_
  show own_Go p e below s _ _ _ (s₁.setTop (mkF m 13 #[.val (.ref w0), .val (.ref x1)] []))
  refine own_via (fun _ k => XS.aloadN X0.here hx rfl (hb hby d5_13) rfl rfl k) ?_
  show own_Go p e below s _ _ _ (s₁.setTop (mkF m 14 #[.val (.ref w0), .val (.ref x1)] [(.ref w0)]))
  exact own_retR X0 hx hlk Bd.returns rfl rfl (hb hby d5_14) ⟨rfl, e0, rfl⟩ (by decide) (by decide)
def Q4_0 (Z : State) (w0 : Addr) (w1 : Addr) (w2 : Addr) (n0 : Nat) (v : Option Value) (h : Heap) (L : List Loc) : Prop := Fr n0 L ∧ Old Z n0 h ∧ n0 ≤ h.size ∧ ((v = some (.ref w0)))
set_option maxRecDepth 65536 in
set_option maxHeartbeats 40000000 in
theorem rm4_0 (l : Launch) (Z : State) (a0 : Array Value) (hw : ∀ d ∈ tables_1, d.before a0 Z = true) (ws : List Jvm.Cond) (w0 : Addr) (w1 : Addr) (w2 : Addr) (h0 : Heap) (n0 : Nat) (Z0 : n0 ≤ h0.size) (K : own_K Z Z.heap w0 w1 w2) (OL : Old Z n0 h0) :
    MetFree l (⟨"com/example/bericht/bericht/selector/Truth", "and", "(Lcom/example/bericht/bericht/selector/Truth;)Lcom/example/bericht/bericht/selector/Truth;"⟩ : MethodName) (head1 (Jvm.Cond.code (⟨"com/example/bericht/bericht/selector/Truth", "and", "(Lcom/example/bericht/bericht/selector/Truth;)Lcom/example/bericht/bericht/selector/Truth;"⟩ : MethodName) prog_93_method_6_code 3 (some (.object "com/example/bericht/bericht/selector/Truth")) :: ws) ({ frames := 1, cells := 2, slots := 24, locals := 13 } : Room)) (fun a U => a = #[(.ref w0), (.ref w0)] ∧ Z.Warmed39 U.vm ∧ U.heap = h0) (fun _ _ _ _ _ => True) (fun _ U o U' => ∃ v L, o = .returned v ∧ Q4_0 Z w0 w1 w2 n0 v U'.heap L ∧ ReturnedEndW U o U' L ({ frames := 1, cells := 2, slots := 24, locals := 13 } : Room).cells ({ frames := 1, cells := 2, slots := 24, locals := 13 } : Room).slots) := by
  refine MetFree.of_bodySF (plainFor_of_name pn0) hisR ?_
  intro p e s m args below meth c s₁ Bd hml0 hP hK
  obtain ⟨rfl, hZ, hh⟩ := hP
  have hx := Bd.exec
  have hby := Bd.bytes
  have hml : c.maxLocals = 3 := hml0
  have hown : s.vm.findClass "com/example/bericht/bericht/selector/Truth" = some m.cls := findClass_of_methodNamed Bd.named
  have hnm := (name_of_methodNamed Bd.named Bd.method).1
  have hlk := Bd.notSynchronized
  have X0 : Stand p l e ({ frames := 1, cells := 2, slots := 24, locals := 13 } : Room) s m #[(.ref w0), (.ref w0)] below meth c s₁ [] 0 0 := Stand.of_body Bd
  have X0 : Stand p l e ({ frames := 1, cells := 2, slots := 24, locals := 13 } : Room) (s.setVm s.vm) m #[(.ref w0), (.ref w0)] below meth c s₁ [] 0 0 := X0
  have hZ : Z.Warmed39 (s.setVm s.vm).vm := hZ
  have hown : (s.setVm s.vm).vm.findClass "com/example/bericht/bericht/selector/Truth" = some m.cls := hown
  have hS : s.Since s.vm 0 := (State.WarmedH.refl s).since 0
  have hk : 0 ≤ h0.size := Nat.zero_le _
  have e0 : s₁.heap = h0 := by rw [← hh, Bd.state]; rfl
  have K0 := K
  obtain ⟨S_w0, S_w1, S_w2, E_w0, E_w1, E_w2, F_w0_ordinal, F_w2_ordinal, F_w1_ordinal, n_w0_w1, n_w0_w2, n_w1_w2⟩ := K
  show own_GoW p e below s (Q4_0 Z w0 w1 w2 n0) 2 24 (s₁.setTop (entryFrame m #[(.ref w0), (.ref w0)] 3))
  rw [show entryFrame m #[(.ref w0), (.ref w0)] 3 = mkF m 0 #[.val (.ref w0), .val (.ref w0), .unset] [] from by first | (simp [entryFrame, mkF, argsToLocals, Value.category]; done) | rfl]
  show own_GoW p e below s _ _ _ (s₁.setTop (mkF m 0 #[.val (.ref w0), .val (.ref w0), .unset] []))
  refine own_viaW (fun _ k => XS.aloadN X0.here hx rfl (hb hby d4_0) rfl rfl k) ?_
  show own_GoW p e below s _ _ _ (s₁.setTop (mkF m 1 #[.val (.ref w0), .val (.ref w0), .unset] [(.ref w0)]))
  obtain ⟨a1, T1, h1, k1, X1, e1, E1, hS1, hk1, hZ1, hown1, st1⟩ := ldcS X0 hx hZ hown (hw _ (List.mem_of_getElem? (i := 30) rfl)) (own_wS hw) e0 hS hk (g := (mkF m 1 #[.val (.ref w0), .val (.ref w0), .unset] [(.ref w0)])) rfl (hb hby d4_1) (n := 20) (by decide) (by decide) (by decide) (by decide)
  have hZ := hZ1
  have hown := hown1
  have hS := hS1
  have hk := hk1
  have Z0 := Nat.le_trans Z0 E1.1
  have OL := OL.ext E1
  refine own_viaW st1 ?_
  show own_GoW p e below s _ _ _ (T1.setTop (mkF m 3 #[.val (.ref w0), .val (.ref w0), .unset] [(.ref a1), (.ref w0)]))
  obtain ⟨_, _, ⟨T2, L2, k2, n2⟩, -, X2, ⟨Lc2, hQ2, l2, y2, z2⟩, st2⟩ := Jvm.LawKit.callS X1 hx (y := (⟨"java/util/Objects", "requireNonNull", "(Ljava/lang/Object;Ljava/lang/String;)Ljava/lang/Object;"⟩ : MethodName)) hown (mvT hZ (hw _ (List.mem_of_getElem? (i := 38) rfl))) (mvT hZ (hw _ (List.mem_of_getElem? (i := 39) rfl))) (mvT hZ (hw _ (List.mem_of_getElem? (i := 40) rfl))) (mvT hZ (hw _ (List.mem_of_getElem? (i := 41) rfl))) (by decide) (backOf (W := 0) (rm5_0 l Z a0 hw [] a1 w0 w1 w2 h1 n0 Z0 K0 OL) hZ (hw _ (List.mem_of_getElem? (i := 41) rfl)) (hw _ (List.mem_of_getElem? (i := 40) rfl)) (by decide) (by decide)) (g := (mkF m 3 #[.val (.ref w0), .val (.ref w0), .unset] [(.ref a1), (.ref w0)])) rfl (by rw [hml]; rfl) (argsL := [(.ref w0), (.ref a1)]) (rest := []) (lenOf pd3 rfl) rfl (by show 2 * 0 + _ ≤ _; exact Nat.le_of_eq rfl) (hb hby d4_3) (fun _ _ => ⟨rfl, e1, (by decide : 0 + 2 + 0 ≤ _), (by decide : 0 + 24 + 0 ≤ _)⟩)
  dsimp only [Pt.U, Pt.locs, Pt.cells, Pt.slots] at X2 l2 y2 z2 st2 hQ2
  subst l2 y2 z2
  obtain ⟨rfl, e2, hO2⟩ := hQ2
  obtain rfl := hO2
  refine own_viaW st2 ?_
  show own_GoW p e below s _ _ _ (T2.setTop (mkF m 6 #[.val (.ref w0), .val (.ref w0), .unset] [(.ref w0)]))
  refine own_viaW (fun _ k => XS.pop X2.here hx rfl (hb hby d4_6) rfl rfl k) ?_
  show own_GoW p e below s _ _ _ (T2.setTop (mkF m 7 #[.val (.ref w0), .val (.ref w0), .unset] []))
  refine own_viaW (fun _ k => XS.aloadN X2.here hx rfl (hb hby d4_7) rfl rfl k) ?_
  show own_GoW p e below s _ _ _ (T2.setTop (mkF m 8 #[.val (.ref w0), .val (.ref w0), .unset] [(.ref w0)]))
  obtain ⟨T3, X3, e3, st3⟩ := getS2 X2 hx hZ hown (host := "") (Or.inl (hw _ (List.mem_of_getElem? (i := 4) rfl))) Via.refl e2 (S_w0.ext OL.2) (g := (mkF m 8 #[.val (.ref w0), .val (.ref w0), .unset] [(.ref w0)])) rfl (hb hby d4_8)
  refine own_viaW st3 ?_
  show own_GoW p e below s _ _ _ (T3.setTop (mkF m 11 #[.val (.ref w0), .val (.ref w0), .unset] [(.ref w0), (.ref w0)]))
  refine own_viaW (fun _ k => Jvm.RoadKit.acmp (g := (mkF m 11 #[.val (.ref w0), .val (.ref w0), .unset] [(.ref w0), (.ref w0)])) X3 hx rfl rfl rfl (pc0 := 11) (pc' := 21) (same := true) rfl (hb hby d4_11) rfl (decide_eq_true rfl) (by decide) (by decide) k) ?_
  show own_GoW p e below s _ _ _ (T3.setTop (mkF m 21 #[.val (.ref w0), .val (.ref w0), .unset] []))
  obtain ⟨T4, X4, e4, st4⟩ := getS2 X3 hx hZ hown (host := "") (Or.inl (hw _ (List.mem_of_getElem? (i := 4) rfl))) Via.refl e3 (S_w0.ext OL.2) (g := (mkF m 21 #[.val (.ref w0), .val (.ref w0), .unset] [])) rfl (hb hby d4_21)
  refine own_viaW st4 ?_
  show own_GoW p e below s _ _ _ (T4.setTop (mkF m 24 #[.val (.ref w0), .val (.ref w0), .unset] [(.ref w0)]))
  refine own_viaW (fun _ k => XS.astoreN X4.here hx rfl (hb hby d4_24) rfl rfl (l' := #[.val (.ref w0), .val (.ref w0), .val (.ref w0)]) rfl k) ?_
  show own_GoW p e below s _ _ _ (T4.setTop (mkF m 25 #[.val (.ref w0), .val (.ref w0), .val (.ref w0)] []))
  refine own_viaW (fun _ k => XS.goto X4.here hx rfl (pc0 := 25) (pc' := 53) rfl (hb hby d4_25) (by decide) (by decide) k) ?_
  show own_GoW p e below s _ _ _ (T4.setTop (mkF m 53 #[.val (.ref w0), .val (.ref w0), .val (.ref w0)] []))
  refine own_viaW (fun _ k => XS.aloadN X4.here hx rfl (hb hby d4_53) rfl rfl k) ?_
  show own_GoW p e below s _ _ _ (T4.setTop (mkF m 54 #[.val (.ref w0), .val (.ref w0), .val (.ref w0)] [(.ref w0)]))
  exact own_retRW X4 hS (by rw [e4]; exact hk) hx hlk Bd.returns rfl rfl (hb hby d4_54) (by rw [e4]; exact ⟨(Fr.app (Fr.nil n0) (Fr.nil n0)), OL, Z0, rfl⟩) (by decide) (by decide)
def Q6_0 (Z : State) (w0 : Addr) (w1 : Addr) (w2 : Addr) (n0 : Nat) (v : Option Value) (h : Heap) (L : List Loc) : Prop := Fr n0 L ∧ Old Z n0 h ∧ n0 ≤ h.size ∧ ((v = some (.ref w0)))
set_option maxRecDepth 65536 in
set_option maxHeartbeats 40000000 in
theorem rm6_0 (l : Launch) (Z : State) (a0 : Array Value) (hw : ∀ d ∈ tables_1, d.before a0 Z = true) (ws : List Jvm.Cond) (w0 : Addr) (w1 : Addr) (w2 : Addr) (h0 : Heap) (n0 : Nat) (Z0 : n0 ≤ h0.size) (K : own_K Z Z.heap w0 w1 w2) (OL : Old Z n0 h0) :
    MetFree l (⟨"com/example/bericht/bericht/selector/Truth", "or", "(Lcom/example/bericht/bericht/selector/Truth;)Lcom/example/bericht/bericht/selector/Truth;"⟩ : MethodName) (head1 (Jvm.Cond.code (⟨"com/example/bericht/bericht/selector/Truth", "or", "(Lcom/example/bericht/bericht/selector/Truth;)Lcom/example/bericht/bericht/selector/Truth;"⟩ : MethodName) prog_93_method_7_code 3 (some (.object "com/example/bericht/bericht/selector/Truth")) :: ws) ({ frames := 1, cells := 2, slots := 24, locals := 13 } : Room)) (fun a U => a = #[(.ref w0), (.ref w0)] ∧ Z.Warmed39 U.vm ∧ U.heap = h0) (fun _ _ _ _ _ => True) (fun _ U o U' => ∃ v L, o = .returned v ∧ Q6_0 Z w0 w1 w2 n0 v U'.heap L ∧ ReturnedEndW U o U' L ({ frames := 1, cells := 2, slots := 24, locals := 13 } : Room).cells ({ frames := 1, cells := 2, slots := 24, locals := 13 } : Room).slots) := by
  refine MetFree.of_bodySF (plainFor_of_name pn0) hisR ?_
  intro p e s m args below meth c s₁ Bd hml0 hP hK
  obtain ⟨rfl, hZ, hh⟩ := hP
  have hx := Bd.exec
  have hby := Bd.bytes
  have hml : c.maxLocals = 3 := hml0
  have hown : s.vm.findClass "com/example/bericht/bericht/selector/Truth" = some m.cls := findClass_of_methodNamed Bd.named
  have hnm := (name_of_methodNamed Bd.named Bd.method).1
  have hlk := Bd.notSynchronized
  have X0 : Stand p l e ({ frames := 1, cells := 2, slots := 24, locals := 13 } : Room) s m #[(.ref w0), (.ref w0)] below meth c s₁ [] 0 0 := Stand.of_body Bd
  have X0 : Stand p l e ({ frames := 1, cells := 2, slots := 24, locals := 13 } : Room) (s.setVm s.vm) m #[(.ref w0), (.ref w0)] below meth c s₁ [] 0 0 := X0
  have hZ : Z.Warmed39 (s.setVm s.vm).vm := hZ
  have hown : (s.setVm s.vm).vm.findClass "com/example/bericht/bericht/selector/Truth" = some m.cls := hown
  have hS : s.Since s.vm 0 := (State.WarmedH.refl s).since 0
  have hk : 0 ≤ h0.size := Nat.zero_le _
  have e0 : s₁.heap = h0 := by rw [← hh, Bd.state]; rfl
  have K0 := K
  obtain ⟨S_w0, S_w1, S_w2, E_w0, E_w1, E_w2, F_w0_ordinal, F_w2_ordinal, F_w1_ordinal, n_w0_w1, n_w0_w2, n_w1_w2⟩ := K
  show own_GoW p e below s (Q6_0 Z w0 w1 w2 n0) 2 24 (s₁.setTop (entryFrame m #[(.ref w0), (.ref w0)] 3))
  rw [show entryFrame m #[(.ref w0), (.ref w0)] 3 = mkF m 0 #[.val (.ref w0), .val (.ref w0), .unset] [] from by first | (simp [entryFrame, mkF, argsToLocals, Value.category]; done) | rfl]
  show own_GoW p e below s _ _ _ (s₁.setTop (mkF m 0 #[.val (.ref w0), .val (.ref w0), .unset] []))
  refine own_viaW (fun _ k => XS.aloadN X0.here hx rfl (hb hby d6_0) rfl rfl k) ?_
  show own_GoW p e below s _ _ _ (s₁.setTop (mkF m 1 #[.val (.ref w0), .val (.ref w0), .unset] [(.ref w0)]))
  obtain ⟨a1, T1, h1, k1, X1, e1, E1, hS1, hk1, hZ1, hown1, st1⟩ := ldcS X0 hx hZ hown (hw _ (List.mem_of_getElem? (i := 30) rfl)) (own_wS hw) e0 hS hk (g := (mkF m 1 #[.val (.ref w0), .val (.ref w0), .unset] [(.ref w0)])) rfl (hb hby d6_1) (n := 20) (by decide) (by decide) (by decide) (by decide)
  have hZ := hZ1
  have hown := hown1
  have hS := hS1
  have hk := hk1
  have Z0 := Nat.le_trans Z0 E1.1
  have OL := OL.ext E1
  refine own_viaW st1 ?_
  show own_GoW p e below s _ _ _ (T1.setTop (mkF m 3 #[.val (.ref w0), .val (.ref w0), .unset] [(.ref a1), (.ref w0)]))
  obtain ⟨_, _, ⟨T2, L2, k2, n2⟩, -, X2, ⟨Lc2, hQ2, l2, y2, z2⟩, st2⟩ := Jvm.LawKit.callS X1 hx (y := (⟨"java/util/Objects", "requireNonNull", "(Ljava/lang/Object;Ljava/lang/String;)Ljava/lang/Object;"⟩ : MethodName)) hown (mvT hZ (hw _ (List.mem_of_getElem? (i := 38) rfl))) (mvT hZ (hw _ (List.mem_of_getElem? (i := 39) rfl))) (mvT hZ (hw _ (List.mem_of_getElem? (i := 40) rfl))) (mvT hZ (hw _ (List.mem_of_getElem? (i := 41) rfl))) (by decide) (backOf (W := 0) (rm5_0 l Z a0 hw [] a1 w0 w1 w2 h1 n0 Z0 K0 OL) hZ (hw _ (List.mem_of_getElem? (i := 41) rfl)) (hw _ (List.mem_of_getElem? (i := 40) rfl)) (by decide) (by decide)) (g := (mkF m 3 #[.val (.ref w0), .val (.ref w0), .unset] [(.ref a1), (.ref w0)])) rfl (by rw [hml]; rfl) (argsL := [(.ref w0), (.ref a1)]) (rest := []) (lenOf pd3 rfl) rfl (by show 2 * 0 + _ ≤ _; exact Nat.le_of_eq rfl) (hb hby d6_3) (fun _ _ => ⟨rfl, e1, (by decide : 0 + 2 + 0 ≤ _), (by decide : 0 + 24 + 0 ≤ _)⟩)
  dsimp only [Pt.U, Pt.locs, Pt.cells, Pt.slots] at X2 l2 y2 z2 st2 hQ2
  subst l2 y2 z2
  obtain ⟨rfl, e2, hO2⟩ := hQ2
  obtain rfl := hO2
  refine own_viaW st2 ?_
  show own_GoW p e below s _ _ _ (T2.setTop (mkF m 6 #[.val (.ref w0), .val (.ref w0), .unset] [(.ref w0)]))
  refine own_viaW (fun _ k => XS.pop X2.here hx rfl (hb hby d6_6) rfl rfl k) ?_
  show own_GoW p e below s _ _ _ (T2.setTop (mkF m 7 #[.val (.ref w0), .val (.ref w0), .unset] []))
  refine own_viaW (fun _ k => XS.aloadN X2.here hx rfl (hb hby d6_7) rfl rfl k) ?_
  show own_GoW p e below s _ _ _ (T2.setTop (mkF m 8 #[.val (.ref w0), .val (.ref w0), .unset] [(.ref w0)]))
  obtain ⟨T3, X3, e3, st3⟩ := getS2 X2 hx hZ hown (host := "") (Or.inl (hw _ (List.mem_of_getElem? (i := 6) rfl))) Via.refl e2 (S_w1.ext OL.2) (g := (mkF m 8 #[.val (.ref w0), .val (.ref w0), .unset] [(.ref w0)])) rfl (hb hby d6_8)
  refine own_viaW st3 ?_
  show own_GoW p e below s _ _ _ (T3.setTop (mkF m 11 #[.val (.ref w0), .val (.ref w0), .unset] [(.ref w1), (.ref w0)]))
  refine own_viaW (fun _ k => Jvm.RoadKit.acmp (g := (mkF m 11 #[.val (.ref w0), .val (.ref w0), .unset] [(.ref w1), (.ref w0)])) X3 hx rfl rfl rfl (pc0 := 11) (pc' := 14) (same := false) rfl (hb hby d6_11) rfl (decide_eq_false fun q => n_w0_w1 (Value.ref.inj q)) (by decide) (by decide) k) ?_
  show own_GoW p e below s _ _ _ (T3.setTop (mkF m 14 #[.val (.ref w0), .val (.ref w0), .unset] []))
  refine own_viaW (fun _ k => XS.aloadN X3.here hx rfl (hb hby d6_14) rfl rfl k) ?_
  show own_GoW p e below s _ _ _ (T3.setTop (mkF m 15 #[.val (.ref w0), .val (.ref w0), .unset] [(.ref w0)]))
  obtain ⟨T4, X4, e4, st4⟩ := getS2 X3 hx hZ hown (host := "") (Or.inl (hw _ (List.mem_of_getElem? (i := 6) rfl))) Via.refl e3 (S_w1.ext OL.2) (g := (mkF m 15 #[.val (.ref w0), .val (.ref w0), .unset] [(.ref w0)])) rfl (hb hby d6_15)
  refine own_viaW st4 ?_
  show own_GoW p e below s _ _ _ (T4.setTop (mkF m 18 #[.val (.ref w0), .val (.ref w0), .unset] [(.ref w1), (.ref w0)]))
  refine own_viaW (fun _ k => Jvm.RoadKit.acmp (g := (mkF m 18 #[.val (.ref w0), .val (.ref w0), .unset] [(.ref w1), (.ref w0)])) X4 hx rfl rfl rfl (pc0 := 18) (pc' := 28) (same := false) rfl (hb hby d6_18) rfl (decide_eq_false fun q => n_w0_w1 (Value.ref.inj q)) (by decide) (by decide) k) ?_
  show own_GoW p e below s _ _ _ (T4.setTop (mkF m 28 #[.val (.ref w0), .val (.ref w0), .unset] []))
  refine own_viaW (fun _ k => XS.aloadN X4.here hx rfl (hb hby d6_28) rfl rfl k) ?_
  show own_GoW p e below s _ _ _ (T4.setTop (mkF m 29 #[.val (.ref w0), .val (.ref w0), .unset] [(.ref w0)]))
  obtain ⟨T5, X5, e5, st5⟩ := getS2 X4 hx hZ hown (host := "") (Or.inl (hw _ (List.mem_of_getElem? (i := 47) rfl))) Via.refl e4 (S_w2.ext OL.2) (g := (mkF m 29 #[.val (.ref w0), .val (.ref w0), .unset] [(.ref w0)])) rfl (hb hby d6_29)
  refine own_viaW st5 ?_
  show own_GoW p e below s _ _ _ (T5.setTop (mkF m 32 #[.val (.ref w0), .val (.ref w0), .unset] [(.ref w2), (.ref w0)]))
  refine own_viaW (fun _ k => Jvm.RoadKit.acmp (g := (mkF m 32 #[.val (.ref w0), .val (.ref w0), .unset] [(.ref w2), (.ref w0)])) X5 hx rfl rfl rfl (pc0 := 32) (pc' := 35) (same := false) rfl (hb hby d6_32) rfl (decide_eq_false fun q => n_w0_w2 (Value.ref.inj q)) (by decide) (by decide) k) ?_
  show own_GoW p e below s _ _ _ (T5.setTop (mkF m 35 #[.val (.ref w0), .val (.ref w0), .unset] []))
  refine own_viaW (fun _ k => XS.aloadN X5.here hx rfl (hb hby d6_35) rfl rfl k) ?_
  show own_GoW p e below s _ _ _ (T5.setTop (mkF m 36 #[.val (.ref w0), .val (.ref w0), .unset] [(.ref w0)]))
  obtain ⟨T6, X6, e6, st6⟩ := getS2 X5 hx hZ hown (host := "") (Or.inl (hw _ (List.mem_of_getElem? (i := 47) rfl))) Via.refl e5 (S_w2.ext OL.2) (g := (mkF m 36 #[.val (.ref w0), .val (.ref w0), .unset] [(.ref w0)])) rfl (hb hby d6_36)
  refine own_viaW st6 ?_
  show own_GoW p e below s _ _ _ (T6.setTop (mkF m 39 #[.val (.ref w0), .val (.ref w0), .unset] [(.ref w2), (.ref w0)]))
  refine own_viaW (fun _ k => Jvm.RoadKit.acmp (g := (mkF m 39 #[.val (.ref w0), .val (.ref w0), .unset] [(.ref w2), (.ref w0)])) X6 hx rfl rfl rfl (pc0 := 39) (pc' := 49) (same := false) rfl (hb hby d6_39) rfl (decide_eq_false fun q => n_w0_w2 (Value.ref.inj q)) (by decide) (by decide) k) ?_
  show own_GoW p e below s _ _ _ (T6.setTop (mkF m 49 #[.val (.ref w0), .val (.ref w0), .unset] []))
  obtain ⟨T7, X7, e7, st7⟩ := getS2 X6 hx hZ hown (host := "") (Or.inl (hw _ (List.mem_of_getElem? (i := 4) rfl))) Via.refl e6 (S_w0.ext OL.2) (g := (mkF m 49 #[.val (.ref w0), .val (.ref w0), .unset] [])) rfl (hb hby d6_49)
  refine own_viaW st7 ?_
  show own_GoW p e below s _ _ _ (T7.setTop (mkF m 52 #[.val (.ref w0), .val (.ref w0), .unset] [(.ref w0)]))
  refine own_viaW (fun _ k => XS.astoreN X7.here hx rfl (hb hby d6_52) rfl rfl (l' := #[.val (.ref w0), .val (.ref w0), .val (.ref w0)]) rfl k) ?_
  show own_GoW p e below s _ _ _ (T7.setTop (mkF m 53 #[.val (.ref w0), .val (.ref w0), .val (.ref w0)] []))
  refine own_viaW (fun _ k => XS.aloadN X7.here hx rfl (hb hby d6_53) rfl rfl k) ?_
  show own_GoW p e below s _ _ _ (T7.setTop (mkF m 54 #[.val (.ref w0), .val (.ref w0), .val (.ref w0)] [(.ref w0)]))
  exact own_retRW X7 hS (by rw [e7]; exact hk) hx hlk Bd.returns rfl rfl (hb hby d6_54) (by rw [e7]; exact ⟨(Fr.app (Fr.nil n0) (Fr.nil n0)), OL, Z0, rfl⟩) (by decide) (by decide)
def Q5_1 (x1 : Addr) (w0 : Addr) (w1 : Addr) (w2 : Addr) (h0 : Heap) (v : Option Value) (h : Heap) (L : List Loc) : Prop := L = [] ∧ h = h0 ∧ ((v = some (.ref w1)))
set_option maxRecDepth 65536 in
set_option maxHeartbeats 40000000 in
theorem rm5_1 (l : Launch) (Z : State) (a0 : Array Value) (hw : ∀ d ∈ tables_1, d.before a0 Z = true) (ws : List Jvm.Cond) (x1 : Addr) (w0 : Addr) (w1 : Addr) (w2 : Addr) (h0 : Heap) (n0 : Nat) (Z0 : n0 ≤ h0.size) (K : own_K Z Z.heap w0 w1 w2) (OL : Old Z n0 h0) :
    MetFree l (⟨"java/util/Objects", "requireNonNull", "(Ljava/lang/Object;Ljava/lang/String;)Ljava/lang/Object;"⟩ : MethodName) (head1 (Jvm.Cond.code (⟨"java/util/Objects", "requireNonNull", "(Ljava/lang/Object;Ljava/lang/String;)Ljava/lang/Object;"⟩ : MethodName) jdk_31_method_11_code 2 (some (.object "java/lang/Object")) :: ws) ({ frames := 0, cells := 0, slots := 0, locals := 0 } : Room)) (fun a U => a = #[(.ref w1), (.ref x1)] ∧ Z.Warmed39 U.vm ∧ U.heap = h0) (fun _ _ _ _ _ => True) (fun _ U o U' => ∃ v L, o = .returned v ∧ Q5_1 x1 w0 w1 w2 h0 v U'.heap L ∧ FrameEnd U o U' L ({ frames := 0, cells := 0, slots := 0, locals := 0 } : Room).cells ({ frames := 0, cells := 0, slots := 0, locals := 0 } : Room).slots) := by
  refine MetFree.of_bodySF (plainFor_of_name pn2) hisR ?_
  intro p e s m args below meth c s₁ Bd hml0 hP hK
  obtain ⟨rfl, hZ, hh⟩ := hP
  have hx := Bd.exec
  have hby := Bd.bytes
  have hml : c.maxLocals = 2 := hml0
  have hown : s.vm.findClass "java/util/Objects" = some m.cls := findClass_of_methodNamed Bd.named
  have hnm := (name_of_methodNamed Bd.named Bd.method).1
  have hlk := Bd.notSynchronized
  have X0 : Stand p l e ({ frames := 0, cells := 0, slots := 0, locals := 0 } : Room) s m #[(.ref w1), (.ref x1)] below meth c s₁ [] 0 0 := Stand.of_body Bd
  have e0 : s₁.heap = h0 := by rw [← hh, Bd.state]; rfl
  have K0 := K
  obtain ⟨S_w0, S_w1, S_w2, E_w0, E_w1, E_w2, F_w0_ordinal, F_w2_ordinal, F_w1_ordinal, n_w0_w1, n_w0_w2, n_w1_w2⟩ := K
  show own_Go p e below s (Q5_1 x1 w0 w1 w2 h0) 0 0 (s₁.setTop (entryFrame m #[(.ref w1), (.ref x1)] 2))
  rw [show entryFrame m #[(.ref w1), (.ref x1)] 2 = mkF m 0 #[.val (.ref w1), .val (.ref x1)] [] from by first | (simp [entryFrame, mkF, argsToLocals, Value.category]; done) | rfl]
  show own_Go p e below s _ _ _ (s₁.setTop (mkF m 0 #[.val (.ref w1), .val (.ref x1)] []))
  refine own_via (fun _ k => XS.aloadN X0.here hx rfl (hb hby d5_0) rfl rfl k) ?_
  show own_Go p e below s _ _ _ (s₁.setTop (mkF m 1 #[.val (.ref w1), .val (.ref x1)] [(.ref w1)]))
  refine own_via (fun _ k => XS.ifnonnullYes X0.here hx rfl (pc0 := 1) (pc' := 13) rfl (hb hby d5_1) rfl (by decide) (by decide) k) ?_
  show own_Go p e below s _ _ _ (s₁.setTop (mkF m 13 #[.val (.ref w1), .val (.ref x1)] []))
  refine own_via (fun _ k => XS.aloadN X0.here hx rfl (hb hby d5_13) rfl rfl k) ?_
  show own_Go p e below s _ _ _ (s₁.setTop (mkF m 14 #[.val (.ref w1), .val (.ref x1)] [(.ref w1)]))
  exact own_retR X0 hx hlk Bd.returns rfl rfl (hb hby d5_14) ⟨rfl, e0, rfl⟩ (by decide) (by decide)
def Q4_1 (Z : State) (w0 : Addr) (w1 : Addr) (w2 : Addr) (n0 : Nat) (v : Option Value) (h : Heap) (L : List Loc) : Prop := Fr n0 L ∧ Old Z n0 h ∧ n0 ≤ h.size ∧ ((v = some (.ref w0)))
set_option maxRecDepth 65536 in
set_option maxHeartbeats 40000000 in
theorem rm4_1 (l : Launch) (Z : State) (a0 : Array Value) (hw : ∀ d ∈ tables_1, d.before a0 Z = true) (ws : List Jvm.Cond) (w0 : Addr) (w1 : Addr) (w2 : Addr) (h0 : Heap) (n0 : Nat) (Z0 : n0 ≤ h0.size) (K : own_K Z Z.heap w0 w1 w2) (OL : Old Z n0 h0) :
    MetFree l (⟨"com/example/bericht/bericht/selector/Truth", "and", "(Lcom/example/bericht/bericht/selector/Truth;)Lcom/example/bericht/bericht/selector/Truth;"⟩ : MethodName) (head1 (Jvm.Cond.code (⟨"com/example/bericht/bericht/selector/Truth", "and", "(Lcom/example/bericht/bericht/selector/Truth;)Lcom/example/bericht/bericht/selector/Truth;"⟩ : MethodName) prog_93_method_6_code 3 (some (.object "com/example/bericht/bericht/selector/Truth")) :: ws) ({ frames := 1, cells := 2, slots := 24, locals := 13 } : Room)) (fun a U => a = #[(.ref w0), (.ref w1)] ∧ Z.Warmed39 U.vm ∧ U.heap = h0) (fun _ _ _ _ _ => True) (fun _ U o U' => ∃ v L, o = .returned v ∧ Q4_1 Z w0 w1 w2 n0 v U'.heap L ∧ ReturnedEndW U o U' L ({ frames := 1, cells := 2, slots := 24, locals := 13 } : Room).cells ({ frames := 1, cells := 2, slots := 24, locals := 13 } : Room).slots) := by
  refine MetFree.of_bodySF (plainFor_of_name pn0) hisR ?_
  intro p e s m args below meth c s₁ Bd hml0 hP hK
  obtain ⟨rfl, hZ, hh⟩ := hP
  have hx := Bd.exec
  have hby := Bd.bytes
  have hml : c.maxLocals = 3 := hml0
  have hown : s.vm.findClass "com/example/bericht/bericht/selector/Truth" = some m.cls := findClass_of_methodNamed Bd.named
  have hnm := (name_of_methodNamed Bd.named Bd.method).1
  have hlk := Bd.notSynchronized
  have X0 : Stand p l e ({ frames := 1, cells := 2, slots := 24, locals := 13 } : Room) s m #[(.ref w0), (.ref w1)] below meth c s₁ [] 0 0 := Stand.of_body Bd
  have X0 : Stand p l e ({ frames := 1, cells := 2, slots := 24, locals := 13 } : Room) (s.setVm s.vm) m #[(.ref w0), (.ref w1)] below meth c s₁ [] 0 0 := X0
  have hZ : Z.Warmed39 (s.setVm s.vm).vm := hZ
  have hown : (s.setVm s.vm).vm.findClass "com/example/bericht/bericht/selector/Truth" = some m.cls := hown
  have hS : s.Since s.vm 0 := (State.WarmedH.refl s).since 0
  have hk : 0 ≤ h0.size := Nat.zero_le _
  have e0 : s₁.heap = h0 := by rw [← hh, Bd.state]; rfl
  have K0 := K
  obtain ⟨S_w0, S_w1, S_w2, E_w0, E_w1, E_w2, F_w0_ordinal, F_w2_ordinal, F_w1_ordinal, n_w0_w1, n_w0_w2, n_w1_w2⟩ := K
  show own_GoW p e below s (Q4_1 Z w0 w1 w2 n0) 2 24 (s₁.setTop (entryFrame m #[(.ref w0), (.ref w1)] 3))
  rw [show entryFrame m #[(.ref w0), (.ref w1)] 3 = mkF m 0 #[.val (.ref w0), .val (.ref w1), .unset] [] from by first | (simp [entryFrame, mkF, argsToLocals, Value.category]; done) | rfl]
  show own_GoW p e below s _ _ _ (s₁.setTop (mkF m 0 #[.val (.ref w0), .val (.ref w1), .unset] []))
  refine own_viaW (fun _ k => XS.aloadN X0.here hx rfl (hb hby d4_0) rfl rfl k) ?_
  show own_GoW p e below s _ _ _ (s₁.setTop (mkF m 1 #[.val (.ref w0), .val (.ref w1), .unset] [(.ref w1)]))
  obtain ⟨a1, T1, h1, k1, X1, e1, E1, hS1, hk1, hZ1, hown1, st1⟩ := ldcS X0 hx hZ hown (hw _ (List.mem_of_getElem? (i := 30) rfl)) (own_wS hw) e0 hS hk (g := (mkF m 1 #[.val (.ref w0), .val (.ref w1), .unset] [(.ref w1)])) rfl (hb hby d4_1) (n := 20) (by decide) (by decide) (by decide) (by decide)
  have hZ := hZ1
  have hown := hown1
  have hS := hS1
  have hk := hk1
  have Z0 := Nat.le_trans Z0 E1.1
  have OL := OL.ext E1
  refine own_viaW st1 ?_
  show own_GoW p e below s _ _ _ (T1.setTop (mkF m 3 #[.val (.ref w0), .val (.ref w1), .unset] [(.ref a1), (.ref w1)]))
  obtain ⟨_, _, ⟨T2, L2, k2, n2⟩, -, X2, ⟨Lc2, hQ2, l2, y2, z2⟩, st2⟩ := Jvm.LawKit.callS X1 hx (y := (⟨"java/util/Objects", "requireNonNull", "(Ljava/lang/Object;Ljava/lang/String;)Ljava/lang/Object;"⟩ : MethodName)) hown (mvT hZ (hw _ (List.mem_of_getElem? (i := 38) rfl))) (mvT hZ (hw _ (List.mem_of_getElem? (i := 39) rfl))) (mvT hZ (hw _ (List.mem_of_getElem? (i := 40) rfl))) (mvT hZ (hw _ (List.mem_of_getElem? (i := 41) rfl))) (by decide) (backOf (W := 0) (rm5_1 l Z a0 hw [] a1 w0 w1 w2 h1 n0 Z0 K0 OL) hZ (hw _ (List.mem_of_getElem? (i := 41) rfl)) (hw _ (List.mem_of_getElem? (i := 40) rfl)) (by decide) (by decide)) (g := (mkF m 3 #[.val (.ref w0), .val (.ref w1), .unset] [(.ref a1), (.ref w1)])) rfl (by rw [hml]; rfl) (argsL := [(.ref w1), (.ref a1)]) (rest := []) (lenOf pd3 rfl) rfl (by show 2 * 0 + _ ≤ _; exact Nat.le_of_eq rfl) (hb hby d4_3) (fun _ _ => ⟨rfl, e1, (by decide : 0 + 2 + 0 ≤ _), (by decide : 0 + 24 + 0 ≤ _)⟩)
  dsimp only [Pt.U, Pt.locs, Pt.cells, Pt.slots] at X2 l2 y2 z2 st2 hQ2
  subst l2 y2 z2
  obtain ⟨rfl, e2, hO2⟩ := hQ2
  obtain rfl := hO2
  refine own_viaW st2 ?_
  show own_GoW p e below s _ _ _ (T2.setTop (mkF m 6 #[.val (.ref w0), .val (.ref w1), .unset] [(.ref w1)]))
  refine own_viaW (fun _ k => XS.pop X2.here hx rfl (hb hby d4_6) rfl rfl k) ?_
  show own_GoW p e below s _ _ _ (T2.setTop (mkF m 7 #[.val (.ref w0), .val (.ref w1), .unset] []))
  refine own_viaW (fun _ k => XS.aloadN X2.here hx rfl (hb hby d4_7) rfl rfl k) ?_
  show own_GoW p e below s _ _ _ (T2.setTop (mkF m 8 #[.val (.ref w0), .val (.ref w1), .unset] [(.ref w0)]))
  obtain ⟨T3, X3, e3, st3⟩ := getS2 X2 hx hZ hown (host := "") (Or.inl (hw _ (List.mem_of_getElem? (i := 4) rfl))) Via.refl e2 (S_w0.ext OL.2) (g := (mkF m 8 #[.val (.ref w0), .val (.ref w1), .unset] [(.ref w0)])) rfl (hb hby d4_8)
  refine own_viaW st3 ?_
  show own_GoW p e below s _ _ _ (T3.setTop (mkF m 11 #[.val (.ref w0), .val (.ref w1), .unset] [(.ref w0), (.ref w0)]))
  refine own_viaW (fun _ k => Jvm.RoadKit.acmp (g := (mkF m 11 #[.val (.ref w0), .val (.ref w1), .unset] [(.ref w0), (.ref w0)])) X3 hx rfl rfl rfl (pc0 := 11) (pc' := 21) (same := true) rfl (hb hby d4_11) rfl (decide_eq_true rfl) (by decide) (by decide) k) ?_
  show own_GoW p e below s _ _ _ (T3.setTop (mkF m 21 #[.val (.ref w0), .val (.ref w1), .unset] []))
  obtain ⟨T4, X4, e4, st4⟩ := getS2 X3 hx hZ hown (host := "") (Or.inl (hw _ (List.mem_of_getElem? (i := 4) rfl))) Via.refl e3 (S_w0.ext OL.2) (g := (mkF m 21 #[.val (.ref w0), .val (.ref w1), .unset] [])) rfl (hb hby d4_21)
  refine own_viaW st4 ?_
  show own_GoW p e below s _ _ _ (T4.setTop (mkF m 24 #[.val (.ref w0), .val (.ref w1), .unset] [(.ref w0)]))
  refine own_viaW (fun _ k => XS.astoreN X4.here hx rfl (hb hby d4_24) rfl rfl (l' := #[.val (.ref w0), .val (.ref w1), .val (.ref w0)]) rfl k) ?_
  show own_GoW p e below s _ _ _ (T4.setTop (mkF m 25 #[.val (.ref w0), .val (.ref w1), .val (.ref w0)] []))
  refine own_viaW (fun _ k => XS.goto X4.here hx rfl (pc0 := 25) (pc' := 53) rfl (hb hby d4_25) (by decide) (by decide) k) ?_
  show own_GoW p e below s _ _ _ (T4.setTop (mkF m 53 #[.val (.ref w0), .val (.ref w1), .val (.ref w0)] []))
  refine own_viaW (fun _ k => XS.aloadN X4.here hx rfl (hb hby d4_53) rfl rfl k) ?_
  show own_GoW p e below s _ _ _ (T4.setTop (mkF m 54 #[.val (.ref w0), .val (.ref w1), .val (.ref w0)] [(.ref w0)]))
  exact own_retRW X4 hS (by rw [e4]; exact hk) hx hlk Bd.returns rfl rfl (hb hby d4_54) (by rw [e4]; exact ⟨(Fr.app (Fr.nil n0) (Fr.nil n0)), OL, Z0, rfl⟩) (by decide) (by decide)
def Q6_1 (Z : State) (w0 : Addr) (w1 : Addr) (w2 : Addr) (n0 : Nat) (v : Option Value) (h : Heap) (L : List Loc) : Prop := Fr n0 L ∧ Old Z n0 h ∧ n0 ≤ h.size ∧ ((v = some (.ref w1)))
set_option maxRecDepth 65536 in
set_option maxHeartbeats 40000000 in
theorem rm6_1 (l : Launch) (Z : State) (a0 : Array Value) (hw : ∀ d ∈ tables_1, d.before a0 Z = true) (ws : List Jvm.Cond) (w0 : Addr) (w1 : Addr) (w2 : Addr) (h0 : Heap) (n0 : Nat) (Z0 : n0 ≤ h0.size) (K : own_K Z Z.heap w0 w1 w2) (OL : Old Z n0 h0) :
    MetFree l (⟨"com/example/bericht/bericht/selector/Truth", "or", "(Lcom/example/bericht/bericht/selector/Truth;)Lcom/example/bericht/bericht/selector/Truth;"⟩ : MethodName) (head1 (Jvm.Cond.code (⟨"com/example/bericht/bericht/selector/Truth", "or", "(Lcom/example/bericht/bericht/selector/Truth;)Lcom/example/bericht/bericht/selector/Truth;"⟩ : MethodName) prog_93_method_7_code 3 (some (.object "com/example/bericht/bericht/selector/Truth")) :: ws) ({ frames := 1, cells := 2, slots := 24, locals := 13 } : Room)) (fun a U => a = #[(.ref w0), (.ref w1)] ∧ Z.Warmed39 U.vm ∧ U.heap = h0) (fun _ _ _ _ _ => True) (fun _ U o U' => ∃ v L, o = .returned v ∧ Q6_1 Z w0 w1 w2 n0 v U'.heap L ∧ ReturnedEndW U o U' L ({ frames := 1, cells := 2, slots := 24, locals := 13 } : Room).cells ({ frames := 1, cells := 2, slots := 24, locals := 13 } : Room).slots) := by
  refine MetFree.of_bodySF (plainFor_of_name pn0) hisR ?_
  intro p e s m args below meth c s₁ Bd hml0 hP hK
  obtain ⟨rfl, hZ, hh⟩ := hP
  have hx := Bd.exec
  have hby := Bd.bytes
  have hml : c.maxLocals = 3 := hml0
  have hown : s.vm.findClass "com/example/bericht/bericht/selector/Truth" = some m.cls := findClass_of_methodNamed Bd.named
  have hnm := (name_of_methodNamed Bd.named Bd.method).1
  have hlk := Bd.notSynchronized
  have X0 : Stand p l e ({ frames := 1, cells := 2, slots := 24, locals := 13 } : Room) s m #[(.ref w0), (.ref w1)] below meth c s₁ [] 0 0 := Stand.of_body Bd
  have X0 : Stand p l e ({ frames := 1, cells := 2, slots := 24, locals := 13 } : Room) (s.setVm s.vm) m #[(.ref w0), (.ref w1)] below meth c s₁ [] 0 0 := X0
  have hZ : Z.Warmed39 (s.setVm s.vm).vm := hZ
  have hown : (s.setVm s.vm).vm.findClass "com/example/bericht/bericht/selector/Truth" = some m.cls := hown
  have hS : s.Since s.vm 0 := (State.WarmedH.refl s).since 0
  have hk : 0 ≤ h0.size := Nat.zero_le _
  have e0 : s₁.heap = h0 := by rw [← hh, Bd.state]; rfl
  have K0 := K
  obtain ⟨S_w0, S_w1, S_w2, E_w0, E_w1, E_w2, F_w0_ordinal, F_w2_ordinal, F_w1_ordinal, n_w0_w1, n_w0_w2, n_w1_w2⟩ := K
  show own_GoW p e below s (Q6_1 Z w0 w1 w2 n0) 2 24 (s₁.setTop (entryFrame m #[(.ref w0), (.ref w1)] 3))
  rw [show entryFrame m #[(.ref w0), (.ref w1)] 3 = mkF m 0 #[.val (.ref w0), .val (.ref w1), .unset] [] from by first | (simp [entryFrame, mkF, argsToLocals, Value.category]; done) | rfl]
  show own_GoW p e below s _ _ _ (s₁.setTop (mkF m 0 #[.val (.ref w0), .val (.ref w1), .unset] []))
  refine own_viaW (fun _ k => XS.aloadN X0.here hx rfl (hb hby d6_0) rfl rfl k) ?_
  show own_GoW p e below s _ _ _ (s₁.setTop (mkF m 1 #[.val (.ref w0), .val (.ref w1), .unset] [(.ref w1)]))
  obtain ⟨a1, T1, h1, k1, X1, e1, E1, hS1, hk1, hZ1, hown1, st1⟩ := ldcS X0 hx hZ hown (hw _ (List.mem_of_getElem? (i := 30) rfl)) (own_wS hw) e0 hS hk (g := (mkF m 1 #[.val (.ref w0), .val (.ref w1), .unset] [(.ref w1)])) rfl (hb hby d6_1) (n := 20) (by decide) (by decide) (by decide) (by decide)
  have hZ := hZ1
  have hown := hown1
  have hS := hS1
  have hk := hk1
  have Z0 := Nat.le_trans Z0 E1.1
  have OL := OL.ext E1
  refine own_viaW st1 ?_
  show own_GoW p e below s _ _ _ (T1.setTop (mkF m 3 #[.val (.ref w0), .val (.ref w1), .unset] [(.ref a1), (.ref w1)]))
  obtain ⟨_, _, ⟨T2, L2, k2, n2⟩, -, X2, ⟨Lc2, hQ2, l2, y2, z2⟩, st2⟩ := Jvm.LawKit.callS X1 hx (y := (⟨"java/util/Objects", "requireNonNull", "(Ljava/lang/Object;Ljava/lang/String;)Ljava/lang/Object;"⟩ : MethodName)) hown (mvT hZ (hw _ (List.mem_of_getElem? (i := 38) rfl))) (mvT hZ (hw _ (List.mem_of_getElem? (i := 39) rfl))) (mvT hZ (hw _ (List.mem_of_getElem? (i := 40) rfl))) (mvT hZ (hw _ (List.mem_of_getElem? (i := 41) rfl))) (by decide) (backOf (W := 0) (rm5_1 l Z a0 hw [] a1 w0 w1 w2 h1 n0 Z0 K0 OL) hZ (hw _ (List.mem_of_getElem? (i := 41) rfl)) (hw _ (List.mem_of_getElem? (i := 40) rfl)) (by decide) (by decide)) (g := (mkF m 3 #[.val (.ref w0), .val (.ref w1), .unset] [(.ref a1), (.ref w1)])) rfl (by rw [hml]; rfl) (argsL := [(.ref w1), (.ref a1)]) (rest := []) (lenOf pd3 rfl) rfl (by show 2 * 0 + _ ≤ _; exact Nat.le_of_eq rfl) (hb hby d6_3) (fun _ _ => ⟨rfl, e1, (by decide : 0 + 2 + 0 ≤ _), (by decide : 0 + 24 + 0 ≤ _)⟩)
  dsimp only [Pt.U, Pt.locs, Pt.cells, Pt.slots] at X2 l2 y2 z2 st2 hQ2
  subst l2 y2 z2
  obtain ⟨rfl, e2, hO2⟩ := hQ2
  obtain rfl := hO2
  refine own_viaW st2 ?_
  show own_GoW p e below s _ _ _ (T2.setTop (mkF m 6 #[.val (.ref w0), .val (.ref w1), .unset] [(.ref w1)]))
  refine own_viaW (fun _ k => XS.pop X2.here hx rfl (hb hby d6_6) rfl rfl k) ?_
  show own_GoW p e below s _ _ _ (T2.setTop (mkF m 7 #[.val (.ref w0), .val (.ref w1), .unset] []))
  refine own_viaW (fun _ k => XS.aloadN X2.here hx rfl (hb hby d6_7) rfl rfl k) ?_
  show own_GoW p e below s _ _ _ (T2.setTop (mkF m 8 #[.val (.ref w0), .val (.ref w1), .unset] [(.ref w0)]))
  obtain ⟨T3, X3, e3, st3⟩ := getS2 X2 hx hZ hown (host := "") (Or.inl (hw _ (List.mem_of_getElem? (i := 6) rfl))) Via.refl e2 (S_w1.ext OL.2) (g := (mkF m 8 #[.val (.ref w0), .val (.ref w1), .unset] [(.ref w0)])) rfl (hb hby d6_8)
  refine own_viaW st3 ?_
  show own_GoW p e below s _ _ _ (T3.setTop (mkF m 11 #[.val (.ref w0), .val (.ref w1), .unset] [(.ref w1), (.ref w0)]))
  refine own_viaW (fun _ k => Jvm.RoadKit.acmp (g := (mkF m 11 #[.val (.ref w0), .val (.ref w1), .unset] [(.ref w1), (.ref w0)])) X3 hx rfl rfl rfl (pc0 := 11) (pc' := 14) (same := false) rfl (hb hby d6_11) rfl (decide_eq_false fun q => n_w0_w1 (Value.ref.inj q)) (by decide) (by decide) k) ?_
  show own_GoW p e below s _ _ _ (T3.setTop (mkF m 14 #[.val (.ref w0), .val (.ref w1), .unset] []))
  refine own_viaW (fun _ k => XS.aloadN X3.here hx rfl (hb hby d6_14) rfl rfl k) ?_
  show own_GoW p e below s _ _ _ (T3.setTop (mkF m 15 #[.val (.ref w0), .val (.ref w1), .unset] [(.ref w1)]))
  obtain ⟨T4, X4, e4, st4⟩ := getS2 X3 hx hZ hown (host := "") (Or.inl (hw _ (List.mem_of_getElem? (i := 6) rfl))) Via.refl e3 (S_w1.ext OL.2) (g := (mkF m 15 #[.val (.ref w0), .val (.ref w1), .unset] [(.ref w1)])) rfl (hb hby d6_15)
  refine own_viaW st4 ?_
  show own_GoW p e below s _ _ _ (T4.setTop (mkF m 18 #[.val (.ref w0), .val (.ref w1), .unset] [(.ref w1), (.ref w1)]))
  refine own_viaW (fun _ k => Jvm.RoadKit.acmp (g := (mkF m 18 #[.val (.ref w0), .val (.ref w1), .unset] [(.ref w1), (.ref w1)])) X4 hx rfl rfl rfl (pc0 := 18) (pc' := 21) (same := true) rfl (hb hby d6_18) rfl (decide_eq_true rfl) (by decide) (by decide) k) ?_
  show own_GoW p e below s _ _ _ (T4.setTop (mkF m 21 #[.val (.ref w0), .val (.ref w1), .unset] []))
  obtain ⟨T5, X5, e5, st5⟩ := getS2 X4 hx hZ hown (host := "") (Or.inl (hw _ (List.mem_of_getElem? (i := 6) rfl))) Via.refl e4 (S_w1.ext OL.2) (g := (mkF m 21 #[.val (.ref w0), .val (.ref w1), .unset] [])) rfl (hb hby d6_21)
  refine own_viaW st5 ?_
  show own_GoW p e below s _ _ _ (T5.setTop (mkF m 24 #[.val (.ref w0), .val (.ref w1), .unset] [(.ref w1)]))
  refine own_viaW (fun _ k => XS.astoreN X5.here hx rfl (hb hby d6_24) rfl rfl (l' := #[.val (.ref w0), .val (.ref w1), .val (.ref w1)]) rfl k) ?_
  show own_GoW p e below s _ _ _ (T5.setTop (mkF m 25 #[.val (.ref w0), .val (.ref w1), .val (.ref w1)] []))
  refine own_viaW (fun _ k => XS.goto X5.here hx rfl (pc0 := 25) (pc' := 53) rfl (hb hby d6_25) (by decide) (by decide) k) ?_
  show own_GoW p e below s _ _ _ (T5.setTop (mkF m 53 #[.val (.ref w0), .val (.ref w1), .val (.ref w1)] []))
  refine own_viaW (fun _ k => XS.aloadN X5.here hx rfl (hb hby d6_53) rfl rfl k) ?_
  show own_GoW p e below s _ _ _ (T5.setTop (mkF m 54 #[.val (.ref w0), .val (.ref w1), .val (.ref w1)] [(.ref w1)]))
  exact own_retRW X5 hS (by rw [e5]; exact hk) hx hlk Bd.returns rfl rfl (hb hby d6_54) (by rw [e5]; exact ⟨(Fr.app (Fr.nil n0) (Fr.nil n0)), OL, Z0, rfl⟩) (by decide) (by decide)
def Q3_1 (w0 : Addr) (w1 : Addr) (w2 : Addr) (h0 : Heap) (v : Option Value) (h : Heap) (L : List Loc) : Prop := L = [] ∧ h = h0 ∧ ((v = some (.int (0 : Int32))))
set_option maxRecDepth 65536 in
set_option maxHeartbeats 40000000 in
theorem rm3_1 (l : Launch) (Z : State) (a0 : Array Value) (hw : ∀ d ∈ tables_1, d.before a0 Z = true) (ws : List Jvm.Cond) (w0 : Addr) (w1 : Addr) (w2 : Addr) (h0 : Heap) (n0 : Nat) (Z0 : n0 ≤ h0.size) (K : own_K Z Z.heap w0 w1 w2) (OL : Old Z n0 h0) :
    MetFree l (⟨"java/lang/Enum", "ordinal", "()I"⟩ : MethodName) (head1 (Jvm.Cond.code (⟨"java/lang/Enum", "ordinal", "()I"⟩ : MethodName) jdk_37_method_2_code 1 (some .int) :: ws) ({ frames := 0, cells := 0, slots := 0, locals := 0 } : Room)) (fun a U => a = #[(.ref w1)] ∧ Z.Warmed39 U.vm ∧ U.heap = h0) (fun _ _ _ _ _ => True) (fun _ U o U' => ∃ v L, o = .returned v ∧ Q3_1 w0 w1 w2 h0 v U'.heap L ∧ FrameEnd U o U' L ({ frames := 0, cells := 0, slots := 0, locals := 0 } : Room).cells ({ frames := 0, cells := 0, slots := 0, locals := 0 } : Room).slots) := by
  refine MetFree.of_bodySF (plainFor_of_name pn1) hisR ?_
  intro p e s m args below meth c s₁ Bd hml0 hP hK
  obtain ⟨rfl, hZ, hh⟩ := hP
  have hx := Bd.exec
  have hby := Bd.bytes
  have hml : c.maxLocals = 1 := hml0
  have hown : s.vm.findClass "java/lang/Enum" = some m.cls := findClass_of_methodNamed Bd.named
  have hnm := (name_of_methodNamed Bd.named Bd.method).1
  have hlk := Bd.notSynchronized
  have X0 : Stand p l e ({ frames := 0, cells := 0, slots := 0, locals := 0 } : Room) s m #[(.ref w1)] below meth c s₁ [] 0 0 := Stand.of_body Bd
  have e0 : s₁.heap = h0 := by rw [← hh, Bd.state]; rfl
  have K0 := K
  obtain ⟨S_w0, S_w1, S_w2, E_w0, E_w1, E_w2, F_w0_ordinal, F_w2_ordinal, F_w1_ordinal, n_w0_w1, n_w0_w2, n_w1_w2⟩ := K
  show own_Go p e below s (Q3_1 w0 w1 w2 h0) 0 0 (s₁.setTop (entryFrame m #[(.ref w1)] 1))
  rw [show entryFrame m #[(.ref w1)] 1 = mkF m 0 #[.val (.ref w1)] [] from by first | (simp [entryFrame, mkF, argsToLocals, Value.category]; done) | rfl]
  show own_Go p e below s _ _ _ (s₁.setTop (mkF m 0 #[.val (.ref w1)] []))
  refine own_via (fun _ k => XS.aloadN X0.here hx rfl (hb hby d3_0) rfl rfl k) ?_
  show own_Go p e below s _ _ _ (s₁.setTop (mkF m 1 #[.val (.ref w1)] [(.ref w1)]))
  obtain ⟨T1, X1, e1, st1⟩ := getF X0 hx hZ hown (host := "") (Or.inl (hw _ (List.mem_of_getElem? (i := 23) rfl))) Via.refl e0 (F_w1_ordinal.ext OL.2) (g := (mkF m 1 #[.val (.ref w1)] [(.ref w1)])) rfl rfl (hb hby d3_1)
  refine own_via st1 ?_
  show own_Go p e below s _ _ _ (T1.setTop (mkF m 4 #[.val (.ref w1)] [(.int (0 : Int32))]))
  exact own_retI X1 hx hlk Bd.returns (hb hby d3_4) ⟨rfl, e1, rfl⟩ (by decide) (by decide)
def Q2_1 (w0 : Addr) (w1 : Addr) (w2 : Addr) (h0 : Heap) (v : Option Value) (h : Heap) (L : List Loc) : Prop := L = [] ∧ h = h0 ∧ ((v = some (.ref w0)))
set_option maxRecDepth 65536 in
set_option maxHeartbeats 40000000 in
theorem rm2_1 (l : Launch) (Z : State) (a0 : Array Value) (hw : ∀ d ∈ tables_1, d.before a0 Z = true) (ws : List Jvm.Cond) (w0 : Addr) (w1 : Addr) (w2 : Addr) (h0 : Heap) (n0 : Nat) (Z0 : n0 ≤ h0.size) (K : own_K Z Z.heap w0 w1 w2) (OL : Old Z n0 h0) :
    MetFree l (⟨"com/example/bericht/bericht/selector/Truth", "not", "()Lcom/example/bericht/bericht/selector/Truth;"⟩ : MethodName) (head1 (Jvm.Cond.code (⟨"com/example/bericht/bericht/selector/Truth", "not", "()Lcom/example/bericht/bericht/selector/Truth;"⟩ : MethodName) prog_93_method_5_code 1 (some (.object "com/example/bericht/bericht/selector/Truth")) :: ws) ({ frames := 1, cells := 0, slots := 0, locals := 12 } : Room)) (fun a U => a = #[(.ref w1)] ∧ Z.Warmed39 U.vm ∧ U.heap = h0) (fun _ _ _ _ _ => True) (fun _ U o U' => ∃ v L, o = .returned v ∧ Q2_1 w0 w1 w2 h0 v U'.heap L ∧ FrameEnd U o U' L ({ frames := 1, cells := 0, slots := 0, locals := 12 } : Room).cells ({ frames := 1, cells := 0, slots := 0, locals := 12 } : Room).slots) := by
  refine MetFree.of_bodySF (plainFor_of_name pn0) hisR ?_
  intro p e s m args below meth c s₁ Bd hml0 hP hK
  obtain ⟨rfl, hZ, hh⟩ := hP
  have hx := Bd.exec
  have hby := Bd.bytes
  have hml : c.maxLocals = 1 := hml0
  have hown : s.vm.findClass "com/example/bericht/bericht/selector/Truth" = some m.cls := findClass_of_methodNamed Bd.named
  have hnm := (name_of_methodNamed Bd.named Bd.method).1
  have hlk := Bd.notSynchronized
  have X0 : Stand p l e ({ frames := 1, cells := 0, slots := 0, locals := 12 } : Room) s m #[(.ref w1)] below meth c s₁ [] 0 0 := Stand.of_body Bd
  have e0 : s₁.heap = h0 := by rw [← hh, Bd.state]; rfl
  have K0 := K
  obtain ⟨S_w0, S_w1, S_w2, E_w0, E_w1, E_w2, F_w0_ordinal, F_w2_ordinal, F_w1_ordinal, n_w0_w1, n_w0_w2, n_w1_w2⟩ := K
  show own_Go p e below s (Q2_1 w0 w1 w2 h0) 0 0 (s₁.setTop (entryFrame m #[(.ref w1)] 1))
  rw [show entryFrame m #[(.ref w1)] 1 = mkF m 0 #[.val (.ref w1)] [] from by first | (simp [entryFrame, mkF, argsToLocals, Value.category]; done) | rfl]
  show own_Go p e below s _ _ _ (s₁.setTop (mkF m 0 #[.val (.ref w1)] []))
  refine own_via (fun _ k => XS.aloadN X0.here hx rfl (hb hby d2_0) rfl rfl k) ?_
  show own_Go p e below s _ _ _ (s₁.setTop (mkF m 1 #[.val (.ref w1)] [(.ref w1)]))
  obtain ⟨cq1, kq1, q1a, q1b, q1c⟩ := isOf hZ e0 (E_w1.ext OL.2)
  obtain ⟨_, _, ⟨T1, L1, k1, n1⟩, -, X1, ⟨Lc1, hQ1, l1, y1, z1⟩, st1⟩ := X0.virtualBackUp hx (x := (⟨"com/example/bericht/bericht/selector/Truth", "ordinal", "()I"⟩ : MethodName)) (y := (⟨"java/lang/Enum", "ordinal", "()I"⟩ : MethodName)) (owner := "java/lang/Enum") hown (mvT hZ (hw _ (List.mem_of_getElem? (i := 16) rfl))) (mvT hZ (hw _ (List.mem_of_getElem? (i := 17) rfl))) (mvT hZ (hw _ (List.mem_of_getElem? (i := 18) rfl))) (by decide) (mvT hZ (hw _ (List.mem_of_getElem? (i := 20) rfl))) (mvT hZ (hw _ (List.mem_of_getElem? (i := 19) rfl))) (backOf (W := 0) (rm3_1 l Z a0 hw [] w0 w1 w2 h0 n0 Z0 K0 OL) hZ (hw _ (List.mem_of_getElem? (i := 22) rfl)) (hw _ (List.mem_of_getElem? (i := 21) rfl)) (by decide) (by decide)) q1a q1c (g := (mkF m 1 #[.val (.ref w1)] [(.ref w1)])) rfl (by rw [hml]; rfl) (Steps.refl _) (argsL := []) (rest := []) (lenOf pd1 rfl) rfl (by show 2 * 0 + _ ≤ _; exact Nat.le_of_eq rfl) (hb hby d2_1) (fun _ _ => ⟨rfl, e0, (by decide : 0 + 0 ≤ _), (by decide : 0 + 0 ≤ _)⟩)
  dsimp only [Pt.U, Pt.locs, Pt.cells, Pt.slots] at X1 l1 y1 z1 st1 hQ1
  subst l1 y1 z1
  obtain ⟨rfl, e1, hO1⟩ := hQ1
  obtain rfl := hO1
  refine own_tr st1 ?_
  show own_Go p e below s _ _ _ (T1.setTop (mkF m 4 #[.val (.ref w1)] [(.int (0 : Int32))]))
  refine own_via (fun _ k => XS.tswIn X1.here hx rfl (o := 38) (pc0 := 4) (pc' := 42) rfl (hb hby d2_4) rfl (by decide) (by decide) (by decide) (by decide) k) ?_
  show own_Go p e below s _ _ _ (T1.setTop (mkF m 42 #[.val (.ref w1)] []))
  obtain ⟨T2, X2, e2, st2⟩ := getS2 X1 hx hZ hown (host := "") (Or.inl (hw _ (List.mem_of_getElem? (i := 4) rfl))) Via.refl e1 (S_w0.ext OL.2) (g := (mkF m 42 #[.val (.ref w1)] [])) rfl (hb hby d2_42)
  refine own_via st2 ?_
  show own_Go p e below s _ _ _ (T2.setTop (mkF m 45 #[.val (.ref w1)] [(.ref w0)]))
  refine own_via (fun _ k => XS.goto X2.here hx rfl (pc0 := 45) (pc' := 57) rfl (hb hby d2_45) (by decide) (by decide) k) ?_
  show own_Go p e below s _ _ _ (T2.setTop (mkF m 57 #[.val (.ref w1)] [(.ref w0)]))
  exact own_retR X2 hx hlk Bd.returns rfl rfl (hb hby d2_57) ⟨rfl, e2, rfl⟩ (by decide) (by decide)
def Q4_2 (Z : State) (w0 : Addr) (w1 : Addr) (w2 : Addr) (n0 : Nat) (v : Option Value) (h : Heap) (L : List Loc) : Prop := Fr n0 L ∧ Old Z n0 h ∧ n0 ≤ h.size ∧ ((v = some (.ref w0)))
set_option maxRecDepth 65536 in
set_option maxHeartbeats 40000000 in
theorem rm4_2 (l : Launch) (Z : State) (a0 : Array Value) (hw : ∀ d ∈ tables_1, d.before a0 Z = true) (ws : List Jvm.Cond) (w0 : Addr) (w1 : Addr) (w2 : Addr) (h0 : Heap) (n0 : Nat) (Z0 : n0 ≤ h0.size) (K : own_K Z Z.heap w0 w1 w2) (OL : Old Z n0 h0) :
    MetFree l (⟨"com/example/bericht/bericht/selector/Truth", "and", "(Lcom/example/bericht/bericht/selector/Truth;)Lcom/example/bericht/bericht/selector/Truth;"⟩ : MethodName) (head1 (Jvm.Cond.code (⟨"com/example/bericht/bericht/selector/Truth", "and", "(Lcom/example/bericht/bericht/selector/Truth;)Lcom/example/bericht/bericht/selector/Truth;"⟩ : MethodName) prog_93_method_6_code 3 (some (.object "com/example/bericht/bericht/selector/Truth")) :: ws) ({ frames := 1, cells := 2, slots := 24, locals := 13 } : Room)) (fun a U => a = #[(.ref w1), (.ref w0)] ∧ Z.Warmed39 U.vm ∧ U.heap = h0) (fun _ _ _ _ _ => True) (fun _ U o U' => ∃ v L, o = .returned v ∧ Q4_2 Z w0 w1 w2 n0 v U'.heap L ∧ ReturnedEndW U o U' L ({ frames := 1, cells := 2, slots := 24, locals := 13 } : Room).cells ({ frames := 1, cells := 2, slots := 24, locals := 13 } : Room).slots) := by
  refine MetFree.of_bodySF (plainFor_of_name pn0) hisR ?_
  intro p e s m args below meth c s₁ Bd hml0 hP hK
  obtain ⟨rfl, hZ, hh⟩ := hP
  have hx := Bd.exec
  have hby := Bd.bytes
  have hml : c.maxLocals = 3 := hml0
  have hown : s.vm.findClass "com/example/bericht/bericht/selector/Truth" = some m.cls := findClass_of_methodNamed Bd.named
  have hnm := (name_of_methodNamed Bd.named Bd.method).1
  have hlk := Bd.notSynchronized
  have X0 : Stand p l e ({ frames := 1, cells := 2, slots := 24, locals := 13 } : Room) s m #[(.ref w1), (.ref w0)] below meth c s₁ [] 0 0 := Stand.of_body Bd
  have X0 : Stand p l e ({ frames := 1, cells := 2, slots := 24, locals := 13 } : Room) (s.setVm s.vm) m #[(.ref w1), (.ref w0)] below meth c s₁ [] 0 0 := X0
  have hZ : Z.Warmed39 (s.setVm s.vm).vm := hZ
  have hown : (s.setVm s.vm).vm.findClass "com/example/bericht/bericht/selector/Truth" = some m.cls := hown
  have hS : s.Since s.vm 0 := (State.WarmedH.refl s).since 0
  have hk : 0 ≤ h0.size := Nat.zero_le _
  have e0 : s₁.heap = h0 := by rw [← hh, Bd.state]; rfl
  have K0 := K
  obtain ⟨S_w0, S_w1, S_w2, E_w0, E_w1, E_w2, F_w0_ordinal, F_w2_ordinal, F_w1_ordinal, n_w0_w1, n_w0_w2, n_w1_w2⟩ := K
  show own_GoW p e below s (Q4_2 Z w0 w1 w2 n0) 2 24 (s₁.setTop (entryFrame m #[(.ref w1), (.ref w0)] 3))
  rw [show entryFrame m #[(.ref w1), (.ref w0)] 3 = mkF m 0 #[.val (.ref w1), .val (.ref w0), .unset] [] from by first | (simp [entryFrame, mkF, argsToLocals, Value.category]; done) | rfl]
  show own_GoW p e below s _ _ _ (s₁.setTop (mkF m 0 #[.val (.ref w1), .val (.ref w0), .unset] []))
  refine own_viaW (fun _ k => XS.aloadN X0.here hx rfl (hb hby d4_0) rfl rfl k) ?_
  show own_GoW p e below s _ _ _ (s₁.setTop (mkF m 1 #[.val (.ref w1), .val (.ref w0), .unset] [(.ref w0)]))
  obtain ⟨a1, T1, h1, k1, X1, e1, E1, hS1, hk1, hZ1, hown1, st1⟩ := ldcS X0 hx hZ hown (hw _ (List.mem_of_getElem? (i := 30) rfl)) (own_wS hw) e0 hS hk (g := (mkF m 1 #[.val (.ref w1), .val (.ref w0), .unset] [(.ref w0)])) rfl (hb hby d4_1) (n := 20) (by decide) (by decide) (by decide) (by decide)
  have hZ := hZ1
  have hown := hown1
  have hS := hS1
  have hk := hk1
  have Z0 := Nat.le_trans Z0 E1.1
  have OL := OL.ext E1
  refine own_viaW st1 ?_
  show own_GoW p e below s _ _ _ (T1.setTop (mkF m 3 #[.val (.ref w1), .val (.ref w0), .unset] [(.ref a1), (.ref w0)]))
  obtain ⟨_, _, ⟨T2, L2, k2, n2⟩, -, X2, ⟨Lc2, hQ2, l2, y2, z2⟩, st2⟩ := Jvm.LawKit.callS X1 hx (y := (⟨"java/util/Objects", "requireNonNull", "(Ljava/lang/Object;Ljava/lang/String;)Ljava/lang/Object;"⟩ : MethodName)) hown (mvT hZ (hw _ (List.mem_of_getElem? (i := 38) rfl))) (mvT hZ (hw _ (List.mem_of_getElem? (i := 39) rfl))) (mvT hZ (hw _ (List.mem_of_getElem? (i := 40) rfl))) (mvT hZ (hw _ (List.mem_of_getElem? (i := 41) rfl))) (by decide) (backOf (W := 0) (rm5_0 l Z a0 hw [] a1 w0 w1 w2 h1 n0 Z0 K0 OL) hZ (hw _ (List.mem_of_getElem? (i := 41) rfl)) (hw _ (List.mem_of_getElem? (i := 40) rfl)) (by decide) (by decide)) (g := (mkF m 3 #[.val (.ref w1), .val (.ref w0), .unset] [(.ref a1), (.ref w0)])) rfl (by rw [hml]; rfl) (argsL := [(.ref w0), (.ref a1)]) (rest := []) (lenOf pd3 rfl) rfl (by show 2 * 0 + _ ≤ _; exact Nat.le_of_eq rfl) (hb hby d4_3) (fun _ _ => ⟨rfl, e1, (by decide : 0 + 2 + 0 ≤ _), (by decide : 0 + 24 + 0 ≤ _)⟩)
  dsimp only [Pt.U, Pt.locs, Pt.cells, Pt.slots] at X2 l2 y2 z2 st2 hQ2
  subst l2 y2 z2
  obtain ⟨rfl, e2, hO2⟩ := hQ2
  obtain rfl := hO2
  refine own_viaW st2 ?_
  show own_GoW p e below s _ _ _ (T2.setTop (mkF m 6 #[.val (.ref w1), .val (.ref w0), .unset] [(.ref w0)]))
  refine own_viaW (fun _ k => XS.pop X2.here hx rfl (hb hby d4_6) rfl rfl k) ?_
  show own_GoW p e below s _ _ _ (T2.setTop (mkF m 7 #[.val (.ref w1), .val (.ref w0), .unset] []))
  refine own_viaW (fun _ k => XS.aloadN X2.here hx rfl (hb hby d4_7) rfl rfl k) ?_
  show own_GoW p e below s _ _ _ (T2.setTop (mkF m 8 #[.val (.ref w1), .val (.ref w0), .unset] [(.ref w1)]))
  obtain ⟨T3, X3, e3, st3⟩ := getS2 X2 hx hZ hown (host := "") (Or.inl (hw _ (List.mem_of_getElem? (i := 4) rfl))) Via.refl e2 (S_w0.ext OL.2) (g := (mkF m 8 #[.val (.ref w1), .val (.ref w0), .unset] [(.ref w1)])) rfl (hb hby d4_8)
  refine own_viaW st3 ?_
  show own_GoW p e below s _ _ _ (T3.setTop (mkF m 11 #[.val (.ref w1), .val (.ref w0), .unset] [(.ref w0), (.ref w1)]))
  refine own_viaW (fun _ k => Jvm.RoadKit.acmp (g := (mkF m 11 #[.val (.ref w1), .val (.ref w0), .unset] [(.ref w0), (.ref w1)])) X3 hx rfl rfl rfl (pc0 := 11) (pc' := 14) (same := false) rfl (hb hby d4_11) rfl (decide_eq_false fun q => (fun q => n_w0_w1 q.symm) (Value.ref.inj q)) (by decide) (by decide) k) ?_
  show own_GoW p e below s _ _ _ (T3.setTop (mkF m 14 #[.val (.ref w1), .val (.ref w0), .unset] []))
  refine own_viaW (fun _ k => XS.aloadN X3.here hx rfl (hb hby d4_14) rfl rfl k) ?_
  show own_GoW p e below s _ _ _ (T3.setTop (mkF m 15 #[.val (.ref w1), .val (.ref w0), .unset] [(.ref w0)]))
  obtain ⟨T4, X4, e4, st4⟩ := getS2 X3 hx hZ hown (host := "") (Or.inl (hw _ (List.mem_of_getElem? (i := 4) rfl))) Via.refl e3 (S_w0.ext OL.2) (g := (mkF m 15 #[.val (.ref w1), .val (.ref w0), .unset] [(.ref w0)])) rfl (hb hby d4_15)
  refine own_viaW st4 ?_
  show own_GoW p e below s _ _ _ (T4.setTop (mkF m 18 #[.val (.ref w1), .val (.ref w0), .unset] [(.ref w0), (.ref w0)]))
  refine own_viaW (fun _ k => Jvm.RoadKit.acmp (g := (mkF m 18 #[.val (.ref w1), .val (.ref w0), .unset] [(.ref w0), (.ref w0)])) X4 hx rfl rfl rfl (pc0 := 18) (pc' := 21) (same := true) rfl (hb hby d4_18) rfl (decide_eq_true rfl) (by decide) (by decide) k) ?_
  show own_GoW p e below s _ _ _ (T4.setTop (mkF m 21 #[.val (.ref w1), .val (.ref w0), .unset] []))
  obtain ⟨T5, X5, e5, st5⟩ := getS2 X4 hx hZ hown (host := "") (Or.inl (hw _ (List.mem_of_getElem? (i := 4) rfl))) Via.refl e4 (S_w0.ext OL.2) (g := (mkF m 21 #[.val (.ref w1), .val (.ref w0), .unset] [])) rfl (hb hby d4_21)
  refine own_viaW st5 ?_
  show own_GoW p e below s _ _ _ (T5.setTop (mkF m 24 #[.val (.ref w1), .val (.ref w0), .unset] [(.ref w0)]))
  refine own_viaW (fun _ k => XS.astoreN X5.here hx rfl (hb hby d4_24) rfl rfl (l' := #[.val (.ref w1), .val (.ref w0), .val (.ref w0)]) rfl k) ?_
  show own_GoW p e below s _ _ _ (T5.setTop (mkF m 25 #[.val (.ref w1), .val (.ref w0), .val (.ref w0)] []))
  refine own_viaW (fun _ k => XS.goto X5.here hx rfl (pc0 := 25) (pc' := 53) rfl (hb hby d4_25) (by decide) (by decide) k) ?_
  show own_GoW p e below s _ _ _ (T5.setTop (mkF m 53 #[.val (.ref w1), .val (.ref w0), .val (.ref w0)] []))
  refine own_viaW (fun _ k => XS.aloadN X5.here hx rfl (hb hby d4_53) rfl rfl k) ?_
  show own_GoW p e below s _ _ _ (T5.setTop (mkF m 54 #[.val (.ref w1), .val (.ref w0), .val (.ref w0)] [(.ref w0)]))
  exact own_retRW X5 hS (by rw [e5]; exact hk) hx hlk Bd.returns rfl rfl (hb hby d4_54) (by rw [e5]; exact ⟨(Fr.app (Fr.nil n0) (Fr.nil n0)), OL, Z0, rfl⟩) (by decide) (by decide)
def Q6_2 (Z : State) (w0 : Addr) (w1 : Addr) (w2 : Addr) (n0 : Nat) (v : Option Value) (h : Heap) (L : List Loc) : Prop := Fr n0 L ∧ Old Z n0 h ∧ n0 ≤ h.size ∧ ((v = some (.ref w1)))
set_option maxRecDepth 65536 in
set_option maxHeartbeats 40000000 in
theorem rm6_2 (l : Launch) (Z : State) (a0 : Array Value) (hw : ∀ d ∈ tables_1, d.before a0 Z = true) (ws : List Jvm.Cond) (w0 : Addr) (w1 : Addr) (w2 : Addr) (h0 : Heap) (n0 : Nat) (Z0 : n0 ≤ h0.size) (K : own_K Z Z.heap w0 w1 w2) (OL : Old Z n0 h0) :
    MetFree l (⟨"com/example/bericht/bericht/selector/Truth", "or", "(Lcom/example/bericht/bericht/selector/Truth;)Lcom/example/bericht/bericht/selector/Truth;"⟩ : MethodName) (head1 (Jvm.Cond.code (⟨"com/example/bericht/bericht/selector/Truth", "or", "(Lcom/example/bericht/bericht/selector/Truth;)Lcom/example/bericht/bericht/selector/Truth;"⟩ : MethodName) prog_93_method_7_code 3 (some (.object "com/example/bericht/bericht/selector/Truth")) :: ws) ({ frames := 1, cells := 2, slots := 24, locals := 13 } : Room)) (fun a U => a = #[(.ref w1), (.ref w0)] ∧ Z.Warmed39 U.vm ∧ U.heap = h0) (fun _ _ _ _ _ => True) (fun _ U o U' => ∃ v L, o = .returned v ∧ Q6_2 Z w0 w1 w2 n0 v U'.heap L ∧ ReturnedEndW U o U' L ({ frames := 1, cells := 2, slots := 24, locals := 13 } : Room).cells ({ frames := 1, cells := 2, slots := 24, locals := 13 } : Room).slots) := by
  refine MetFree.of_bodySF (plainFor_of_name pn0) hisR ?_
  intro p e s m args below meth c s₁ Bd hml0 hP hK
  obtain ⟨rfl, hZ, hh⟩ := hP
  have hx := Bd.exec
  have hby := Bd.bytes
  have hml : c.maxLocals = 3 := hml0
  have hown : s.vm.findClass "com/example/bericht/bericht/selector/Truth" = some m.cls := findClass_of_methodNamed Bd.named
  have hnm := (name_of_methodNamed Bd.named Bd.method).1
  have hlk := Bd.notSynchronized
  have X0 : Stand p l e ({ frames := 1, cells := 2, slots := 24, locals := 13 } : Room) s m #[(.ref w1), (.ref w0)] below meth c s₁ [] 0 0 := Stand.of_body Bd
  have X0 : Stand p l e ({ frames := 1, cells := 2, slots := 24, locals := 13 } : Room) (s.setVm s.vm) m #[(.ref w1), (.ref w0)] below meth c s₁ [] 0 0 := X0
  have hZ : Z.Warmed39 (s.setVm s.vm).vm := hZ
  have hown : (s.setVm s.vm).vm.findClass "com/example/bericht/bericht/selector/Truth" = some m.cls := hown
  have hS : s.Since s.vm 0 := (State.WarmedH.refl s).since 0
  have hk : 0 ≤ h0.size := Nat.zero_le _
  have e0 : s₁.heap = h0 := by rw [← hh, Bd.state]; rfl
  have K0 := K
  obtain ⟨S_w0, S_w1, S_w2, E_w0, E_w1, E_w2, F_w0_ordinal, F_w2_ordinal, F_w1_ordinal, n_w0_w1, n_w0_w2, n_w1_w2⟩ := K
  show own_GoW p e below s (Q6_2 Z w0 w1 w2 n0) 2 24 (s₁.setTop (entryFrame m #[(.ref w1), (.ref w0)] 3))
  rw [show entryFrame m #[(.ref w1), (.ref w0)] 3 = mkF m 0 #[.val (.ref w1), .val (.ref w0), .unset] [] from by first | (simp [entryFrame, mkF, argsToLocals, Value.category]; done) | rfl]
  show own_GoW p e below s _ _ _ (s₁.setTop (mkF m 0 #[.val (.ref w1), .val (.ref w0), .unset] []))
  refine own_viaW (fun _ k => XS.aloadN X0.here hx rfl (hb hby d6_0) rfl rfl k) ?_
  show own_GoW p e below s _ _ _ (s₁.setTop (mkF m 1 #[.val (.ref w1), .val (.ref w0), .unset] [(.ref w0)]))
  obtain ⟨a1, T1, h1, k1, X1, e1, E1, hS1, hk1, hZ1, hown1, st1⟩ := ldcS X0 hx hZ hown (hw _ (List.mem_of_getElem? (i := 30) rfl)) (own_wS hw) e0 hS hk (g := (mkF m 1 #[.val (.ref w1), .val (.ref w0), .unset] [(.ref w0)])) rfl (hb hby d6_1) (n := 20) (by decide) (by decide) (by decide) (by decide)
  have hZ := hZ1
  have hown := hown1
  have hS := hS1
  have hk := hk1
  have Z0 := Nat.le_trans Z0 E1.1
  have OL := OL.ext E1
  refine own_viaW st1 ?_
  show own_GoW p e below s _ _ _ (T1.setTop (mkF m 3 #[.val (.ref w1), .val (.ref w0), .unset] [(.ref a1), (.ref w0)]))
  obtain ⟨_, _, ⟨T2, L2, k2, n2⟩, -, X2, ⟨Lc2, hQ2, l2, y2, z2⟩, st2⟩ := Jvm.LawKit.callS X1 hx (y := (⟨"java/util/Objects", "requireNonNull", "(Ljava/lang/Object;Ljava/lang/String;)Ljava/lang/Object;"⟩ : MethodName)) hown (mvT hZ (hw _ (List.mem_of_getElem? (i := 38) rfl))) (mvT hZ (hw _ (List.mem_of_getElem? (i := 39) rfl))) (mvT hZ (hw _ (List.mem_of_getElem? (i := 40) rfl))) (mvT hZ (hw _ (List.mem_of_getElem? (i := 41) rfl))) (by decide) (backOf (W := 0) (rm5_0 l Z a0 hw [] a1 w0 w1 w2 h1 n0 Z0 K0 OL) hZ (hw _ (List.mem_of_getElem? (i := 41) rfl)) (hw _ (List.mem_of_getElem? (i := 40) rfl)) (by decide) (by decide)) (g := (mkF m 3 #[.val (.ref w1), .val (.ref w0), .unset] [(.ref a1), (.ref w0)])) rfl (by rw [hml]; rfl) (argsL := [(.ref w0), (.ref a1)]) (rest := []) (lenOf pd3 rfl) rfl (by show 2 * 0 + _ ≤ _; exact Nat.le_of_eq rfl) (hb hby d6_3) (fun _ _ => ⟨rfl, e1, (by decide : 0 + 2 + 0 ≤ _), (by decide : 0 + 24 + 0 ≤ _)⟩)
  dsimp only [Pt.U, Pt.locs, Pt.cells, Pt.slots] at X2 l2 y2 z2 st2 hQ2
  subst l2 y2 z2
  obtain ⟨rfl, e2, hO2⟩ := hQ2
  obtain rfl := hO2
  refine own_viaW st2 ?_
  show own_GoW p e below s _ _ _ (T2.setTop (mkF m 6 #[.val (.ref w1), .val (.ref w0), .unset] [(.ref w0)]))
  refine own_viaW (fun _ k => XS.pop X2.here hx rfl (hb hby d6_6) rfl rfl k) ?_
  show own_GoW p e below s _ _ _ (T2.setTop (mkF m 7 #[.val (.ref w1), .val (.ref w0), .unset] []))
  refine own_viaW (fun _ k => XS.aloadN X2.here hx rfl (hb hby d6_7) rfl rfl k) ?_
  show own_GoW p e below s _ _ _ (T2.setTop (mkF m 8 #[.val (.ref w1), .val (.ref w0), .unset] [(.ref w1)]))
  obtain ⟨T3, X3, e3, st3⟩ := getS2 X2 hx hZ hown (host := "") (Or.inl (hw _ (List.mem_of_getElem? (i := 6) rfl))) Via.refl e2 (S_w1.ext OL.2) (g := (mkF m 8 #[.val (.ref w1), .val (.ref w0), .unset] [(.ref w1)])) rfl (hb hby d6_8)
  refine own_viaW st3 ?_
  show own_GoW p e below s _ _ _ (T3.setTop (mkF m 11 #[.val (.ref w1), .val (.ref w0), .unset] [(.ref w1), (.ref w1)]))
  refine own_viaW (fun _ k => Jvm.RoadKit.acmp (g := (mkF m 11 #[.val (.ref w1), .val (.ref w0), .unset] [(.ref w1), (.ref w1)])) X3 hx rfl rfl rfl (pc0 := 11) (pc' := 21) (same := true) rfl (hb hby d6_11) rfl (decide_eq_true rfl) (by decide) (by decide) k) ?_
  show own_GoW p e below s _ _ _ (T3.setTop (mkF m 21 #[.val (.ref w1), .val (.ref w0), .unset] []))
  obtain ⟨T4, X4, e4, st4⟩ := getS2 X3 hx hZ hown (host := "") (Or.inl (hw _ (List.mem_of_getElem? (i := 6) rfl))) Via.refl e3 (S_w1.ext OL.2) (g := (mkF m 21 #[.val (.ref w1), .val (.ref w0), .unset] [])) rfl (hb hby d6_21)
  refine own_viaW st4 ?_
  show own_GoW p e below s _ _ _ (T4.setTop (mkF m 24 #[.val (.ref w1), .val (.ref w0), .unset] [(.ref w1)]))
  refine own_viaW (fun _ k => XS.astoreN X4.here hx rfl (hb hby d6_24) rfl rfl (l' := #[.val (.ref w1), .val (.ref w0), .val (.ref w1)]) rfl k) ?_
  show own_GoW p e below s _ _ _ (T4.setTop (mkF m 25 #[.val (.ref w1), .val (.ref w0), .val (.ref w1)] []))
  refine own_viaW (fun _ k => XS.goto X4.here hx rfl (pc0 := 25) (pc' := 53) rfl (hb hby d6_25) (by decide) (by decide) k) ?_
  show own_GoW p e below s _ _ _ (T4.setTop (mkF m 53 #[.val (.ref w1), .val (.ref w0), .val (.ref w1)] []))
  refine own_viaW (fun _ k => XS.aloadN X4.here hx rfl (hb hby d6_53) rfl rfl k) ?_
  show own_GoW p e below s _ _ _ (T4.setTop (mkF m 54 #[.val (.ref w1), .val (.ref w0), .val (.ref w1)] [(.ref w1)]))
  exact own_retRW X4 hS (by rw [e4]; exact hk) hx hlk Bd.returns rfl rfl (hb hby d6_54) (by rw [e4]; exact ⟨(Fr.app (Fr.nil n0) (Fr.nil n0)), OL, Z0, rfl⟩) (by decide) (by decide)
def Q4_3 (Z : State) (w0 : Addr) (w1 : Addr) (w2 : Addr) (n0 : Nat) (v : Option Value) (h : Heap) (L : List Loc) : Prop := Fr n0 L ∧ Old Z n0 h ∧ n0 ≤ h.size ∧ ((v = some (.ref w1)))
set_option maxRecDepth 65536 in
set_option maxHeartbeats 40000000 in
theorem rm4_3 (l : Launch) (Z : State) (a0 : Array Value) (hw : ∀ d ∈ tables_1, d.before a0 Z = true) (ws : List Jvm.Cond) (w0 : Addr) (w1 : Addr) (w2 : Addr) (h0 : Heap) (n0 : Nat) (Z0 : n0 ≤ h0.size) (K : own_K Z Z.heap w0 w1 w2) (OL : Old Z n0 h0) :
    MetFree l (⟨"com/example/bericht/bericht/selector/Truth", "and", "(Lcom/example/bericht/bericht/selector/Truth;)Lcom/example/bericht/bericht/selector/Truth;"⟩ : MethodName) (head1 (Jvm.Cond.code (⟨"com/example/bericht/bericht/selector/Truth", "and", "(Lcom/example/bericht/bericht/selector/Truth;)Lcom/example/bericht/bericht/selector/Truth;"⟩ : MethodName) prog_93_method_6_code 3 (some (.object "com/example/bericht/bericht/selector/Truth")) :: ws) ({ frames := 1, cells := 2, slots := 24, locals := 13 } : Room)) (fun a U => a = #[(.ref w1), (.ref w1)] ∧ Z.Warmed39 U.vm ∧ U.heap = h0) (fun _ _ _ _ _ => True) (fun _ U o U' => ∃ v L, o = .returned v ∧ Q4_3 Z w0 w1 w2 n0 v U'.heap L ∧ ReturnedEndW U o U' L ({ frames := 1, cells := 2, slots := 24, locals := 13 } : Room).cells ({ frames := 1, cells := 2, slots := 24, locals := 13 } : Room).slots) := by
  refine MetFree.of_bodySF (plainFor_of_name pn0) hisR ?_
  intro p e s m args below meth c s₁ Bd hml0 hP hK
  obtain ⟨rfl, hZ, hh⟩ := hP
  have hx := Bd.exec
  have hby := Bd.bytes
  have hml : c.maxLocals = 3 := hml0
  have hown : s.vm.findClass "com/example/bericht/bericht/selector/Truth" = some m.cls := findClass_of_methodNamed Bd.named
  have hnm := (name_of_methodNamed Bd.named Bd.method).1
  have hlk := Bd.notSynchronized
  have X0 : Stand p l e ({ frames := 1, cells := 2, slots := 24, locals := 13 } : Room) s m #[(.ref w1), (.ref w1)] below meth c s₁ [] 0 0 := Stand.of_body Bd
  have X0 : Stand p l e ({ frames := 1, cells := 2, slots := 24, locals := 13 } : Room) (s.setVm s.vm) m #[(.ref w1), (.ref w1)] below meth c s₁ [] 0 0 := X0
  have hZ : Z.Warmed39 (s.setVm s.vm).vm := hZ
  have hown : (s.setVm s.vm).vm.findClass "com/example/bericht/bericht/selector/Truth" = some m.cls := hown
  have hS : s.Since s.vm 0 := (State.WarmedH.refl s).since 0
  have hk : 0 ≤ h0.size := Nat.zero_le _
  have e0 : s₁.heap = h0 := by rw [← hh, Bd.state]; rfl
  have K0 := K
  obtain ⟨S_w0, S_w1, S_w2, E_w0, E_w1, E_w2, F_w0_ordinal, F_w2_ordinal, F_w1_ordinal, n_w0_w1, n_w0_w2, n_w1_w2⟩ := K
  show own_GoW p e below s (Q4_3 Z w0 w1 w2 n0) 2 24 (s₁.setTop (entryFrame m #[(.ref w1), (.ref w1)] 3))
  rw [show entryFrame m #[(.ref w1), (.ref w1)] 3 = mkF m 0 #[.val (.ref w1), .val (.ref w1), .unset] [] from by first | (simp [entryFrame, mkF, argsToLocals, Value.category]; done) | rfl]
  show own_GoW p e below s _ _ _ (s₁.setTop (mkF m 0 #[.val (.ref w1), .val (.ref w1), .unset] []))
  refine own_viaW (fun _ k => XS.aloadN X0.here hx rfl (hb hby d4_0) rfl rfl k) ?_
  show own_GoW p e below s _ _ _ (s₁.setTop (mkF m 1 #[.val (.ref w1), .val (.ref w1), .unset] [(.ref w1)]))
  obtain ⟨a1, T1, h1, k1, X1, e1, E1, hS1, hk1, hZ1, hown1, st1⟩ := ldcS X0 hx hZ hown (hw _ (List.mem_of_getElem? (i := 30) rfl)) (own_wS hw) e0 hS hk (g := (mkF m 1 #[.val (.ref w1), .val (.ref w1), .unset] [(.ref w1)])) rfl (hb hby d4_1) (n := 20) (by decide) (by decide) (by decide) (by decide)
  have hZ := hZ1
  have hown := hown1
  have hS := hS1
  have hk := hk1
  have Z0 := Nat.le_trans Z0 E1.1
  have OL := OL.ext E1
  refine own_viaW st1 ?_
  show own_GoW p e below s _ _ _ (T1.setTop (mkF m 3 #[.val (.ref w1), .val (.ref w1), .unset] [(.ref a1), (.ref w1)]))
  obtain ⟨_, _, ⟨T2, L2, k2, n2⟩, -, X2, ⟨Lc2, hQ2, l2, y2, z2⟩, st2⟩ := Jvm.LawKit.callS X1 hx (y := (⟨"java/util/Objects", "requireNonNull", "(Ljava/lang/Object;Ljava/lang/String;)Ljava/lang/Object;"⟩ : MethodName)) hown (mvT hZ (hw _ (List.mem_of_getElem? (i := 38) rfl))) (mvT hZ (hw _ (List.mem_of_getElem? (i := 39) rfl))) (mvT hZ (hw _ (List.mem_of_getElem? (i := 40) rfl))) (mvT hZ (hw _ (List.mem_of_getElem? (i := 41) rfl))) (by decide) (backOf (W := 0) (rm5_1 l Z a0 hw [] a1 w0 w1 w2 h1 n0 Z0 K0 OL) hZ (hw _ (List.mem_of_getElem? (i := 41) rfl)) (hw _ (List.mem_of_getElem? (i := 40) rfl)) (by decide) (by decide)) (g := (mkF m 3 #[.val (.ref w1), .val (.ref w1), .unset] [(.ref a1), (.ref w1)])) rfl (by rw [hml]; rfl) (argsL := [(.ref w1), (.ref a1)]) (rest := []) (lenOf pd3 rfl) rfl (by show 2 * 0 + _ ≤ _; exact Nat.le_of_eq rfl) (hb hby d4_3) (fun _ _ => ⟨rfl, e1, (by decide : 0 + 2 + 0 ≤ _), (by decide : 0 + 24 + 0 ≤ _)⟩)
  dsimp only [Pt.U, Pt.locs, Pt.cells, Pt.slots] at X2 l2 y2 z2 st2 hQ2
  subst l2 y2 z2
  obtain ⟨rfl, e2, hO2⟩ := hQ2
  obtain rfl := hO2
  refine own_viaW st2 ?_
  show own_GoW p e below s _ _ _ (T2.setTop (mkF m 6 #[.val (.ref w1), .val (.ref w1), .unset] [(.ref w1)]))
  refine own_viaW (fun _ k => XS.pop X2.here hx rfl (hb hby d4_6) rfl rfl k) ?_
  show own_GoW p e below s _ _ _ (T2.setTop (mkF m 7 #[.val (.ref w1), .val (.ref w1), .unset] []))
  refine own_viaW (fun _ k => XS.aloadN X2.here hx rfl (hb hby d4_7) rfl rfl k) ?_
  show own_GoW p e below s _ _ _ (T2.setTop (mkF m 8 #[.val (.ref w1), .val (.ref w1), .unset] [(.ref w1)]))
  obtain ⟨T3, X3, e3, st3⟩ := getS2 X2 hx hZ hown (host := "") (Or.inl (hw _ (List.mem_of_getElem? (i := 4) rfl))) Via.refl e2 (S_w0.ext OL.2) (g := (mkF m 8 #[.val (.ref w1), .val (.ref w1), .unset] [(.ref w1)])) rfl (hb hby d4_8)
  refine own_viaW st3 ?_
  show own_GoW p e below s _ _ _ (T3.setTop (mkF m 11 #[.val (.ref w1), .val (.ref w1), .unset] [(.ref w0), (.ref w1)]))
  refine own_viaW (fun _ k => Jvm.RoadKit.acmp (g := (mkF m 11 #[.val (.ref w1), .val (.ref w1), .unset] [(.ref w0), (.ref w1)])) X3 hx rfl rfl rfl (pc0 := 11) (pc' := 14) (same := false) rfl (hb hby d4_11) rfl (decide_eq_false fun q => (fun q => n_w0_w1 q.symm) (Value.ref.inj q)) (by decide) (by decide) k) ?_
  show own_GoW p e below s _ _ _ (T3.setTop (mkF m 14 #[.val (.ref w1), .val (.ref w1), .unset] []))
  refine own_viaW (fun _ k => XS.aloadN X3.here hx rfl (hb hby d4_14) rfl rfl k) ?_
  show own_GoW p e below s _ _ _ (T3.setTop (mkF m 15 #[.val (.ref w1), .val (.ref w1), .unset] [(.ref w1)]))
  obtain ⟨T4, X4, e4, st4⟩ := getS2 X3 hx hZ hown (host := "") (Or.inl (hw _ (List.mem_of_getElem? (i := 4) rfl))) Via.refl e3 (S_w0.ext OL.2) (g := (mkF m 15 #[.val (.ref w1), .val (.ref w1), .unset] [(.ref w1)])) rfl (hb hby d4_15)
  refine own_viaW st4 ?_
  show own_GoW p e below s _ _ _ (T4.setTop (mkF m 18 #[.val (.ref w1), .val (.ref w1), .unset] [(.ref w0), (.ref w1)]))
  refine own_viaW (fun _ k => Jvm.RoadKit.acmp (g := (mkF m 18 #[.val (.ref w1), .val (.ref w1), .unset] [(.ref w0), (.ref w1)])) X4 hx rfl rfl rfl (pc0 := 18) (pc' := 28) (same := false) rfl (hb hby d4_18) rfl (decide_eq_false fun q => (fun q => n_w0_w1 q.symm) (Value.ref.inj q)) (by decide) (by decide) k) ?_
  show own_GoW p e below s _ _ _ (T4.setTop (mkF m 28 #[.val (.ref w1), .val (.ref w1), .unset] []))
  refine own_viaW (fun _ k => XS.aloadN X4.here hx rfl (hb hby d4_28) rfl rfl k) ?_
  show own_GoW p e below s _ _ _ (T4.setTop (mkF m 29 #[.val (.ref w1), .val (.ref w1), .unset] [(.ref w1)]))
  obtain ⟨T5, X5, e5, st5⟩ := getS2 X4 hx hZ hown (host := "") (Or.inl (hw _ (List.mem_of_getElem? (i := 47) rfl))) Via.refl e4 (S_w2.ext OL.2) (g := (mkF m 29 #[.val (.ref w1), .val (.ref w1), .unset] [(.ref w1)])) rfl (hb hby d4_29)
  refine own_viaW st5 ?_
  show own_GoW p e below s _ _ _ (T5.setTop (mkF m 32 #[.val (.ref w1), .val (.ref w1), .unset] [(.ref w2), (.ref w1)]))
  refine own_viaW (fun _ k => Jvm.RoadKit.acmp (g := (mkF m 32 #[.val (.ref w1), .val (.ref w1), .unset] [(.ref w2), (.ref w1)])) X5 hx rfl rfl rfl (pc0 := 32) (pc' := 35) (same := false) rfl (hb hby d4_32) rfl (decide_eq_false fun q => n_w1_w2 (Value.ref.inj q)) (by decide) (by decide) k) ?_
  show own_GoW p e below s _ _ _ (T5.setTop (mkF m 35 #[.val (.ref w1), .val (.ref w1), .unset] []))
  refine own_viaW (fun _ k => XS.aloadN X5.here hx rfl (hb hby d4_35) rfl rfl k) ?_
  show own_GoW p e below s _ _ _ (T5.setTop (mkF m 36 #[.val (.ref w1), .val (.ref w1), .unset] [(.ref w1)]))
  obtain ⟨T6, X6, e6, st6⟩ := getS2 X5 hx hZ hown (host := "") (Or.inl (hw _ (List.mem_of_getElem? (i := 47) rfl))) Via.refl e5 (S_w2.ext OL.2) (g := (mkF m 36 #[.val (.ref w1), .val (.ref w1), .unset] [(.ref w1)])) rfl (hb hby d4_36)
  refine own_viaW st6 ?_
  show own_GoW p e below s _ _ _ (T6.setTop (mkF m 39 #[.val (.ref w1), .val (.ref w1), .unset] [(.ref w2), (.ref w1)]))
  refine own_viaW (fun _ k => Jvm.RoadKit.acmp (g := (mkF m 39 #[.val (.ref w1), .val (.ref w1), .unset] [(.ref w2), (.ref w1)])) X6 hx rfl rfl rfl (pc0 := 39) (pc' := 49) (same := false) rfl (hb hby d4_39) rfl (decide_eq_false fun q => n_w1_w2 (Value.ref.inj q)) (by decide) (by decide) k) ?_
  show own_GoW p e below s _ _ _ (T6.setTop (mkF m 49 #[.val (.ref w1), .val (.ref w1), .unset] []))
  obtain ⟨T7, X7, e7, st7⟩ := getS2 X6 hx hZ hown (host := "") (Or.inl (hw _ (List.mem_of_getElem? (i := 6) rfl))) Via.refl e6 (S_w1.ext OL.2) (g := (mkF m 49 #[.val (.ref w1), .val (.ref w1), .unset] [])) rfl (hb hby d4_49)
  refine own_viaW st7 ?_
  show own_GoW p e below s _ _ _ (T7.setTop (mkF m 52 #[.val (.ref w1), .val (.ref w1), .unset] [(.ref w1)]))
  refine own_viaW (fun _ k => XS.astoreN X7.here hx rfl (hb hby d4_52) rfl rfl (l' := #[.val (.ref w1), .val (.ref w1), .val (.ref w1)]) rfl k) ?_
  show own_GoW p e below s _ _ _ (T7.setTop (mkF m 53 #[.val (.ref w1), .val (.ref w1), .val (.ref w1)] []))
  refine own_viaW (fun _ k => XS.aloadN X7.here hx rfl (hb hby d4_53) rfl rfl k) ?_
  show own_GoW p e below s _ _ _ (T7.setTop (mkF m 54 #[.val (.ref w1), .val (.ref w1), .val (.ref w1)] [(.ref w1)]))
  exact own_retRW X7 hS (by rw [e7]; exact hk) hx hlk Bd.returns rfl rfl (hb hby d4_54) (by rw [e7]; exact ⟨(Fr.app (Fr.nil n0) (Fr.nil n0)), OL, Z0, rfl⟩) (by decide) (by decide)
def Q6_3 (Z : State) (w0 : Addr) (w1 : Addr) (w2 : Addr) (n0 : Nat) (v : Option Value) (h : Heap) (L : List Loc) : Prop := Fr n0 L ∧ Old Z n0 h ∧ n0 ≤ h.size ∧ ((v = some (.ref w1)))
set_option maxRecDepth 65536 in
set_option maxHeartbeats 40000000 in
theorem rm6_3 (l : Launch) (Z : State) (a0 : Array Value) (hw : ∀ d ∈ tables_1, d.before a0 Z = true) (ws : List Jvm.Cond) (w0 : Addr) (w1 : Addr) (w2 : Addr) (h0 : Heap) (n0 : Nat) (Z0 : n0 ≤ h0.size) (K : own_K Z Z.heap w0 w1 w2) (OL : Old Z n0 h0) :
    MetFree l (⟨"com/example/bericht/bericht/selector/Truth", "or", "(Lcom/example/bericht/bericht/selector/Truth;)Lcom/example/bericht/bericht/selector/Truth;"⟩ : MethodName) (head1 (Jvm.Cond.code (⟨"com/example/bericht/bericht/selector/Truth", "or", "(Lcom/example/bericht/bericht/selector/Truth;)Lcom/example/bericht/bericht/selector/Truth;"⟩ : MethodName) prog_93_method_7_code 3 (some (.object "com/example/bericht/bericht/selector/Truth")) :: ws) ({ frames := 1, cells := 2, slots := 24, locals := 13 } : Room)) (fun a U => a = #[(.ref w1), (.ref w1)] ∧ Z.Warmed39 U.vm ∧ U.heap = h0) (fun _ _ _ _ _ => True) (fun _ U o U' => ∃ v L, o = .returned v ∧ Q6_3 Z w0 w1 w2 n0 v U'.heap L ∧ ReturnedEndW U o U' L ({ frames := 1, cells := 2, slots := 24, locals := 13 } : Room).cells ({ frames := 1, cells := 2, slots := 24, locals := 13 } : Room).slots) := by
  refine MetFree.of_bodySF (plainFor_of_name pn0) hisR ?_
  intro p e s m args below meth c s₁ Bd hml0 hP hK
  obtain ⟨rfl, hZ, hh⟩ := hP
  have hx := Bd.exec
  have hby := Bd.bytes
  have hml : c.maxLocals = 3 := hml0
  have hown : s.vm.findClass "com/example/bericht/bericht/selector/Truth" = some m.cls := findClass_of_methodNamed Bd.named
  have hnm := (name_of_methodNamed Bd.named Bd.method).1
  have hlk := Bd.notSynchronized
  have X0 : Stand p l e ({ frames := 1, cells := 2, slots := 24, locals := 13 } : Room) s m #[(.ref w1), (.ref w1)] below meth c s₁ [] 0 0 := Stand.of_body Bd
  have X0 : Stand p l e ({ frames := 1, cells := 2, slots := 24, locals := 13 } : Room) (s.setVm s.vm) m #[(.ref w1), (.ref w1)] below meth c s₁ [] 0 0 := X0
  have hZ : Z.Warmed39 (s.setVm s.vm).vm := hZ
  have hown : (s.setVm s.vm).vm.findClass "com/example/bericht/bericht/selector/Truth" = some m.cls := hown
  have hS : s.Since s.vm 0 := (State.WarmedH.refl s).since 0
  have hk : 0 ≤ h0.size := Nat.zero_le _
  have e0 : s₁.heap = h0 := by rw [← hh, Bd.state]; rfl
  have K0 := K
  obtain ⟨S_w0, S_w1, S_w2, E_w0, E_w1, E_w2, F_w0_ordinal, F_w2_ordinal, F_w1_ordinal, n_w0_w1, n_w0_w2, n_w1_w2⟩ := K
  show own_GoW p e below s (Q6_3 Z w0 w1 w2 n0) 2 24 (s₁.setTop (entryFrame m #[(.ref w1), (.ref w1)] 3))
  rw [show entryFrame m #[(.ref w1), (.ref w1)] 3 = mkF m 0 #[.val (.ref w1), .val (.ref w1), .unset] [] from by first | (simp [entryFrame, mkF, argsToLocals, Value.category]; done) | rfl]
  show own_GoW p e below s _ _ _ (s₁.setTop (mkF m 0 #[.val (.ref w1), .val (.ref w1), .unset] []))
  refine own_viaW (fun _ k => XS.aloadN X0.here hx rfl (hb hby d6_0) rfl rfl k) ?_
  show own_GoW p e below s _ _ _ (s₁.setTop (mkF m 1 #[.val (.ref w1), .val (.ref w1), .unset] [(.ref w1)]))
  obtain ⟨a1, T1, h1, k1, X1, e1, E1, hS1, hk1, hZ1, hown1, st1⟩ := ldcS X0 hx hZ hown (hw _ (List.mem_of_getElem? (i := 30) rfl)) (own_wS hw) e0 hS hk (g := (mkF m 1 #[.val (.ref w1), .val (.ref w1), .unset] [(.ref w1)])) rfl (hb hby d6_1) (n := 20) (by decide) (by decide) (by decide) (by decide)
  have hZ := hZ1
  have hown := hown1
  have hS := hS1
  have hk := hk1
  have Z0 := Nat.le_trans Z0 E1.1
  have OL := OL.ext E1
  refine own_viaW st1 ?_
  show own_GoW p e below s _ _ _ (T1.setTop (mkF m 3 #[.val (.ref w1), .val (.ref w1), .unset] [(.ref a1), (.ref w1)]))
  obtain ⟨_, _, ⟨T2, L2, k2, n2⟩, -, X2, ⟨Lc2, hQ2, l2, y2, z2⟩, st2⟩ := Jvm.LawKit.callS X1 hx (y := (⟨"java/util/Objects", "requireNonNull", "(Ljava/lang/Object;Ljava/lang/String;)Ljava/lang/Object;"⟩ : MethodName)) hown (mvT hZ (hw _ (List.mem_of_getElem? (i := 38) rfl))) (mvT hZ (hw _ (List.mem_of_getElem? (i := 39) rfl))) (mvT hZ (hw _ (List.mem_of_getElem? (i := 40) rfl))) (mvT hZ (hw _ (List.mem_of_getElem? (i := 41) rfl))) (by decide) (backOf (W := 0) (rm5_1 l Z a0 hw [] a1 w0 w1 w2 h1 n0 Z0 K0 OL) hZ (hw _ (List.mem_of_getElem? (i := 41) rfl)) (hw _ (List.mem_of_getElem? (i := 40) rfl)) (by decide) (by decide)) (g := (mkF m 3 #[.val (.ref w1), .val (.ref w1), .unset] [(.ref a1), (.ref w1)])) rfl (by rw [hml]; rfl) (argsL := [(.ref w1), (.ref a1)]) (rest := []) (lenOf pd3 rfl) rfl (by show 2 * 0 + _ ≤ _; exact Nat.le_of_eq rfl) (hb hby d6_3) (fun _ _ => ⟨rfl, e1, (by decide : 0 + 2 + 0 ≤ _), (by decide : 0 + 24 + 0 ≤ _)⟩)
  dsimp only [Pt.U, Pt.locs, Pt.cells, Pt.slots] at X2 l2 y2 z2 st2 hQ2
  subst l2 y2 z2
  obtain ⟨rfl, e2, hO2⟩ := hQ2
  obtain rfl := hO2
  refine own_viaW st2 ?_
  show own_GoW p e below s _ _ _ (T2.setTop (mkF m 6 #[.val (.ref w1), .val (.ref w1), .unset] [(.ref w1)]))
  refine own_viaW (fun _ k => XS.pop X2.here hx rfl (hb hby d6_6) rfl rfl k) ?_
  show own_GoW p e below s _ _ _ (T2.setTop (mkF m 7 #[.val (.ref w1), .val (.ref w1), .unset] []))
  refine own_viaW (fun _ k => XS.aloadN X2.here hx rfl (hb hby d6_7) rfl rfl k) ?_
  show own_GoW p e below s _ _ _ (T2.setTop (mkF m 8 #[.val (.ref w1), .val (.ref w1), .unset] [(.ref w1)]))
  obtain ⟨T3, X3, e3, st3⟩ := getS2 X2 hx hZ hown (host := "") (Or.inl (hw _ (List.mem_of_getElem? (i := 6) rfl))) Via.refl e2 (S_w1.ext OL.2) (g := (mkF m 8 #[.val (.ref w1), .val (.ref w1), .unset] [(.ref w1)])) rfl (hb hby d6_8)
  refine own_viaW st3 ?_
  show own_GoW p e below s _ _ _ (T3.setTop (mkF m 11 #[.val (.ref w1), .val (.ref w1), .unset] [(.ref w1), (.ref w1)]))
  refine own_viaW (fun _ k => Jvm.RoadKit.acmp (g := (mkF m 11 #[.val (.ref w1), .val (.ref w1), .unset] [(.ref w1), (.ref w1)])) X3 hx rfl rfl rfl (pc0 := 11) (pc' := 21) (same := true) rfl (hb hby d6_11) rfl (decide_eq_true rfl) (by decide) (by decide) k) ?_
  show own_GoW p e below s _ _ _ (T3.setTop (mkF m 21 #[.val (.ref w1), .val (.ref w1), .unset] []))
  obtain ⟨T4, X4, e4, st4⟩ := getS2 X3 hx hZ hown (host := "") (Or.inl (hw _ (List.mem_of_getElem? (i := 6) rfl))) Via.refl e3 (S_w1.ext OL.2) (g := (mkF m 21 #[.val (.ref w1), .val (.ref w1), .unset] [])) rfl (hb hby d6_21)
  refine own_viaW st4 ?_
  show own_GoW p e below s _ _ _ (T4.setTop (mkF m 24 #[.val (.ref w1), .val (.ref w1), .unset] [(.ref w1)]))
  refine own_viaW (fun _ k => XS.astoreN X4.here hx rfl (hb hby d6_24) rfl rfl (l' := #[.val (.ref w1), .val (.ref w1), .val (.ref w1)]) rfl k) ?_
  show own_GoW p e below s _ _ _ (T4.setTop (mkF m 25 #[.val (.ref w1), .val (.ref w1), .val (.ref w1)] []))
  refine own_viaW (fun _ k => XS.goto X4.here hx rfl (pc0 := 25) (pc' := 53) rfl (hb hby d6_25) (by decide) (by decide) k) ?_
  show own_GoW p e below s _ _ _ (T4.setTop (mkF m 53 #[.val (.ref w1), .val (.ref w1), .val (.ref w1)] []))
  refine own_viaW (fun _ k => XS.aloadN X4.here hx rfl (hb hby d6_53) rfl rfl k) ?_
  show own_GoW p e below s _ _ _ (T4.setTop (mkF m 54 #[.val (.ref w1), .val (.ref w1), .val (.ref w1)] [(.ref w1)]))
  exact own_retRW X4 hS (by rw [e4]; exact hk) hx hlk Bd.returns rfl rfl (hb hby d6_54) (by rw [e4]; exact ⟨(Fr.app (Fr.nil n0) (Fr.nil n0)), OL, Z0, rfl⟩) (by decide) (by decide)
def Q0 (n0 : Nat) (v : Option Value) (h : Heap) (L : List Loc) : Prop := v = some (.int 1) ∧ Fr n0 L
set_option maxRecDepth 65536 in
set_option maxHeartbeats 40000000 in
theorem rm0 (l : Launch) (Z : State) (a0 : Array Value) (hw : ∀ d ∈ tables_1, d.before a0 Z = true) (ws : List Jvm.Cond) (p0 : Int32) (p1 : Int32) (w0 : Addr) (w1 : Addr) (w2 : Addr) (h0 : Heap) (n0 : Nat) (Z0 : n0 ≤ h0.size) (K : own_K Z Z.heap w0 w1 w2) (OL : Old Z n0 h0) :
    MetFree l x (head1 (Jvm.Cond.code x code maxLocals ret :: ws) room_1) (fun a U => a = #[(.int p0), (.int p1)] ∧ Z.Warmed39 U.vm ∧ U.heap = h0) (fun _ _ _ _ _ => True) (fun _ U o U' => ∃ v L, o = .returned v ∧ Q0 n0 v U'.heap L ∧ ReturnedEndW U o U' L 8 1088) := by
  refine MetFree.of_bodySF (plainFor_of_name pn3) hisR ?_
  intro p e s m args below meth c s₁ Bd hml0 hP hK
  obtain ⟨rfl, hZ, hh⟩ := hP
  have hx := Bd.exec
  have hby := Bd.bytes
  have hml : c.maxLocals = 9 := hml0
  have hown : s.vm.findClass "com/example/bericht/bericht/selector/TruthOfPinLaw" = some m.cls := findClass_of_methodNamed Bd.named
  have hnm := (name_of_methodNamed Bd.named Bd.method).1
  have hlk := Bd.notSynchronized
  have X0 : Stand p l e room_1 s m #[(.int p0), (.int p1)] below meth c s₁ [] 0 0 := Stand.of_body Bd
  have X0 : Stand p l e room_1 (s.setVm s.vm) m #[(.int p0), (.int p1)] below meth c s₁ [] 0 0 := X0
  have hZ : Z.Warmed39 (s.setVm s.vm).vm := hZ
  have hown : (s.setVm s.vm).vm.findClass "com/example/bericht/bericht/selector/TruthOfPinLaw" = some m.cls := hown
  have hS : s.Since s.vm 0 := (State.WarmedH.refl s).since 0
  have hk : 0 ≤ h0.size := Nat.zero_le _
  have e0 : s₁.heap = h0 := by rw [← hh, Bd.state]; rfl
  have K0 := K
  obtain ⟨S_w0, S_w1, S_w2, E_w0, E_w1, E_w2, F_w0_ordinal, F_w2_ordinal, F_w1_ordinal, n_w0_w1, n_w0_w2, n_w1_w2⟩ := K
  show own_GoW p e below s (Q0 n0) 8 1088 (s₁.setTop (entryFrame m #[(.int p0), (.int p1)] maxLocals))
  rw [show entryFrame m #[(.int p0), (.int p1)] maxLocals = mkF m 0 #[.val (.int p0), .val (.int p1), .unset, .unset, .unset, .unset, .unset, .unset, .unset] [] from by first | (simp [entryFrame, mkF, argsToLocals, Value.category, maxLocals]; done) | rfl]
  show own_GoW p e below s _ _ _ (s₁.setTop (mkF m 0 #[.val (.int p0), .val (.int p1), .unset, .unset, .unset, .unset, .unset, .unset, .unset] []))
  refine own_viaW (fun _ k => XS.iloadN X0.here hx rfl (hb hby at_0) rfl k) ?_
  show own_GoW p e below s _ _ _ (s₁.setTop (mkF m 1 #[.val (.int p0), .val (.int p1), .unset, .unset, .unset, .unset, .unset, .unset, .unset] [(.int p0)]))
  refine own_viaW (fun _ k => XS.iconst X0.here hx rfl (hb hby at_1) k) ?_
  show own_GoW p e below s _ _ _ (s₁.setTop (mkF m 2 #[.val (.int p0), .val (.int p1), .unset, .unset, .unset, .unset, .unset, .unset, .unset] [(.int (1 : Int32)), (.int p0)]))
  refine own_viaW (fun _ k => XS.iand X0.here hx rfl (hb hby at_2) rfl k) ?_
  rcases (own_and1 _ : (p0 &&& (1 : Int32)) = (0 : Int32) ∨ (p0 &&& (1 : Int32)) = (1 : Int32)) with hk1 | hk2
  · rw [hk1]
    show own_GoW p e below s _ _ _ (s₁.setTop (mkF m 3 #[.val (.int p0), .val (.int p1), .unset, .unset, .unset, .unset, .unset, .unset, .unset] [(.int (0 : Int32))]))
    refine own_viaW (fun _ k => XS.ifYes X0.here hx rfl (pc0 := 3) (pc' := 10) rfl (hb hby at_3) rfl ((if0 _ _).trans (teq (by decide : (0 : Int32) = (0 : Int32))).1) (by decide) (by decide) k) ?_
    show own_GoW p e below s _ _ _ (s₁.setTop (mkF m 10 #[.val (.int p0), .val (.int p1), .unset, .unset, .unset, .unset, .unset, .unset, .unset] []))
    refine own_viaW (fun _ k => XS.iconst X0.here hx rfl (hb hby at_10) k) ?_
    show own_GoW p e below s _ _ _ (s₁.setTop (mkF m 11 #[.val (.int p0), .val (.int p1), .unset, .unset, .unset, .unset, .unset, .unset, .unset] [(.int (0 : Int32))]))
    refine own_viaW (fun _ k => XS.istoreN X0.here hx rfl (hb hby at_11) rfl (l' := #[.val (.int p0), .val (.int p1), .val (.int (0 : Int32)), .unset, .unset, .unset, .unset, .unset, .unset]) rfl k) ?_
    show own_GoW p e below s _ _ _ (s₁.setTop (mkF m 12 #[.val (.int p0), .val (.int p1), .val (.int (0 : Int32)), .unset, .unset, .unset, .unset, .unset, .unset] []))
    refine own_viaW (fun _ k => XS.iloadN X0.here hx rfl (hb hby at_12) rfl k) ?_
    show own_GoW p e below s _ _ _ (s₁.setTop (mkF m 13 #[.val (.int p0), .val (.int p1), .val (.int (0 : Int32)), .unset, .unset, .unset, .unset, .unset, .unset] [(.int p1)]))
    refine own_viaW (fun _ k => XS.iconst X0.here hx rfl (hb hby at_13) k) ?_
    show own_GoW p e below s _ _ _ (s₁.setTop (mkF m 14 #[.val (.int p0), .val (.int p1), .val (.int (0 : Int32)), .unset, .unset, .unset, .unset, .unset, .unset] [(.int (1 : Int32)), (.int p1)]))
    refine own_viaW (fun _ k => XS.iand X0.here hx rfl (hb hby at_14) rfl k) ?_
    rcases (own_and1 _ : (p1 &&& (1 : Int32)) = (0 : Int32) ∨ (p1 &&& (1 : Int32)) = (1 : Int32)) with hk3 | hk4
    · rw [hk3]
      show own_GoW p e below s _ _ _ (s₁.setTop (mkF m 15 #[.val (.int p0), .val (.int p1), .val (.int (0 : Int32)), .unset, .unset, .unset, .unset, .unset, .unset] [(.int (0 : Int32))]))
      refine own_viaW (fun _ k => XS.ifYes X0.here hx rfl (pc0 := 15) (pc' := 22) rfl (hb hby at_15) rfl ((if0 _ _).trans (teq (by decide : (0 : Int32) = (0 : Int32))).1) (by decide) (by decide) k) ?_
      show own_GoW p e below s _ _ _ (s₁.setTop (mkF m 22 #[.val (.int p0), .val (.int p1), .val (.int (0 : Int32)), .unset, .unset, .unset, .unset, .unset, .unset] []))
      refine own_viaW (fun _ k => XS.iconst X0.here hx rfl (hb hby at_22) k) ?_
      show own_GoW p e below s _ _ _ (s₁.setTop (mkF m 23 #[.val (.int p0), .val (.int p1), .val (.int (0 : Int32)), .unset, .unset, .unset, .unset, .unset, .unset] [(.int (0 : Int32))]))
      refine own_viaW (fun _ k => XS.istoreN X0.here hx rfl (hb hby at_23) rfl (l' := #[.val (.int p0), .val (.int p1), .val (.int (0 : Int32)), .val (.int (0 : Int32)), .unset, .unset, .unset, .unset, .unset]) rfl k) ?_
      show own_GoW p e below s _ _ _ (s₁.setTop (mkF m 24 #[.val (.int p0), .val (.int p1), .val (.int (0 : Int32)), .val (.int (0 : Int32)), .unset, .unset, .unset, .unset, .unset] []))
      refine own_viaW (fun _ k => XS.iloadN X0.here hx rfl (hb hby at_24) rfl k) ?_
      show own_GoW p e below s _ _ _ (s₁.setTop (mkF m 25 #[.val (.int p0), .val (.int p1), .val (.int (0 : Int32)), .val (.int (0 : Int32)), .unset, .unset, .unset, .unset, .unset] [(.int (0 : Int32))]))
      obtain ⟨_, _, ⟨T5, L5, k5, n5⟩, -, X5, ⟨Lc5, hQ5, l5, y5, z5⟩, st5⟩ := Jvm.LawKit.callS X0 hx (y := (⟨"com/example/bericht/bericht/selector/Truth", "of", "(Z)Lcom/example/bericht/bericht/selector/Truth;"⟩ : MethodName)) hown (mvT hZ (hw _ (List.mem_of_getElem? (i := 0) rfl))) (mvT hZ (hw _ (List.mem_of_getElem? (i := 1) rfl))) (mvT hZ (hw _ (List.mem_of_getElem? (i := 2) rfl))) (mvT hZ (hw _ (List.mem_of_getElem? (i := 3) rfl))) (by decide) (backOf (W := 0) (rm1_0 l Z a0 hw [] w0 w1 w2 h0 n0 Z0 K0 OL) hZ (hw _ (List.mem_of_getElem? (i := 3) rfl)) (hw _ (List.mem_of_getElem? (i := 2) rfl)) (by decide) (by decide)) (g := (mkF m 25 #[.val (.int p0), .val (.int p1), .val (.int (0 : Int32)), .val (.int (0 : Int32)), .unset, .unset, .unset, .unset, .unset] [(.int (0 : Int32))])) rfl (by rw [hml]; rfl) (argsL := [(.int (0 : Int32))]) (rest := []) (lenOf pd0 rfl) rfl (by show 2 * 0 + _ ≤ _; exact Nat.le_of_eq rfl) (hb hby at_25) (fun _ _ => ⟨rfl, e0, (by decide : 0 + 0 ≤ _), (by decide : 0 + 0 ≤ _)⟩)
      dsimp only [Pt.U, Pt.locs, Pt.cells, Pt.slots] at X5 l5 y5 z5 st5 hQ5
      subst l5 y5 z5
      obtain ⟨rfl, e5, hO5⟩ := hQ5
      obtain rfl := hO5
      refine own_viaW st5 ?_
      show own_GoW p e below s _ _ _ (T5.setTop (mkF m 28 #[.val (.int p0), .val (.int p1), .val (.int (0 : Int32)), .val (.int (0 : Int32)), .unset, .unset, .unset, .unset, .unset] [(.ref w0)]))
      refine own_viaW (fun _ k => XS.astore X5.here hx rfl (hb hby at_28) rfl rfl (l' := #[.val (.int p0), .val (.int p1), .val (.int (0 : Int32)), .val (.int (0 : Int32)), .val (.ref w0), .unset, .unset, .unset, .unset]) rfl k) ?_
      show own_GoW p e below s _ _ _ (T5.setTop (mkF m 30 #[.val (.int p0), .val (.int p1), .val (.int (0 : Int32)), .val (.int (0 : Int32)), .val (.ref w0), .unset, .unset, .unset, .unset] []))
      refine own_viaW (fun _ k => XS.iloadN X5.here hx rfl (hb hby at_30) rfl k) ?_
      show own_GoW p e below s _ _ _ (T5.setTop (mkF m 31 #[.val (.int p0), .val (.int p1), .val (.int (0 : Int32)), .val (.int (0 : Int32)), .val (.ref w0), .unset, .unset, .unset, .unset] [(.int (0 : Int32))]))
      obtain ⟨_, _, ⟨T6, L6, k6, n6⟩, -, X6, ⟨Lc6, hQ6, l6, y6, z6⟩, st6⟩ := Jvm.LawKit.callS X5 hx (y := (⟨"com/example/bericht/bericht/selector/Truth", "of", "(Z)Lcom/example/bericht/bericht/selector/Truth;"⟩ : MethodName)) hown (mvT hZ (hw _ (List.mem_of_getElem? (i := 0) rfl))) (mvT hZ (hw _ (List.mem_of_getElem? (i := 1) rfl))) (mvT hZ (hw _ (List.mem_of_getElem? (i := 2) rfl))) (mvT hZ (hw _ (List.mem_of_getElem? (i := 3) rfl))) (by decide) (backOf (W := 0) (rm1_0 l Z a0 hw [] w0 w1 w2 h0 n0 Z0 K0 OL) hZ (hw _ (List.mem_of_getElem? (i := 3) rfl)) (hw _ (List.mem_of_getElem? (i := 2) rfl)) (by decide) (by decide)) (g := (mkF m 31 #[.val (.int p0), .val (.int p1), .val (.int (0 : Int32)), .val (.int (0 : Int32)), .val (.ref w0), .unset, .unset, .unset, .unset] [(.int (0 : Int32))])) rfl (by rw [hml]; rfl) (argsL := [(.int (0 : Int32))]) (rest := []) (lenOf pd0 rfl) rfl (by show 2 * 0 + _ ≤ _; exact Nat.le_of_eq rfl) (hb hby at_31) (fun _ _ => ⟨rfl, e5, (by decide : 0 + 0 ≤ _), (by decide : 0 + 0 ≤ _)⟩)
      dsimp only [Pt.U, Pt.locs, Pt.cells, Pt.slots] at X6 l6 y6 z6 st6 hQ6
      subst l6 y6 z6
      obtain ⟨rfl, e6, hO6⟩ := hQ6
      obtain rfl := hO6
      refine own_viaW st6 ?_
      show own_GoW p e below s _ _ _ (T6.setTop (mkF m 34 #[.val (.int p0), .val (.int p1), .val (.int (0 : Int32)), .val (.int (0 : Int32)), .val (.ref w0), .unset, .unset, .unset, .unset] [(.ref w0)]))
      refine own_viaW (fun _ k => XS.astore X6.here hx rfl (hb hby at_34) rfl rfl (l' := #[.val (.int p0), .val (.int p1), .val (.int (0 : Int32)), .val (.int (0 : Int32)), .val (.ref w0), .val (.ref w0), .unset, .unset, .unset]) rfl k) ?_
      show own_GoW p e below s _ _ _ (T6.setTop (mkF m 36 #[.val (.int p0), .val (.int p1), .val (.int (0 : Int32)), .val (.int (0 : Int32)), .val (.ref w0), .val (.ref w0), .unset, .unset, .unset] []))
      refine own_viaW (fun _ k => XS.iloadN X6.here hx rfl (hb hby at_36) rfl k) ?_
      show own_GoW p e below s _ _ _ (T6.setTop (mkF m 37 #[.val (.int p0), .val (.int p1), .val (.int (0 : Int32)), .val (.int (0 : Int32)), .val (.ref w0), .val (.ref w0), .unset, .unset, .unset] [(.int (0 : Int32))]))
      refine own_viaW (fun _ k => XS.ifNo X6.here hx rfl (hb hby at_37) rfl ((if0 _ _).trans (teq (by decide : (0 : Int32) = (0 : Int32))).2) k) ?_
      show own_GoW p e below s _ _ _ (T6.setTop (mkF m 40 #[.val (.int p0), .val (.int p1), .val (.int (0 : Int32)), .val (.int (0 : Int32)), .val (.ref w0), .val (.ref w0), .unset, .unset, .unset] []))
      refine own_viaW (fun _ k => XS.iconst X6.here hx rfl (hb hby at_40) k) ?_
      show own_GoW p e below s _ _ _ (T6.setTop (mkF m 41 #[.val (.int p0), .val (.int p1), .val (.int (0 : Int32)), .val (.int (0 : Int32)), .val (.ref w0), .val (.ref w0), .unset, .unset, .unset] [(.int (1 : Int32))]))
      refine own_viaW (fun _ k => XS.goto X6.here hx rfl (pc0 := 41) (pc' := 45) rfl (hb hby at_41) (by decide) (by decide) k) ?_
      show own_GoW p e below s _ _ _ (T6.setTop (mkF m 45 #[.val (.int p0), .val (.int p1), .val (.int (0 : Int32)), .val (.int (0 : Int32)), .val (.ref w0), .val (.ref w0), .unset, .unset, .unset] [(.int (1 : Int32))]))
      obtain ⟨_, _, ⟨T7, L7, k7, n7⟩, -, X7, ⟨Lc7, hQ7, l7, y7, z7⟩, st7⟩ := Jvm.LawKit.callS X6 hx (y := (⟨"com/example/bericht/bericht/selector/Truth", "of", "(Z)Lcom/example/bericht/bericht/selector/Truth;"⟩ : MethodName)) hown (mvT hZ (hw _ (List.mem_of_getElem? (i := 0) rfl))) (mvT hZ (hw _ (List.mem_of_getElem? (i := 1) rfl))) (mvT hZ (hw _ (List.mem_of_getElem? (i := 2) rfl))) (mvT hZ (hw _ (List.mem_of_getElem? (i := 3) rfl))) (by decide) (backOf (W := 0) (rm1_1 l Z a0 hw [] w0 w1 w2 h0 n0 Z0 K0 OL) hZ (hw _ (List.mem_of_getElem? (i := 3) rfl)) (hw _ (List.mem_of_getElem? (i := 2) rfl)) (by decide) (by decide)) (g := (mkF m 45 #[.val (.int p0), .val (.int p1), .val (.int (0 : Int32)), .val (.int (0 : Int32)), .val (.ref w0), .val (.ref w0), .unset, .unset, .unset] [(.int (1 : Int32))])) rfl (by rw [hml]; rfl) (argsL := [(.int (1 : Int32))]) (rest := []) (lenOf pd0 rfl) rfl (by show 2 * 0 + _ ≤ _; exact Nat.le_of_eq rfl) (hb hby at_45) (fun _ _ => ⟨rfl, e6, (by decide : 0 + 0 ≤ _), (by decide : 0 + 0 ≤ _)⟩)
      dsimp only [Pt.U, Pt.locs, Pt.cells, Pt.slots] at X7 l7 y7 z7 st7 hQ7
      subst l7 y7 z7
      obtain ⟨rfl, e7, hO7⟩ := hQ7
      obtain rfl := hO7
      refine own_viaW st7 ?_
      show own_GoW p e below s _ _ _ (T7.setTop (mkF m 48 #[.val (.int p0), .val (.int p1), .val (.int (0 : Int32)), .val (.int (0 : Int32)), .val (.ref w0), .val (.ref w0), .unset, .unset, .unset] [(.ref w1)]))
      refine own_viaW (fun _ k => XS.astore X7.here hx rfl (hb hby at_48) rfl rfl (l' := #[.val (.int p0), .val (.int p1), .val (.int (0 : Int32)), .val (.int (0 : Int32)), .val (.ref w0), .val (.ref w0), .val (.ref w1), .unset, .unset]) rfl k) ?_
      show own_GoW p e below s _ _ _ (T7.setTop (mkF m 50 #[.val (.int p0), .val (.int p1), .val (.int (0 : Int32)), .val (.int (0 : Int32)), .val (.ref w0), .val (.ref w0), .val (.ref w1), .unset, .unset] []))
      refine own_viaW (fun _ k => XS.iloadN X7.here hx rfl (hb hby at_50) rfl k) ?_
      show own_GoW p e below s _ _ _ (T7.setTop (mkF m 51 #[.val (.int p0), .val (.int p1), .val (.int (0 : Int32)), .val (.int (0 : Int32)), .val (.ref w0), .val (.ref w0), .val (.ref w1), .unset, .unset] [(.int (0 : Int32))]))
      refine own_viaW (fun _ k => XS.ifYes X7.here hx rfl (pc0 := 51) (pc' := 62) rfl (hb hby at_51) rfl ((if0 _ _).trans (teq (by decide : (0 : Int32) = (0 : Int32))).1) (by decide) (by decide) k) ?_
      show own_GoW p e below s _ _ _ (T7.setTop (mkF m 62 #[.val (.int p0), .val (.int p1), .val (.int (0 : Int32)), .val (.int (0 : Int32)), .val (.ref w0), .val (.ref w0), .val (.ref w1), .unset, .unset] []))
      refine own_viaW (fun _ k => XS.iconst X7.here hx rfl (hb hby at_62) k) ?_
      show own_GoW p e below s _ _ _ (T7.setTop (mkF m 63 #[.val (.int p0), .val (.int p1), .val (.int (0 : Int32)), .val (.int (0 : Int32)), .val (.ref w0), .val (.ref w0), .val (.ref w1), .unset, .unset] [(.int (0 : Int32))]))
      obtain ⟨_, _, ⟨T8, L8, k8, n8⟩, -, X8, ⟨Lc8, hQ8, l8, y8, z8⟩, st8⟩ := Jvm.LawKit.callS X7 hx (y := (⟨"com/example/bericht/bericht/selector/Truth", "of", "(Z)Lcom/example/bericht/bericht/selector/Truth;"⟩ : MethodName)) hown (mvT hZ (hw _ (List.mem_of_getElem? (i := 0) rfl))) (mvT hZ (hw _ (List.mem_of_getElem? (i := 1) rfl))) (mvT hZ (hw _ (List.mem_of_getElem? (i := 2) rfl))) (mvT hZ (hw _ (List.mem_of_getElem? (i := 3) rfl))) (by decide) (backOf (W := 0) (rm1_0 l Z a0 hw [] w0 w1 w2 h0 n0 Z0 K0 OL) hZ (hw _ (List.mem_of_getElem? (i := 3) rfl)) (hw _ (List.mem_of_getElem? (i := 2) rfl)) (by decide) (by decide)) (g := (mkF m 63 #[.val (.int p0), .val (.int p1), .val (.int (0 : Int32)), .val (.int (0 : Int32)), .val (.ref w0), .val (.ref w0), .val (.ref w1), .unset, .unset] [(.int (0 : Int32))])) rfl (by rw [hml]; rfl) (argsL := [(.int (0 : Int32))]) (rest := []) (lenOf pd0 rfl) rfl (by show 2 * 0 + _ ≤ _; exact Nat.le_of_eq rfl) (hb hby at_63) (fun _ _ => ⟨rfl, e7, (by decide : 0 + 0 ≤ _), (by decide : 0 + 0 ≤ _)⟩)
      dsimp only [Pt.U, Pt.locs, Pt.cells, Pt.slots] at X8 l8 y8 z8 st8 hQ8
      subst l8 y8 z8
      obtain ⟨rfl, e8, hO8⟩ := hQ8
      obtain rfl := hO8
      refine own_viaW st8 ?_
      show own_GoW p e below s _ _ _ (T8.setTop (mkF m 66 #[.val (.int p0), .val (.int p1), .val (.int (0 : Int32)), .val (.int (0 : Int32)), .val (.ref w0), .val (.ref w0), .val (.ref w1), .unset, .unset] [(.ref w0)]))
      refine own_viaW (fun _ k => XS.astore X8.here hx rfl (hb hby at_66) rfl rfl (l' := #[.val (.int p0), .val (.int p1), .val (.int (0 : Int32)), .val (.int (0 : Int32)), .val (.ref w0), .val (.ref w0), .val (.ref w1), .val (.ref w0), .unset]) rfl k) ?_
      show own_GoW p e below s _ _ _ (T8.setTop (mkF m 68 #[.val (.int p0), .val (.int p1), .val (.int (0 : Int32)), .val (.int (0 : Int32)), .val (.ref w0), .val (.ref w0), .val (.ref w1), .val (.ref w0), .unset] []))
      refine own_viaW (fun _ k => XS.iloadN X8.here hx rfl (hb hby at_68) rfl k) ?_
      show own_GoW p e below s _ _ _ (T8.setTop (mkF m 69 #[.val (.int p0), .val (.int p1), .val (.int (0 : Int32)), .val (.int (0 : Int32)), .val (.ref w0), .val (.ref w0), .val (.ref w1), .val (.ref w0), .unset] [(.int (0 : Int32))]))
      refine own_viaW (fun _ k => XS.ifNo X8.here hx rfl (hb hby at_69) rfl ((if0 _ _).trans (teq (by decide : (0 : Int32) = (0 : Int32))).2) k) ?_
      show own_GoW p e below s _ _ _ (T8.setTop (mkF m 72 #[.val (.int p0), .val (.int p1), .val (.int (0 : Int32)), .val (.int (0 : Int32)), .val (.ref w0), .val (.ref w0), .val (.ref w1), .val (.ref w0), .unset] []))
      refine own_viaW (fun _ k => XS.iloadN X8.here hx rfl (hb hby at_72) rfl k) ?_
      show own_GoW p e below s _ _ _ (T8.setTop (mkF m 73 #[.val (.int p0), .val (.int p1), .val (.int (0 : Int32)), .val (.int (0 : Int32)), .val (.ref w0), .val (.ref w0), .val (.ref w1), .val (.ref w0), .unset] [(.int (0 : Int32))]))
      refine own_viaW (fun _ k => XS.ifYes X8.here hx rfl (pc0 := 73) (pc' := 80) rfl (hb hby at_73) rfl ((if0 _ _).trans (teq (by decide : (0 : Int32) = (0 : Int32))).1) (by decide) (by decide) k) ?_
      show own_GoW p e below s _ _ _ (T8.setTop (mkF m 80 #[.val (.int p0), .val (.int p1), .val (.int (0 : Int32)), .val (.int (0 : Int32)), .val (.ref w0), .val (.ref w0), .val (.ref w1), .val (.ref w0), .unset] []))
      refine own_viaW (fun _ k => XS.iconst X8.here hx rfl (hb hby at_80) k) ?_
      show own_GoW p e below s _ _ _ (T8.setTop (mkF m 81 #[.val (.int p0), .val (.int p1), .val (.int (0 : Int32)), .val (.int (0 : Int32)), .val (.ref w0), .val (.ref w0), .val (.ref w1), .val (.ref w0), .unset] [(.int (0 : Int32))]))
      obtain ⟨_, _, ⟨T9, L9, k9, n9⟩, -, X9, ⟨Lc9, hQ9, l9, y9, z9⟩, st9⟩ := Jvm.LawKit.callS X8 hx (y := (⟨"com/example/bericht/bericht/selector/Truth", "of", "(Z)Lcom/example/bericht/bericht/selector/Truth;"⟩ : MethodName)) hown (mvT hZ (hw _ (List.mem_of_getElem? (i := 0) rfl))) (mvT hZ (hw _ (List.mem_of_getElem? (i := 1) rfl))) (mvT hZ (hw _ (List.mem_of_getElem? (i := 2) rfl))) (mvT hZ (hw _ (List.mem_of_getElem? (i := 3) rfl))) (by decide) (backOf (W := 0) (rm1_0 l Z a0 hw [] w0 w1 w2 h0 n0 Z0 K0 OL) hZ (hw _ (List.mem_of_getElem? (i := 3) rfl)) (hw _ (List.mem_of_getElem? (i := 2) rfl)) (by decide) (by decide)) (g := (mkF m 81 #[.val (.int p0), .val (.int p1), .val (.int (0 : Int32)), .val (.int (0 : Int32)), .val (.ref w0), .val (.ref w0), .val (.ref w1), .val (.ref w0), .unset] [(.int (0 : Int32))])) rfl (by rw [hml]; rfl) (argsL := [(.int (0 : Int32))]) (rest := []) (lenOf pd0 rfl) rfl (by show 2 * 0 + _ ≤ _; exact Nat.le_of_eq rfl) (hb hby at_81) (fun _ _ => ⟨rfl, e8, (by decide : 0 + 0 ≤ _), (by decide : 0 + 0 ≤ _)⟩)
      dsimp only [Pt.U, Pt.locs, Pt.cells, Pt.slots] at X9 l9 y9 z9 st9 hQ9
      subst l9 y9 z9
      obtain ⟨rfl, e9, hO9⟩ := hQ9
      obtain rfl := hO9
      refine own_viaW st9 ?_
      show own_GoW p e below s _ _ _ (T9.setTop (mkF m 84 #[.val (.int p0), .val (.int p1), .val (.int (0 : Int32)), .val (.int (0 : Int32)), .val (.ref w0), .val (.ref w0), .val (.ref w1), .val (.ref w0), .unset] [(.ref w0)]))
      refine own_viaW (fun _ k => XS.astore X9.here hx rfl (hb hby at_84) rfl rfl (l' := #[.val (.int p0), .val (.int p1), .val (.int (0 : Int32)), .val (.int (0 : Int32)), .val (.ref w0), .val (.ref w0), .val (.ref w1), .val (.ref w0), .val (.ref w0)]) rfl k) ?_
      show own_GoW p e below s _ _ _ (T9.setTop (mkF m 86 #[.val (.int p0), .val (.int p1), .val (.int (0 : Int32)), .val (.int (0 : Int32)), .val (.ref w0), .val (.ref w0), .val (.ref w1), .val (.ref w0), .val (.ref w0)] []))
      refine own_viaW (fun _ k => XS.aload X9.here hx rfl (hb hby at_86) rfl rfl k) ?_
      show own_GoW p e below s _ _ _ (T9.setTop (mkF m 88 #[.val (.int p0), .val (.int p1), .val (.int (0 : Int32)), .val (.int (0 : Int32)), .val (.ref w0), .val (.ref w0), .val (.ref w1), .val (.ref w0), .val (.ref w0)] [(.ref w0)]))
      refine own_viaW (fun _ k => XS.ifnullNo X9.here hx rfl (hb hby at_88) rfl k) ?_
      show own_GoW p e below s _ _ _ (T9.setTop (mkF m 91 #[.val (.int p0), .val (.int p1), .val (.int (0 : Int32)), .val (.int (0 : Int32)), .val (.ref w0), .val (.ref w0), .val (.ref w1), .val (.ref w0), .val (.ref w0)] []))
      refine own_viaW (fun _ k => XS.aload X9.here hx rfl (hb hby at_91) rfl rfl k) ?_
      show own_GoW p e below s _ _ _ (T9.setTop (mkF m 93 #[.val (.int p0), .val (.int p1), .val (.int (0 : Int32)), .val (.int (0 : Int32)), .val (.ref w0), .val (.ref w0), .val (.ref w1), .val (.ref w0), .val (.ref w0)] [(.ref w0)]))
      refine own_viaW (fun _ k => XS.ifnonnullYes X9.here hx rfl (pc0 := 93) (pc' := 98) rfl (hb hby at_93) rfl (by decide) (by decide) k) ?_
      show own_GoW p e below s _ _ _ (T9.setTop (mkF m 98 #[.val (.int p0), .val (.int p1), .val (.int (0 : Int32)), .val (.int (0 : Int32)), .val (.ref w0), .val (.ref w0), .val (.ref w1), .val (.ref w0), .val (.ref w0)] []))
      refine own_viaW (fun _ k => XS.aload X9.here hx rfl (hb hby at_98) rfl rfl k) ?_
      show own_GoW p e below s _ _ _ (T9.setTop (mkF m 100 #[.val (.int p0), .val (.int p1), .val (.int (0 : Int32)), .val (.int (0 : Int32)), .val (.ref w0), .val (.ref w0), .val (.ref w1), .val (.ref w0), .val (.ref w0)] [(.ref w0)]))
      obtain ⟨T10, X10, e10, st10⟩ := getS2 X9 hx hZ hown (host := "") (Or.inl (hw _ (List.mem_of_getElem? (i := 8) rfl))) Via.refl e9 (S_w2.ext OL.2) (g := (mkF m 100 #[.val (.int p0), .val (.int p1), .val (.int (0 : Int32)), .val (.int (0 : Int32)), .val (.ref w0), .val (.ref w0), .val (.ref w1), .val (.ref w0), .val (.ref w0)] [(.ref w0)])) rfl (hb hby at_100)
      refine own_viaW st10 ?_
      show own_GoW p e below s _ _ _ (T10.setTop (mkF m 103 #[.val (.int p0), .val (.int p1), .val (.int (0 : Int32)), .val (.int (0 : Int32)), .val (.ref w0), .val (.ref w0), .val (.ref w1), .val (.ref w0), .val (.ref w0)] [(.ref w2), (.ref w0)]))
      refine own_viaW (fun _ k => Jvm.RoadKit.acmp (g := (mkF m 103 #[.val (.int p0), .val (.int p1), .val (.int (0 : Int32)), .val (.int (0 : Int32)), .val (.ref w0), .val (.ref w0), .val (.ref w1), .val (.ref w0), .val (.ref w0)] [(.ref w2), (.ref w0)])) X10 hx rfl rfl rfl (pc0 := 103) (pc' := 108) (same := false) rfl (hb hby at_103) rfl (decide_eq_false fun q => n_w0_w2 (Value.ref.inj q)) (by decide) (by decide) k) ?_
      show own_GoW p e below s _ _ _ (T10.setTop (mkF m 108 #[.val (.int p0), .val (.int p1), .val (.int (0 : Int32)), .val (.int (0 : Int32)), .val (.ref w0), .val (.ref w0), .val (.ref w1), .val (.ref w0), .val (.ref w0)] []))
      refine own_viaW (fun _ k => XS.aload X10.here hx rfl (hb hby at_108) rfl rfl k) ?_
      show own_GoW p e below s _ _ _ (T10.setTop (mkF m 110 #[.val (.int p0), .val (.int p1), .val (.int (0 : Int32)), .val (.int (0 : Int32)), .val (.ref w0), .val (.ref w0), .val (.ref w1), .val (.ref w0), .val (.ref w0)] [(.ref w0)]))
      obtain ⟨T11, X11, e11, st11⟩ := getS2 X10 hx hZ hown (host := "") (Or.inl (hw _ (List.mem_of_getElem? (i := 10) rfl))) Via.refl e10 (S_w1.ext OL.2) (g := (mkF m 110 #[.val (.int p0), .val (.int p1), .val (.int (0 : Int32)), .val (.int (0 : Int32)), .val (.ref w0), .val (.ref w0), .val (.ref w1), .val (.ref w0), .val (.ref w0)] [(.ref w0)])) rfl (hb hby at_110)
      refine own_viaW st11 ?_
      show own_GoW p e below s _ _ _ (T11.setTop (mkF m 113 #[.val (.int p0), .val (.int p1), .val (.int (0 : Int32)), .val (.int (0 : Int32)), .val (.ref w0), .val (.ref w0), .val (.ref w1), .val (.ref w0), .val (.ref w0)] [(.ref w1), (.ref w0)]))
      refine own_viaW (fun _ k => Jvm.RoadKit.acmp (g := (mkF m 113 #[.val (.int p0), .val (.int p1), .val (.int (0 : Int32)), .val (.int (0 : Int32)), .val (.ref w0), .val (.ref w0), .val (.ref w1), .val (.ref w0), .val (.ref w0)] [(.ref w1), (.ref w0)])) X11 hx rfl rfl rfl (pc0 := 113) (pc' := 120) (same := false) rfl (hb hby at_113) rfl (decide_eq_false fun q => n_w0_w1 (Value.ref.inj q)) (by decide) (by decide) k) ?_
      show own_GoW p e below s _ _ _ (T11.setTop (mkF m 120 #[.val (.int p0), .val (.int p1), .val (.int (0 : Int32)), .val (.int (0 : Int32)), .val (.ref w0), .val (.ref w0), .val (.ref w1), .val (.ref w0), .val (.ref w0)] []))
      refine own_viaW (fun _ k => XS.iconst X11.here hx rfl (hb hby at_120) k) ?_
      show own_GoW p e below s _ _ _ (T11.setTop (mkF m 121 #[.val (.int p0), .val (.int p1), .val (.int (0 : Int32)), .val (.int (0 : Int32)), .val (.ref w0), .val (.ref w0), .val (.ref w1), .val (.ref w0), .val (.ref w0)] [(.int (0 : Int32))]))
      refine own_viaW (fun _ k => XS.iloadN X11.here hx rfl (hb hby at_121) rfl k) ?_
      show own_GoW p e below s _ _ _ (T11.setTop (mkF m 122 #[.val (.int p0), .val (.int p1), .val (.int (0 : Int32)), .val (.int (0 : Int32)), .val (.ref w0), .val (.ref w0), .val (.ref w1), .val (.ref w0), .val (.ref w0)] [(.int (0 : Int32)), (.int (0 : Int32))]))
      refine own_viaW (fun _ k => XS.icmpYes X11.here hx rfl (pc0 := 122) (pc' := 127) rfl (hb hby at_122) rfl (teq (by decide : (0 : Int32) = (0 : Int32))).1 (by decide) (by decide) k) ?_
      show own_GoW p e below s _ _ _ (T11.setTop (mkF m 127 #[.val (.int p0), .val (.int p1), .val (.int (0 : Int32)), .val (.int (0 : Int32)), .val (.ref w0), .val (.ref w0), .val (.ref w1), .val (.ref w0), .val (.ref w0)] []))
      refine own_viaW (fun _ k => XS.aload X11.here hx rfl (hb hby at_127) rfl rfl k) ?_
      show own_GoW p e below s _ _ _ (T11.setTop (mkF m 129 #[.val (.int p0), .val (.int p1), .val (.int (0 : Int32)), .val (.int (0 : Int32)), .val (.ref w0), .val (.ref w0), .val (.ref w1), .val (.ref w0), .val (.ref w0)] [(.ref w0)]))
      obtain ⟨cq12, kq12, q12a, q12b, q12c⟩ := isOf hZ e11 (E_w0.ext OL.2)
      obtain ⟨_, _, ⟨T12, L12, k12, n12⟩, -, X12, ⟨Lc12, hQ12, l12, y12, z12⟩, st12⟩ := X11.virtualBack hx (y := (⟨"com/example/bericht/bericht/selector/Truth", "not", "()Lcom/example/bericht/bericht/selector/Truth;"⟩ : MethodName)) (z := (⟨"com/example/bericht/bericht/selector/Truth", "not", "()Lcom/example/bericht/bericht/selector/Truth;"⟩ : MethodName)) hown (mvT hZ (hw _ (List.mem_of_getElem? (i := 11) rfl))) (mvT hZ (hw _ (List.mem_of_getElem? (i := 12) rfl))) (notFace_of_selects (args := #[]) (mvT hZ (hw _ (List.mem_of_getElem? (i := 14) rfl)))) (mvT hZ (hw _ (List.mem_of_getElem? (i := 14) rfl))) (mvT hZ (hw _ (List.mem_of_getElem? (i := 13) rfl))) (by decide) (backOf (W := 0) (rm2_0 l Z a0 hw [] w0 w1 w2 h0 n0 Z0 K0 OL) hZ (hw _ (List.mem_of_getElem? (i := 15) rfl)) (hw _ (List.mem_of_getElem? (i := 2) rfl)) (by decide) (by decide)) q12a q12c (g := (mkF m 129 #[.val (.int p0), .val (.int p1), .val (.int (0 : Int32)), .val (.int (0 : Int32)), .val (.ref w0), .val (.ref w0), .val (.ref w1), .val (.ref w0), .val (.ref w0)] [(.ref w0)])) rfl (by rw [hml]; rfl) (Steps.refl _) (argsL := []) (rest := []) (lenOf pd2 rfl) rfl (by show 2 * 0 + _ ≤ _; exact Nat.le_of_eq rfl) (hb hby at_129) (fun _ _ => ⟨rfl, e11, (by decide : 0 + 0 ≤ _), (by decide : 0 + 0 ≤ _)⟩)
      dsimp only [Pt.U, Pt.locs, Pt.cells, Pt.slots] at X12 l12 y12 z12 st12 hQ12
      subst l12 y12 z12
      obtain ⟨rfl, e12, hO12⟩ := hQ12
      obtain rfl := hO12
      refine own_trW st12 ?_
      show own_GoW p e below s _ _ _ (T12.setTop (mkF m 132 #[.val (.int p0), .val (.int p1), .val (.int (0 : Int32)), .val (.int (0 : Int32)), .val (.ref w0), .val (.ref w0), .val (.ref w1), .val (.ref w0), .val (.ref w0)] [(.ref w1)]))
      refine own_viaW (fun _ k => XS.aload X12.here hx rfl (hb hby at_132) rfl rfl k) ?_
      show own_GoW p e below s _ _ _ (T12.setTop (mkF m 134 #[.val (.int p0), .val (.int p1), .val (.int (0 : Int32)), .val (.int (0 : Int32)), .val (.ref w0), .val (.ref w0), .val (.ref w1), .val (.ref w0), .val (.ref w0)] [(.ref w1), (.ref w1)]))
      refine own_viaW (fun _ k => Jvm.RoadKit.acmp (g := (mkF m 134 #[.val (.int p0), .val (.int p1), .val (.int (0 : Int32)), .val (.int (0 : Int32)), .val (.ref w0), .val (.ref w0), .val (.ref w1), .val (.ref w0), .val (.ref w0)] [(.ref w1), (.ref w1)])) X12 hx rfl rfl rfl (pc0 := 134) (pc' := 139) (same := true) rfl (hb hby at_134) rfl (decide_eq_true rfl) (by decide) (by decide) k) ?_
      show own_GoW p e below s _ _ _ (T12.setTop (mkF m 139 #[.val (.int p0), .val (.int p1), .val (.int (0 : Int32)), .val (.int (0 : Int32)), .val (.ref w0), .val (.ref w0), .val (.ref w1), .val (.ref w0), .val (.ref w0)] []))
      refine own_viaW (fun _ k => XS.aload X12.here hx rfl (hb hby at_139) rfl rfl k) ?_
      show own_GoW p e below s _ _ _ (T12.setTop (mkF m 141 #[.val (.int p0), .val (.int p1), .val (.int (0 : Int32)), .val (.int (0 : Int32)), .val (.ref w0), .val (.ref w0), .val (.ref w1), .val (.ref w0), .val (.ref w0)] [(.ref w0)]))
      refine own_viaW (fun _ k => XS.aload X12.here hx rfl (hb hby at_141) rfl rfl k) ?_
      show own_GoW p e below s _ _ _ (T12.setTop (mkF m 143 #[.val (.int p0), .val (.int p1), .val (.int (0 : Int32)), .val (.int (0 : Int32)), .val (.ref w0), .val (.ref w0), .val (.ref w1), .val (.ref w0), .val (.ref w0)] [(.ref w0), (.ref w0)]))
      obtain ⟨cq13, kq13, q13a, q13b, q13c⟩ := isOf hZ e12 (E_w0.ext OL.2)
      obtain ⟨_, _, ⟨T13, L13, k13, n13⟩, -, X13, hS13, hg13, ⟨Lc13, hQ13, l13, y13, z13⟩, st13⟩ := X12.virtualBackS hx (y := (⟨"com/example/bericht/bericht/selector/Truth", "and", "(Lcom/example/bericht/bericht/selector/Truth;)Lcom/example/bericht/bericht/selector/Truth;"⟩ : MethodName)) (z := (⟨"com/example/bericht/bericht/selector/Truth", "and", "(Lcom/example/bericht/bericht/selector/Truth;)Lcom/example/bericht/bericht/selector/Truth;"⟩ : MethodName)) hown (mvT hZ (hw _ (List.mem_of_getElem? (i := 25) rfl))) (mvT hZ (hw _ (List.mem_of_getElem? (i := 26) rfl))) (notFace_of_selects (args := #[]) (mvT hZ (hw _ (List.mem_of_getElem? (i := 28) rfl)))) (mvT hZ (hw _ (List.mem_of_getElem? (i := 28) rfl))) (mvT hZ (hw _ (List.mem_of_getElem? (i := 27) rfl))) (by decide) (backOfS (W := 0) (rm4_0 l Z a0 hw [] w0 w1 w2 h0 n0 Z0 K0 OL) hZ (hw _ (List.mem_of_getElem? (i := 29) rfl)) (hw _ (List.mem_of_getElem? (i := 2) rfl)) (by decide) (by decide)) q13a q13c (g := (mkF m 143 #[.val (.int p0), .val (.int p1), .val (.int (0 : Int32)), .val (.int (0 : Int32)), .val (.ref w0), .val (.ref w0), .val (.ref w1), .val (.ref w0), .val (.ref w0)] [(.ref w0), (.ref w0)])) rfl (by rw [hml]; rfl) (Steps.refl _) (argsL := [(.ref w0)]) (rest := []) (lenOf pd4 rfl) rfl (by show 2 * 0 + _ ≤ _; exact Nat.le_of_eq rfl) (hb hby at_143) (fun _ _ => ⟨rfl, e12, (by decide : 0 + 2 ≤ _), (by decide : 0 + 24 ≤ _)⟩)
      dsimp only [Pt.U, Pt.locs, Pt.cells, Pt.slots] at X13 l13 y13 z13 st13 hQ13 hS13 hg13
      subst l13 y13 z13
      have X13 : Stand p l e _ (s.setVm T13.vm) _ _ _ _ _ _ _ _ _ := X13
      have hS := foldS hS (by rw [e12]; exact hk) hS13 hg13
      have hown : (s.setVm T13.vm).vm.findClass "com/example/bericht/bericht/selector/TruthOfPinLaw" = some m.cls := by rw [show (s.setVm T13.vm).vm = T13.vm from rfl, hS13.1.alike.findClass]; exact hown
      have hZ : Z.Warmed39 (s.setVm T13.vm).vm := State.Warmed39.trans (t := s.setVm s.vm) hZ hS13.1
      have hk : T13.heap.size ≤ T13.heap.size := Nat.le_refl _
      obtain ⟨NQ13, OL, Z0, hO13⟩ := hQ13
      obtain rfl := hO13
      refine own_trW st13 ?_
      show own_GoW p e below s _ _ _ (T13.setTop (mkF m 146 #[.val (.int p0), .val (.int p1), .val (.int (0 : Int32)), .val (.int (0 : Int32)), .val (.ref w0), .val (.ref w0), .val (.ref w1), .val (.ref w0), .val (.ref w0)] [(.ref w0)]))
      refine own_viaW (fun _ k => XS.aload X13.here hx rfl (hb hby at_146) rfl rfl k) ?_
      show own_GoW p e below s _ _ _ (T13.setTop (mkF m 148 #[.val (.int p0), .val (.int p1), .val (.int (0 : Int32)), .val (.int (0 : Int32)), .val (.ref w0), .val (.ref w0), .val (.ref w1), .val (.ref w0), .val (.ref w0)] [(.ref w0), (.ref w0)]))
      refine own_viaW (fun _ k => Jvm.RoadKit.acmp (g := (mkF m 148 #[.val (.int p0), .val (.int p1), .val (.int (0 : Int32)), .val (.int (0 : Int32)), .val (.ref w0), .val (.ref w0), .val (.ref w1), .val (.ref w0), .val (.ref w0)] [(.ref w0), (.ref w0)])) X13 hx rfl rfl rfl (pc0 := 148) (pc' := 153) (same := true) rfl (hb hby at_148) rfl (decide_eq_true rfl) (by decide) (by decide) k) ?_
      show own_GoW p e below s _ _ _ (T13.setTop (mkF m 153 #[.val (.int p0), .val (.int p1), .val (.int (0 : Int32)), .val (.int (0 : Int32)), .val (.ref w0), .val (.ref w0), .val (.ref w1), .val (.ref w0), .val (.ref w0)] []))
      refine own_viaW (fun _ k => XS.aload X13.here hx rfl (hb hby at_153) rfl rfl k) ?_
      show own_GoW p e below s _ _ _ (T13.setTop (mkF m 155 #[.val (.int p0), .val (.int p1), .val (.int (0 : Int32)), .val (.int (0 : Int32)), .val (.ref w0), .val (.ref w0), .val (.ref w1), .val (.ref w0), .val (.ref w0)] [(.ref w0)]))
      refine own_viaW (fun _ k => XS.aload X13.here hx rfl (hb hby at_155) rfl rfl k) ?_
      show own_GoW p e below s _ _ _ (T13.setTop (mkF m 157 #[.val (.int p0), .val (.int p1), .val (.int (0 : Int32)), .val (.int (0 : Int32)), .val (.ref w0), .val (.ref w0), .val (.ref w1), .val (.ref w0), .val (.ref w0)] [(.ref w0), (.ref w0)]))
      obtain ⟨cq14, kq14, q14a, q14b, q14c⟩ := isOf hZ rfl (E_w0.ext OL.2)
      obtain ⟨_, _, ⟨T14, L14, k14, n14⟩, -, X14, hS14, hg14, ⟨Lc14, hQ14, l14, y14, z14⟩, st14⟩ := X13.virtualBackS hx (y := (⟨"com/example/bericht/bericht/selector/Truth", "or", "(Lcom/example/bericht/bericht/selector/Truth;)Lcom/example/bericht/bericht/selector/Truth;"⟩ : MethodName)) (z := (⟨"com/example/bericht/bericht/selector/Truth", "or", "(Lcom/example/bericht/bericht/selector/Truth;)Lcom/example/bericht/bericht/selector/Truth;"⟩ : MethodName)) hown (mvT hZ (hw _ (List.mem_of_getElem? (i := 42) rfl))) (mvT hZ (hw _ (List.mem_of_getElem? (i := 43) rfl))) (notFace_of_selects (args := #[]) (mvT hZ (hw _ (List.mem_of_getElem? (i := 45) rfl)))) (mvT hZ (hw _ (List.mem_of_getElem? (i := 45) rfl))) (mvT hZ (hw _ (List.mem_of_getElem? (i := 44) rfl))) (by decide) (backOfS (W := 0) (rm6_0 l Z a0 hw [] w0 w1 w2 T13.heap n0 Z0 K0 OL) hZ (hw _ (List.mem_of_getElem? (i := 46) rfl)) (hw _ (List.mem_of_getElem? (i := 2) rfl)) (by decide) (by decide)) q14a q14c (g := (mkF m 157 #[.val (.int p0), .val (.int p1), .val (.int (0 : Int32)), .val (.int (0 : Int32)), .val (.ref w0), .val (.ref w0), .val (.ref w1), .val (.ref w0), .val (.ref w0)] [(.ref w0), (.ref w0)])) rfl (by rw [hml]; rfl) (Steps.refl _) (argsL := [(.ref w0)]) (rest := []) (lenOf pd4 rfl) rfl (by show 2 * 0 + _ ≤ _; exact Nat.le_of_eq rfl) (hb hby at_157) (fun _ _ => ⟨rfl, rfl, (by decide : 0 + 2 + 2 ≤ _), (by decide : 0 + 24 + 24 ≤ _)⟩)
      dsimp only [Pt.U, Pt.locs, Pt.cells, Pt.slots] at X14 l14 y14 z14 st14 hQ14 hS14 hg14
      subst l14 y14 z14
      have X14 : Stand p l e _ (s.setVm T14.vm) _ _ _ _ _ _ _ _ _ := X14
      have hS := foldS hS hk hS14 hg14
      have hown : (s.setVm T14.vm).vm.findClass "com/example/bericht/bericht/selector/TruthOfPinLaw" = some m.cls := by rw [show (s.setVm T14.vm).vm = T14.vm from rfl, hS14.1.alike.findClass]; exact hown
      have hZ : Z.Warmed39 (s.setVm T14.vm).vm := State.Warmed39.trans (t := s.setVm T13.vm) hZ hS14.1
      have hk : T14.heap.size ≤ T14.heap.size := Nat.le_refl _
      obtain ⟨NQ14, OL, Z0, hO14⟩ := hQ14
      obtain rfl := hO14
      refine own_trW st14 ?_
      show own_GoW p e below s _ _ _ (T14.setTop (mkF m 160 #[.val (.int p0), .val (.int p1), .val (.int (0 : Int32)), .val (.int (0 : Int32)), .val (.ref w0), .val (.ref w0), .val (.ref w1), .val (.ref w0), .val (.ref w0)] [(.ref w0)]))
      refine own_viaW (fun _ k => XS.aload X14.here hx rfl (hb hby at_160) rfl rfl k) ?_
      show own_GoW p e below s _ _ _ (T14.setTop (mkF m 162 #[.val (.int p0), .val (.int p1), .val (.int (0 : Int32)), .val (.int (0 : Int32)), .val (.ref w0), .val (.ref w0), .val (.ref w1), .val (.ref w0), .val (.ref w0)] [(.ref w0), (.ref w0)]))
      refine own_viaW (fun _ k => Jvm.RoadKit.acmp (g := (mkF m 162 #[.val (.int p0), .val (.int p1), .val (.int (0 : Int32)), .val (.int (0 : Int32)), .val (.ref w0), .val (.ref w0), .val (.ref w1), .val (.ref w0), .val (.ref w0)] [(.ref w0), (.ref w0)])) X14 hx rfl rfl rfl (pc0 := 162) (pc' := 167) (same := true) rfl (hb hby at_162) rfl (decide_eq_true rfl) (by decide) (by decide) k) ?_
      show own_GoW p e below s _ _ _ (T14.setTop (mkF m 167 #[.val (.int p0), .val (.int p1), .val (.int (0 : Int32)), .val (.int (0 : Int32)), .val (.ref w0), .val (.ref w0), .val (.ref w1), .val (.ref w0), .val (.ref w0)] []))
      refine own_viaW (fun _ k => XS.iconst X14.here hx rfl (hb hby at_167) k) ?_
      show own_GoW p e below s _ _ _ (T14.setTop (mkF m 168 #[.val (.int p0), .val (.int p1), .val (.int (0 : Int32)), .val (.int (0 : Int32)), .val (.ref w0), .val (.ref w0), .val (.ref w1), .val (.ref w0), .val (.ref w0)] [(.int (1 : Int32))]))
      exact own_retZW X14 hS hk hx hlk (t := .boolean) Bd.returns (by simp) (hb hby at_168) (z' := (1 : Int32)) (by first | rfl | decide) ⟨rfl, (Fr.app (Fr.app (Fr.app (Fr.app (Fr.app (Fr.app (Fr.app (Fr.app (Fr.nil n0) (Fr.nil n0)) (Fr.nil n0)) (Fr.nil n0)) (Fr.nil n0)) (Fr.nil n0)) (Fr.nil n0)) NQ13) NQ14)⟩ (by decide) (by decide)
    · rw [hk4]
      show own_GoW p e below s _ _ _ (s₁.setTop (mkF m 15 #[.val (.int p0), .val (.int p1), .val (.int (0 : Int32)), .unset, .unset, .unset, .unset, .unset, .unset] [(.int (1 : Int32))]))
      refine own_viaW (fun _ k => XS.ifNo X0.here hx rfl (hb hby at_15) rfl ((if0 _ _).trans (feq (by decide : ¬ ((1 : Int32) = (0 : Int32)))).1) k) ?_
      show own_GoW p e below s _ _ _ (s₁.setTop (mkF m 18 #[.val (.int p0), .val (.int p1), .val (.int (0 : Int32)), .unset, .unset, .unset, .unset, .unset, .unset] []))
      refine own_viaW (fun _ k => XS.iconst X0.here hx rfl (hb hby at_18) k) ?_
      show own_GoW p e below s _ _ _ (s₁.setTop (mkF m 19 #[.val (.int p0), .val (.int p1), .val (.int (0 : Int32)), .unset, .unset, .unset, .unset, .unset, .unset] [(.int (1 : Int32))]))
      refine own_viaW (fun _ k => XS.goto X0.here hx rfl (pc0 := 19) (pc' := 23) rfl (hb hby at_19) (by decide) (by decide) k) ?_
      show own_GoW p e below s _ _ _ (s₁.setTop (mkF m 23 #[.val (.int p0), .val (.int p1), .val (.int (0 : Int32)), .unset, .unset, .unset, .unset, .unset, .unset] [(.int (1 : Int32))]))
      refine own_viaW (fun _ k => XS.istoreN X0.here hx rfl (hb hby at_23) rfl (l' := #[.val (.int p0), .val (.int p1), .val (.int (0 : Int32)), .val (.int (1 : Int32)), .unset, .unset, .unset, .unset, .unset]) rfl k) ?_
      show own_GoW p e below s _ _ _ (s₁.setTop (mkF m 24 #[.val (.int p0), .val (.int p1), .val (.int (0 : Int32)), .val (.int (1 : Int32)), .unset, .unset, .unset, .unset, .unset] []))
      refine own_viaW (fun _ k => XS.iloadN X0.here hx rfl (hb hby at_24) rfl k) ?_
      show own_GoW p e below s _ _ _ (s₁.setTop (mkF m 25 #[.val (.int p0), .val (.int p1), .val (.int (0 : Int32)), .val (.int (1 : Int32)), .unset, .unset, .unset, .unset, .unset] [(.int (0 : Int32))]))
      obtain ⟨_, _, ⟨T15, L15, k15, n15⟩, -, X15, ⟨Lc15, hQ15, l15, y15, z15⟩, st15⟩ := Jvm.LawKit.callS X0 hx (y := (⟨"com/example/bericht/bericht/selector/Truth", "of", "(Z)Lcom/example/bericht/bericht/selector/Truth;"⟩ : MethodName)) hown (mvT hZ (hw _ (List.mem_of_getElem? (i := 0) rfl))) (mvT hZ (hw _ (List.mem_of_getElem? (i := 1) rfl))) (mvT hZ (hw _ (List.mem_of_getElem? (i := 2) rfl))) (mvT hZ (hw _ (List.mem_of_getElem? (i := 3) rfl))) (by decide) (backOf (W := 0) (rm1_0 l Z a0 hw [] w0 w1 w2 h0 n0 Z0 K0 OL) hZ (hw _ (List.mem_of_getElem? (i := 3) rfl)) (hw _ (List.mem_of_getElem? (i := 2) rfl)) (by decide) (by decide)) (g := (mkF m 25 #[.val (.int p0), .val (.int p1), .val (.int (0 : Int32)), .val (.int (1 : Int32)), .unset, .unset, .unset, .unset, .unset] [(.int (0 : Int32))])) rfl (by rw [hml]; rfl) (argsL := [(.int (0 : Int32))]) (rest := []) (lenOf pd0 rfl) rfl (by show 2 * 0 + _ ≤ _; exact Nat.le_of_eq rfl) (hb hby at_25) (fun _ _ => ⟨rfl, e0, (by decide : 0 + 0 ≤ _), (by decide : 0 + 0 ≤ _)⟩)
      dsimp only [Pt.U, Pt.locs, Pt.cells, Pt.slots] at X15 l15 y15 z15 st15 hQ15
      subst l15 y15 z15
      obtain ⟨rfl, e15, hO15⟩ := hQ15
      obtain rfl := hO15
      refine own_viaW st15 ?_
      show own_GoW p e below s _ _ _ (T15.setTop (mkF m 28 #[.val (.int p0), .val (.int p1), .val (.int (0 : Int32)), .val (.int (1 : Int32)), .unset, .unset, .unset, .unset, .unset] [(.ref w0)]))
      refine own_viaW (fun _ k => XS.astore X15.here hx rfl (hb hby at_28) rfl rfl (l' := #[.val (.int p0), .val (.int p1), .val (.int (0 : Int32)), .val (.int (1 : Int32)), .val (.ref w0), .unset, .unset, .unset, .unset]) rfl k) ?_
      show own_GoW p e below s _ _ _ (T15.setTop (mkF m 30 #[.val (.int p0), .val (.int p1), .val (.int (0 : Int32)), .val (.int (1 : Int32)), .val (.ref w0), .unset, .unset, .unset, .unset] []))
      refine own_viaW (fun _ k => XS.iloadN X15.here hx rfl (hb hby at_30) rfl k) ?_
      show own_GoW p e below s _ _ _ (T15.setTop (mkF m 31 #[.val (.int p0), .val (.int p1), .val (.int (0 : Int32)), .val (.int (1 : Int32)), .val (.ref w0), .unset, .unset, .unset, .unset] [(.int (1 : Int32))]))
      obtain ⟨_, _, ⟨T16, L16, k16, n16⟩, -, X16, ⟨Lc16, hQ16, l16, y16, z16⟩, st16⟩ := Jvm.LawKit.callS X15 hx (y := (⟨"com/example/bericht/bericht/selector/Truth", "of", "(Z)Lcom/example/bericht/bericht/selector/Truth;"⟩ : MethodName)) hown (mvT hZ (hw _ (List.mem_of_getElem? (i := 0) rfl))) (mvT hZ (hw _ (List.mem_of_getElem? (i := 1) rfl))) (mvT hZ (hw _ (List.mem_of_getElem? (i := 2) rfl))) (mvT hZ (hw _ (List.mem_of_getElem? (i := 3) rfl))) (by decide) (backOf (W := 0) (rm1_1 l Z a0 hw [] w0 w1 w2 h0 n0 Z0 K0 OL) hZ (hw _ (List.mem_of_getElem? (i := 3) rfl)) (hw _ (List.mem_of_getElem? (i := 2) rfl)) (by decide) (by decide)) (g := (mkF m 31 #[.val (.int p0), .val (.int p1), .val (.int (0 : Int32)), .val (.int (1 : Int32)), .val (.ref w0), .unset, .unset, .unset, .unset] [(.int (1 : Int32))])) rfl (by rw [hml]; rfl) (argsL := [(.int (1 : Int32))]) (rest := []) (lenOf pd0 rfl) rfl (by show 2 * 0 + _ ≤ _; exact Nat.le_of_eq rfl) (hb hby at_31) (fun _ _ => ⟨rfl, e15, (by decide : 0 + 0 ≤ _), (by decide : 0 + 0 ≤ _)⟩)
      dsimp only [Pt.U, Pt.locs, Pt.cells, Pt.slots] at X16 l16 y16 z16 st16 hQ16
      subst l16 y16 z16
      obtain ⟨rfl, e16, hO16⟩ := hQ16
      obtain rfl := hO16
      refine own_viaW st16 ?_
      show own_GoW p e below s _ _ _ (T16.setTop (mkF m 34 #[.val (.int p0), .val (.int p1), .val (.int (0 : Int32)), .val (.int (1 : Int32)), .val (.ref w0), .unset, .unset, .unset, .unset] [(.ref w1)]))
      refine own_viaW (fun _ k => XS.astore X16.here hx rfl (hb hby at_34) rfl rfl (l' := #[.val (.int p0), .val (.int p1), .val (.int (0 : Int32)), .val (.int (1 : Int32)), .val (.ref w0), .val (.ref w1), .unset, .unset, .unset]) rfl k) ?_
      show own_GoW p e below s _ _ _ (T16.setTop (mkF m 36 #[.val (.int p0), .val (.int p1), .val (.int (0 : Int32)), .val (.int (1 : Int32)), .val (.ref w0), .val (.ref w1), .unset, .unset, .unset] []))
      refine own_viaW (fun _ k => XS.iloadN X16.here hx rfl (hb hby at_36) rfl k) ?_
      show own_GoW p e below s _ _ _ (T16.setTop (mkF m 37 #[.val (.int p0), .val (.int p1), .val (.int (0 : Int32)), .val (.int (1 : Int32)), .val (.ref w0), .val (.ref w1), .unset, .unset, .unset] [(.int (0 : Int32))]))
      refine own_viaW (fun _ k => XS.ifNo X16.here hx rfl (hb hby at_37) rfl ((if0 _ _).trans (teq (by decide : (0 : Int32) = (0 : Int32))).2) k) ?_
      show own_GoW p e below s _ _ _ (T16.setTop (mkF m 40 #[.val (.int p0), .val (.int p1), .val (.int (0 : Int32)), .val (.int (1 : Int32)), .val (.ref w0), .val (.ref w1), .unset, .unset, .unset] []))
      refine own_viaW (fun _ k => XS.iconst X16.here hx rfl (hb hby at_40) k) ?_
      show own_GoW p e below s _ _ _ (T16.setTop (mkF m 41 #[.val (.int p0), .val (.int p1), .val (.int (0 : Int32)), .val (.int (1 : Int32)), .val (.ref w0), .val (.ref w1), .unset, .unset, .unset] [(.int (1 : Int32))]))
      refine own_viaW (fun _ k => XS.goto X16.here hx rfl (pc0 := 41) (pc' := 45) rfl (hb hby at_41) (by decide) (by decide) k) ?_
      show own_GoW p e below s _ _ _ (T16.setTop (mkF m 45 #[.val (.int p0), .val (.int p1), .val (.int (0 : Int32)), .val (.int (1 : Int32)), .val (.ref w0), .val (.ref w1), .unset, .unset, .unset] [(.int (1 : Int32))]))
      obtain ⟨_, _, ⟨T17, L17, k17, n17⟩, -, X17, ⟨Lc17, hQ17, l17, y17, z17⟩, st17⟩ := Jvm.LawKit.callS X16 hx (y := (⟨"com/example/bericht/bericht/selector/Truth", "of", "(Z)Lcom/example/bericht/bericht/selector/Truth;"⟩ : MethodName)) hown (mvT hZ (hw _ (List.mem_of_getElem? (i := 0) rfl))) (mvT hZ (hw _ (List.mem_of_getElem? (i := 1) rfl))) (mvT hZ (hw _ (List.mem_of_getElem? (i := 2) rfl))) (mvT hZ (hw _ (List.mem_of_getElem? (i := 3) rfl))) (by decide) (backOf (W := 0) (rm1_1 l Z a0 hw [] w0 w1 w2 h0 n0 Z0 K0 OL) hZ (hw _ (List.mem_of_getElem? (i := 3) rfl)) (hw _ (List.mem_of_getElem? (i := 2) rfl)) (by decide) (by decide)) (g := (mkF m 45 #[.val (.int p0), .val (.int p1), .val (.int (0 : Int32)), .val (.int (1 : Int32)), .val (.ref w0), .val (.ref w1), .unset, .unset, .unset] [(.int (1 : Int32))])) rfl (by rw [hml]; rfl) (argsL := [(.int (1 : Int32))]) (rest := []) (lenOf pd0 rfl) rfl (by show 2 * 0 + _ ≤ _; exact Nat.le_of_eq rfl) (hb hby at_45) (fun _ _ => ⟨rfl, e16, (by decide : 0 + 0 ≤ _), (by decide : 0 + 0 ≤ _)⟩)
      dsimp only [Pt.U, Pt.locs, Pt.cells, Pt.slots] at X17 l17 y17 z17 st17 hQ17
      subst l17 y17 z17
      obtain ⟨rfl, e17, hO17⟩ := hQ17
      obtain rfl := hO17
      refine own_viaW st17 ?_
      show own_GoW p e below s _ _ _ (T17.setTop (mkF m 48 #[.val (.int p0), .val (.int p1), .val (.int (0 : Int32)), .val (.int (1 : Int32)), .val (.ref w0), .val (.ref w1), .unset, .unset, .unset] [(.ref w1)]))
      refine own_viaW (fun _ k => XS.astore X17.here hx rfl (hb hby at_48) rfl rfl (l' := #[.val (.int p0), .val (.int p1), .val (.int (0 : Int32)), .val (.int (1 : Int32)), .val (.ref w0), .val (.ref w1), .val (.ref w1), .unset, .unset]) rfl k) ?_
      show own_GoW p e below s _ _ _ (T17.setTop (mkF m 50 #[.val (.int p0), .val (.int p1), .val (.int (0 : Int32)), .val (.int (1 : Int32)), .val (.ref w0), .val (.ref w1), .val (.ref w1), .unset, .unset] []))
      refine own_viaW (fun _ k => XS.iloadN X17.here hx rfl (hb hby at_50) rfl k) ?_
      show own_GoW p e below s _ _ _ (T17.setTop (mkF m 51 #[.val (.int p0), .val (.int p1), .val (.int (0 : Int32)), .val (.int (1 : Int32)), .val (.ref w0), .val (.ref w1), .val (.ref w1), .unset, .unset] [(.int (0 : Int32))]))
      refine own_viaW (fun _ k => XS.ifYes X17.here hx rfl (pc0 := 51) (pc' := 62) rfl (hb hby at_51) rfl ((if0 _ _).trans (teq (by decide : (0 : Int32) = (0 : Int32))).1) (by decide) (by decide) k) ?_
      show own_GoW p e below s _ _ _ (T17.setTop (mkF m 62 #[.val (.int p0), .val (.int p1), .val (.int (0 : Int32)), .val (.int (1 : Int32)), .val (.ref w0), .val (.ref w1), .val (.ref w1), .unset, .unset] []))
      refine own_viaW (fun _ k => XS.iconst X17.here hx rfl (hb hby at_62) k) ?_
      show own_GoW p e below s _ _ _ (T17.setTop (mkF m 63 #[.val (.int p0), .val (.int p1), .val (.int (0 : Int32)), .val (.int (1 : Int32)), .val (.ref w0), .val (.ref w1), .val (.ref w1), .unset, .unset] [(.int (0 : Int32))]))
      obtain ⟨_, _, ⟨T18, L18, k18, n18⟩, -, X18, ⟨Lc18, hQ18, l18, y18, z18⟩, st18⟩ := Jvm.LawKit.callS X17 hx (y := (⟨"com/example/bericht/bericht/selector/Truth", "of", "(Z)Lcom/example/bericht/bericht/selector/Truth;"⟩ : MethodName)) hown (mvT hZ (hw _ (List.mem_of_getElem? (i := 0) rfl))) (mvT hZ (hw _ (List.mem_of_getElem? (i := 1) rfl))) (mvT hZ (hw _ (List.mem_of_getElem? (i := 2) rfl))) (mvT hZ (hw _ (List.mem_of_getElem? (i := 3) rfl))) (by decide) (backOf (W := 0) (rm1_0 l Z a0 hw [] w0 w1 w2 h0 n0 Z0 K0 OL) hZ (hw _ (List.mem_of_getElem? (i := 3) rfl)) (hw _ (List.mem_of_getElem? (i := 2) rfl)) (by decide) (by decide)) (g := (mkF m 63 #[.val (.int p0), .val (.int p1), .val (.int (0 : Int32)), .val (.int (1 : Int32)), .val (.ref w0), .val (.ref w1), .val (.ref w1), .unset, .unset] [(.int (0 : Int32))])) rfl (by rw [hml]; rfl) (argsL := [(.int (0 : Int32))]) (rest := []) (lenOf pd0 rfl) rfl (by show 2 * 0 + _ ≤ _; exact Nat.le_of_eq rfl) (hb hby at_63) (fun _ _ => ⟨rfl, e17, (by decide : 0 + 0 ≤ _), (by decide : 0 + 0 ≤ _)⟩)
      dsimp only [Pt.U, Pt.locs, Pt.cells, Pt.slots] at X18 l18 y18 z18 st18 hQ18
      subst l18 y18 z18
      obtain ⟨rfl, e18, hO18⟩ := hQ18
      obtain rfl := hO18
      refine own_viaW st18 ?_
      show own_GoW p e below s _ _ _ (T18.setTop (mkF m 66 #[.val (.int p0), .val (.int p1), .val (.int (0 : Int32)), .val (.int (1 : Int32)), .val (.ref w0), .val (.ref w1), .val (.ref w1), .unset, .unset] [(.ref w0)]))
      refine own_viaW (fun _ k => XS.astore X18.here hx rfl (hb hby at_66) rfl rfl (l' := #[.val (.int p0), .val (.int p1), .val (.int (0 : Int32)), .val (.int (1 : Int32)), .val (.ref w0), .val (.ref w1), .val (.ref w1), .val (.ref w0), .unset]) rfl k) ?_
      show own_GoW p e below s _ _ _ (T18.setTop (mkF m 68 #[.val (.int p0), .val (.int p1), .val (.int (0 : Int32)), .val (.int (1 : Int32)), .val (.ref w0), .val (.ref w1), .val (.ref w1), .val (.ref w0), .unset] []))
      refine own_viaW (fun _ k => XS.iloadN X18.here hx rfl (hb hby at_68) rfl k) ?_
      show own_GoW p e below s _ _ _ (T18.setTop (mkF m 69 #[.val (.int p0), .val (.int p1), .val (.int (0 : Int32)), .val (.int (1 : Int32)), .val (.ref w0), .val (.ref w1), .val (.ref w1), .val (.ref w0), .unset] [(.int (0 : Int32))]))
      refine own_viaW (fun _ k => XS.ifNo X18.here hx rfl (hb hby at_69) rfl ((if0 _ _).trans (teq (by decide : (0 : Int32) = (0 : Int32))).2) k) ?_
      show own_GoW p e below s _ _ _ (T18.setTop (mkF m 72 #[.val (.int p0), .val (.int p1), .val (.int (0 : Int32)), .val (.int (1 : Int32)), .val (.ref w0), .val (.ref w1), .val (.ref w1), .val (.ref w0), .unset] []))
      refine own_viaW (fun _ k => XS.iloadN X18.here hx rfl (hb hby at_72) rfl k) ?_
      show own_GoW p e below s _ _ _ (T18.setTop (mkF m 73 #[.val (.int p0), .val (.int p1), .val (.int (0 : Int32)), .val (.int (1 : Int32)), .val (.ref w0), .val (.ref w1), .val (.ref w1), .val (.ref w0), .unset] [(.int (1 : Int32))]))
      refine own_viaW (fun _ k => XS.ifNo X18.here hx rfl (hb hby at_73) rfl ((if0 _ _).trans (feq (by decide : ¬ ((1 : Int32) = (0 : Int32)))).1) k) ?_
      show own_GoW p e below s _ _ _ (T18.setTop (mkF m 76 #[.val (.int p0), .val (.int p1), .val (.int (0 : Int32)), .val (.int (1 : Int32)), .val (.ref w0), .val (.ref w1), .val (.ref w1), .val (.ref w0), .unset] []))
      refine own_viaW (fun _ k => XS.iconst X18.here hx rfl (hb hby at_76) k) ?_
      show own_GoW p e below s _ _ _ (T18.setTop (mkF m 77 #[.val (.int p0), .val (.int p1), .val (.int (0 : Int32)), .val (.int (1 : Int32)), .val (.ref w0), .val (.ref w1), .val (.ref w1), .val (.ref w0), .unset] [(.int (1 : Int32))]))
      refine own_viaW (fun _ k => XS.goto X18.here hx rfl (pc0 := 77) (pc' := 81) rfl (hb hby at_77) (by decide) (by decide) k) ?_
      show own_GoW p e below s _ _ _ (T18.setTop (mkF m 81 #[.val (.int p0), .val (.int p1), .val (.int (0 : Int32)), .val (.int (1 : Int32)), .val (.ref w0), .val (.ref w1), .val (.ref w1), .val (.ref w0), .unset] [(.int (1 : Int32))]))
      obtain ⟨_, _, ⟨T19, L19, k19, n19⟩, -, X19, ⟨Lc19, hQ19, l19, y19, z19⟩, st19⟩ := Jvm.LawKit.callS X18 hx (y := (⟨"com/example/bericht/bericht/selector/Truth", "of", "(Z)Lcom/example/bericht/bericht/selector/Truth;"⟩ : MethodName)) hown (mvT hZ (hw _ (List.mem_of_getElem? (i := 0) rfl))) (mvT hZ (hw _ (List.mem_of_getElem? (i := 1) rfl))) (mvT hZ (hw _ (List.mem_of_getElem? (i := 2) rfl))) (mvT hZ (hw _ (List.mem_of_getElem? (i := 3) rfl))) (by decide) (backOf (W := 0) (rm1_1 l Z a0 hw [] w0 w1 w2 h0 n0 Z0 K0 OL) hZ (hw _ (List.mem_of_getElem? (i := 3) rfl)) (hw _ (List.mem_of_getElem? (i := 2) rfl)) (by decide) (by decide)) (g := (mkF m 81 #[.val (.int p0), .val (.int p1), .val (.int (0 : Int32)), .val (.int (1 : Int32)), .val (.ref w0), .val (.ref w1), .val (.ref w1), .val (.ref w0), .unset] [(.int (1 : Int32))])) rfl (by rw [hml]; rfl) (argsL := [(.int (1 : Int32))]) (rest := []) (lenOf pd0 rfl) rfl (by show 2 * 0 + _ ≤ _; exact Nat.le_of_eq rfl) (hb hby at_81) (fun _ _ => ⟨rfl, e18, (by decide : 0 + 0 ≤ _), (by decide : 0 + 0 ≤ _)⟩)
      dsimp only [Pt.U, Pt.locs, Pt.cells, Pt.slots] at X19 l19 y19 z19 st19 hQ19
      subst l19 y19 z19
      obtain ⟨rfl, e19, hO19⟩ := hQ19
      obtain rfl := hO19
      refine own_viaW st19 ?_
      show own_GoW p e below s _ _ _ (T19.setTop (mkF m 84 #[.val (.int p0), .val (.int p1), .val (.int (0 : Int32)), .val (.int (1 : Int32)), .val (.ref w0), .val (.ref w1), .val (.ref w1), .val (.ref w0), .unset] [(.ref w1)]))
      refine own_viaW (fun _ k => XS.astore X19.here hx rfl (hb hby at_84) rfl rfl (l' := #[.val (.int p0), .val (.int p1), .val (.int (0 : Int32)), .val (.int (1 : Int32)), .val (.ref w0), .val (.ref w1), .val (.ref w1), .val (.ref w0), .val (.ref w1)]) rfl k) ?_
      show own_GoW p e below s _ _ _ (T19.setTop (mkF m 86 #[.val (.int p0), .val (.int p1), .val (.int (0 : Int32)), .val (.int (1 : Int32)), .val (.ref w0), .val (.ref w1), .val (.ref w1), .val (.ref w0), .val (.ref w1)] []))
      refine own_viaW (fun _ k => XS.aload X19.here hx rfl (hb hby at_86) rfl rfl k) ?_
      show own_GoW p e below s _ _ _ (T19.setTop (mkF m 88 #[.val (.int p0), .val (.int p1), .val (.int (0 : Int32)), .val (.int (1 : Int32)), .val (.ref w0), .val (.ref w1), .val (.ref w1), .val (.ref w0), .val (.ref w1)] [(.ref w0)]))
      refine own_viaW (fun _ k => XS.ifnullNo X19.here hx rfl (hb hby at_88) rfl k) ?_
      show own_GoW p e below s _ _ _ (T19.setTop (mkF m 91 #[.val (.int p0), .val (.int p1), .val (.int (0 : Int32)), .val (.int (1 : Int32)), .val (.ref w0), .val (.ref w1), .val (.ref w1), .val (.ref w0), .val (.ref w1)] []))
      refine own_viaW (fun _ k => XS.aload X19.here hx rfl (hb hby at_91) rfl rfl k) ?_
      show own_GoW p e below s _ _ _ (T19.setTop (mkF m 93 #[.val (.int p0), .val (.int p1), .val (.int (0 : Int32)), .val (.int (1 : Int32)), .val (.ref w0), .val (.ref w1), .val (.ref w1), .val (.ref w0), .val (.ref w1)] [(.ref w1)]))
      refine own_viaW (fun _ k => XS.ifnonnullYes X19.here hx rfl (pc0 := 93) (pc' := 98) rfl (hb hby at_93) rfl (by decide) (by decide) k) ?_
      show own_GoW p e below s _ _ _ (T19.setTop (mkF m 98 #[.val (.int p0), .val (.int p1), .val (.int (0 : Int32)), .val (.int (1 : Int32)), .val (.ref w0), .val (.ref w1), .val (.ref w1), .val (.ref w0), .val (.ref w1)] []))
      refine own_viaW (fun _ k => XS.aload X19.here hx rfl (hb hby at_98) rfl rfl k) ?_
      show own_GoW p e below s _ _ _ (T19.setTop (mkF m 100 #[.val (.int p0), .val (.int p1), .val (.int (0 : Int32)), .val (.int (1 : Int32)), .val (.ref w0), .val (.ref w1), .val (.ref w1), .val (.ref w0), .val (.ref w1)] [(.ref w0)]))
      obtain ⟨T20, X20, e20, st20⟩ := getS2 X19 hx hZ hown (host := "") (Or.inl (hw _ (List.mem_of_getElem? (i := 8) rfl))) Via.refl e19 (S_w2.ext OL.2) (g := (mkF m 100 #[.val (.int p0), .val (.int p1), .val (.int (0 : Int32)), .val (.int (1 : Int32)), .val (.ref w0), .val (.ref w1), .val (.ref w1), .val (.ref w0), .val (.ref w1)] [(.ref w0)])) rfl (hb hby at_100)
      refine own_viaW st20 ?_
      show own_GoW p e below s _ _ _ (T20.setTop (mkF m 103 #[.val (.int p0), .val (.int p1), .val (.int (0 : Int32)), .val (.int (1 : Int32)), .val (.ref w0), .val (.ref w1), .val (.ref w1), .val (.ref w0), .val (.ref w1)] [(.ref w2), (.ref w0)]))
      refine own_viaW (fun _ k => Jvm.RoadKit.acmp (g := (mkF m 103 #[.val (.int p0), .val (.int p1), .val (.int (0 : Int32)), .val (.int (1 : Int32)), .val (.ref w0), .val (.ref w1), .val (.ref w1), .val (.ref w0), .val (.ref w1)] [(.ref w2), (.ref w0)])) X20 hx rfl rfl rfl (pc0 := 103) (pc' := 108) (same := false) rfl (hb hby at_103) rfl (decide_eq_false fun q => n_w0_w2 (Value.ref.inj q)) (by decide) (by decide) k) ?_
      show own_GoW p e below s _ _ _ (T20.setTop (mkF m 108 #[.val (.int p0), .val (.int p1), .val (.int (0 : Int32)), .val (.int (1 : Int32)), .val (.ref w0), .val (.ref w1), .val (.ref w1), .val (.ref w0), .val (.ref w1)] []))
      refine own_viaW (fun _ k => XS.aload X20.here hx rfl (hb hby at_108) rfl rfl k) ?_
      show own_GoW p e below s _ _ _ (T20.setTop (mkF m 110 #[.val (.int p0), .val (.int p1), .val (.int (0 : Int32)), .val (.int (1 : Int32)), .val (.ref w0), .val (.ref w1), .val (.ref w1), .val (.ref w0), .val (.ref w1)] [(.ref w0)]))
      obtain ⟨T21, X21, e21, st21⟩ := getS2 X20 hx hZ hown (host := "") (Or.inl (hw _ (List.mem_of_getElem? (i := 10) rfl))) Via.refl e20 (S_w1.ext OL.2) (g := (mkF m 110 #[.val (.int p0), .val (.int p1), .val (.int (0 : Int32)), .val (.int (1 : Int32)), .val (.ref w0), .val (.ref w1), .val (.ref w1), .val (.ref w0), .val (.ref w1)] [(.ref w0)])) rfl (hb hby at_110)
      refine own_viaW st21 ?_
      show own_GoW p e below s _ _ _ (T21.setTop (mkF m 113 #[.val (.int p0), .val (.int p1), .val (.int (0 : Int32)), .val (.int (1 : Int32)), .val (.ref w0), .val (.ref w1), .val (.ref w1), .val (.ref w0), .val (.ref w1)] [(.ref w1), (.ref w0)]))
      refine own_viaW (fun _ k => Jvm.RoadKit.acmp (g := (mkF m 113 #[.val (.int p0), .val (.int p1), .val (.int (0 : Int32)), .val (.int (1 : Int32)), .val (.ref w0), .val (.ref w1), .val (.ref w1), .val (.ref w0), .val (.ref w1)] [(.ref w1), (.ref w0)])) X21 hx rfl rfl rfl (pc0 := 113) (pc' := 120) (same := false) rfl (hb hby at_113) rfl (decide_eq_false fun q => n_w0_w1 (Value.ref.inj q)) (by decide) (by decide) k) ?_
      show own_GoW p e below s _ _ _ (T21.setTop (mkF m 120 #[.val (.int p0), .val (.int p1), .val (.int (0 : Int32)), .val (.int (1 : Int32)), .val (.ref w0), .val (.ref w1), .val (.ref w1), .val (.ref w0), .val (.ref w1)] []))
      refine own_viaW (fun _ k => XS.iconst X21.here hx rfl (hb hby at_120) k) ?_
      show own_GoW p e below s _ _ _ (T21.setTop (mkF m 121 #[.val (.int p0), .val (.int p1), .val (.int (0 : Int32)), .val (.int (1 : Int32)), .val (.ref w0), .val (.ref w1), .val (.ref w1), .val (.ref w0), .val (.ref w1)] [(.int (0 : Int32))]))
      refine own_viaW (fun _ k => XS.iloadN X21.here hx rfl (hb hby at_121) rfl k) ?_
      show own_GoW p e below s _ _ _ (T21.setTop (mkF m 122 #[.val (.int p0), .val (.int p1), .val (.int (0 : Int32)), .val (.int (1 : Int32)), .val (.ref w0), .val (.ref w1), .val (.ref w1), .val (.ref w0), .val (.ref w1)] [(.int (0 : Int32)), (.int (0 : Int32))]))
      refine own_viaW (fun _ k => XS.icmpYes X21.here hx rfl (pc0 := 122) (pc' := 127) rfl (hb hby at_122) rfl (teq (by decide : (0 : Int32) = (0 : Int32))).1 (by decide) (by decide) k) ?_
      show own_GoW p e below s _ _ _ (T21.setTop (mkF m 127 #[.val (.int p0), .val (.int p1), .val (.int (0 : Int32)), .val (.int (1 : Int32)), .val (.ref w0), .val (.ref w1), .val (.ref w1), .val (.ref w0), .val (.ref w1)] []))
      refine own_viaW (fun _ k => XS.aload X21.here hx rfl (hb hby at_127) rfl rfl k) ?_
      show own_GoW p e below s _ _ _ (T21.setTop (mkF m 129 #[.val (.int p0), .val (.int p1), .val (.int (0 : Int32)), .val (.int (1 : Int32)), .val (.ref w0), .val (.ref w1), .val (.ref w1), .val (.ref w0), .val (.ref w1)] [(.ref w0)]))
      obtain ⟨cq22, kq22, q22a, q22b, q22c⟩ := isOf hZ e21 (E_w0.ext OL.2)
      obtain ⟨_, _, ⟨T22, L22, k22, n22⟩, -, X22, ⟨Lc22, hQ22, l22, y22, z22⟩, st22⟩ := X21.virtualBack hx (y := (⟨"com/example/bericht/bericht/selector/Truth", "not", "()Lcom/example/bericht/bericht/selector/Truth;"⟩ : MethodName)) (z := (⟨"com/example/bericht/bericht/selector/Truth", "not", "()Lcom/example/bericht/bericht/selector/Truth;"⟩ : MethodName)) hown (mvT hZ (hw _ (List.mem_of_getElem? (i := 11) rfl))) (mvT hZ (hw _ (List.mem_of_getElem? (i := 12) rfl))) (notFace_of_selects (args := #[]) (mvT hZ (hw _ (List.mem_of_getElem? (i := 14) rfl)))) (mvT hZ (hw _ (List.mem_of_getElem? (i := 14) rfl))) (mvT hZ (hw _ (List.mem_of_getElem? (i := 13) rfl))) (by decide) (backOf (W := 0) (rm2_0 l Z a0 hw [] w0 w1 w2 h0 n0 Z0 K0 OL) hZ (hw _ (List.mem_of_getElem? (i := 15) rfl)) (hw _ (List.mem_of_getElem? (i := 2) rfl)) (by decide) (by decide)) q22a q22c (g := (mkF m 129 #[.val (.int p0), .val (.int p1), .val (.int (0 : Int32)), .val (.int (1 : Int32)), .val (.ref w0), .val (.ref w1), .val (.ref w1), .val (.ref w0), .val (.ref w1)] [(.ref w0)])) rfl (by rw [hml]; rfl) (Steps.refl _) (argsL := []) (rest := []) (lenOf pd2 rfl) rfl (by show 2 * 0 + _ ≤ _; exact Nat.le_of_eq rfl) (hb hby at_129) (fun _ _ => ⟨rfl, e21, (by decide : 0 + 0 ≤ _), (by decide : 0 + 0 ≤ _)⟩)
      dsimp only [Pt.U, Pt.locs, Pt.cells, Pt.slots] at X22 l22 y22 z22 st22 hQ22
      subst l22 y22 z22
      obtain ⟨rfl, e22, hO22⟩ := hQ22
      obtain rfl := hO22
      refine own_trW st22 ?_
      show own_GoW p e below s _ _ _ (T22.setTop (mkF m 132 #[.val (.int p0), .val (.int p1), .val (.int (0 : Int32)), .val (.int (1 : Int32)), .val (.ref w0), .val (.ref w1), .val (.ref w1), .val (.ref w0), .val (.ref w1)] [(.ref w1)]))
      refine own_viaW (fun _ k => XS.aload X22.here hx rfl (hb hby at_132) rfl rfl k) ?_
      show own_GoW p e below s _ _ _ (T22.setTop (mkF m 134 #[.val (.int p0), .val (.int p1), .val (.int (0 : Int32)), .val (.int (1 : Int32)), .val (.ref w0), .val (.ref w1), .val (.ref w1), .val (.ref w0), .val (.ref w1)] [(.ref w1), (.ref w1)]))
      refine own_viaW (fun _ k => Jvm.RoadKit.acmp (g := (mkF m 134 #[.val (.int p0), .val (.int p1), .val (.int (0 : Int32)), .val (.int (1 : Int32)), .val (.ref w0), .val (.ref w1), .val (.ref w1), .val (.ref w0), .val (.ref w1)] [(.ref w1), (.ref w1)])) X22 hx rfl rfl rfl (pc0 := 134) (pc' := 139) (same := true) rfl (hb hby at_134) rfl (decide_eq_true rfl) (by decide) (by decide) k) ?_
      show own_GoW p e below s _ _ _ (T22.setTop (mkF m 139 #[.val (.int p0), .val (.int p1), .val (.int (0 : Int32)), .val (.int (1 : Int32)), .val (.ref w0), .val (.ref w1), .val (.ref w1), .val (.ref w0), .val (.ref w1)] []))
      refine own_viaW (fun _ k => XS.aload X22.here hx rfl (hb hby at_139) rfl rfl k) ?_
      show own_GoW p e below s _ _ _ (T22.setTop (mkF m 141 #[.val (.int p0), .val (.int p1), .val (.int (0 : Int32)), .val (.int (1 : Int32)), .val (.ref w0), .val (.ref w1), .val (.ref w1), .val (.ref w0), .val (.ref w1)] [(.ref w0)]))
      refine own_viaW (fun _ k => XS.aload X22.here hx rfl (hb hby at_141) rfl rfl k) ?_
      show own_GoW p e below s _ _ _ (T22.setTop (mkF m 143 #[.val (.int p0), .val (.int p1), .val (.int (0 : Int32)), .val (.int (1 : Int32)), .val (.ref w0), .val (.ref w1), .val (.ref w1), .val (.ref w0), .val (.ref w1)] [(.ref w1), (.ref w0)]))
      obtain ⟨cq23, kq23, q23a, q23b, q23c⟩ := isOf hZ e22 (E_w0.ext OL.2)
      obtain ⟨_, _, ⟨T23, L23, k23, n23⟩, -, X23, hS23, hg23, ⟨Lc23, hQ23, l23, y23, z23⟩, st23⟩ := X22.virtualBackS hx (y := (⟨"com/example/bericht/bericht/selector/Truth", "and", "(Lcom/example/bericht/bericht/selector/Truth;)Lcom/example/bericht/bericht/selector/Truth;"⟩ : MethodName)) (z := (⟨"com/example/bericht/bericht/selector/Truth", "and", "(Lcom/example/bericht/bericht/selector/Truth;)Lcom/example/bericht/bericht/selector/Truth;"⟩ : MethodName)) hown (mvT hZ (hw _ (List.mem_of_getElem? (i := 25) rfl))) (mvT hZ (hw _ (List.mem_of_getElem? (i := 26) rfl))) (notFace_of_selects (args := #[]) (mvT hZ (hw _ (List.mem_of_getElem? (i := 28) rfl)))) (mvT hZ (hw _ (List.mem_of_getElem? (i := 28) rfl))) (mvT hZ (hw _ (List.mem_of_getElem? (i := 27) rfl))) (by decide) (backOfS (W := 0) (rm4_1 l Z a0 hw [] w0 w1 w2 h0 n0 Z0 K0 OL) hZ (hw _ (List.mem_of_getElem? (i := 29) rfl)) (hw _ (List.mem_of_getElem? (i := 2) rfl)) (by decide) (by decide)) q23a q23c (g := (mkF m 143 #[.val (.int p0), .val (.int p1), .val (.int (0 : Int32)), .val (.int (1 : Int32)), .val (.ref w0), .val (.ref w1), .val (.ref w1), .val (.ref w0), .val (.ref w1)] [(.ref w1), (.ref w0)])) rfl (by rw [hml]; rfl) (Steps.refl _) (argsL := [(.ref w1)]) (rest := []) (lenOf pd4 rfl) rfl (by show 2 * 0 + _ ≤ _; exact Nat.le_of_eq rfl) (hb hby at_143) (fun _ _ => ⟨rfl, e22, (by decide : 0 + 2 ≤ _), (by decide : 0 + 24 ≤ _)⟩)
      dsimp only [Pt.U, Pt.locs, Pt.cells, Pt.slots] at X23 l23 y23 z23 st23 hQ23 hS23 hg23
      subst l23 y23 z23
      have X23 : Stand p l e _ (s.setVm T23.vm) _ _ _ _ _ _ _ _ _ := X23
      have hS := foldS hS (by rw [e22]; exact hk) hS23 hg23
      have hown : (s.setVm T23.vm).vm.findClass "com/example/bericht/bericht/selector/TruthOfPinLaw" = some m.cls := by rw [show (s.setVm T23.vm).vm = T23.vm from rfl, hS23.1.alike.findClass]; exact hown
      have hZ : Z.Warmed39 (s.setVm T23.vm).vm := State.Warmed39.trans (t := s.setVm s.vm) hZ hS23.1
      have hk : T23.heap.size ≤ T23.heap.size := Nat.le_refl _
      obtain ⟨NQ23, OL, Z0, hO23⟩ := hQ23
      obtain rfl := hO23
      refine own_trW st23 ?_
      show own_GoW p e below s _ _ _ (T23.setTop (mkF m 146 #[.val (.int p0), .val (.int p1), .val (.int (0 : Int32)), .val (.int (1 : Int32)), .val (.ref w0), .val (.ref w1), .val (.ref w1), .val (.ref w0), .val (.ref w1)] [(.ref w0)]))
      refine own_viaW (fun _ k => XS.aload X23.here hx rfl (hb hby at_146) rfl rfl k) ?_
      show own_GoW p e below s _ _ _ (T23.setTop (mkF m 148 #[.val (.int p0), .val (.int p1), .val (.int (0 : Int32)), .val (.int (1 : Int32)), .val (.ref w0), .val (.ref w1), .val (.ref w1), .val (.ref w0), .val (.ref w1)] [(.ref w0), (.ref w0)]))
      refine own_viaW (fun _ k => Jvm.RoadKit.acmp (g := (mkF m 148 #[.val (.int p0), .val (.int p1), .val (.int (0 : Int32)), .val (.int (1 : Int32)), .val (.ref w0), .val (.ref w1), .val (.ref w1), .val (.ref w0), .val (.ref w1)] [(.ref w0), (.ref w0)])) X23 hx rfl rfl rfl (pc0 := 148) (pc' := 153) (same := true) rfl (hb hby at_148) rfl (decide_eq_true rfl) (by decide) (by decide) k) ?_
      show own_GoW p e below s _ _ _ (T23.setTop (mkF m 153 #[.val (.int p0), .val (.int p1), .val (.int (0 : Int32)), .val (.int (1 : Int32)), .val (.ref w0), .val (.ref w1), .val (.ref w1), .val (.ref w0), .val (.ref w1)] []))
      refine own_viaW (fun _ k => XS.aload X23.here hx rfl (hb hby at_153) rfl rfl k) ?_
      show own_GoW p e below s _ _ _ (T23.setTop (mkF m 155 #[.val (.int p0), .val (.int p1), .val (.int (0 : Int32)), .val (.int (1 : Int32)), .val (.ref w0), .val (.ref w1), .val (.ref w1), .val (.ref w0), .val (.ref w1)] [(.ref w0)]))
      refine own_viaW (fun _ k => XS.aload X23.here hx rfl (hb hby at_155) rfl rfl k) ?_
      show own_GoW p e below s _ _ _ (T23.setTop (mkF m 157 #[.val (.int p0), .val (.int p1), .val (.int (0 : Int32)), .val (.int (1 : Int32)), .val (.ref w0), .val (.ref w1), .val (.ref w1), .val (.ref w0), .val (.ref w1)] [(.ref w1), (.ref w0)]))
      obtain ⟨cq24, kq24, q24a, q24b, q24c⟩ := isOf hZ rfl (E_w0.ext OL.2)
      obtain ⟨_, _, ⟨T24, L24, k24, n24⟩, -, X24, hS24, hg24, ⟨Lc24, hQ24, l24, y24, z24⟩, st24⟩ := X23.virtualBackS hx (y := (⟨"com/example/bericht/bericht/selector/Truth", "or", "(Lcom/example/bericht/bericht/selector/Truth;)Lcom/example/bericht/bericht/selector/Truth;"⟩ : MethodName)) (z := (⟨"com/example/bericht/bericht/selector/Truth", "or", "(Lcom/example/bericht/bericht/selector/Truth;)Lcom/example/bericht/bericht/selector/Truth;"⟩ : MethodName)) hown (mvT hZ (hw _ (List.mem_of_getElem? (i := 42) rfl))) (mvT hZ (hw _ (List.mem_of_getElem? (i := 43) rfl))) (notFace_of_selects (args := #[]) (mvT hZ (hw _ (List.mem_of_getElem? (i := 45) rfl)))) (mvT hZ (hw _ (List.mem_of_getElem? (i := 45) rfl))) (mvT hZ (hw _ (List.mem_of_getElem? (i := 44) rfl))) (by decide) (backOfS (W := 0) (rm6_1 l Z a0 hw [] w0 w1 w2 T23.heap n0 Z0 K0 OL) hZ (hw _ (List.mem_of_getElem? (i := 46) rfl)) (hw _ (List.mem_of_getElem? (i := 2) rfl)) (by decide) (by decide)) q24a q24c (g := (mkF m 157 #[.val (.int p0), .val (.int p1), .val (.int (0 : Int32)), .val (.int (1 : Int32)), .val (.ref w0), .val (.ref w1), .val (.ref w1), .val (.ref w0), .val (.ref w1)] [(.ref w1), (.ref w0)])) rfl (by rw [hml]; rfl) (Steps.refl _) (argsL := [(.ref w1)]) (rest := []) (lenOf pd4 rfl) rfl (by show 2 * 0 + _ ≤ _; exact Nat.le_of_eq rfl) (hb hby at_157) (fun _ _ => ⟨rfl, rfl, (by decide : 0 + 2 + 2 ≤ _), (by decide : 0 + 24 + 24 ≤ _)⟩)
      dsimp only [Pt.U, Pt.locs, Pt.cells, Pt.slots] at X24 l24 y24 z24 st24 hQ24 hS24 hg24
      subst l24 y24 z24
      have X24 : Stand p l e _ (s.setVm T24.vm) _ _ _ _ _ _ _ _ _ := X24
      have hS := foldS hS hk hS24 hg24
      have hown : (s.setVm T24.vm).vm.findClass "com/example/bericht/bericht/selector/TruthOfPinLaw" = some m.cls := by rw [show (s.setVm T24.vm).vm = T24.vm from rfl, hS24.1.alike.findClass]; exact hown
      have hZ : Z.Warmed39 (s.setVm T24.vm).vm := State.Warmed39.trans (t := s.setVm T23.vm) hZ hS24.1
      have hk : T24.heap.size ≤ T24.heap.size := Nat.le_refl _
      obtain ⟨NQ24, OL, Z0, hO24⟩ := hQ24
      obtain rfl := hO24
      refine own_trW st24 ?_
      show own_GoW p e below s _ _ _ (T24.setTop (mkF m 160 #[.val (.int p0), .val (.int p1), .val (.int (0 : Int32)), .val (.int (1 : Int32)), .val (.ref w0), .val (.ref w1), .val (.ref w1), .val (.ref w0), .val (.ref w1)] [(.ref w1)]))
      refine own_viaW (fun _ k => XS.aload X24.here hx rfl (hb hby at_160) rfl rfl k) ?_
      show own_GoW p e below s _ _ _ (T24.setTop (mkF m 162 #[.val (.int p0), .val (.int p1), .val (.int (0 : Int32)), .val (.int (1 : Int32)), .val (.ref w0), .val (.ref w1), .val (.ref w1), .val (.ref w0), .val (.ref w1)] [(.ref w1), (.ref w1)]))
      refine own_viaW (fun _ k => Jvm.RoadKit.acmp (g := (mkF m 162 #[.val (.int p0), .val (.int p1), .val (.int (0 : Int32)), .val (.int (1 : Int32)), .val (.ref w0), .val (.ref w1), .val (.ref w1), .val (.ref w0), .val (.ref w1)] [(.ref w1), (.ref w1)])) X24 hx rfl rfl rfl (pc0 := 162) (pc' := 167) (same := true) rfl (hb hby at_162) rfl (decide_eq_true rfl) (by decide) (by decide) k) ?_
      show own_GoW p e below s _ _ _ (T24.setTop (mkF m 167 #[.val (.int p0), .val (.int p1), .val (.int (0 : Int32)), .val (.int (1 : Int32)), .val (.ref w0), .val (.ref w1), .val (.ref w1), .val (.ref w0), .val (.ref w1)] []))
      refine own_viaW (fun _ k => XS.iconst X24.here hx rfl (hb hby at_167) k) ?_
      show own_GoW p e below s _ _ _ (T24.setTop (mkF m 168 #[.val (.int p0), .val (.int p1), .val (.int (0 : Int32)), .val (.int (1 : Int32)), .val (.ref w0), .val (.ref w1), .val (.ref w1), .val (.ref w0), .val (.ref w1)] [(.int (1 : Int32))]))
      exact own_retZW X24 hS hk hx hlk (t := .boolean) Bd.returns (by simp) (hb hby at_168) (z' := (1 : Int32)) (by first | rfl | decide) ⟨rfl, (Fr.app (Fr.app (Fr.app (Fr.app (Fr.app (Fr.app (Fr.app (Fr.app (Fr.nil n0) (Fr.nil n0)) (Fr.nil n0)) (Fr.nil n0)) (Fr.nil n0)) (Fr.nil n0)) (Fr.nil n0)) NQ23) NQ24)⟩ (by decide) (by decide)
  · rw [hk2]
    show own_GoW p e below s _ _ _ (s₁.setTop (mkF m 3 #[.val (.int p0), .val (.int p1), .unset, .unset, .unset, .unset, .unset, .unset, .unset] [(.int (1 : Int32))]))
    refine own_viaW (fun _ k => XS.ifNo X0.here hx rfl (hb hby at_3) rfl ((if0 _ _).trans (feq (by decide : ¬ ((1 : Int32) = (0 : Int32)))).1) k) ?_
    show own_GoW p e below s _ _ _ (s₁.setTop (mkF m 6 #[.val (.int p0), .val (.int p1), .unset, .unset, .unset, .unset, .unset, .unset, .unset] []))
    refine own_viaW (fun _ k => XS.iconst X0.here hx rfl (hb hby at_6) k) ?_
    show own_GoW p e below s _ _ _ (s₁.setTop (mkF m 7 #[.val (.int p0), .val (.int p1), .unset, .unset, .unset, .unset, .unset, .unset, .unset] [(.int (1 : Int32))]))
    refine own_viaW (fun _ k => XS.goto X0.here hx rfl (pc0 := 7) (pc' := 11) rfl (hb hby at_7) (by decide) (by decide) k) ?_
    show own_GoW p e below s _ _ _ (s₁.setTop (mkF m 11 #[.val (.int p0), .val (.int p1), .unset, .unset, .unset, .unset, .unset, .unset, .unset] [(.int (1 : Int32))]))
    refine own_viaW (fun _ k => XS.istoreN X0.here hx rfl (hb hby at_11) rfl (l' := #[.val (.int p0), .val (.int p1), .val (.int (1 : Int32)), .unset, .unset, .unset, .unset, .unset, .unset]) rfl k) ?_
    show own_GoW p e below s _ _ _ (s₁.setTop (mkF m 12 #[.val (.int p0), .val (.int p1), .val (.int (1 : Int32)), .unset, .unset, .unset, .unset, .unset, .unset] []))
    refine own_viaW (fun _ k => XS.iloadN X0.here hx rfl (hb hby at_12) rfl k) ?_
    show own_GoW p e below s _ _ _ (s₁.setTop (mkF m 13 #[.val (.int p0), .val (.int p1), .val (.int (1 : Int32)), .unset, .unset, .unset, .unset, .unset, .unset] [(.int p1)]))
    refine own_viaW (fun _ k => XS.iconst X0.here hx rfl (hb hby at_13) k) ?_
    show own_GoW p e below s _ _ _ (s₁.setTop (mkF m 14 #[.val (.int p0), .val (.int p1), .val (.int (1 : Int32)), .unset, .unset, .unset, .unset, .unset, .unset] [(.int (1 : Int32)), (.int p1)]))
    refine own_viaW (fun _ k => XS.iand X0.here hx rfl (hb hby at_14) rfl k) ?_
    rcases (own_and1 _ : (p1 &&& (1 : Int32)) = (0 : Int32) ∨ (p1 &&& (1 : Int32)) = (1 : Int32)) with hk25 | hk26
    · rw [hk25]
      show own_GoW p e below s _ _ _ (s₁.setTop (mkF m 15 #[.val (.int p0), .val (.int p1), .val (.int (1 : Int32)), .unset, .unset, .unset, .unset, .unset, .unset] [(.int (0 : Int32))]))
      refine own_viaW (fun _ k => XS.ifYes X0.here hx rfl (pc0 := 15) (pc' := 22) rfl (hb hby at_15) rfl ((if0 _ _).trans (teq (by decide : (0 : Int32) = (0 : Int32))).1) (by decide) (by decide) k) ?_
      show own_GoW p e below s _ _ _ (s₁.setTop (mkF m 22 #[.val (.int p0), .val (.int p1), .val (.int (1 : Int32)), .unset, .unset, .unset, .unset, .unset, .unset] []))
      refine own_viaW (fun _ k => XS.iconst X0.here hx rfl (hb hby at_22) k) ?_
      show own_GoW p e below s _ _ _ (s₁.setTop (mkF m 23 #[.val (.int p0), .val (.int p1), .val (.int (1 : Int32)), .unset, .unset, .unset, .unset, .unset, .unset] [(.int (0 : Int32))]))
      refine own_viaW (fun _ k => XS.istoreN X0.here hx rfl (hb hby at_23) rfl (l' := #[.val (.int p0), .val (.int p1), .val (.int (1 : Int32)), .val (.int (0 : Int32)), .unset, .unset, .unset, .unset, .unset]) rfl k) ?_
      show own_GoW p e below s _ _ _ (s₁.setTop (mkF m 24 #[.val (.int p0), .val (.int p1), .val (.int (1 : Int32)), .val (.int (0 : Int32)), .unset, .unset, .unset, .unset, .unset] []))
      refine own_viaW (fun _ k => XS.iloadN X0.here hx rfl (hb hby at_24) rfl k) ?_
      show own_GoW p e below s _ _ _ (s₁.setTop (mkF m 25 #[.val (.int p0), .val (.int p1), .val (.int (1 : Int32)), .val (.int (0 : Int32)), .unset, .unset, .unset, .unset, .unset] [(.int (1 : Int32))]))
      obtain ⟨_, _, ⟨T27, L27, k27, n27⟩, -, X27, ⟨Lc27, hQ27, l27, y27, z27⟩, st27⟩ := Jvm.LawKit.callS X0 hx (y := (⟨"com/example/bericht/bericht/selector/Truth", "of", "(Z)Lcom/example/bericht/bericht/selector/Truth;"⟩ : MethodName)) hown (mvT hZ (hw _ (List.mem_of_getElem? (i := 0) rfl))) (mvT hZ (hw _ (List.mem_of_getElem? (i := 1) rfl))) (mvT hZ (hw _ (List.mem_of_getElem? (i := 2) rfl))) (mvT hZ (hw _ (List.mem_of_getElem? (i := 3) rfl))) (by decide) (backOf (W := 0) (rm1_1 l Z a0 hw [] w0 w1 w2 h0 n0 Z0 K0 OL) hZ (hw _ (List.mem_of_getElem? (i := 3) rfl)) (hw _ (List.mem_of_getElem? (i := 2) rfl)) (by decide) (by decide)) (g := (mkF m 25 #[.val (.int p0), .val (.int p1), .val (.int (1 : Int32)), .val (.int (0 : Int32)), .unset, .unset, .unset, .unset, .unset] [(.int (1 : Int32))])) rfl (by rw [hml]; rfl) (argsL := [(.int (1 : Int32))]) (rest := []) (lenOf pd0 rfl) rfl (by show 2 * 0 + _ ≤ _; exact Nat.le_of_eq rfl) (hb hby at_25) (fun _ _ => ⟨rfl, e0, (by decide : 0 + 0 ≤ _), (by decide : 0 + 0 ≤ _)⟩)
      dsimp only [Pt.U, Pt.locs, Pt.cells, Pt.slots] at X27 l27 y27 z27 st27 hQ27
      subst l27 y27 z27
      obtain ⟨rfl, e27, hO27⟩ := hQ27
      obtain rfl := hO27
      refine own_viaW st27 ?_
      show own_GoW p e below s _ _ _ (T27.setTop (mkF m 28 #[.val (.int p0), .val (.int p1), .val (.int (1 : Int32)), .val (.int (0 : Int32)), .unset, .unset, .unset, .unset, .unset] [(.ref w1)]))
      refine own_viaW (fun _ k => XS.astore X27.here hx rfl (hb hby at_28) rfl rfl (l' := #[.val (.int p0), .val (.int p1), .val (.int (1 : Int32)), .val (.int (0 : Int32)), .val (.ref w1), .unset, .unset, .unset, .unset]) rfl k) ?_
      show own_GoW p e below s _ _ _ (T27.setTop (mkF m 30 #[.val (.int p0), .val (.int p1), .val (.int (1 : Int32)), .val (.int (0 : Int32)), .val (.ref w1), .unset, .unset, .unset, .unset] []))
      refine own_viaW (fun _ k => XS.iloadN X27.here hx rfl (hb hby at_30) rfl k) ?_
      show own_GoW p e below s _ _ _ (T27.setTop (mkF m 31 #[.val (.int p0), .val (.int p1), .val (.int (1 : Int32)), .val (.int (0 : Int32)), .val (.ref w1), .unset, .unset, .unset, .unset] [(.int (0 : Int32))]))
      obtain ⟨_, _, ⟨T28, L28, k28, n28⟩, -, X28, ⟨Lc28, hQ28, l28, y28, z28⟩, st28⟩ := Jvm.LawKit.callS X27 hx (y := (⟨"com/example/bericht/bericht/selector/Truth", "of", "(Z)Lcom/example/bericht/bericht/selector/Truth;"⟩ : MethodName)) hown (mvT hZ (hw _ (List.mem_of_getElem? (i := 0) rfl))) (mvT hZ (hw _ (List.mem_of_getElem? (i := 1) rfl))) (mvT hZ (hw _ (List.mem_of_getElem? (i := 2) rfl))) (mvT hZ (hw _ (List.mem_of_getElem? (i := 3) rfl))) (by decide) (backOf (W := 0) (rm1_0 l Z a0 hw [] w0 w1 w2 h0 n0 Z0 K0 OL) hZ (hw _ (List.mem_of_getElem? (i := 3) rfl)) (hw _ (List.mem_of_getElem? (i := 2) rfl)) (by decide) (by decide)) (g := (mkF m 31 #[.val (.int p0), .val (.int p1), .val (.int (1 : Int32)), .val (.int (0 : Int32)), .val (.ref w1), .unset, .unset, .unset, .unset] [(.int (0 : Int32))])) rfl (by rw [hml]; rfl) (argsL := [(.int (0 : Int32))]) (rest := []) (lenOf pd0 rfl) rfl (by show 2 * 0 + _ ≤ _; exact Nat.le_of_eq rfl) (hb hby at_31) (fun _ _ => ⟨rfl, e27, (by decide : 0 + 0 ≤ _), (by decide : 0 + 0 ≤ _)⟩)
      dsimp only [Pt.U, Pt.locs, Pt.cells, Pt.slots] at X28 l28 y28 z28 st28 hQ28
      subst l28 y28 z28
      obtain ⟨rfl, e28, hO28⟩ := hQ28
      obtain rfl := hO28
      refine own_viaW st28 ?_
      show own_GoW p e below s _ _ _ (T28.setTop (mkF m 34 #[.val (.int p0), .val (.int p1), .val (.int (1 : Int32)), .val (.int (0 : Int32)), .val (.ref w1), .unset, .unset, .unset, .unset] [(.ref w0)]))
      refine own_viaW (fun _ k => XS.astore X28.here hx rfl (hb hby at_34) rfl rfl (l' := #[.val (.int p0), .val (.int p1), .val (.int (1 : Int32)), .val (.int (0 : Int32)), .val (.ref w1), .val (.ref w0), .unset, .unset, .unset]) rfl k) ?_
      show own_GoW p e below s _ _ _ (T28.setTop (mkF m 36 #[.val (.int p0), .val (.int p1), .val (.int (1 : Int32)), .val (.int (0 : Int32)), .val (.ref w1), .val (.ref w0), .unset, .unset, .unset] []))
      refine own_viaW (fun _ k => XS.iloadN X28.here hx rfl (hb hby at_36) rfl k) ?_
      show own_GoW p e below s _ _ _ (T28.setTop (mkF m 37 #[.val (.int p0), .val (.int p1), .val (.int (1 : Int32)), .val (.int (0 : Int32)), .val (.ref w1), .val (.ref w0), .unset, .unset, .unset] [(.int (1 : Int32))]))
      refine own_viaW (fun _ k => XS.ifYes X28.here hx rfl (pc0 := 37) (pc' := 44) rfl (hb hby at_37) rfl ((if0 _ _).trans (feq (by decide : ¬ ((1 : Int32) = (0 : Int32)))).2) (by decide) (by decide) k) ?_
      show own_GoW p e below s _ _ _ (T28.setTop (mkF m 44 #[.val (.int p0), .val (.int p1), .val (.int (1 : Int32)), .val (.int (0 : Int32)), .val (.ref w1), .val (.ref w0), .unset, .unset, .unset] []))
      refine own_viaW (fun _ k => XS.iconst X28.here hx rfl (hb hby at_44) k) ?_
      show own_GoW p e below s _ _ _ (T28.setTop (mkF m 45 #[.val (.int p0), .val (.int p1), .val (.int (1 : Int32)), .val (.int (0 : Int32)), .val (.ref w1), .val (.ref w0), .unset, .unset, .unset] [(.int (0 : Int32))]))
      obtain ⟨_, _, ⟨T29, L29, k29, n29⟩, -, X29, ⟨Lc29, hQ29, l29, y29, z29⟩, st29⟩ := Jvm.LawKit.callS X28 hx (y := (⟨"com/example/bericht/bericht/selector/Truth", "of", "(Z)Lcom/example/bericht/bericht/selector/Truth;"⟩ : MethodName)) hown (mvT hZ (hw _ (List.mem_of_getElem? (i := 0) rfl))) (mvT hZ (hw _ (List.mem_of_getElem? (i := 1) rfl))) (mvT hZ (hw _ (List.mem_of_getElem? (i := 2) rfl))) (mvT hZ (hw _ (List.mem_of_getElem? (i := 3) rfl))) (by decide) (backOf (W := 0) (rm1_0 l Z a0 hw [] w0 w1 w2 h0 n0 Z0 K0 OL) hZ (hw _ (List.mem_of_getElem? (i := 3) rfl)) (hw _ (List.mem_of_getElem? (i := 2) rfl)) (by decide) (by decide)) (g := (mkF m 45 #[.val (.int p0), .val (.int p1), .val (.int (1 : Int32)), .val (.int (0 : Int32)), .val (.ref w1), .val (.ref w0), .unset, .unset, .unset] [(.int (0 : Int32))])) rfl (by rw [hml]; rfl) (argsL := [(.int (0 : Int32))]) (rest := []) (lenOf pd0 rfl) rfl (by show 2 * 0 + _ ≤ _; exact Nat.le_of_eq rfl) (hb hby at_45) (fun _ _ => ⟨rfl, e28, (by decide : 0 + 0 ≤ _), (by decide : 0 + 0 ≤ _)⟩)
      dsimp only [Pt.U, Pt.locs, Pt.cells, Pt.slots] at X29 l29 y29 z29 st29 hQ29
      subst l29 y29 z29
      obtain ⟨rfl, e29, hO29⟩ := hQ29
      obtain rfl := hO29
      refine own_viaW st29 ?_
      show own_GoW p e below s _ _ _ (T29.setTop (mkF m 48 #[.val (.int p0), .val (.int p1), .val (.int (1 : Int32)), .val (.int (0 : Int32)), .val (.ref w1), .val (.ref w0), .unset, .unset, .unset] [(.ref w0)]))
      refine own_viaW (fun _ k => XS.astore X29.here hx rfl (hb hby at_48) rfl rfl (l' := #[.val (.int p0), .val (.int p1), .val (.int (1 : Int32)), .val (.int (0 : Int32)), .val (.ref w1), .val (.ref w0), .val (.ref w0), .unset, .unset]) rfl k) ?_
      show own_GoW p e below s _ _ _ (T29.setTop (mkF m 50 #[.val (.int p0), .val (.int p1), .val (.int (1 : Int32)), .val (.int (0 : Int32)), .val (.ref w1), .val (.ref w0), .val (.ref w0), .unset, .unset] []))
      refine own_viaW (fun _ k => XS.iloadN X29.here hx rfl (hb hby at_50) rfl k) ?_
      show own_GoW p e below s _ _ _ (T29.setTop (mkF m 51 #[.val (.int p0), .val (.int p1), .val (.int (1 : Int32)), .val (.int (0 : Int32)), .val (.ref w1), .val (.ref w0), .val (.ref w0), .unset, .unset] [(.int (1 : Int32))]))
      refine own_viaW (fun _ k => XS.ifNo X29.here hx rfl (hb hby at_51) rfl ((if0 _ _).trans (feq (by decide : ¬ ((1 : Int32) = (0 : Int32)))).1) k) ?_
      show own_GoW p e below s _ _ _ (T29.setTop (mkF m 54 #[.val (.int p0), .val (.int p1), .val (.int (1 : Int32)), .val (.int (0 : Int32)), .val (.ref w1), .val (.ref w0), .val (.ref w0), .unset, .unset] []))
      refine own_viaW (fun _ k => XS.iloadN X29.here hx rfl (hb hby at_54) rfl k) ?_
      show own_GoW p e below s _ _ _ (T29.setTop (mkF m 55 #[.val (.int p0), .val (.int p1), .val (.int (1 : Int32)), .val (.int (0 : Int32)), .val (.ref w1), .val (.ref w0), .val (.ref w0), .unset, .unset] [(.int (0 : Int32))]))
      refine own_viaW (fun _ k => XS.ifYes X29.here hx rfl (pc0 := 55) (pc' := 62) rfl (hb hby at_55) rfl ((if0 _ _).trans (teq (by decide : (0 : Int32) = (0 : Int32))).1) (by decide) (by decide) k) ?_
      show own_GoW p e below s _ _ _ (T29.setTop (mkF m 62 #[.val (.int p0), .val (.int p1), .val (.int (1 : Int32)), .val (.int (0 : Int32)), .val (.ref w1), .val (.ref w0), .val (.ref w0), .unset, .unset] []))
      refine own_viaW (fun _ k => XS.iconst X29.here hx rfl (hb hby at_62) k) ?_
      show own_GoW p e below s _ _ _ (T29.setTop (mkF m 63 #[.val (.int p0), .val (.int p1), .val (.int (1 : Int32)), .val (.int (0 : Int32)), .val (.ref w1), .val (.ref w0), .val (.ref w0), .unset, .unset] [(.int (0 : Int32))]))
      obtain ⟨_, _, ⟨T30, L30, k30, n30⟩, -, X30, ⟨Lc30, hQ30, l30, y30, z30⟩, st30⟩ := Jvm.LawKit.callS X29 hx (y := (⟨"com/example/bericht/bericht/selector/Truth", "of", "(Z)Lcom/example/bericht/bericht/selector/Truth;"⟩ : MethodName)) hown (mvT hZ (hw _ (List.mem_of_getElem? (i := 0) rfl))) (mvT hZ (hw _ (List.mem_of_getElem? (i := 1) rfl))) (mvT hZ (hw _ (List.mem_of_getElem? (i := 2) rfl))) (mvT hZ (hw _ (List.mem_of_getElem? (i := 3) rfl))) (by decide) (backOf (W := 0) (rm1_0 l Z a0 hw [] w0 w1 w2 h0 n0 Z0 K0 OL) hZ (hw _ (List.mem_of_getElem? (i := 3) rfl)) (hw _ (List.mem_of_getElem? (i := 2) rfl)) (by decide) (by decide)) (g := (mkF m 63 #[.val (.int p0), .val (.int p1), .val (.int (1 : Int32)), .val (.int (0 : Int32)), .val (.ref w1), .val (.ref w0), .val (.ref w0), .unset, .unset] [(.int (0 : Int32))])) rfl (by rw [hml]; rfl) (argsL := [(.int (0 : Int32))]) (rest := []) (lenOf pd0 rfl) rfl (by show 2 * 0 + _ ≤ _; exact Nat.le_of_eq rfl) (hb hby at_63) (fun _ _ => ⟨rfl, e29, (by decide : 0 + 0 ≤ _), (by decide : 0 + 0 ≤ _)⟩)
      dsimp only [Pt.U, Pt.locs, Pt.cells, Pt.slots] at X30 l30 y30 z30 st30 hQ30
      subst l30 y30 z30
      obtain ⟨rfl, e30, hO30⟩ := hQ30
      obtain rfl := hO30
      refine own_viaW st30 ?_
      show own_GoW p e below s _ _ _ (T30.setTop (mkF m 66 #[.val (.int p0), .val (.int p1), .val (.int (1 : Int32)), .val (.int (0 : Int32)), .val (.ref w1), .val (.ref w0), .val (.ref w0), .unset, .unset] [(.ref w0)]))
      refine own_viaW (fun _ k => XS.astore X30.here hx rfl (hb hby at_66) rfl rfl (l' := #[.val (.int p0), .val (.int p1), .val (.int (1 : Int32)), .val (.int (0 : Int32)), .val (.ref w1), .val (.ref w0), .val (.ref w0), .val (.ref w0), .unset]) rfl k) ?_
      show own_GoW p e below s _ _ _ (T30.setTop (mkF m 68 #[.val (.int p0), .val (.int p1), .val (.int (1 : Int32)), .val (.int (0 : Int32)), .val (.ref w1), .val (.ref w0), .val (.ref w0), .val (.ref w0), .unset] []))
      refine own_viaW (fun _ k => XS.iloadN X30.here hx rfl (hb hby at_68) rfl k) ?_
      show own_GoW p e below s _ _ _ (T30.setTop (mkF m 69 #[.val (.int p0), .val (.int p1), .val (.int (1 : Int32)), .val (.int (0 : Int32)), .val (.ref w1), .val (.ref w0), .val (.ref w0), .val (.ref w0), .unset] [(.int (1 : Int32))]))
      refine own_viaW (fun _ k => XS.ifYes X30.here hx rfl (pc0 := 69) (pc' := 76) rfl (hb hby at_69) rfl ((if0 _ _).trans (feq (by decide : ¬ ((1 : Int32) = (0 : Int32)))).2) (by decide) (by decide) k) ?_
      show own_GoW p e below s _ _ _ (T30.setTop (mkF m 76 #[.val (.int p0), .val (.int p1), .val (.int (1 : Int32)), .val (.int (0 : Int32)), .val (.ref w1), .val (.ref w0), .val (.ref w0), .val (.ref w0), .unset] []))
      refine own_viaW (fun _ k => XS.iconst X30.here hx rfl (hb hby at_76) k) ?_
      show own_GoW p e below s _ _ _ (T30.setTop (mkF m 77 #[.val (.int p0), .val (.int p1), .val (.int (1 : Int32)), .val (.int (0 : Int32)), .val (.ref w1), .val (.ref w0), .val (.ref w0), .val (.ref w0), .unset] [(.int (1 : Int32))]))
      refine own_viaW (fun _ k => XS.goto X30.here hx rfl (pc0 := 77) (pc' := 81) rfl (hb hby at_77) (by decide) (by decide) k) ?_
      show own_GoW p e below s _ _ _ (T30.setTop (mkF m 81 #[.val (.int p0), .val (.int p1), .val (.int (1 : Int32)), .val (.int (0 : Int32)), .val (.ref w1), .val (.ref w0), .val (.ref w0), .val (.ref w0), .unset] [(.int (1 : Int32))]))
      obtain ⟨_, _, ⟨T31, L31, k31, n31⟩, -, X31, ⟨Lc31, hQ31, l31, y31, z31⟩, st31⟩ := Jvm.LawKit.callS X30 hx (y := (⟨"com/example/bericht/bericht/selector/Truth", "of", "(Z)Lcom/example/bericht/bericht/selector/Truth;"⟩ : MethodName)) hown (mvT hZ (hw _ (List.mem_of_getElem? (i := 0) rfl))) (mvT hZ (hw _ (List.mem_of_getElem? (i := 1) rfl))) (mvT hZ (hw _ (List.mem_of_getElem? (i := 2) rfl))) (mvT hZ (hw _ (List.mem_of_getElem? (i := 3) rfl))) (by decide) (backOf (W := 0) (rm1_1 l Z a0 hw [] w0 w1 w2 h0 n0 Z0 K0 OL) hZ (hw _ (List.mem_of_getElem? (i := 3) rfl)) (hw _ (List.mem_of_getElem? (i := 2) rfl)) (by decide) (by decide)) (g := (mkF m 81 #[.val (.int p0), .val (.int p1), .val (.int (1 : Int32)), .val (.int (0 : Int32)), .val (.ref w1), .val (.ref w0), .val (.ref w0), .val (.ref w0), .unset] [(.int (1 : Int32))])) rfl (by rw [hml]; rfl) (argsL := [(.int (1 : Int32))]) (rest := []) (lenOf pd0 rfl) rfl (by show 2 * 0 + _ ≤ _; exact Nat.le_of_eq rfl) (hb hby at_81) (fun _ _ => ⟨rfl, e30, (by decide : 0 + 0 ≤ _), (by decide : 0 + 0 ≤ _)⟩)
      dsimp only [Pt.U, Pt.locs, Pt.cells, Pt.slots] at X31 l31 y31 z31 st31 hQ31
      subst l31 y31 z31
      obtain ⟨rfl, e31, hO31⟩ := hQ31
      obtain rfl := hO31
      refine own_viaW st31 ?_
      show own_GoW p e below s _ _ _ (T31.setTop (mkF m 84 #[.val (.int p0), .val (.int p1), .val (.int (1 : Int32)), .val (.int (0 : Int32)), .val (.ref w1), .val (.ref w0), .val (.ref w0), .val (.ref w0), .unset] [(.ref w1)]))
      refine own_viaW (fun _ k => XS.astore X31.here hx rfl (hb hby at_84) rfl rfl (l' := #[.val (.int p0), .val (.int p1), .val (.int (1 : Int32)), .val (.int (0 : Int32)), .val (.ref w1), .val (.ref w0), .val (.ref w0), .val (.ref w0), .val (.ref w1)]) rfl k) ?_
      show own_GoW p e below s _ _ _ (T31.setTop (mkF m 86 #[.val (.int p0), .val (.int p1), .val (.int (1 : Int32)), .val (.int (0 : Int32)), .val (.ref w1), .val (.ref w0), .val (.ref w0), .val (.ref w0), .val (.ref w1)] []))
      refine own_viaW (fun _ k => XS.aload X31.here hx rfl (hb hby at_86) rfl rfl k) ?_
      show own_GoW p e below s _ _ _ (T31.setTop (mkF m 88 #[.val (.int p0), .val (.int p1), .val (.int (1 : Int32)), .val (.int (0 : Int32)), .val (.ref w1), .val (.ref w0), .val (.ref w0), .val (.ref w0), .val (.ref w1)] [(.ref w1)]))
      refine own_viaW (fun _ k => XS.ifnullNo X31.here hx rfl (hb hby at_88) rfl k) ?_
      show own_GoW p e below s _ _ _ (T31.setTop (mkF m 91 #[.val (.int p0), .val (.int p1), .val (.int (1 : Int32)), .val (.int (0 : Int32)), .val (.ref w1), .val (.ref w0), .val (.ref w0), .val (.ref w0), .val (.ref w1)] []))
      refine own_viaW (fun _ k => XS.aload X31.here hx rfl (hb hby at_91) rfl rfl k) ?_
      show own_GoW p e below s _ _ _ (T31.setTop (mkF m 93 #[.val (.int p0), .val (.int p1), .val (.int (1 : Int32)), .val (.int (0 : Int32)), .val (.ref w1), .val (.ref w0), .val (.ref w0), .val (.ref w0), .val (.ref w1)] [(.ref w0)]))
      refine own_viaW (fun _ k => XS.ifnonnullYes X31.here hx rfl (pc0 := 93) (pc' := 98) rfl (hb hby at_93) rfl (by decide) (by decide) k) ?_
      show own_GoW p e below s _ _ _ (T31.setTop (mkF m 98 #[.val (.int p0), .val (.int p1), .val (.int (1 : Int32)), .val (.int (0 : Int32)), .val (.ref w1), .val (.ref w0), .val (.ref w0), .val (.ref w0), .val (.ref w1)] []))
      refine own_viaW (fun _ k => XS.aload X31.here hx rfl (hb hby at_98) rfl rfl k) ?_
      show own_GoW p e below s _ _ _ (T31.setTop (mkF m 100 #[.val (.int p0), .val (.int p1), .val (.int (1 : Int32)), .val (.int (0 : Int32)), .val (.ref w1), .val (.ref w0), .val (.ref w0), .val (.ref w0), .val (.ref w1)] [(.ref w1)]))
      obtain ⟨T32, X32, e32, st32⟩ := getS2 X31 hx hZ hown (host := "") (Or.inl (hw _ (List.mem_of_getElem? (i := 8) rfl))) Via.refl e31 (S_w2.ext OL.2) (g := (mkF m 100 #[.val (.int p0), .val (.int p1), .val (.int (1 : Int32)), .val (.int (0 : Int32)), .val (.ref w1), .val (.ref w0), .val (.ref w0), .val (.ref w0), .val (.ref w1)] [(.ref w1)])) rfl (hb hby at_100)
      refine own_viaW st32 ?_
      show own_GoW p e below s _ _ _ (T32.setTop (mkF m 103 #[.val (.int p0), .val (.int p1), .val (.int (1 : Int32)), .val (.int (0 : Int32)), .val (.ref w1), .val (.ref w0), .val (.ref w0), .val (.ref w0), .val (.ref w1)] [(.ref w2), (.ref w1)]))
      refine own_viaW (fun _ k => Jvm.RoadKit.acmp (g := (mkF m 103 #[.val (.int p0), .val (.int p1), .val (.int (1 : Int32)), .val (.int (0 : Int32)), .val (.ref w1), .val (.ref w0), .val (.ref w0), .val (.ref w0), .val (.ref w1)] [(.ref w2), (.ref w1)])) X32 hx rfl rfl rfl (pc0 := 103) (pc' := 108) (same := false) rfl (hb hby at_103) rfl (decide_eq_false fun q => n_w1_w2 (Value.ref.inj q)) (by decide) (by decide) k) ?_
      show own_GoW p e below s _ _ _ (T32.setTop (mkF m 108 #[.val (.int p0), .val (.int p1), .val (.int (1 : Int32)), .val (.int (0 : Int32)), .val (.ref w1), .val (.ref w0), .val (.ref w0), .val (.ref w0), .val (.ref w1)] []))
      refine own_viaW (fun _ k => XS.aload X32.here hx rfl (hb hby at_108) rfl rfl k) ?_
      show own_GoW p e below s _ _ _ (T32.setTop (mkF m 110 #[.val (.int p0), .val (.int p1), .val (.int (1 : Int32)), .val (.int (0 : Int32)), .val (.ref w1), .val (.ref w0), .val (.ref w0), .val (.ref w0), .val (.ref w1)] [(.ref w1)]))
      obtain ⟨T33, X33, e33, st33⟩ := getS2 X32 hx hZ hown (host := "") (Or.inl (hw _ (List.mem_of_getElem? (i := 10) rfl))) Via.refl e32 (S_w1.ext OL.2) (g := (mkF m 110 #[.val (.int p0), .val (.int p1), .val (.int (1 : Int32)), .val (.int (0 : Int32)), .val (.ref w1), .val (.ref w0), .val (.ref w0), .val (.ref w0), .val (.ref w1)] [(.ref w1)])) rfl (hb hby at_110)
      refine own_viaW st33 ?_
      show own_GoW p e below s _ _ _ (T33.setTop (mkF m 113 #[.val (.int p0), .val (.int p1), .val (.int (1 : Int32)), .val (.int (0 : Int32)), .val (.ref w1), .val (.ref w0), .val (.ref w0), .val (.ref w0), .val (.ref w1)] [(.ref w1), (.ref w1)]))
      refine own_viaW (fun _ k => Jvm.RoadKit.acmp (g := (mkF m 113 #[.val (.int p0), .val (.int p1), .val (.int (1 : Int32)), .val (.int (0 : Int32)), .val (.ref w1), .val (.ref w0), .val (.ref w0), .val (.ref w0), .val (.ref w1)] [(.ref w1), (.ref w1)])) X33 hx rfl rfl rfl (pc0 := 113) (pc' := 116) (same := true) rfl (hb hby at_113) rfl (decide_eq_true rfl) (by decide) (by decide) k) ?_
      show own_GoW p e below s _ _ _ (T33.setTop (mkF m 116 #[.val (.int p0), .val (.int p1), .val (.int (1 : Int32)), .val (.int (0 : Int32)), .val (.ref w1), .val (.ref w0), .val (.ref w0), .val (.ref w0), .val (.ref w1)] []))
      refine own_viaW (fun _ k => XS.iconst X33.here hx rfl (hb hby at_116) k) ?_
      show own_GoW p e below s _ _ _ (T33.setTop (mkF m 117 #[.val (.int p0), .val (.int p1), .val (.int (1 : Int32)), .val (.int (0 : Int32)), .val (.ref w1), .val (.ref w0), .val (.ref w0), .val (.ref w0), .val (.ref w1)] [(.int (1 : Int32))]))
      refine own_viaW (fun _ k => XS.goto X33.here hx rfl (pc0 := 117) (pc' := 121) rfl (hb hby at_117) (by decide) (by decide) k) ?_
      show own_GoW p e below s _ _ _ (T33.setTop (mkF m 121 #[.val (.int p0), .val (.int p1), .val (.int (1 : Int32)), .val (.int (0 : Int32)), .val (.ref w1), .val (.ref w0), .val (.ref w0), .val (.ref w0), .val (.ref w1)] [(.int (1 : Int32))]))
      refine own_viaW (fun _ k => XS.iloadN X33.here hx rfl (hb hby at_121) rfl k) ?_
      show own_GoW p e below s _ _ _ (T33.setTop (mkF m 122 #[.val (.int p0), .val (.int p1), .val (.int (1 : Int32)), .val (.int (0 : Int32)), .val (.ref w1), .val (.ref w0), .val (.ref w0), .val (.ref w0), .val (.ref w1)] [(.int (1 : Int32)), (.int (1 : Int32))]))
      refine own_viaW (fun _ k => XS.icmpYes X33.here hx rfl (pc0 := 122) (pc' := 127) rfl (hb hby at_122) rfl (teq (by decide : (1 : Int32) = (1 : Int32))).1 (by decide) (by decide) k) ?_
      show own_GoW p e below s _ _ _ (T33.setTop (mkF m 127 #[.val (.int p0), .val (.int p1), .val (.int (1 : Int32)), .val (.int (0 : Int32)), .val (.ref w1), .val (.ref w0), .val (.ref w0), .val (.ref w0), .val (.ref w1)] []))
      refine own_viaW (fun _ k => XS.aload X33.here hx rfl (hb hby at_127) rfl rfl k) ?_
      show own_GoW p e below s _ _ _ (T33.setTop (mkF m 129 #[.val (.int p0), .val (.int p1), .val (.int (1 : Int32)), .val (.int (0 : Int32)), .val (.ref w1), .val (.ref w0), .val (.ref w0), .val (.ref w0), .val (.ref w1)] [(.ref w1)]))
      obtain ⟨cq34, kq34, q34a, q34b, q34c⟩ := isOf hZ e33 (E_w1.ext OL.2)
      obtain ⟨_, _, ⟨T34, L34, k34, n34⟩, -, X34, ⟨Lc34, hQ34, l34, y34, z34⟩, st34⟩ := X33.virtualBack hx (y := (⟨"com/example/bericht/bericht/selector/Truth", "not", "()Lcom/example/bericht/bericht/selector/Truth;"⟩ : MethodName)) (z := (⟨"com/example/bericht/bericht/selector/Truth", "not", "()Lcom/example/bericht/bericht/selector/Truth;"⟩ : MethodName)) hown (mvT hZ (hw _ (List.mem_of_getElem? (i := 11) rfl))) (mvT hZ (hw _ (List.mem_of_getElem? (i := 12) rfl))) (notFace_of_selects (args := #[]) (mvT hZ (hw _ (List.mem_of_getElem? (i := 14) rfl)))) (mvT hZ (hw _ (List.mem_of_getElem? (i := 14) rfl))) (mvT hZ (hw _ (List.mem_of_getElem? (i := 13) rfl))) (by decide) (backOf (W := 0) (rm2_1 l Z a0 hw [] w0 w1 w2 h0 n0 Z0 K0 OL) hZ (hw _ (List.mem_of_getElem? (i := 15) rfl)) (hw _ (List.mem_of_getElem? (i := 2) rfl)) (by decide) (by decide)) q34a q34c (g := (mkF m 129 #[.val (.int p0), .val (.int p1), .val (.int (1 : Int32)), .val (.int (0 : Int32)), .val (.ref w1), .val (.ref w0), .val (.ref w0), .val (.ref w0), .val (.ref w1)] [(.ref w1)])) rfl (by rw [hml]; rfl) (Steps.refl _) (argsL := []) (rest := []) (lenOf pd2 rfl) rfl (by show 2 * 0 + _ ≤ _; exact Nat.le_of_eq rfl) (hb hby at_129) (fun _ _ => ⟨rfl, e33, (by decide : 0 + 0 ≤ _), (by decide : 0 + 0 ≤ _)⟩)
      dsimp only [Pt.U, Pt.locs, Pt.cells, Pt.slots] at X34 l34 y34 z34 st34 hQ34
      subst l34 y34 z34
      obtain ⟨rfl, e34, hO34⟩ := hQ34
      obtain rfl := hO34
      refine own_trW st34 ?_
      show own_GoW p e below s _ _ _ (T34.setTop (mkF m 132 #[.val (.int p0), .val (.int p1), .val (.int (1 : Int32)), .val (.int (0 : Int32)), .val (.ref w1), .val (.ref w0), .val (.ref w0), .val (.ref w0), .val (.ref w1)] [(.ref w0)]))
      refine own_viaW (fun _ k => XS.aload X34.here hx rfl (hb hby at_132) rfl rfl k) ?_
      show own_GoW p e below s _ _ _ (T34.setTop (mkF m 134 #[.val (.int p0), .val (.int p1), .val (.int (1 : Int32)), .val (.int (0 : Int32)), .val (.ref w1), .val (.ref w0), .val (.ref w0), .val (.ref w0), .val (.ref w1)] [(.ref w0), (.ref w0)]))
      refine own_viaW (fun _ k => Jvm.RoadKit.acmp (g := (mkF m 134 #[.val (.int p0), .val (.int p1), .val (.int (1 : Int32)), .val (.int (0 : Int32)), .val (.ref w1), .val (.ref w0), .val (.ref w0), .val (.ref w0), .val (.ref w1)] [(.ref w0), (.ref w0)])) X34 hx rfl rfl rfl (pc0 := 134) (pc' := 139) (same := true) rfl (hb hby at_134) rfl (decide_eq_true rfl) (by decide) (by decide) k) ?_
      show own_GoW p e below s _ _ _ (T34.setTop (mkF m 139 #[.val (.int p0), .val (.int p1), .val (.int (1 : Int32)), .val (.int (0 : Int32)), .val (.ref w1), .val (.ref w0), .val (.ref w0), .val (.ref w0), .val (.ref w1)] []))
      refine own_viaW (fun _ k => XS.aload X34.here hx rfl (hb hby at_139) rfl rfl k) ?_
      show own_GoW p e below s _ _ _ (T34.setTop (mkF m 141 #[.val (.int p0), .val (.int p1), .val (.int (1 : Int32)), .val (.int (0 : Int32)), .val (.ref w1), .val (.ref w0), .val (.ref w0), .val (.ref w0), .val (.ref w1)] [(.ref w1)]))
      refine own_viaW (fun _ k => XS.aload X34.here hx rfl (hb hby at_141) rfl rfl k) ?_
      show own_GoW p e below s _ _ _ (T34.setTop (mkF m 143 #[.val (.int p0), .val (.int p1), .val (.int (1 : Int32)), .val (.int (0 : Int32)), .val (.ref w1), .val (.ref w0), .val (.ref w0), .val (.ref w0), .val (.ref w1)] [(.ref w0), (.ref w1)]))
      obtain ⟨cq35, kq35, q35a, q35b, q35c⟩ := isOf hZ e34 (E_w1.ext OL.2)
      obtain ⟨_, _, ⟨T35, L35, k35, n35⟩, -, X35, hS35, hg35, ⟨Lc35, hQ35, l35, y35, z35⟩, st35⟩ := X34.virtualBackS hx (y := (⟨"com/example/bericht/bericht/selector/Truth", "and", "(Lcom/example/bericht/bericht/selector/Truth;)Lcom/example/bericht/bericht/selector/Truth;"⟩ : MethodName)) (z := (⟨"com/example/bericht/bericht/selector/Truth", "and", "(Lcom/example/bericht/bericht/selector/Truth;)Lcom/example/bericht/bericht/selector/Truth;"⟩ : MethodName)) hown (mvT hZ (hw _ (List.mem_of_getElem? (i := 25) rfl))) (mvT hZ (hw _ (List.mem_of_getElem? (i := 26) rfl))) (notFace_of_selects (args := #[]) (mvT hZ (hw _ (List.mem_of_getElem? (i := 28) rfl)))) (mvT hZ (hw _ (List.mem_of_getElem? (i := 28) rfl))) (mvT hZ (hw _ (List.mem_of_getElem? (i := 27) rfl))) (by decide) (backOfS (W := 0) (rm4_2 l Z a0 hw [] w0 w1 w2 h0 n0 Z0 K0 OL) hZ (hw _ (List.mem_of_getElem? (i := 29) rfl)) (hw _ (List.mem_of_getElem? (i := 2) rfl)) (by decide) (by decide)) q35a q35c (g := (mkF m 143 #[.val (.int p0), .val (.int p1), .val (.int (1 : Int32)), .val (.int (0 : Int32)), .val (.ref w1), .val (.ref w0), .val (.ref w0), .val (.ref w0), .val (.ref w1)] [(.ref w0), (.ref w1)])) rfl (by rw [hml]; rfl) (Steps.refl _) (argsL := [(.ref w0)]) (rest := []) (lenOf pd4 rfl) rfl (by show 2 * 0 + _ ≤ _; exact Nat.le_of_eq rfl) (hb hby at_143) (fun _ _ => ⟨rfl, e34, (by decide : 0 + 2 ≤ _), (by decide : 0 + 24 ≤ _)⟩)
      dsimp only [Pt.U, Pt.locs, Pt.cells, Pt.slots] at X35 l35 y35 z35 st35 hQ35 hS35 hg35
      subst l35 y35 z35
      have X35 : Stand p l e _ (s.setVm T35.vm) _ _ _ _ _ _ _ _ _ := X35
      have hS := foldS hS (by rw [e34]; exact hk) hS35 hg35
      have hown : (s.setVm T35.vm).vm.findClass "com/example/bericht/bericht/selector/TruthOfPinLaw" = some m.cls := by rw [show (s.setVm T35.vm).vm = T35.vm from rfl, hS35.1.alike.findClass]; exact hown
      have hZ : Z.Warmed39 (s.setVm T35.vm).vm := State.Warmed39.trans (t := s.setVm s.vm) hZ hS35.1
      have hk : T35.heap.size ≤ T35.heap.size := Nat.le_refl _
      obtain ⟨NQ35, OL, Z0, hO35⟩ := hQ35
      obtain rfl := hO35
      refine own_trW st35 ?_
      show own_GoW p e below s _ _ _ (T35.setTop (mkF m 146 #[.val (.int p0), .val (.int p1), .val (.int (1 : Int32)), .val (.int (0 : Int32)), .val (.ref w1), .val (.ref w0), .val (.ref w0), .val (.ref w0), .val (.ref w1)] [(.ref w0)]))
      refine own_viaW (fun _ k => XS.aload X35.here hx rfl (hb hby at_146) rfl rfl k) ?_
      show own_GoW p e below s _ _ _ (T35.setTop (mkF m 148 #[.val (.int p0), .val (.int p1), .val (.int (1 : Int32)), .val (.int (0 : Int32)), .val (.ref w1), .val (.ref w0), .val (.ref w0), .val (.ref w0), .val (.ref w1)] [(.ref w0), (.ref w0)]))
      refine own_viaW (fun _ k => Jvm.RoadKit.acmp (g := (mkF m 148 #[.val (.int p0), .val (.int p1), .val (.int (1 : Int32)), .val (.int (0 : Int32)), .val (.ref w1), .val (.ref w0), .val (.ref w0), .val (.ref w0), .val (.ref w1)] [(.ref w0), (.ref w0)])) X35 hx rfl rfl rfl (pc0 := 148) (pc' := 153) (same := true) rfl (hb hby at_148) rfl (decide_eq_true rfl) (by decide) (by decide) k) ?_
      show own_GoW p e below s _ _ _ (T35.setTop (mkF m 153 #[.val (.int p0), .val (.int p1), .val (.int (1 : Int32)), .val (.int (0 : Int32)), .val (.ref w1), .val (.ref w0), .val (.ref w0), .val (.ref w0), .val (.ref w1)] []))
      refine own_viaW (fun _ k => XS.aload X35.here hx rfl (hb hby at_153) rfl rfl k) ?_
      show own_GoW p e below s _ _ _ (T35.setTop (mkF m 155 #[.val (.int p0), .val (.int p1), .val (.int (1 : Int32)), .val (.int (0 : Int32)), .val (.ref w1), .val (.ref w0), .val (.ref w0), .val (.ref w0), .val (.ref w1)] [(.ref w1)]))
      refine own_viaW (fun _ k => XS.aload X35.here hx rfl (hb hby at_155) rfl rfl k) ?_
      show own_GoW p e below s _ _ _ (T35.setTop (mkF m 157 #[.val (.int p0), .val (.int p1), .val (.int (1 : Int32)), .val (.int (0 : Int32)), .val (.ref w1), .val (.ref w0), .val (.ref w0), .val (.ref w0), .val (.ref w1)] [(.ref w0), (.ref w1)]))
      obtain ⟨cq36, kq36, q36a, q36b, q36c⟩ := isOf hZ rfl (E_w1.ext OL.2)
      obtain ⟨_, _, ⟨T36, L36, k36, n36⟩, -, X36, hS36, hg36, ⟨Lc36, hQ36, l36, y36, z36⟩, st36⟩ := X35.virtualBackS hx (y := (⟨"com/example/bericht/bericht/selector/Truth", "or", "(Lcom/example/bericht/bericht/selector/Truth;)Lcom/example/bericht/bericht/selector/Truth;"⟩ : MethodName)) (z := (⟨"com/example/bericht/bericht/selector/Truth", "or", "(Lcom/example/bericht/bericht/selector/Truth;)Lcom/example/bericht/bericht/selector/Truth;"⟩ : MethodName)) hown (mvT hZ (hw _ (List.mem_of_getElem? (i := 42) rfl))) (mvT hZ (hw _ (List.mem_of_getElem? (i := 43) rfl))) (notFace_of_selects (args := #[]) (mvT hZ (hw _ (List.mem_of_getElem? (i := 45) rfl)))) (mvT hZ (hw _ (List.mem_of_getElem? (i := 45) rfl))) (mvT hZ (hw _ (List.mem_of_getElem? (i := 44) rfl))) (by decide) (backOfS (W := 0) (rm6_2 l Z a0 hw [] w0 w1 w2 T35.heap n0 Z0 K0 OL) hZ (hw _ (List.mem_of_getElem? (i := 46) rfl)) (hw _ (List.mem_of_getElem? (i := 2) rfl)) (by decide) (by decide)) q36a q36c (g := (mkF m 157 #[.val (.int p0), .val (.int p1), .val (.int (1 : Int32)), .val (.int (0 : Int32)), .val (.ref w1), .val (.ref w0), .val (.ref w0), .val (.ref w0), .val (.ref w1)] [(.ref w0), (.ref w1)])) rfl (by rw [hml]; rfl) (Steps.refl _) (argsL := [(.ref w0)]) (rest := []) (lenOf pd4 rfl) rfl (by show 2 * 0 + _ ≤ _; exact Nat.le_of_eq rfl) (hb hby at_157) (fun _ _ => ⟨rfl, rfl, (by decide : 0 + 2 + 2 ≤ _), (by decide : 0 + 24 + 24 ≤ _)⟩)
      dsimp only [Pt.U, Pt.locs, Pt.cells, Pt.slots] at X36 l36 y36 z36 st36 hQ36 hS36 hg36
      subst l36 y36 z36
      have X36 : Stand p l e _ (s.setVm T36.vm) _ _ _ _ _ _ _ _ _ := X36
      have hS := foldS hS hk hS36 hg36
      have hown : (s.setVm T36.vm).vm.findClass "com/example/bericht/bericht/selector/TruthOfPinLaw" = some m.cls := by rw [show (s.setVm T36.vm).vm = T36.vm from rfl, hS36.1.alike.findClass]; exact hown
      have hZ : Z.Warmed39 (s.setVm T36.vm).vm := State.Warmed39.trans (t := s.setVm T35.vm) hZ hS36.1
      have hk : T36.heap.size ≤ T36.heap.size := Nat.le_refl _
      obtain ⟨NQ36, OL, Z0, hO36⟩ := hQ36
      obtain rfl := hO36
      refine own_trW st36 ?_
      show own_GoW p e below s _ _ _ (T36.setTop (mkF m 160 #[.val (.int p0), .val (.int p1), .val (.int (1 : Int32)), .val (.int (0 : Int32)), .val (.ref w1), .val (.ref w0), .val (.ref w0), .val (.ref w0), .val (.ref w1)] [(.ref w1)]))
      refine own_viaW (fun _ k => XS.aload X36.here hx rfl (hb hby at_160) rfl rfl k) ?_
      show own_GoW p e below s _ _ _ (T36.setTop (mkF m 162 #[.val (.int p0), .val (.int p1), .val (.int (1 : Int32)), .val (.int (0 : Int32)), .val (.ref w1), .val (.ref w0), .val (.ref w0), .val (.ref w0), .val (.ref w1)] [(.ref w1), (.ref w1)]))
      refine own_viaW (fun _ k => Jvm.RoadKit.acmp (g := (mkF m 162 #[.val (.int p0), .val (.int p1), .val (.int (1 : Int32)), .val (.int (0 : Int32)), .val (.ref w1), .val (.ref w0), .val (.ref w0), .val (.ref w0), .val (.ref w1)] [(.ref w1), (.ref w1)])) X36 hx rfl rfl rfl (pc0 := 162) (pc' := 167) (same := true) rfl (hb hby at_162) rfl (decide_eq_true rfl) (by decide) (by decide) k) ?_
      show own_GoW p e below s _ _ _ (T36.setTop (mkF m 167 #[.val (.int p0), .val (.int p1), .val (.int (1 : Int32)), .val (.int (0 : Int32)), .val (.ref w1), .val (.ref w0), .val (.ref w0), .val (.ref w0), .val (.ref w1)] []))
      refine own_viaW (fun _ k => XS.iconst X36.here hx rfl (hb hby at_167) k) ?_
      show own_GoW p e below s _ _ _ (T36.setTop (mkF m 168 #[.val (.int p0), .val (.int p1), .val (.int (1 : Int32)), .val (.int (0 : Int32)), .val (.ref w1), .val (.ref w0), .val (.ref w0), .val (.ref w0), .val (.ref w1)] [(.int (1 : Int32))]))
      exact own_retZW X36 hS hk hx hlk (t := .boolean) Bd.returns (by simp) (hb hby at_168) (z' := (1 : Int32)) (by first | rfl | decide) ⟨rfl, (Fr.app (Fr.app (Fr.app (Fr.app (Fr.app (Fr.app (Fr.app (Fr.app (Fr.nil n0) (Fr.nil n0)) (Fr.nil n0)) (Fr.nil n0)) (Fr.nil n0)) (Fr.nil n0)) (Fr.nil n0)) NQ35) NQ36)⟩ (by decide) (by decide)
    · rw [hk26]
      show own_GoW p e below s _ _ _ (s₁.setTop (mkF m 15 #[.val (.int p0), .val (.int p1), .val (.int (1 : Int32)), .unset, .unset, .unset, .unset, .unset, .unset] [(.int (1 : Int32))]))
      refine own_viaW (fun _ k => XS.ifNo X0.here hx rfl (hb hby at_15) rfl ((if0 _ _).trans (feq (by decide : ¬ ((1 : Int32) = (0 : Int32)))).1) k) ?_
      show own_GoW p e below s _ _ _ (s₁.setTop (mkF m 18 #[.val (.int p0), .val (.int p1), .val (.int (1 : Int32)), .unset, .unset, .unset, .unset, .unset, .unset] []))
      refine own_viaW (fun _ k => XS.iconst X0.here hx rfl (hb hby at_18) k) ?_
      show own_GoW p e below s _ _ _ (s₁.setTop (mkF m 19 #[.val (.int p0), .val (.int p1), .val (.int (1 : Int32)), .unset, .unset, .unset, .unset, .unset, .unset] [(.int (1 : Int32))]))
      refine own_viaW (fun _ k => XS.goto X0.here hx rfl (pc0 := 19) (pc' := 23) rfl (hb hby at_19) (by decide) (by decide) k) ?_
      show own_GoW p e below s _ _ _ (s₁.setTop (mkF m 23 #[.val (.int p0), .val (.int p1), .val (.int (1 : Int32)), .unset, .unset, .unset, .unset, .unset, .unset] [(.int (1 : Int32))]))
      refine own_viaW (fun _ k => XS.istoreN X0.here hx rfl (hb hby at_23) rfl (l' := #[.val (.int p0), .val (.int p1), .val (.int (1 : Int32)), .val (.int (1 : Int32)), .unset, .unset, .unset, .unset, .unset]) rfl k) ?_
      show own_GoW p e below s _ _ _ (s₁.setTop (mkF m 24 #[.val (.int p0), .val (.int p1), .val (.int (1 : Int32)), .val (.int (1 : Int32)), .unset, .unset, .unset, .unset, .unset] []))
      refine own_viaW (fun _ k => XS.iloadN X0.here hx rfl (hb hby at_24) rfl k) ?_
      show own_GoW p e below s _ _ _ (s₁.setTop (mkF m 25 #[.val (.int p0), .val (.int p1), .val (.int (1 : Int32)), .val (.int (1 : Int32)), .unset, .unset, .unset, .unset, .unset] [(.int (1 : Int32))]))
      obtain ⟨_, _, ⟨T37, L37, k37, n37⟩, -, X37, ⟨Lc37, hQ37, l37, y37, z37⟩, st37⟩ := Jvm.LawKit.callS X0 hx (y := (⟨"com/example/bericht/bericht/selector/Truth", "of", "(Z)Lcom/example/bericht/bericht/selector/Truth;"⟩ : MethodName)) hown (mvT hZ (hw _ (List.mem_of_getElem? (i := 0) rfl))) (mvT hZ (hw _ (List.mem_of_getElem? (i := 1) rfl))) (mvT hZ (hw _ (List.mem_of_getElem? (i := 2) rfl))) (mvT hZ (hw _ (List.mem_of_getElem? (i := 3) rfl))) (by decide) (backOf (W := 0) (rm1_1 l Z a0 hw [] w0 w1 w2 h0 n0 Z0 K0 OL) hZ (hw _ (List.mem_of_getElem? (i := 3) rfl)) (hw _ (List.mem_of_getElem? (i := 2) rfl)) (by decide) (by decide)) (g := (mkF m 25 #[.val (.int p0), .val (.int p1), .val (.int (1 : Int32)), .val (.int (1 : Int32)), .unset, .unset, .unset, .unset, .unset] [(.int (1 : Int32))])) rfl (by rw [hml]; rfl) (argsL := [(.int (1 : Int32))]) (rest := []) (lenOf pd0 rfl) rfl (by show 2 * 0 + _ ≤ _; exact Nat.le_of_eq rfl) (hb hby at_25) (fun _ _ => ⟨rfl, e0, (by decide : 0 + 0 ≤ _), (by decide : 0 + 0 ≤ _)⟩)
      dsimp only [Pt.U, Pt.locs, Pt.cells, Pt.slots] at X37 l37 y37 z37 st37 hQ37
      subst l37 y37 z37
      obtain ⟨rfl, e37, hO37⟩ := hQ37
      obtain rfl := hO37
      refine own_viaW st37 ?_
      show own_GoW p e below s _ _ _ (T37.setTop (mkF m 28 #[.val (.int p0), .val (.int p1), .val (.int (1 : Int32)), .val (.int (1 : Int32)), .unset, .unset, .unset, .unset, .unset] [(.ref w1)]))
      refine own_viaW (fun _ k => XS.astore X37.here hx rfl (hb hby at_28) rfl rfl (l' := #[.val (.int p0), .val (.int p1), .val (.int (1 : Int32)), .val (.int (1 : Int32)), .val (.ref w1), .unset, .unset, .unset, .unset]) rfl k) ?_
      show own_GoW p e below s _ _ _ (T37.setTop (mkF m 30 #[.val (.int p0), .val (.int p1), .val (.int (1 : Int32)), .val (.int (1 : Int32)), .val (.ref w1), .unset, .unset, .unset, .unset] []))
      refine own_viaW (fun _ k => XS.iloadN X37.here hx rfl (hb hby at_30) rfl k) ?_
      show own_GoW p e below s _ _ _ (T37.setTop (mkF m 31 #[.val (.int p0), .val (.int p1), .val (.int (1 : Int32)), .val (.int (1 : Int32)), .val (.ref w1), .unset, .unset, .unset, .unset] [(.int (1 : Int32))]))
      obtain ⟨_, _, ⟨T38, L38, k38, n38⟩, -, X38, ⟨Lc38, hQ38, l38, y38, z38⟩, st38⟩ := Jvm.LawKit.callS X37 hx (y := (⟨"com/example/bericht/bericht/selector/Truth", "of", "(Z)Lcom/example/bericht/bericht/selector/Truth;"⟩ : MethodName)) hown (mvT hZ (hw _ (List.mem_of_getElem? (i := 0) rfl))) (mvT hZ (hw _ (List.mem_of_getElem? (i := 1) rfl))) (mvT hZ (hw _ (List.mem_of_getElem? (i := 2) rfl))) (mvT hZ (hw _ (List.mem_of_getElem? (i := 3) rfl))) (by decide) (backOf (W := 0) (rm1_1 l Z a0 hw [] w0 w1 w2 h0 n0 Z0 K0 OL) hZ (hw _ (List.mem_of_getElem? (i := 3) rfl)) (hw _ (List.mem_of_getElem? (i := 2) rfl)) (by decide) (by decide)) (g := (mkF m 31 #[.val (.int p0), .val (.int p1), .val (.int (1 : Int32)), .val (.int (1 : Int32)), .val (.ref w1), .unset, .unset, .unset, .unset] [(.int (1 : Int32))])) rfl (by rw [hml]; rfl) (argsL := [(.int (1 : Int32))]) (rest := []) (lenOf pd0 rfl) rfl (by show 2 * 0 + _ ≤ _; exact Nat.le_of_eq rfl) (hb hby at_31) (fun _ _ => ⟨rfl, e37, (by decide : 0 + 0 ≤ _), (by decide : 0 + 0 ≤ _)⟩)
      dsimp only [Pt.U, Pt.locs, Pt.cells, Pt.slots] at X38 l38 y38 z38 st38 hQ38
      subst l38 y38 z38
      obtain ⟨rfl, e38, hO38⟩ := hQ38
      obtain rfl := hO38
      refine own_viaW st38 ?_
      show own_GoW p e below s _ _ _ (T38.setTop (mkF m 34 #[.val (.int p0), .val (.int p1), .val (.int (1 : Int32)), .val (.int (1 : Int32)), .val (.ref w1), .unset, .unset, .unset, .unset] [(.ref w1)]))
      refine own_viaW (fun _ k => XS.astore X38.here hx rfl (hb hby at_34) rfl rfl (l' := #[.val (.int p0), .val (.int p1), .val (.int (1 : Int32)), .val (.int (1 : Int32)), .val (.ref w1), .val (.ref w1), .unset, .unset, .unset]) rfl k) ?_
      show own_GoW p e below s _ _ _ (T38.setTop (mkF m 36 #[.val (.int p0), .val (.int p1), .val (.int (1 : Int32)), .val (.int (1 : Int32)), .val (.ref w1), .val (.ref w1), .unset, .unset, .unset] []))
      refine own_viaW (fun _ k => XS.iloadN X38.here hx rfl (hb hby at_36) rfl k) ?_
      show own_GoW p e below s _ _ _ (T38.setTop (mkF m 37 #[.val (.int p0), .val (.int p1), .val (.int (1 : Int32)), .val (.int (1 : Int32)), .val (.ref w1), .val (.ref w1), .unset, .unset, .unset] [(.int (1 : Int32))]))
      refine own_viaW (fun _ k => XS.ifYes X38.here hx rfl (pc0 := 37) (pc' := 44) rfl (hb hby at_37) rfl ((if0 _ _).trans (feq (by decide : ¬ ((1 : Int32) = (0 : Int32)))).2) (by decide) (by decide) k) ?_
      show own_GoW p e below s _ _ _ (T38.setTop (mkF m 44 #[.val (.int p0), .val (.int p1), .val (.int (1 : Int32)), .val (.int (1 : Int32)), .val (.ref w1), .val (.ref w1), .unset, .unset, .unset] []))
      refine own_viaW (fun _ k => XS.iconst X38.here hx rfl (hb hby at_44) k) ?_
      show own_GoW p e below s _ _ _ (T38.setTop (mkF m 45 #[.val (.int p0), .val (.int p1), .val (.int (1 : Int32)), .val (.int (1 : Int32)), .val (.ref w1), .val (.ref w1), .unset, .unset, .unset] [(.int (0 : Int32))]))
      obtain ⟨_, _, ⟨T39, L39, k39, n39⟩, -, X39, ⟨Lc39, hQ39, l39, y39, z39⟩, st39⟩ := Jvm.LawKit.callS X38 hx (y := (⟨"com/example/bericht/bericht/selector/Truth", "of", "(Z)Lcom/example/bericht/bericht/selector/Truth;"⟩ : MethodName)) hown (mvT hZ (hw _ (List.mem_of_getElem? (i := 0) rfl))) (mvT hZ (hw _ (List.mem_of_getElem? (i := 1) rfl))) (mvT hZ (hw _ (List.mem_of_getElem? (i := 2) rfl))) (mvT hZ (hw _ (List.mem_of_getElem? (i := 3) rfl))) (by decide) (backOf (W := 0) (rm1_0 l Z a0 hw [] w0 w1 w2 h0 n0 Z0 K0 OL) hZ (hw _ (List.mem_of_getElem? (i := 3) rfl)) (hw _ (List.mem_of_getElem? (i := 2) rfl)) (by decide) (by decide)) (g := (mkF m 45 #[.val (.int p0), .val (.int p1), .val (.int (1 : Int32)), .val (.int (1 : Int32)), .val (.ref w1), .val (.ref w1), .unset, .unset, .unset] [(.int (0 : Int32))])) rfl (by rw [hml]; rfl) (argsL := [(.int (0 : Int32))]) (rest := []) (lenOf pd0 rfl) rfl (by show 2 * 0 + _ ≤ _; exact Nat.le_of_eq rfl) (hb hby at_45) (fun _ _ => ⟨rfl, e38, (by decide : 0 + 0 ≤ _), (by decide : 0 + 0 ≤ _)⟩)
      dsimp only [Pt.U, Pt.locs, Pt.cells, Pt.slots] at X39 l39 y39 z39 st39 hQ39
      subst l39 y39 z39
      obtain ⟨rfl, e39, hO39⟩ := hQ39
      obtain rfl := hO39
      refine own_viaW st39 ?_
      show own_GoW p e below s _ _ _ (T39.setTop (mkF m 48 #[.val (.int p0), .val (.int p1), .val (.int (1 : Int32)), .val (.int (1 : Int32)), .val (.ref w1), .val (.ref w1), .unset, .unset, .unset] [(.ref w0)]))
      refine own_viaW (fun _ k => XS.astore X39.here hx rfl (hb hby at_48) rfl rfl (l' := #[.val (.int p0), .val (.int p1), .val (.int (1 : Int32)), .val (.int (1 : Int32)), .val (.ref w1), .val (.ref w1), .val (.ref w0), .unset, .unset]) rfl k) ?_
      show own_GoW p e below s _ _ _ (T39.setTop (mkF m 50 #[.val (.int p0), .val (.int p1), .val (.int (1 : Int32)), .val (.int (1 : Int32)), .val (.ref w1), .val (.ref w1), .val (.ref w0), .unset, .unset] []))
      refine own_viaW (fun _ k => XS.iloadN X39.here hx rfl (hb hby at_50) rfl k) ?_
      show own_GoW p e below s _ _ _ (T39.setTop (mkF m 51 #[.val (.int p0), .val (.int p1), .val (.int (1 : Int32)), .val (.int (1 : Int32)), .val (.ref w1), .val (.ref w1), .val (.ref w0), .unset, .unset] [(.int (1 : Int32))]))
      refine own_viaW (fun _ k => XS.ifNo X39.here hx rfl (hb hby at_51) rfl ((if0 _ _).trans (feq (by decide : ¬ ((1 : Int32) = (0 : Int32)))).1) k) ?_
      show own_GoW p e below s _ _ _ (T39.setTop (mkF m 54 #[.val (.int p0), .val (.int p1), .val (.int (1 : Int32)), .val (.int (1 : Int32)), .val (.ref w1), .val (.ref w1), .val (.ref w0), .unset, .unset] []))
      refine own_viaW (fun _ k => XS.iloadN X39.here hx rfl (hb hby at_54) rfl k) ?_
      show own_GoW p e below s _ _ _ (T39.setTop (mkF m 55 #[.val (.int p0), .val (.int p1), .val (.int (1 : Int32)), .val (.int (1 : Int32)), .val (.ref w1), .val (.ref w1), .val (.ref w0), .unset, .unset] [(.int (1 : Int32))]))
      refine own_viaW (fun _ k => XS.ifNo X39.here hx rfl (hb hby at_55) rfl ((if0 _ _).trans (feq (by decide : ¬ ((1 : Int32) = (0 : Int32)))).1) k) ?_
      show own_GoW p e below s _ _ _ (T39.setTop (mkF m 58 #[.val (.int p0), .val (.int p1), .val (.int (1 : Int32)), .val (.int (1 : Int32)), .val (.ref w1), .val (.ref w1), .val (.ref w0), .unset, .unset] []))
      refine own_viaW (fun _ k => XS.iconst X39.here hx rfl (hb hby at_58) k) ?_
      show own_GoW p e below s _ _ _ (T39.setTop (mkF m 59 #[.val (.int p0), .val (.int p1), .val (.int (1 : Int32)), .val (.int (1 : Int32)), .val (.ref w1), .val (.ref w1), .val (.ref w0), .unset, .unset] [(.int (1 : Int32))]))
      refine own_viaW (fun _ k => XS.goto X39.here hx rfl (pc0 := 59) (pc' := 63) rfl (hb hby at_59) (by decide) (by decide) k) ?_
      show own_GoW p e below s _ _ _ (T39.setTop (mkF m 63 #[.val (.int p0), .val (.int p1), .val (.int (1 : Int32)), .val (.int (1 : Int32)), .val (.ref w1), .val (.ref w1), .val (.ref w0), .unset, .unset] [(.int (1 : Int32))]))
      obtain ⟨_, _, ⟨T40, L40, k40, n40⟩, -, X40, ⟨Lc40, hQ40, l40, y40, z40⟩, st40⟩ := Jvm.LawKit.callS X39 hx (y := (⟨"com/example/bericht/bericht/selector/Truth", "of", "(Z)Lcom/example/bericht/bericht/selector/Truth;"⟩ : MethodName)) hown (mvT hZ (hw _ (List.mem_of_getElem? (i := 0) rfl))) (mvT hZ (hw _ (List.mem_of_getElem? (i := 1) rfl))) (mvT hZ (hw _ (List.mem_of_getElem? (i := 2) rfl))) (mvT hZ (hw _ (List.mem_of_getElem? (i := 3) rfl))) (by decide) (backOf (W := 0) (rm1_1 l Z a0 hw [] w0 w1 w2 h0 n0 Z0 K0 OL) hZ (hw _ (List.mem_of_getElem? (i := 3) rfl)) (hw _ (List.mem_of_getElem? (i := 2) rfl)) (by decide) (by decide)) (g := (mkF m 63 #[.val (.int p0), .val (.int p1), .val (.int (1 : Int32)), .val (.int (1 : Int32)), .val (.ref w1), .val (.ref w1), .val (.ref w0), .unset, .unset] [(.int (1 : Int32))])) rfl (by rw [hml]; rfl) (argsL := [(.int (1 : Int32))]) (rest := []) (lenOf pd0 rfl) rfl (by show 2 * 0 + _ ≤ _; exact Nat.le_of_eq rfl) (hb hby at_63) (fun _ _ => ⟨rfl, e39, (by decide : 0 + 0 ≤ _), (by decide : 0 + 0 ≤ _)⟩)
      dsimp only [Pt.U, Pt.locs, Pt.cells, Pt.slots] at X40 l40 y40 z40 st40 hQ40
      subst l40 y40 z40
      obtain ⟨rfl, e40, hO40⟩ := hQ40
      obtain rfl := hO40
      refine own_viaW st40 ?_
      show own_GoW p e below s _ _ _ (T40.setTop (mkF m 66 #[.val (.int p0), .val (.int p1), .val (.int (1 : Int32)), .val (.int (1 : Int32)), .val (.ref w1), .val (.ref w1), .val (.ref w0), .unset, .unset] [(.ref w1)]))
      refine own_viaW (fun _ k => XS.astore X40.here hx rfl (hb hby at_66) rfl rfl (l' := #[.val (.int p0), .val (.int p1), .val (.int (1 : Int32)), .val (.int (1 : Int32)), .val (.ref w1), .val (.ref w1), .val (.ref w0), .val (.ref w1), .unset]) rfl k) ?_
      show own_GoW p e below s _ _ _ (T40.setTop (mkF m 68 #[.val (.int p0), .val (.int p1), .val (.int (1 : Int32)), .val (.int (1 : Int32)), .val (.ref w1), .val (.ref w1), .val (.ref w0), .val (.ref w1), .unset] []))
      refine own_viaW (fun _ k => XS.iloadN X40.here hx rfl (hb hby at_68) rfl k) ?_
      show own_GoW p e below s _ _ _ (T40.setTop (mkF m 69 #[.val (.int p0), .val (.int p1), .val (.int (1 : Int32)), .val (.int (1 : Int32)), .val (.ref w1), .val (.ref w1), .val (.ref w0), .val (.ref w1), .unset] [(.int (1 : Int32))]))
      refine own_viaW (fun _ k => XS.ifYes X40.here hx rfl (pc0 := 69) (pc' := 76) rfl (hb hby at_69) rfl ((if0 _ _).trans (feq (by decide : ¬ ((1 : Int32) = (0 : Int32)))).2) (by decide) (by decide) k) ?_
      show own_GoW p e below s _ _ _ (T40.setTop (mkF m 76 #[.val (.int p0), .val (.int p1), .val (.int (1 : Int32)), .val (.int (1 : Int32)), .val (.ref w1), .val (.ref w1), .val (.ref w0), .val (.ref w1), .unset] []))
      refine own_viaW (fun _ k => XS.iconst X40.here hx rfl (hb hby at_76) k) ?_
      show own_GoW p e below s _ _ _ (T40.setTop (mkF m 77 #[.val (.int p0), .val (.int p1), .val (.int (1 : Int32)), .val (.int (1 : Int32)), .val (.ref w1), .val (.ref w1), .val (.ref w0), .val (.ref w1), .unset] [(.int (1 : Int32))]))
      refine own_viaW (fun _ k => XS.goto X40.here hx rfl (pc0 := 77) (pc' := 81) rfl (hb hby at_77) (by decide) (by decide) k) ?_
      show own_GoW p e below s _ _ _ (T40.setTop (mkF m 81 #[.val (.int p0), .val (.int p1), .val (.int (1 : Int32)), .val (.int (1 : Int32)), .val (.ref w1), .val (.ref w1), .val (.ref w0), .val (.ref w1), .unset] [(.int (1 : Int32))]))
      obtain ⟨_, _, ⟨T41, L41, k41, n41⟩, -, X41, ⟨Lc41, hQ41, l41, y41, z41⟩, st41⟩ := Jvm.LawKit.callS X40 hx (y := (⟨"com/example/bericht/bericht/selector/Truth", "of", "(Z)Lcom/example/bericht/bericht/selector/Truth;"⟩ : MethodName)) hown (mvT hZ (hw _ (List.mem_of_getElem? (i := 0) rfl))) (mvT hZ (hw _ (List.mem_of_getElem? (i := 1) rfl))) (mvT hZ (hw _ (List.mem_of_getElem? (i := 2) rfl))) (mvT hZ (hw _ (List.mem_of_getElem? (i := 3) rfl))) (by decide) (backOf (W := 0) (rm1_1 l Z a0 hw [] w0 w1 w2 h0 n0 Z0 K0 OL) hZ (hw _ (List.mem_of_getElem? (i := 3) rfl)) (hw _ (List.mem_of_getElem? (i := 2) rfl)) (by decide) (by decide)) (g := (mkF m 81 #[.val (.int p0), .val (.int p1), .val (.int (1 : Int32)), .val (.int (1 : Int32)), .val (.ref w1), .val (.ref w1), .val (.ref w0), .val (.ref w1), .unset] [(.int (1 : Int32))])) rfl (by rw [hml]; rfl) (argsL := [(.int (1 : Int32))]) (rest := []) (lenOf pd0 rfl) rfl (by show 2 * 0 + _ ≤ _; exact Nat.le_of_eq rfl) (hb hby at_81) (fun _ _ => ⟨rfl, e40, (by decide : 0 + 0 ≤ _), (by decide : 0 + 0 ≤ _)⟩)
      dsimp only [Pt.U, Pt.locs, Pt.cells, Pt.slots] at X41 l41 y41 z41 st41 hQ41
      subst l41 y41 z41
      obtain ⟨rfl, e41, hO41⟩ := hQ41
      obtain rfl := hO41
      refine own_viaW st41 ?_
      show own_GoW p e below s _ _ _ (T41.setTop (mkF m 84 #[.val (.int p0), .val (.int p1), .val (.int (1 : Int32)), .val (.int (1 : Int32)), .val (.ref w1), .val (.ref w1), .val (.ref w0), .val (.ref w1), .unset] [(.ref w1)]))
      refine own_viaW (fun _ k => XS.astore X41.here hx rfl (hb hby at_84) rfl rfl (l' := #[.val (.int p0), .val (.int p1), .val (.int (1 : Int32)), .val (.int (1 : Int32)), .val (.ref w1), .val (.ref w1), .val (.ref w0), .val (.ref w1), .val (.ref w1)]) rfl k) ?_
      show own_GoW p e below s _ _ _ (T41.setTop (mkF m 86 #[.val (.int p0), .val (.int p1), .val (.int (1 : Int32)), .val (.int (1 : Int32)), .val (.ref w1), .val (.ref w1), .val (.ref w0), .val (.ref w1), .val (.ref w1)] []))
      refine own_viaW (fun _ k => XS.aload X41.here hx rfl (hb hby at_86) rfl rfl k) ?_
      show own_GoW p e below s _ _ _ (T41.setTop (mkF m 88 #[.val (.int p0), .val (.int p1), .val (.int (1 : Int32)), .val (.int (1 : Int32)), .val (.ref w1), .val (.ref w1), .val (.ref w0), .val (.ref w1), .val (.ref w1)] [(.ref w1)]))
      refine own_viaW (fun _ k => XS.ifnullNo X41.here hx rfl (hb hby at_88) rfl k) ?_
      show own_GoW p e below s _ _ _ (T41.setTop (mkF m 91 #[.val (.int p0), .val (.int p1), .val (.int (1 : Int32)), .val (.int (1 : Int32)), .val (.ref w1), .val (.ref w1), .val (.ref w0), .val (.ref w1), .val (.ref w1)] []))
      refine own_viaW (fun _ k => XS.aload X41.here hx rfl (hb hby at_91) rfl rfl k) ?_
      show own_GoW p e below s _ _ _ (T41.setTop (mkF m 93 #[.val (.int p0), .val (.int p1), .val (.int (1 : Int32)), .val (.int (1 : Int32)), .val (.ref w1), .val (.ref w1), .val (.ref w0), .val (.ref w1), .val (.ref w1)] [(.ref w1)]))
      refine own_viaW (fun _ k => XS.ifnonnullYes X41.here hx rfl (pc0 := 93) (pc' := 98) rfl (hb hby at_93) rfl (by decide) (by decide) k) ?_
      show own_GoW p e below s _ _ _ (T41.setTop (mkF m 98 #[.val (.int p0), .val (.int p1), .val (.int (1 : Int32)), .val (.int (1 : Int32)), .val (.ref w1), .val (.ref w1), .val (.ref w0), .val (.ref w1), .val (.ref w1)] []))
      refine own_viaW (fun _ k => XS.aload X41.here hx rfl (hb hby at_98) rfl rfl k) ?_
      show own_GoW p e below s _ _ _ (T41.setTop (mkF m 100 #[.val (.int p0), .val (.int p1), .val (.int (1 : Int32)), .val (.int (1 : Int32)), .val (.ref w1), .val (.ref w1), .val (.ref w0), .val (.ref w1), .val (.ref w1)] [(.ref w1)]))
      obtain ⟨T42, X42, e42, st42⟩ := getS2 X41 hx hZ hown (host := "") (Or.inl (hw _ (List.mem_of_getElem? (i := 8) rfl))) Via.refl e41 (S_w2.ext OL.2) (g := (mkF m 100 #[.val (.int p0), .val (.int p1), .val (.int (1 : Int32)), .val (.int (1 : Int32)), .val (.ref w1), .val (.ref w1), .val (.ref w0), .val (.ref w1), .val (.ref w1)] [(.ref w1)])) rfl (hb hby at_100)
      refine own_viaW st42 ?_
      show own_GoW p e below s _ _ _ (T42.setTop (mkF m 103 #[.val (.int p0), .val (.int p1), .val (.int (1 : Int32)), .val (.int (1 : Int32)), .val (.ref w1), .val (.ref w1), .val (.ref w0), .val (.ref w1), .val (.ref w1)] [(.ref w2), (.ref w1)]))
      refine own_viaW (fun _ k => Jvm.RoadKit.acmp (g := (mkF m 103 #[.val (.int p0), .val (.int p1), .val (.int (1 : Int32)), .val (.int (1 : Int32)), .val (.ref w1), .val (.ref w1), .val (.ref w0), .val (.ref w1), .val (.ref w1)] [(.ref w2), (.ref w1)])) X42 hx rfl rfl rfl (pc0 := 103) (pc' := 108) (same := false) rfl (hb hby at_103) rfl (decide_eq_false fun q => n_w1_w2 (Value.ref.inj q)) (by decide) (by decide) k) ?_
      show own_GoW p e below s _ _ _ (T42.setTop (mkF m 108 #[.val (.int p0), .val (.int p1), .val (.int (1 : Int32)), .val (.int (1 : Int32)), .val (.ref w1), .val (.ref w1), .val (.ref w0), .val (.ref w1), .val (.ref w1)] []))
      refine own_viaW (fun _ k => XS.aload X42.here hx rfl (hb hby at_108) rfl rfl k) ?_
      show own_GoW p e below s _ _ _ (T42.setTop (mkF m 110 #[.val (.int p0), .val (.int p1), .val (.int (1 : Int32)), .val (.int (1 : Int32)), .val (.ref w1), .val (.ref w1), .val (.ref w0), .val (.ref w1), .val (.ref w1)] [(.ref w1)]))
      obtain ⟨T43, X43, e43, st43⟩ := getS2 X42 hx hZ hown (host := "") (Or.inl (hw _ (List.mem_of_getElem? (i := 10) rfl))) Via.refl e42 (S_w1.ext OL.2) (g := (mkF m 110 #[.val (.int p0), .val (.int p1), .val (.int (1 : Int32)), .val (.int (1 : Int32)), .val (.ref w1), .val (.ref w1), .val (.ref w0), .val (.ref w1), .val (.ref w1)] [(.ref w1)])) rfl (hb hby at_110)
      refine own_viaW st43 ?_
      show own_GoW p e below s _ _ _ (T43.setTop (mkF m 113 #[.val (.int p0), .val (.int p1), .val (.int (1 : Int32)), .val (.int (1 : Int32)), .val (.ref w1), .val (.ref w1), .val (.ref w0), .val (.ref w1), .val (.ref w1)] [(.ref w1), (.ref w1)]))
      refine own_viaW (fun _ k => Jvm.RoadKit.acmp (g := (mkF m 113 #[.val (.int p0), .val (.int p1), .val (.int (1 : Int32)), .val (.int (1 : Int32)), .val (.ref w1), .val (.ref w1), .val (.ref w0), .val (.ref w1), .val (.ref w1)] [(.ref w1), (.ref w1)])) X43 hx rfl rfl rfl (pc0 := 113) (pc' := 116) (same := true) rfl (hb hby at_113) rfl (decide_eq_true rfl) (by decide) (by decide) k) ?_
      show own_GoW p e below s _ _ _ (T43.setTop (mkF m 116 #[.val (.int p0), .val (.int p1), .val (.int (1 : Int32)), .val (.int (1 : Int32)), .val (.ref w1), .val (.ref w1), .val (.ref w0), .val (.ref w1), .val (.ref w1)] []))
      refine own_viaW (fun _ k => XS.iconst X43.here hx rfl (hb hby at_116) k) ?_
      show own_GoW p e below s _ _ _ (T43.setTop (mkF m 117 #[.val (.int p0), .val (.int p1), .val (.int (1 : Int32)), .val (.int (1 : Int32)), .val (.ref w1), .val (.ref w1), .val (.ref w0), .val (.ref w1), .val (.ref w1)] [(.int (1 : Int32))]))
      refine own_viaW (fun _ k => XS.goto X43.here hx rfl (pc0 := 117) (pc' := 121) rfl (hb hby at_117) (by decide) (by decide) k) ?_
      show own_GoW p e below s _ _ _ (T43.setTop (mkF m 121 #[.val (.int p0), .val (.int p1), .val (.int (1 : Int32)), .val (.int (1 : Int32)), .val (.ref w1), .val (.ref w1), .val (.ref w0), .val (.ref w1), .val (.ref w1)] [(.int (1 : Int32))]))
      refine own_viaW (fun _ k => XS.iloadN X43.here hx rfl (hb hby at_121) rfl k) ?_
      show own_GoW p e below s _ _ _ (T43.setTop (mkF m 122 #[.val (.int p0), .val (.int p1), .val (.int (1 : Int32)), .val (.int (1 : Int32)), .val (.ref w1), .val (.ref w1), .val (.ref w0), .val (.ref w1), .val (.ref w1)] [(.int (1 : Int32)), (.int (1 : Int32))]))
      refine own_viaW (fun _ k => XS.icmpYes X43.here hx rfl (pc0 := 122) (pc' := 127) rfl (hb hby at_122) rfl (teq (by decide : (1 : Int32) = (1 : Int32))).1 (by decide) (by decide) k) ?_
      show own_GoW p e below s _ _ _ (T43.setTop (mkF m 127 #[.val (.int p0), .val (.int p1), .val (.int (1 : Int32)), .val (.int (1 : Int32)), .val (.ref w1), .val (.ref w1), .val (.ref w0), .val (.ref w1), .val (.ref w1)] []))
      refine own_viaW (fun _ k => XS.aload X43.here hx rfl (hb hby at_127) rfl rfl k) ?_
      show own_GoW p e below s _ _ _ (T43.setTop (mkF m 129 #[.val (.int p0), .val (.int p1), .val (.int (1 : Int32)), .val (.int (1 : Int32)), .val (.ref w1), .val (.ref w1), .val (.ref w0), .val (.ref w1), .val (.ref w1)] [(.ref w1)]))
      obtain ⟨cq44, kq44, q44a, q44b, q44c⟩ := isOf hZ e43 (E_w1.ext OL.2)
      obtain ⟨_, _, ⟨T44, L44, k44, n44⟩, -, X44, ⟨Lc44, hQ44, l44, y44, z44⟩, st44⟩ := X43.virtualBack hx (y := (⟨"com/example/bericht/bericht/selector/Truth", "not", "()Lcom/example/bericht/bericht/selector/Truth;"⟩ : MethodName)) (z := (⟨"com/example/bericht/bericht/selector/Truth", "not", "()Lcom/example/bericht/bericht/selector/Truth;"⟩ : MethodName)) hown (mvT hZ (hw _ (List.mem_of_getElem? (i := 11) rfl))) (mvT hZ (hw _ (List.mem_of_getElem? (i := 12) rfl))) (notFace_of_selects (args := #[]) (mvT hZ (hw _ (List.mem_of_getElem? (i := 14) rfl)))) (mvT hZ (hw _ (List.mem_of_getElem? (i := 14) rfl))) (mvT hZ (hw _ (List.mem_of_getElem? (i := 13) rfl))) (by decide) (backOf (W := 0) (rm2_1 l Z a0 hw [] w0 w1 w2 h0 n0 Z0 K0 OL) hZ (hw _ (List.mem_of_getElem? (i := 15) rfl)) (hw _ (List.mem_of_getElem? (i := 2) rfl)) (by decide) (by decide)) q44a q44c (g := (mkF m 129 #[.val (.int p0), .val (.int p1), .val (.int (1 : Int32)), .val (.int (1 : Int32)), .val (.ref w1), .val (.ref w1), .val (.ref w0), .val (.ref w1), .val (.ref w1)] [(.ref w1)])) rfl (by rw [hml]; rfl) (Steps.refl _) (argsL := []) (rest := []) (lenOf pd2 rfl) rfl (by show 2 * 0 + _ ≤ _; exact Nat.le_of_eq rfl) (hb hby at_129) (fun _ _ => ⟨rfl, e43, (by decide : 0 + 0 ≤ _), (by decide : 0 + 0 ≤ _)⟩)
      dsimp only [Pt.U, Pt.locs, Pt.cells, Pt.slots] at X44 l44 y44 z44 st44 hQ44
      subst l44 y44 z44
      obtain ⟨rfl, e44, hO44⟩ := hQ44
      obtain rfl := hO44
      refine own_trW st44 ?_
      show own_GoW p e below s _ _ _ (T44.setTop (mkF m 132 #[.val (.int p0), .val (.int p1), .val (.int (1 : Int32)), .val (.int (1 : Int32)), .val (.ref w1), .val (.ref w1), .val (.ref w0), .val (.ref w1), .val (.ref w1)] [(.ref w0)]))
      refine own_viaW (fun _ k => XS.aload X44.here hx rfl (hb hby at_132) rfl rfl k) ?_
      show own_GoW p e below s _ _ _ (T44.setTop (mkF m 134 #[.val (.int p0), .val (.int p1), .val (.int (1 : Int32)), .val (.int (1 : Int32)), .val (.ref w1), .val (.ref w1), .val (.ref w0), .val (.ref w1), .val (.ref w1)] [(.ref w0), (.ref w0)]))
      refine own_viaW (fun _ k => Jvm.RoadKit.acmp (g := (mkF m 134 #[.val (.int p0), .val (.int p1), .val (.int (1 : Int32)), .val (.int (1 : Int32)), .val (.ref w1), .val (.ref w1), .val (.ref w0), .val (.ref w1), .val (.ref w1)] [(.ref w0), (.ref w0)])) X44 hx rfl rfl rfl (pc0 := 134) (pc' := 139) (same := true) rfl (hb hby at_134) rfl (decide_eq_true rfl) (by decide) (by decide) k) ?_
      show own_GoW p e below s _ _ _ (T44.setTop (mkF m 139 #[.val (.int p0), .val (.int p1), .val (.int (1 : Int32)), .val (.int (1 : Int32)), .val (.ref w1), .val (.ref w1), .val (.ref w0), .val (.ref w1), .val (.ref w1)] []))
      refine own_viaW (fun _ k => XS.aload X44.here hx rfl (hb hby at_139) rfl rfl k) ?_
      show own_GoW p e below s _ _ _ (T44.setTop (mkF m 141 #[.val (.int p0), .val (.int p1), .val (.int (1 : Int32)), .val (.int (1 : Int32)), .val (.ref w1), .val (.ref w1), .val (.ref w0), .val (.ref w1), .val (.ref w1)] [(.ref w1)]))
      refine own_viaW (fun _ k => XS.aload X44.here hx rfl (hb hby at_141) rfl rfl k) ?_
      show own_GoW p e below s _ _ _ (T44.setTop (mkF m 143 #[.val (.int p0), .val (.int p1), .val (.int (1 : Int32)), .val (.int (1 : Int32)), .val (.ref w1), .val (.ref w1), .val (.ref w0), .val (.ref w1), .val (.ref w1)] [(.ref w1), (.ref w1)]))
      obtain ⟨cq45, kq45, q45a, q45b, q45c⟩ := isOf hZ e44 (E_w1.ext OL.2)
      obtain ⟨_, _, ⟨T45, L45, k45, n45⟩, -, X45, hS45, hg45, ⟨Lc45, hQ45, l45, y45, z45⟩, st45⟩ := X44.virtualBackS hx (y := (⟨"com/example/bericht/bericht/selector/Truth", "and", "(Lcom/example/bericht/bericht/selector/Truth;)Lcom/example/bericht/bericht/selector/Truth;"⟩ : MethodName)) (z := (⟨"com/example/bericht/bericht/selector/Truth", "and", "(Lcom/example/bericht/bericht/selector/Truth;)Lcom/example/bericht/bericht/selector/Truth;"⟩ : MethodName)) hown (mvT hZ (hw _ (List.mem_of_getElem? (i := 25) rfl))) (mvT hZ (hw _ (List.mem_of_getElem? (i := 26) rfl))) (notFace_of_selects (args := #[]) (mvT hZ (hw _ (List.mem_of_getElem? (i := 28) rfl)))) (mvT hZ (hw _ (List.mem_of_getElem? (i := 28) rfl))) (mvT hZ (hw _ (List.mem_of_getElem? (i := 27) rfl))) (by decide) (backOfS (W := 0) (rm4_3 l Z a0 hw [] w0 w1 w2 h0 n0 Z0 K0 OL) hZ (hw _ (List.mem_of_getElem? (i := 29) rfl)) (hw _ (List.mem_of_getElem? (i := 2) rfl)) (by decide) (by decide)) q45a q45c (g := (mkF m 143 #[.val (.int p0), .val (.int p1), .val (.int (1 : Int32)), .val (.int (1 : Int32)), .val (.ref w1), .val (.ref w1), .val (.ref w0), .val (.ref w1), .val (.ref w1)] [(.ref w1), (.ref w1)])) rfl (by rw [hml]; rfl) (Steps.refl _) (argsL := [(.ref w1)]) (rest := []) (lenOf pd4 rfl) rfl (by show 2 * 0 + _ ≤ _; exact Nat.le_of_eq rfl) (hb hby at_143) (fun _ _ => ⟨rfl, e44, (by decide : 0 + 2 ≤ _), (by decide : 0 + 24 ≤ _)⟩)
      dsimp only [Pt.U, Pt.locs, Pt.cells, Pt.slots] at X45 l45 y45 z45 st45 hQ45 hS45 hg45
      subst l45 y45 z45
      have X45 : Stand p l e _ (s.setVm T45.vm) _ _ _ _ _ _ _ _ _ := X45
      have hS := foldS hS (by rw [e44]; exact hk) hS45 hg45
      have hown : (s.setVm T45.vm).vm.findClass "com/example/bericht/bericht/selector/TruthOfPinLaw" = some m.cls := by rw [show (s.setVm T45.vm).vm = T45.vm from rfl, hS45.1.alike.findClass]; exact hown
      have hZ : Z.Warmed39 (s.setVm T45.vm).vm := State.Warmed39.trans (t := s.setVm s.vm) hZ hS45.1
      have hk : T45.heap.size ≤ T45.heap.size := Nat.le_refl _
      obtain ⟨NQ45, OL, Z0, hO45⟩ := hQ45
      obtain rfl := hO45
      refine own_trW st45 ?_
      show own_GoW p e below s _ _ _ (T45.setTop (mkF m 146 #[.val (.int p0), .val (.int p1), .val (.int (1 : Int32)), .val (.int (1 : Int32)), .val (.ref w1), .val (.ref w1), .val (.ref w0), .val (.ref w1), .val (.ref w1)] [(.ref w1)]))
      refine own_viaW (fun _ k => XS.aload X45.here hx rfl (hb hby at_146) rfl rfl k) ?_
      show own_GoW p e below s _ _ _ (T45.setTop (mkF m 148 #[.val (.int p0), .val (.int p1), .val (.int (1 : Int32)), .val (.int (1 : Int32)), .val (.ref w1), .val (.ref w1), .val (.ref w0), .val (.ref w1), .val (.ref w1)] [(.ref w1), (.ref w1)]))
      refine own_viaW (fun _ k => Jvm.RoadKit.acmp (g := (mkF m 148 #[.val (.int p0), .val (.int p1), .val (.int (1 : Int32)), .val (.int (1 : Int32)), .val (.ref w1), .val (.ref w1), .val (.ref w0), .val (.ref w1), .val (.ref w1)] [(.ref w1), (.ref w1)])) X45 hx rfl rfl rfl (pc0 := 148) (pc' := 153) (same := true) rfl (hb hby at_148) rfl (decide_eq_true rfl) (by decide) (by decide) k) ?_
      show own_GoW p e below s _ _ _ (T45.setTop (mkF m 153 #[.val (.int p0), .val (.int p1), .val (.int (1 : Int32)), .val (.int (1 : Int32)), .val (.ref w1), .val (.ref w1), .val (.ref w0), .val (.ref w1), .val (.ref w1)] []))
      refine own_viaW (fun _ k => XS.aload X45.here hx rfl (hb hby at_153) rfl rfl k) ?_
      show own_GoW p e below s _ _ _ (T45.setTop (mkF m 155 #[.val (.int p0), .val (.int p1), .val (.int (1 : Int32)), .val (.int (1 : Int32)), .val (.ref w1), .val (.ref w1), .val (.ref w0), .val (.ref w1), .val (.ref w1)] [(.ref w1)]))
      refine own_viaW (fun _ k => XS.aload X45.here hx rfl (hb hby at_155) rfl rfl k) ?_
      show own_GoW p e below s _ _ _ (T45.setTop (mkF m 157 #[.val (.int p0), .val (.int p1), .val (.int (1 : Int32)), .val (.int (1 : Int32)), .val (.ref w1), .val (.ref w1), .val (.ref w0), .val (.ref w1), .val (.ref w1)] [(.ref w1), (.ref w1)]))
      obtain ⟨cq46, kq46, q46a, q46b, q46c⟩ := isOf hZ rfl (E_w1.ext OL.2)
      obtain ⟨_, _, ⟨T46, L46, k46, n46⟩, -, X46, hS46, hg46, ⟨Lc46, hQ46, l46, y46, z46⟩, st46⟩ := X45.virtualBackS hx (y := (⟨"com/example/bericht/bericht/selector/Truth", "or", "(Lcom/example/bericht/bericht/selector/Truth;)Lcom/example/bericht/bericht/selector/Truth;"⟩ : MethodName)) (z := (⟨"com/example/bericht/bericht/selector/Truth", "or", "(Lcom/example/bericht/bericht/selector/Truth;)Lcom/example/bericht/bericht/selector/Truth;"⟩ : MethodName)) hown (mvT hZ (hw _ (List.mem_of_getElem? (i := 42) rfl))) (mvT hZ (hw _ (List.mem_of_getElem? (i := 43) rfl))) (notFace_of_selects (args := #[]) (mvT hZ (hw _ (List.mem_of_getElem? (i := 45) rfl)))) (mvT hZ (hw _ (List.mem_of_getElem? (i := 45) rfl))) (mvT hZ (hw _ (List.mem_of_getElem? (i := 44) rfl))) (by decide) (backOfS (W := 0) (rm6_3 l Z a0 hw [] w0 w1 w2 T45.heap n0 Z0 K0 OL) hZ (hw _ (List.mem_of_getElem? (i := 46) rfl)) (hw _ (List.mem_of_getElem? (i := 2) rfl)) (by decide) (by decide)) q46a q46c (g := (mkF m 157 #[.val (.int p0), .val (.int p1), .val (.int (1 : Int32)), .val (.int (1 : Int32)), .val (.ref w1), .val (.ref w1), .val (.ref w0), .val (.ref w1), .val (.ref w1)] [(.ref w1), (.ref w1)])) rfl (by rw [hml]; rfl) (Steps.refl _) (argsL := [(.ref w1)]) (rest := []) (lenOf pd4 rfl) rfl (by show 2 * 0 + _ ≤ _; exact Nat.le_of_eq rfl) (hb hby at_157) (fun _ _ => ⟨rfl, rfl, (by decide : 0 + 2 + 2 ≤ _), (by decide : 0 + 24 + 24 ≤ _)⟩)
      dsimp only [Pt.U, Pt.locs, Pt.cells, Pt.slots] at X46 l46 y46 z46 st46 hQ46 hS46 hg46
      subst l46 y46 z46
      have X46 : Stand p l e _ (s.setVm T46.vm) _ _ _ _ _ _ _ _ _ := X46
      have hS := foldS hS hk hS46 hg46
      have hown : (s.setVm T46.vm).vm.findClass "com/example/bericht/bericht/selector/TruthOfPinLaw" = some m.cls := by rw [show (s.setVm T46.vm).vm = T46.vm from rfl, hS46.1.alike.findClass]; exact hown
      have hZ : Z.Warmed39 (s.setVm T46.vm).vm := State.Warmed39.trans (t := s.setVm T45.vm) hZ hS46.1
      have hk : T46.heap.size ≤ T46.heap.size := Nat.le_refl _
      obtain ⟨NQ46, OL, Z0, hO46⟩ := hQ46
      obtain rfl := hO46
      refine own_trW st46 ?_
      show own_GoW p e below s _ _ _ (T46.setTop (mkF m 160 #[.val (.int p0), .val (.int p1), .val (.int (1 : Int32)), .val (.int (1 : Int32)), .val (.ref w1), .val (.ref w1), .val (.ref w0), .val (.ref w1), .val (.ref w1)] [(.ref w1)]))
      refine own_viaW (fun _ k => XS.aload X46.here hx rfl (hb hby at_160) rfl rfl k) ?_
      show own_GoW p e below s _ _ _ (T46.setTop (mkF m 162 #[.val (.int p0), .val (.int p1), .val (.int (1 : Int32)), .val (.int (1 : Int32)), .val (.ref w1), .val (.ref w1), .val (.ref w0), .val (.ref w1), .val (.ref w1)] [(.ref w1), (.ref w1)]))
      refine own_viaW (fun _ k => Jvm.RoadKit.acmp (g := (mkF m 162 #[.val (.int p0), .val (.int p1), .val (.int (1 : Int32)), .val (.int (1 : Int32)), .val (.ref w1), .val (.ref w1), .val (.ref w0), .val (.ref w1), .val (.ref w1)] [(.ref w1), (.ref w1)])) X46 hx rfl rfl rfl (pc0 := 162) (pc' := 167) (same := true) rfl (hb hby at_162) rfl (decide_eq_true rfl) (by decide) (by decide) k) ?_
      show own_GoW p e below s _ _ _ (T46.setTop (mkF m 167 #[.val (.int p0), .val (.int p1), .val (.int (1 : Int32)), .val (.int (1 : Int32)), .val (.ref w1), .val (.ref w1), .val (.ref w0), .val (.ref w1), .val (.ref w1)] []))
      refine own_viaW (fun _ k => XS.iconst X46.here hx rfl (hb hby at_167) k) ?_
      show own_GoW p e below s _ _ _ (T46.setTop (mkF m 168 #[.val (.int p0), .val (.int p1), .val (.int (1 : Int32)), .val (.int (1 : Int32)), .val (.ref w1), .val (.ref w1), .val (.ref w0), .val (.ref w1), .val (.ref w1)] [(.int (1 : Int32))]))
      exact own_retZW X46 hS hk hx hlk (t := .boolean) Bd.returns (by simp) (hb hby at_168) (z' := (1 : Int32)) (by first | rfl | decide) ⟨rfl, (Fr.app (Fr.app (Fr.app (Fr.app (Fr.app (Fr.app (Fr.app (Fr.app (Fr.nil n0) (Fr.nil n0)) (Fr.nil n0)) (Fr.nil n0)) (Fr.nil n0)) (Fr.nil n0)) (Fr.nil n0)) NQ45) NQ46)⟩ (by decide) (by decide)
set_option maxRecDepth 65536 in
set_option maxHeartbeats 40000000 in
theorem comes_1 {Post : Tables → Env → Array Value → State → Outcome → State → Prop} (hpost : ∀ tb e args s v u, (limb_1_1.after args s (.returned v) u = true ∧ limb_1_2.after args s (.returned v) u = true ∧ True) → ReturnedEndW s (.returned v) u (Jvm.fieldLocs frame_1_writes args s ++ Jvm.arrayLocs frame_1_arrays args s ++ Jvm.staticLocs frame_1_statics s) 8 1088 → Post tb e args s (.returned v) u) :
    ArmFor flags0 classFile x code maxLocals ret World_1 tables_1 room_1 Calls_1 rest_1 Pre_1 Post := by
  intro l hfl _ _ p e ha hc hk s m args below hf hA hF happ hP
  obtain ⟨hcalls, hrest, hpre⟩ := hP
  obtain ⟨-, -, -, hnamed, -, -, -, hat⟩ := (Spec.applies_iff hf).mp happ
  obtain ⟨hg, hn⟩ := and_e (Cond.before_iff.mp (show (Jvm.Cond.and given_1 narrow_1).before args s = true from hpre))
  obtain ⟨g0, hg0⟩ := and_e hg
  obtain ⟨g1, hg1⟩ := and_e hg0
  obtain ⟨u0, u1, rfl⟩ : ∃ u0 u1 : Value, args = #[u0, u1] := by
    have hs : args.size = 2 := by simpa [Cond.value, given_1] using g0
    obtain ⟨L⟩ := args
    match L, hs with
    | [u0, u1], _ => exact ⟨u0, u1, rfl⟩
  have hw := fun d (hd : d ∈ tables_1) => atoms_spec (ws := Jvm.Cond.code x code maxLocals ret :: tables_1) hat d (List.mem_cons_of_mem _ hd)
  obtain ⟨i0, ei0⟩ := is_v g1
  obtain rfl : u0 = (.int i0) := Option.some.inj ei0
  obtain ⟨i1, ei1⟩ := is_v hg1
  obtain rfl : u1 = (.int i1) := Option.some.inj ei1
  obtain ⟨t0, hn0⟩ := and_e hn
  obtain ⟨t1, hn1⟩ := and_e hn0
  obtain ⟨t2, hn2⟩ := and_e hn1
  obtain ⟨t3, hn3⟩ := and_e hn2
  obtain ⟨t4, hn4⟩ := and_e hn3
  obtain ⟨w0, v_w0⟩ := exa_v t0
  have E_w0 := Exa.start v_w0 t0
  have S_w0 := Sta.start v_w0 (Or.inr ⟨(hw _ (List.mem_of_getElem? (i := 2) rfl)), (hw _ (List.mem_of_getElem? (i := 5) rfl))⟩)
  obtain ⟨w1, v_w1⟩ := exa_v t1
  have E_w1 := Exa.start v_w1 t1
  have S_w1 := Sta.start v_w1 (Or.inr ⟨(hw _ (List.mem_of_getElem? (i := 2) rfl)), (hw _ (List.mem_of_getElem? (i := 7) rfl))⟩)
  obtain ⟨w2, v_w2⟩ := exa_v t2
  have E_w2 := Exa.start v_w2 t2
  have S_w2 := Sta.start v_w2 (Or.inr ⟨(hw _ (List.mem_of_getElem? (i := 2) rfl)), (hw _ (List.mem_of_getElem? (i := 9) rfl))⟩)
  have F_w0_ordinal := own_fld v_w0 t3
  have F_w2_ordinal := own_fld v_w2 t4
  have F_w1_ordinal := own_fld v_w1 hn4
  have n_w0_w1 : ¬ (w0 = w1) := Fld.ne F_w0_ordinal F_w1_ordinal (by decide)
  have n_w0_w2 : ¬ (w0 = w2) := Fld.ne F_w0_ordinal F_w2_ordinal (by decide)
  have n_w1_w2 : ¬ (w1 = w2) := Fld.ne F_w1_ordinal F_w2_ordinal (by decide)
  obtain ⟨n, o, h1, h2, h3, _, L, rfl, ⟨rfl, N⟩, hq⟩ := rm0 l s _ hw tables_1 i0 i1 w0 w1 w2 s.heap s.heap.size (Nat.le_refl _) ⟨S_w0, S_w1, S_w2, E_w0, E_w1, E_w2, F_w0_ordinal, F_w2_ordinal, F_w1_ordinal, n_w0_w1, n_w0_w2, n_w1_w2⟩ (Old.start s) p e ha hc hk s m _ below hf ((Spec.applies_iff_loose hf).mp happ).1 ⟨rfl, State.Warmed39.refl s, rfl⟩ trivial
  refine ⟨n, _, h1, h2, h3, hpost _ _ _ _ _ _ ⟨Cond.after_iff.mpr rfl, Cond.after_iff.mpr (eq_i res_at (Term.int_eval (1)) rfl), trivial⟩ ⟨hq.1, hq.2.1, hq.2.2.1, (hq.2.2.2.sift fun y hy => Or.inr (N y hy)).mono (by decide) (by decide)⟩⟩
theorem main_1_1 : Claimed_1_1 := comes_1 fun _ _ _ _ _ _ h hF => ⟨h.1, hF⟩
theorem main_1_2 : Claimed_1_2 := comes_1 fun _ _ _ _ _ _ h hF => ⟨h.2.1, hF⟩
end Jvm.Pilot.@@N@@
namespace Jvm.Pilot.@@N@@
open Jvm Jvm.ClassFile Sem Op Lib Jvm.Free Jvm.Stand Jvm.Pilot.@@N@@.Jvm.D
/-! MADE BY PROGRAM (witnessworld.py) out of the Statement's table words and the real class files: 16 classes; the members and pool entries that the words name. The judged class is class 1, her method 1. -/
namespace start1
open Jvm.ClassFile
def u (s : String) : CpInfo := .utf8 (stringToUtf16 s)
/-- a pool by its gaps: so many unusable entries, then the entry; so many at the end -/
def gap : Nat → List CpInfo → List CpInfo
  | 0, r => r
  | n + 1, r => .unusable :: gap n r
def poolList (es : List (Nat × CpInfo)) (last : Nat) : List CpInfo := es.foldr (fun e r => gap e.1 (e.2 :: r)) (gap last [])
def pool (es : List (Nat × CpInfo)) (last : Nat) : Array CpInfo := ⟨poolList es last⟩
def fileOf (pool : Array CpInfo) (this : Nat) (attrs : Array Attribute := #[]) (ms : Array MethodInfo := #[]) (fl : Nat := 33) (sup : Nat := 0) (ifs : Array Nat := #[]) (fds : Array FieldInfo := #[]) : ClassFile where
  minorVersion := 0
  majorVersion := 65
  constantPool := pool
  accessFlags := fl
  thisClass := this
  superClass := sup
  interfaces := ifs
  fields := fds
  methods := ms
  attributes := attrs
def plain (name : String) (sup : Option ClassId) : Class where
  name := name
  kind := .ordinary
  loader := none
  accessFlags := 33
  super := sup
  interfaces := #[]
  cf := none
  fields := #[]
  methods := #[]
  instanceTypes := #[]
  staticTypes := #[]
  resolved := #[]
  callSites := []
  init := .initialized
  statics := none
  mirror := none

def pool0 : Array CpInfo := pool [(5, u "<init>"), (0, u "()V"), (1, .class_ 10), (1, u "java/lang/Object")] 113

def k0m0 : Method := { name := "<init>", desc := "()V", sig := { parameters := [], returnType := none }, accessFlags := 1, code := none }
/-- java/lang/Object -/
def k0 : Class := { plain "java/lang/Object" none with
  accessFlags := 33
  interfaces := #[]
  cf := some (fileOf pool0 8 #[] #[{ accessFlags := 1, nameIndex := 5, descriptorIndex := 6, attributes := #[] }] 33 0 #[] #[])
  fields := #[]
  methods := #[k0m0]
  instanceTypes := #[]
  staticTypes := #[]
  resolved := Array.replicate 124 none
  statics := none }

def pool1 : Array CpInfo := pool [(2, .class_ 4), (1, u "java/lang/Object"), (0, u "<init>"), (0, u "()V"), (0, .methodref 8 9), (0, .class_ 10), (0, .nameAndType 11 12), (0, u "com/example/bericht/bericht/selector/Truth"), (0, u "of"), (0, u "(Z)Lcom/example/bericht/bericht/selector/Truth;"), (0, .fieldref 8 14), (0, .nameAndType 15 16), (0, u "UNKNOWN"), (0, u "Lcom/example/bericht/bericht/selector/Truth;"), (0, .fieldref 8 18), (0, .nameAndType 19 16), (0, u "TRUE"), (0, .methodref 8 21), (0, .nameAndType 22 23), (0, u "not"), (0, u "()Lcom/example/bericht/bericht/selector/Truth;"), (0, .methodref 8 25), (0, .nameAndType 26 27), (0, u "and"), (0, u "(Lcom/example/bericht/bericht/selector/Truth;)Lcom/example/bericht/bericht/selector/Truth;"), (0, .methodref 8 29), (0, .nameAndType 30 27), (0, u "or"), (0, .class_ 32), (0, u "com/example/bericht/bericht/selector/TruthOfPinLaw"), (2, u "law"), (0, u "(II)Z")] 3

def k1m0 : Method := { name := "<init>", desc := "()V", sig := { parameters := [], returnType := none }, accessFlags := 1, code := none }
def k1c1 : Code := { maxStack := 2, maxLocals := 9, code := code, exceptionTable := #[], attributes := #[] }
def k1m1 : Method := { name := "law", desc := "(II)Z", sig := { parameters := [.int, .int], returnType := some .boolean }, accessFlags := 9, code := some k1c1 }
/-- com/example/bericht/bericht/selector/TruthOfPinLaw -/
def k1 : Class := { plain "com/example/bericht/bericht/selector/TruthOfPinLaw" (some 0) with
  accessFlags := 49
  interfaces := #[]
  cf := some (fileOf pool1 31 #[] #[{ accessFlags := 1, nameIndex := 5, descriptorIndex := 6, attributes := #[] }, { accessFlags := 9, nameIndex := 35, descriptorIndex := 36, attributes := #[] }] 49 2 #[] #[])
  fields := #[]
  methods := #[k1m0, k1m1]
  instanceTypes := #[]
  staticTypes := #[]
  resolved := Array.replicate 40 none
  statics := none }

def pool2 : Array CpInfo := pool [(1, .class_ 2), (0, u "java/lang/constant/Constable"), (0, .class_ 4), (0, u "java/lang/Object")] 6

/-- java/lang/constant/Constable -/
def k2 : Class := { plain "java/lang/constant/Constable" (some 0) with
  accessFlags := 1537
  interfaces := #[]
  cf := some (fileOf pool2 1 #[] #[] 1537 3 #[] #[])
  fields := #[]
  methods := #[]
  instanceTypes := #[]
  staticTypes := #[]
  resolved := Array.replicate 11 none
  statics := none }

def pool3 : Array CpInfo := pool [(1, .class_ 2), (0, u "java/lang/Comparable"), (0, .class_ 4), (0, u "java/lang/Object")] 7

/-- java/lang/Comparable -/
def k3 : Class := { plain "java/lang/Comparable" (some 0) with
  accessFlags := 1537
  interfaces := #[]
  cf := some (fileOf pool3 1 #[] #[] 1537 3 #[] #[])
  fields := #[]
  methods := #[]
  instanceTypes := #[]
  staticTypes := #[]
  resolved := Array.replicate 12 none
  statics := none }

def pool4 : Array CpInfo := pool [(1, .class_ 2), (0, u "java/io/Serializable"), (0, .class_ 4), (0, u "java/lang/Object")] 2

/-- java/io/Serializable -/
def k4 : Class := { plain "java/io/Serializable" (some 0) with
  accessFlags := 1537
  interfaces := #[]
  cf := some (fileOf pool4 1 #[] #[] 1537 3 #[] #[])
  fields := #[]
  methods := #[]
  instanceTypes := #[]
  staticTypes := #[]
  resolved := Array.replicate 7 none
  statics := none }

def pool5 : Array CpInfo := pool [(2, .class_ 4), (1, u "java/lang/Enum"), (0, u "name"), (0, u "Ljava/lang/String;"), (0, .fieldref 2 8), (0, .nameAndType 9 10), (0, u "ordinal"), (0, u "I"), (1, .class_ 14), (1, u "java/lang/Object"), (4, u "hash"), (86, .class_ 108), (1, u "java/lang/Enum$EnumDesc"), (2, .class_ 112), (0, u "java/lang/constant/Constable"), (0, .class_ 114), (0, u "java/lang/Comparable"), (0, .class_ 116), (0, u "java/io/Serializable"), (9, u "()I")] 77

def k5c0 : Code := { maxStack := 1, maxLocals := 1, code := jdk_37_method_2_code, exceptionTable := #[], attributes := #[] }
def k5m0 : Method := { name := "ordinal", desc := "()I", sig := { parameters := [], returnType := some .int }, accessFlags := 17, code := some k5c0 }
/-- java/lang/Enum -/
def k5 : Class := { plain "java/lang/Enum" (some 0) with
  accessFlags := 1057
  interfaces := #[2, 3, 4]
  cf := some (fileOf pool5 2 #[.nestMembers #[106]] #[{ accessFlags := 17, nameIndex := 9, descriptorIndex := 126, attributes := #[] }] 1057 12 #[111, 113, 115] #[{ accessFlags := 18, nameIndex := 5, descriptorIndex := 6, attributes := #[] }, { accessFlags := 18, nameIndex := 9, descriptorIndex := 10, attributes := #[] }, { accessFlags := 2, nameIndex := 19, descriptorIndex := 10, attributes := #[] }])
  fields := #[{ name := "name", type := (.object "java/lang/String"), accessFlags := 18, slot := 0, constantValue := 0 }, { name := "ordinal", type := .int, accessFlags := 18, slot := 1, constantValue := 0 }, { name := "hash", type := .int, accessFlags := 2, slot := 2, constantValue := 0 }]
  methods := #[k5m0]
  instanceTypes := #[(.object "java/lang/String"), .int, .int]
  staticTypes := #[]
  resolved := Array.replicate 204 none
  statics := none }

def pool6 : Array CpInfo := pool [(1, .class_ 2), (0, u "com/example/bericht/bericht/selector/Truth"), (0, .fieldref 1 4), (0, .nameAndType 5 6), (0, u "TRUE"), (0, u "Lcom/example/bericht/bericht/selector/Truth;"), (0, .fieldref 1 8), (0, .nameAndType 9 6), (0, u "FALSE"), (0, .fieldref 1 11), (0, .nameAndType 12 6), (0, u "UNKNOWN"), (2, u "$VALUES"), (0, u "[Lcom/example/bericht/bericht/selector/Truth;"), (6, .class_ 25), (1, u "java/lang/Enum"), (6, .methodref 1 33), (0, .nameAndType 34 35), (0, u "ordinal"), (0, u "()I"), (5, .string 42), (0, u "other"), (0, .methodref 44 45), (0, .class_ 46), (0, .nameAndType 47 48), (0, u "java/util/Objects"), (0, u "requireNonNull"), (0, u "(Ljava/lang/Object;Ljava/lang/String;)Ljava/lang/Object;"), (15, u "of"), (0, u "(Z)Lcom/example/bericht/bericht/selector/Truth;"), (1, u "not"), (0, u "()Lcom/example/bericht/bericht/selector/Truth;"), (0, u "and"), (0, u "(Lcom/example/bericht/bericht/selector/Truth;)Lcom/example/bericht/bericht/selector/Truth;"), (0, u "or")] 4

def k6c0 : Code := { maxStack := 1, maxLocals := 1, code := prog_93_method_4_code, exceptionTable := #[], attributes := #[] }
def k6m0 : Method := { name := "of", desc := "(Z)Lcom/example/bericht/bericht/selector/Truth;", sig := { parameters := [.boolean], returnType := some (.object "com/example/bericht/bericht/selector/Truth") }, accessFlags := 9, code := some k6c0 }
def k6c1 : Code := { maxStack := 4, maxLocals := 1, code := prog_93_method_5_code, exceptionTable := #[], attributes := #[] }
def k6m1 : Method := { name := "not", desc := "()Lcom/example/bericht/bericht/selector/Truth;", sig := { parameters := [], returnType := some (.object "com/example/bericht/bericht/selector/Truth") }, accessFlags := 1, code := some k6c1 }
def k6c2 : Code := { maxStack := 2, maxLocals := 3, code := prog_93_method_6_code, exceptionTable := #[], attributes := #[] }
def k6m2 : Method := { name := "and", desc := "(Lcom/example/bericht/bericht/selector/Truth;)Lcom/example/bericht/bericht/selector/Truth;", sig := { parameters := [(.object "com/example/bericht/bericht/selector/Truth")], returnType := some (.object "com/example/bericht/bericht/selector/Truth") }, accessFlags := 1, code := some k6c2 }
def k6c3 : Code := { maxStack := 2, maxLocals := 3, code := prog_93_method_7_code, exceptionTable := #[], attributes := #[] }
def k6m3 : Method := { name := "or", desc := "(Lcom/example/bericht/bericht/selector/Truth;)Lcom/example/bericht/bericht/selector/Truth;", sig := { parameters := [(.object "com/example/bericht/bericht/selector/Truth")], returnType := some (.object "com/example/bericht/bericht/selector/Truth") }, accessFlags := 1, code := some k6c3 }
/-- com/example/bericht/bericht/selector/Truth -/
def k6 : Class := { plain "com/example/bericht/bericht/selector/Truth" (some 5) with
  accessFlags := 16433
  interfaces := #[]
  cf := some (fileOf pool6 1 #[] #[{ accessFlags := 9, nameIndex := 64, descriptorIndex := 65, attributes := #[] }, { accessFlags := 1, nameIndex := 67, descriptorIndex := 68, attributes := #[] }, { accessFlags := 1, nameIndex := 69, descriptorIndex := 70, attributes := #[] }, { accessFlags := 1, nameIndex := 71, descriptorIndex := 70, attributes := #[] }] 16433 23 #[] #[{ accessFlags := 16409, nameIndex := 5, descriptorIndex := 6, attributes := #[] }, { accessFlags := 16409, nameIndex := 9, descriptorIndex := 6, attributes := #[] }, { accessFlags := 16409, nameIndex := 12, descriptorIndex := 6, attributes := #[] }, { accessFlags := 4122, nameIndex := 15, descriptorIndex := 16, attributes := #[] }])
  fields := #[{ name := "TRUE", type := (.object "com/example/bericht/bericht/selector/Truth"), accessFlags := 16409, slot := 0, constantValue := 0 }, { name := "FALSE", type := (.object "com/example/bericht/bericht/selector/Truth"), accessFlags := 16409, slot := 1, constantValue := 0 }, { name := "UNKNOWN", type := (.object "com/example/bericht/bericht/selector/Truth"), accessFlags := 16409, slot := 2, constantValue := 0 }, { name := "$VALUES", type := (.array (.object "com/example/bericht/bericht/selector/Truth")), accessFlags := 4122, slot := 3, constantValue := 0 }]
  methods := #[k6m0, k6m1, k6m2, k6m3]
  instanceTypes := #[(.object "java/lang/String"), .int, .int]
  staticTypes := #[(.object "com/example/bericht/bericht/selector/Truth"), (.object "com/example/bericht/bericht/selector/Truth"), (.object "com/example/bericht/bericht/selector/Truth"), (.array (.object "com/example/bericht/bericht/selector/Truth"))]
  resolved := Array.replicate 76 none
  statics := some 0 }

def pool7 : Array CpInfo := pool [(2, .class_ 4), (1, u "java/lang/CharSequence"), (42, .class_ 48), (0, u "java/lang/CharSequence$1CodePointIterator"), (10, .class_ 60), (0, u "java/lang/CharSequence$1CharIterator"), (5, .class_ 67), (0, u "java/lang/Object")] 63

/-- java/lang/CharSequence -/
def k7 : Class := { plain "java/lang/CharSequence" (some 0) with
  accessFlags := 1537
  interfaces := #[]
  cf := some (fileOf pool7 2 #[.nestMembers #[47, 59]] #[] 1537 66 #[] #[])
  fields := #[]
  methods := #[]
  instanceTypes := #[]
  staticTypes := #[]
  resolved := Array.replicate 131 none
  statics := none }

def pool8 : Array CpInfo := pool [(1, .class_ 2), (0, u "java/lang/constant/ConstantDesc"), (0, .class_ 4), (0, u "java/lang/Object")] 32

/-- java/lang/constant/ConstantDesc -/
def k8 : Class := { plain "java/lang/constant/ConstantDesc" (some 0) with
  accessFlags := 1537
  interfaces := #[]
  cf := some (fileOf pool8 1 #[] #[] 1537 3 #[] #[])
  fields := #[]
  methods := #[]
  instanceTypes := #[]
  staticTypes := #[]
  resolved := Array.replicate 37 none
  statics := none }

def pool9 : Array CpInfo := pool [(2, .class_ 4), (1, u "java/lang/Object"), (0, u "<init>"), (0, u "()V"), (3, .class_ 12), (1, u "java/lang/String"), (0, u "value"), (0, u "[B"), (2, u "coder"), (0, u "B"), (2, u "hash"), (0, u "I"), (2, u "hashIsZero"), (0, u "Z"), (13, u "COMPACT_STRINGS"), (534, .class_ 576), (0, u "java/lang/CharSequence"), (22, u "CASE_INSENSITIVE_ORDER"), (0, u "Ljava/util/Comparator;"), (500, u "serialPersistentFields"), (0, u "[Ljava/io/ObjectStreamField;"), (0, .class_ 1104), (0, u "java/lang/String$CaseInsensitiveComparator"), (1, .class_ 1107), (0, u "java/io/Serializable"), (0, .class_ 1109), (0, u "java/lang/Comparable"), (0, .class_ 1111), (0, u "java/lang/constant/Constable"), (0, .class_ 1113), (0, u "java/lang/constant/ConstantDesc"), (2, u "serialVersionUID"), (0, u "J"), (3, u "REPL"), (0, u "C"), (2, u "LATIN1"), (1, u "UTF16")] 323

def k9m0 : Method := { name := "<init>", desc := "()V", sig := { parameters := [], returnType := none }, accessFlags := 1, code := none }
/-- java/lang/String -/
def k9 : Class := { plain "java/lang/String" (some 0) with
  accessFlags := 49
  interfaces := #[4, 3, 7, 2, 8]
  cf := some (fileOf pool9 10 #[.nestMembers #[1103]] #[{ accessFlags := 1, nameIndex := 5, descriptorIndex := 6, attributes := #[] }] 49 2 #[1106, 1108, 575, 1110, 1112] #[{ accessFlags := 18, nameIndex := 13, descriptorIndex := 14, attributes := #[] }, { accessFlags := 18, nameIndex := 17, descriptorIndex := 18, attributes := #[] }, { accessFlags := 2, nameIndex := 21, descriptorIndex := 22, attributes := #[] }, { accessFlags := 2, nameIndex := 25, descriptorIndex := 26, attributes := #[] }, { accessFlags := 26, nameIndex := 1116, descriptorIndex := 1117, attributes := #[] }, { accessFlags := 24, nameIndex := 40, descriptorIndex := 26, attributes := #[] }, { accessFlags := 26, nameIndex := 1101, descriptorIndex := 1102, attributes := #[] }, { accessFlags := 26, nameIndex := 1121, descriptorIndex := 1122, attributes := #[] }, { accessFlags := 25, nameIndex := 599, descriptorIndex := 600, attributes := #[] }, { accessFlags := 24, nameIndex := 1125, descriptorIndex := 18, attributes := #[] }, { accessFlags := 24, nameIndex := 1127, descriptorIndex := 18, attributes := #[] }])
  fields := #[{ name := "value", type := (.array .byte), accessFlags := 18, slot := 0, constantValue := 0 }, { name := "coder", type := .byte, accessFlags := 18, slot := 1, constantValue := 0 }, { name := "hash", type := .int, accessFlags := 2, slot := 2, constantValue := 0 }, { name := "hashIsZero", type := .boolean, accessFlags := 2, slot := 3, constantValue := 0 }, { name := "serialVersionUID", type := .long, accessFlags := 26, slot := 0, constantValue := 0 }, { name := "COMPACT_STRINGS", type := .boolean, accessFlags := 24, slot := 1, constantValue := 0 }, { name := "serialPersistentFields", type := (.array (.object "java/io/ObjectStreamField")), accessFlags := 26, slot := 2, constantValue := 0 }, { name := "REPL", type := .char, accessFlags := 26, slot := 3, constantValue := 0 }, { name := "CASE_INSENSITIVE_ORDER", type := (.object "java/util/Comparator"), accessFlags := 25, slot := 4, constantValue := 0 }, { name := "LATIN1", type := .byte, accessFlags := 24, slot := 5, constantValue := 0 }, { name := "UTF16", type := .byte, accessFlags := 24, slot := 6, constantValue := 0 }]
  methods := #[k9m0]
  instanceTypes := #[(.array .byte), .byte, .int, .boolean]
  staticTypes := #[.long, .boolean, (.array (.object "java/io/ObjectStreamField")), .char, (.object "java/util/Comparator"), .byte, .byte]
  resolved := Array.replicate 1451 none
  statics := none }

def pool10 : Array CpInfo := pool [(2, .class_ 4), (1, u "java/lang/Object"), (0, u "<init>"), (0, u "()V"), (35, .class_ 44), (1, u "java/util/Objects"), (0, u "requireNonNull"), (48, u "(Ljava/lang/Object;Ljava/lang/String;)Ljava/lang/Object;")] 89

def k10m0 : Method := { name := "<init>", desc := "()V", sig := { parameters := [], returnType := none }, accessFlags := 2, code := none }
def k10c1 : Code := { maxStack := 3, maxLocals := 2, code := jdk_31_method_11_code, exceptionTable := #[], attributes := #[] }
def k10m1 : Method := { name := "requireNonNull", desc := "(Ljava/lang/Object;Ljava/lang/String;)Ljava/lang/Object;", sig := { parameters := [(.object "java/lang/Object"), (.object "java/lang/String")], returnType := some (.object "java/lang/Object") }, accessFlags := 9, code := some k10c1 }
/-- java/util/Objects -/
def k10 : Class := { plain "java/util/Objects" (some 0) with
  accessFlags := 49
  interfaces := #[]
  cf := some (fileOf pool10 42 #[] #[{ accessFlags := 2, nameIndex := 5, descriptorIndex := 6, attributes := #[] }, { accessFlags := 9, nameIndex := 45, descriptorIndex := 94, attributes := #[] }] 49 2 #[] #[])
  fields := #[]
  methods := #[k10m0, k10m1]
  instanceTypes := #[]
  staticTypes := #[]
  resolved := Array.replicate 184 none
  statics := none }

def pool11 : Array CpInfo := pool [(1, u "java/lang/Cloneable"), (0, .class_ 1), (0, u "java/lang/Object"), (0, .class_ 3)] 3

/-- java/lang/Cloneable -/
def k11 : Class := { plain "java/lang/Cloneable" (some 0) with
  accessFlags := 1537
  interfaces := #[]
  cf := some (fileOf pool11 2 #[] #[] 1537 4 #[] #[])
  fields := #[]
  methods := #[]
  instanceTypes := #[]
  staticTypes := #[]
  resolved := Array.replicate 8 none
  statics := none }

/-- the primitive byte -/
def k12 : Class := { plain "byte" none with kind := .primitive 'B', accessFlags := 0x411 }
/-- [B -/
def k13 : Class := { plain "[B" (some 0) with kind := .array 12 .byte, interfaces := #[11, 4], accessFlags := 1041 }

/-- the primitive int -/
def k14 : Class := { plain "int" none with kind := .primitive 'I', accessFlags := 0x411 }
/-- [I -/
def k15 : Class := { plain "[I" (some 0) with kind := .array 14 .int, interfaces := #[11, 4], accessFlags := 1041 }

def heap : Heap := #[{ cls := 6, slots := #[.ref 2, .ref 1, .ref 3, .null], vm := .statics 6 },
  { cls := 6, slots := #[.null, .int 1, .int 0], vm := .none },
  { cls := 6, slots := #[.null, .int 0, .int 0], vm := .none },
  { cls := 6, slots := #[.null, .int 2, .int 0], vm := .none }]
def classes : Array Class := #[k0, k1, k2, k3, k4, k5, k6, k7, k8, k9, k10, k11, k12, k13, k14, k15]
def interned : List (Array UInt16 × Addr) := []
def slotsUsed : Nat := 13
def theMethod : MethodId := ⟨1, 1⟩
def args0 : Array Value := #[.int 5, .int 5]
def aboutOver (below : List Frame) : State where
  vm := { classes := classes, interned := interned.toArray }
  heap := heap
  slotsUsed := slotsUsed
  threads := #[{ frames := .invoking theMethod args0 :: below }]
def below0 : List Frame := [.native { method := ⟨0, 0⟩, args := #[] }]
def about1 : State := aboutOver below0
def p0 : Program := .bare "" "" ""
def e0 : Env := launch0.env 0 0 0
theorem w_frames : about1.frames = Frame.invoking theMethod args0 :: below0 := rfl
set_option maxRecDepth 65536 in
theorem w_args : argsFit about1.vm theMethod args0 = true := by decide +kernel
set_option maxRecDepth 65536 in
theorem w_heap : heapFits about1 = true := by decide +kernel
set_option maxRecDepth 65536 in
theorem w_runnable : about1.curStatus? = some .runnable := by decide +kernel
set_option maxRecDepth 65536 in
theorem w_alone : about1.alone = true := by decide +kernel
set_option maxRecDepth 65536 in
theorem w_named : about1.methodNamed? x = some theMethod := by decide +kernel
set_option maxRecDepth 65536 in
theorem w_hears : about1.hears theMethod below0 = true := by decide +kernel
set_option maxRecDepth 65536 in
theorem w_ripe : about1.ripe theMethod args0 below0 = true := by decide +kernel
theorem w_running : about1.status = .running := rfl
set_option maxRecDepth 65536 in
theorem w_room : about1.hasRoom e0.platform room_1 = true :=
  launch0.hasRoom_least _ room_1 (by decide +kernel) (by decide +kernel) (by decide +kernel) (by decide +kernel) (by decide +kernel) (by decide +kernel)
theorem allAtoms_all (ts : List Jvm.Cond) (a : Array Jvm.Value) (st : Jvm.State) : (allAtoms ts).before a st = ts.all (fun c => c.before a st) := by
  induction ts with
  | nil => rfl
  | cons c t ih =>
    show (Jvm.Cond.and c (allAtoms t)).before a st = _
    rw [Jvm.Cond.before_and, ih, List.all_cons]
def words1 : List Jvm.Cond := Jvm.Cond.code x code maxLocals ret :: tables_1
/-- a 'code' word, met by the world's own term for the bytes: nothing is compared byte by byte -/
theorem code_word {y : MethodName} {bytes : ByteArray} {mx : Nat} {rt : Option FieldType} {a : Array Value} {s : State} {m : MethodId} {meth : Method} {c : Code} (h1 : s.methodNamed? y = some m) (h2 : s.vm.method? m = some meth) (h3 : meth.code = some c) (h4 : c.code = bytes)
    (h5 : (c.maxLocals == mx && c.exceptionTable.isEmpty && decide (c.maxStack ≤ mostOperands) && decide (meth.sig.returnType = rt) && !meth.locks && decide (parseMethodDescriptor y.desc = some meth.sig)) = true) : (Jvm.Cond.code y bytes mx rt).before a s = true := by
  simp only [Bool.and_eq_true, beq_iff_eq, Bool.not_eq_true', decide_eq_true_eq] at h5
  obtain ⟨⟨⟨⟨⟨g1, g2⟩, g3⟩, g4⟩, g5⟩, g6⟩ := h5
  simp [Cond.before, Cond.holds, Cond.value, h1, h2, h3, h4, g1, g2, g3, g4, g5, g6]
def isCode : Jvm.Cond → Bool
  | .code _ _ _ _ => true
  | _ => false
theorem all_split {L : List Jvm.Cond} {P : Jvm.Cond → Bool} (h1 : L.all (fun c => isCode c || P c) = true) (h2 : ∀ c ∈ L.filter isCode, P c = true) : L.all P = true := by
  refine List.all_eq_true.mpr fun c hc => ?_
  have h := List.all_eq_true.mp h1 c hc
  rcases Bool.eq_false_or_eq_true (isCode c) with hi | hi
  · exact h2 c (List.mem_filter.mpr ⟨hc, hi⟩)
  · simpa [hi] using h
set_option maxRecDepth 65536 in
theorem w_c0 : (Jvm.Cond.code x code maxLocals ret).before args0 about1 = true := code_word (m := ⟨1, 1⟩) (meth := k1m1) (c := k1c1) (by decide +kernel) rfl rfl rfl (by decide +kernel)
set_option maxRecDepth 65536 in
theorem w_c1 : (Jvm.Cond.code ({ cls := "com/example/bericht/bericht/selector/Truth", name := "of", desc := "(Z)Lcom/example/bericht/bericht/selector/Truth;" } : Jvm.MethodName) prog_93_method_4_code (1 : Nat) (Option.some (Jvm.ClassFile.FieldType.object "com/example/bericht/bericht/selector/Truth"))).before args0 about1 = true := code_word (m := ⟨6, 0⟩) (meth := k6m0) (c := k6c0) (by decide +kernel) rfl rfl rfl (by decide +kernel)
set_option maxRecDepth 65536 in
theorem w_c2 : (Jvm.Cond.code ({ cls := "com/example/bericht/bericht/selector/Truth", name := "not", desc := "()Lcom/example/bericht/bericht/selector/Truth;" } : Jvm.MethodName) prog_93_method_5_code (1 : Nat) (Option.some (Jvm.ClassFile.FieldType.object "com/example/bericht/bericht/selector/Truth"))).before args0 about1 = true := code_word (m := ⟨6, 1⟩) (meth := k6m1) (c := k6c1) (by decide +kernel) rfl rfl rfl (by decide +kernel)
set_option maxRecDepth 65536 in
theorem w_c3 : (Jvm.Cond.code ({ cls := "java/lang/Enum", name := "ordinal", desc := "()I" } : Jvm.MethodName) jdk_37_method_2_code (1 : Nat) (Option.some Jvm.ClassFile.FieldType.int)).before args0 about1 = true := code_word (m := ⟨5, 0⟩) (meth := k5m0) (c := k5c0) (by decide +kernel) rfl rfl rfl (by decide +kernel)
set_option maxRecDepth 65536 in
theorem w_c4 : (Jvm.Cond.code ({ cls := "com/example/bericht/bericht/selector/Truth", name := "and", desc := "(Lcom/example/bericht/bericht/selector/Truth;)Lcom/example/bericht/bericht/selector/Truth;" } : Jvm.MethodName) prog_93_method_6_code (3 : Nat) (Option.some (Jvm.ClassFile.FieldType.object "com/example/bericht/bericht/selector/Truth"))).before args0 about1 = true := code_word (m := ⟨6, 2⟩) (meth := k6m2) (c := k6c2) (by decide +kernel) rfl rfl rfl (by decide +kernel)
set_option maxRecDepth 65536 in
theorem w_c5 : (Jvm.Cond.code ({ cls := "java/util/Objects", name := "requireNonNull", desc := "(Ljava/lang/Object;Ljava/lang/String;)Ljava/lang/Object;" } : Jvm.MethodName) jdk_31_method_11_code (2 : Nat) (Option.some (Jvm.ClassFile.FieldType.object "java/lang/Object"))).before args0 about1 = true := code_word (m := ⟨10, 1⟩) (meth := k10m1) (c := k10c1) (by decide +kernel) rfl rfl rfl (by decide +kernel)
set_option maxRecDepth 65536 in
theorem w_c6 : (Jvm.Cond.code ({ cls := "com/example/bericht/bericht/selector/Truth", name := "or", desc := "(Lcom/example/bericht/bericht/selector/Truth;)Lcom/example/bericht/bericht/selector/Truth;" } : Jvm.MethodName) prog_93_method_7_code (3 : Nat) (Option.some (Jvm.ClassFile.FieldType.object "com/example/bericht/bericht/selector/Truth"))).before args0 about1 = true := code_word (m := ⟨6, 3⟩) (meth := k6m3) (c := k6c3) (by decide +kernel) rfl rfl rfl (by decide +kernel)
def codes1 : List Jvm.Cond := [Jvm.Cond.code x code maxLocals ret, Jvm.Cond.code ({ cls := "com/example/bericht/bericht/selector/Truth", name := "of", desc := "(Z)Lcom/example/bericht/bericht/selector/Truth;" } : Jvm.MethodName) prog_93_method_4_code (1 : Nat) (Option.some (Jvm.ClassFile.FieldType.object "com/example/bericht/bericht/selector/Truth")), Jvm.Cond.code ({ cls := "com/example/bericht/bericht/selector/Truth", name := "not", desc := "()Lcom/example/bericht/bericht/selector/Truth;" } : Jvm.MethodName) prog_93_method_5_code (1 : Nat) (Option.some (Jvm.ClassFile.FieldType.object "com/example/bericht/bericht/selector/Truth")), Jvm.Cond.code ({ cls := "java/lang/Enum", name := "ordinal", desc := "()I" } : Jvm.MethodName) jdk_37_method_2_code (1 : Nat) (Option.some Jvm.ClassFile.FieldType.int), Jvm.Cond.code ({ cls := "com/example/bericht/bericht/selector/Truth", name := "and", desc := "(Lcom/example/bericht/bericht/selector/Truth;)Lcom/example/bericht/bericht/selector/Truth;" } : Jvm.MethodName) prog_93_method_6_code (3 : Nat) (Option.some (Jvm.ClassFile.FieldType.object "com/example/bericht/bericht/selector/Truth")), Jvm.Cond.code ({ cls := "java/util/Objects", name := "requireNonNull", desc := "(Ljava/lang/Object;Ljava/lang/String;)Ljava/lang/Object;" } : Jvm.MethodName) jdk_31_method_11_code (2 : Nat) (Option.some (Jvm.ClassFile.FieldType.object "java/lang/Object")), Jvm.Cond.code ({ cls := "com/example/bericht/bericht/selector/Truth", name := "or", desc := "(Lcom/example/bericht/bericht/selector/Truth;)Lcom/example/bericht/bericht/selector/Truth;" } : Jvm.MethodName) prog_93_method_7_code (3 : Nat) (Option.some (Jvm.ClassFile.FieldType.object "com/example/bericht/bericht/selector/Truth"))]
set_option maxRecDepth 65536 in
theorem codes_eq : words1.filter isCode = codes1 := rfl
theorem w_codes : ∀ c ∈ words1.filter isCode, c.before args0 about1 = true := by
  rw [codes_eq]
  intro c hc
  simp only [codes1, List.mem_cons, List.not_mem_nil, or_false] at hc
  rcases hc with rfl | rfl | rfl | rfl | rfl | rfl | rfl
  · exact w_c0
  · exact w_c1
  · exact w_c2
  · exact w_c3
  · exact w_c4
  · exact w_c5
  · exact w_c6
set_option maxRecDepth 65536 in
theorem w_t1 : (words1.take 24).all (fun c => isCode c || c.before args0 about1) = true := by decide +kernel
set_option maxRecDepth 65536 in
theorem w_t2 : ((words1.drop 24).take 24).all (fun c => isCode c || c.before args0 about1) = true := by decide +kernel
set_option maxRecDepth 65536 in
theorem w_t3 : ((words1.drop 24).drop 24).all (fun c => isCode c || c.before args0 about1) = true := by decide +kernel
theorem w_tables : (allAtoms (Jvm.Cond.code x code maxLocals ret :: tables_1)).before args0 about1 = true := by
  rw [allAtoms_all]
  show words1.all (fun c => c.before args0 about1) = true
  refine all_split ?_ w_codes
  rw [← List.take_append_drop 24 words1, List.all_append, w_t1, ← List.take_append_drop 24 (words1.drop 24), List.all_append, w_t2, w_t3]
  rfl
set_option maxRecDepth 65536 in
theorem w_case : (Jvm.Cond.and given_1 narrow_1).before args0 about1 = true := by decide +kernel
theorem w_applies : (headSpec (Jvm.Cond.code x code maxLocals ret :: tables_1) room_1).applies x e0.platform about1 = true :=
  (Spec.applies_iff w_frames).mpr ⟨w_running, w_runnable, w_alone, w_named, w_hears, w_ripe, w_room, w_tables⟩
theorem atStart : AtStart classFile x code maxLocals ret World_1 tables_1 room_1 Calls_1 rest_1 Pre_1 launch0 p0 e0 about1 theMethod args0 below0 :=
  ⟨lists_1, trivial, launch0.admits_env _ _ _, launch0.least_env, fairChoices_fair.cas, fairChoices_fair.clock, w_frames, w_args, w_heap, w_applies, trivial, trivial, w_case⟩
end start1
theorem witness_1 : WitnessClaimed_1 := ⟨start1.p0, start1.e0, start1.about1, start1.theMethod, start1.args0, start1.below0, start1.atStart⟩
end Jvm.Pilot.@@N@@
