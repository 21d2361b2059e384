import JvmDerived
import JvmDerived.Pilot.@@N@@Statement
import JvmDerived.Pilot.@@N@@Code
set_option linter.unusedVariables false
set_option linter.unusedSimpArgs false
namespace Jvm.Pilot.@@N@@
open Jvm Jvm.ClassFile Sem Op Lib Jvm.Free Jvm.Stand Jvm.LawKit Jvm.RoadKit Bundle Jvm.Pilot.@@N@@.Jvm.D
def own_Go (p : Program) (e : Env) (below : List Frame) (s : State) (Q : Option Value → Heap → List Loc → Prop) (kc ks : Nat) (A : State) : Prop :=
  ∃ s₂ o, Steps p.tables e below A s₂ ∧ s₂.status = .running ∧ Ended s₂ below o ∧ ∃ v L, o = .returned v ∧ Q v s₂.heap L ∧ FrameEnd s o s₂ L kc ks
section OwnLayer
variable {p : Program} {l : Launch} {e : Env} {R : Room} {s : State} {m : MethodId} {args : Array Value} {below : List Frame} {meth : Method} {c : Code} {T : State} {locs : List Loc} {cells slots : Nat}
variable {Q : Option Value → Heap → List Loc → Prop} {kc ks : Nat} {A B : State}
theorem own_via (h : ∀ t, Steps p.tables e below B t → Steps p.tables e below A t) (g : own_Go p e below s Q kc ks B) : own_Go p e below s Q kc ks A := by
  obtain ⟨t, o, h1, r⟩ := g
  exact ⟨t, o, h _ h1, r⟩
theorem own_tr (h : Steps p.tables e below A B) (g : own_Go p e below s Q kc ks B) : own_Go p e below s Q kc ks A := by
  obtain ⟨t, o, h1, r⟩ := g
  exact ⟨t, o, h.trans h1, r⟩
theorem own_end (X : Stand p l e R s m args below meth c T locs cells slots) (hlk : meth.locks = false) {v : Option Value} (hv : meth.sig.returnType = none → v = none) {A : State}
    (hstep : ∀ fs, (∀ (f : JFrame) (acts : List Action), f.method = m → f.locked = none → f.entered = [] → (doReturn e (T.setTop f) acts v).1 = T.setFrames fs) → Steps p.tables e below A (T.setFrames fs))
    (hQ : Q v T.heap locs) (hc : cells ≤ kc) (hs : slots ≤ ks) : own_Go p e below s Q kc ks A := by
  obtain ⟨fs, hr, hrun, hended, hW, hsame⟩ := X.leave (v := v) hv hlk
  exact ⟨_, _, hstep fs hr, hrun, hended, _, _, rfl, hQ, ⟨_, rfl⟩, hW, hsame.mono hc hs⟩
theorem own_retZ (X : Stand p l e R s m args below meth c T locs cells slots) (hx : p.tables.exec = Jvm.exec) (hlk : meth.locks = false) {pc : Nat} {Ls : Array Slot} {z z' : Int32} {t : FieldType} {rest : List Value} (hret : meth.sig.returnType = some t) (ht : t = .boolean ∨ t = .byte ∨ t = .char ∨ t = .short)
    (hd : decode c.code pc = .ok (.ireturn, 1)) (hz : nar t z = z') (hQ : Q (some (.int z')) T.heap locs) (hc : cells ≤ kc) (hs : slots ≤ ks) : own_Go p e below s Q kc ks (T.setTop (mkF m pc Ls (.int z :: rest))) := by
  subst hz
  exact own_end X hlk (fun h => by rw [hret] at h; cases h) (fun fs hr => retN X hx hret ht hd hr) hQ hc hs
theorem own_retO (X : Stand p l e R s m args below meth c T locs cells slots) (hx : p.tables.exec = Jvm.exec) (hlk : meth.locks = false) {pc : Nat} {Ls : Array Slot} {w : Value} {t : FieldType} {i : Instr} {rest : List Value} (hret : meth.sig.returnType = some t) (hn : narrow t w = w)
    (hi : (i = .ireturn ∧ (t = .int ∨ t = .boolean ∨ t = .byte ∨ t = .char ∨ t = .short) ∧ ∃ z, w = .int z) ∨ (i = .lreturn ∧ t = .long ∧ ∃ z, w = .long z) ∨ (i = .dreturn ∧ t = .double ∧ ∃ z, w = .double z) ∨ (i = .freturn ∧ t = .float ∧ ∃ z, w = .float z) ∨ (i = .areturn ∧ t.isReference = true ∧ w.isRef = true))
    (hd : decode c.code pc = .ok (i, 1)) (hQ : Q (some w) T.heap locs) (hc : cells ≤ kc) (hs : slots ≤ ks) : own_Go p e below s Q kc ks (T.setTop (mkF m pc Ls (w :: rest))) :=
  own_end X hlk (fun h => by rw [hret] at h; cases h) (fun fs hr => retOut X hx hret hn hi hd hr) hQ hc hs
theorem own_retI (X : Stand p l e R s m args below meth c T locs cells slots) (hx : p.tables.exec = Jvm.exec) (hlk : meth.locks = false) {pc : Nat} {Ls : Array Slot} {z : Int32} {rest : List Value} (hret : meth.sig.returnType = some .int)
    (hd : decode c.code pc = .ok (.ireturn, 1)) (hQ : Q (some (.int z)) T.heap locs) (hc : cells ≤ kc) (hs : slots ≤ ks) : own_Go p e below s Q kc ks (T.setTop (mkF m pc Ls (.int z :: rest))) :=
  own_retO X hx hlk hret rfl (Or.inl ⟨rfl, Or.inl rfl, _, rfl⟩) hd hQ hc hs
theorem own_retJ (X : Stand p l e R s m args below meth c T locs cells slots) (hx : p.tables.exec = Jvm.exec) (hlk : meth.locks = false) {pc : Nat} {Ls : Array Slot} {z : Int64} {rest : List Value} (hret : meth.sig.returnType = some .long)
    (hd : decode c.code pc = .ok (.lreturn, 1)) (hQ : Q (some (.long z)) T.heap locs) (hc : cells ≤ kc) (hs : slots ≤ ks) : own_Go p e below s Q kc ks (T.setTop (mkF m pc Ls (.long z :: rest))) :=
  own_retO X hx hlk hret rfl (Or.inr (Or.inl ⟨rfl, rfl, _, rfl⟩)) hd hQ hc hs
theorem own_retR (X : Stand p l e R s m args below meth c T locs cells slots) (hx : p.tables.exec = Jvm.exec) (hlk : meth.locks = false) {pc : Nat} {Ls : Array Slot} {w : Value} {t : FieldType} {rest : List Value} (hret : meth.sig.returnType = some t) (ht : t.isReference = true) (hw : w.isRef = true)
    (hd : decode c.code pc = .ok (.areturn, 1)) (hQ : Q (some w) T.heap locs) (hc : cells ≤ kc) (hs : slots ≤ ks) : own_Go p e below s Q kc ks (T.setTop (mkF m pc Ls (w :: rest))) :=
  own_retO X hx hlk hret (by cases t <;> first | (cases ht; done) | rfl) (Or.inr (Or.inr (Or.inr (Or.inr ⟨rfl, ht, hw⟩)))) hd hQ hc hs
theorem own_retV (X : Stand p l e R s m args below meth c T locs cells slots) (hx : p.tables.exec = Jvm.exec) (hlk : meth.locks = false) {pc : Nat} {Ls : Array Slot} (hret : meth.sig.returnType = none)
    (hd : decode c.code pc = .ok (.return_, 1)) (hQ : Q none T.heap locs) (hc : cells ≤ kc) (hs : slots ≤ ks) : own_Go p e below s Q kc ks (T.setTop (mkF m pc Ls [])) :=
  own_end X hlk (fun _ => rfl) (fun fs hr => X.returnOut hx hret hd hr) hQ hc hs
end OwnLayer
theorem own_eqv {args : Array Value} {Z : State} {t : Term} {k : Int32} (h : (Jvm.Cond.eq t (Term.int k)).value args Z none Z [] = some true) : t.eval args Z none [] Z = some (.int k) := by
  simp only [Jvm.Cond.value, Term.eval] at h
  cases ht : t.eval args Z none [] Z with
  | none => simp [ht] at h
  | some x => cases x <;> simp [ht] at h ⊢; exact h
theorem own_eqvL {args : Array Value} {Z : State} {t : Term} {k : Int64} (h : (Jvm.Cond.eq t (Term.long k)).value args Z none Z [] = some true) : t.eval args Z none [] Z = some (.long k) := by
  simp only [Jvm.Cond.value, Term.eval] at h
  cases ht : t.eval args Z none [] Z with
  | none => simp [ht] at h
  | some x => cases x <;> simp [ht] at h ⊢; exact h
theorem own_fld {args : Array Value} {Z : State} {t : Term} {C n d : String} {a : Addr} {k : Int32} (ev : t.eval args Z none [] Z = some (.ref a)) (h : (Jvm.Cond.eq (Term.field t C n d) (Term.int k)).value args Z none Z [] = some true) : Fld Z Z.heap a C n d (.int k) :=
  Fld.start ((fld_at ev).symm.trans (own_eqv h))
theorem own_fldL {args : Array Value} {Z : State} {t : Term} {C n d : String} {a : Addr} {k : Int64} (ev : t.eval args Z none [] Z = some (.ref a)) (h : (Jvm.Cond.eq (Term.field t C n d) (Term.long k)).value args Z none Z [] = some true) : Fld Z Z.heap a C n d (.long k) :=
  Fld.start ((fld_at ev).symm.trans (own_eqvL h))
theorem own_mod (x : Int32) (n : Int32) (k : Int) (hn : n.toInt = k) (hk : 0 < k) : 0 ≤ ((x &&& 2147483647) % n).toInt ∧ ((x &&& 2147483647) % n).toInt < k := by
  have h := (c_and x 2147483647 (by decide)).1
  rw [Int32.toInt_mod, hn, Int.tmod_eq_emod_of_nonneg h]
  exact ⟨Int.emod_nonneg _ (by omega), Int.emod_lt_of_pos _ hk⟩
theorem own_z {x y : Int32} (h : x.toInt = y.toInt) : x = y := Int32.toInt_inj.mp h
theorem own_mod3 (x : Int32) : (x &&& 2147483647) % 3 = 0 ∨ (x &&& 2147483647) % 3 = 1 ∨ (x &&& 2147483647) % 3 = 2 := by
  have h := own_mod x 3 3 rfl (by decide)
  simp only [← Int32.toInt_inj, show (0 : Int32).toInt = 0 from rfl, show (1 : Int32).toInt = 1 from rfl, show (2 : Int32).toInt = 2 from rfl]
  omega
theorem own_mod5 (x : Int32) : (x &&& 2147483647) % 5 = 0 ∨ (x &&& 2147483647) % 5 = 1 ∨ (x &&& 2147483647) % 5 = 2 ∨ (x &&& 2147483647) % 5 = 3 ∨ (x &&& 2147483647) % 5 = 4 := by
  have h := own_mod x 5 5 rfl (by decide)
  simp only [← Int32.toInt_inj, show (0 : Int32).toInt = 0 from rfl, show (1 : Int32).toInt = 1 from rfl, show (2 : Int32).toInt = 2 from rfl, show (3 : Int32).toInt = 3 from rfl, show (4 : Int32).toInt = 4 from rfl]
  omega
theorem own_mod6 (x : Int32) : (x &&& 2147483647) % 6 = 0 ∨ (x &&& 2147483647) % 6 = 1 ∨ (x &&& 2147483647) % 6 = 2 ∨ (x &&& 2147483647) % 6 = 3 ∨ (x &&& 2147483647) % 6 = 4 ∨ (x &&& 2147483647) % 6 = 5 := by
  have h := own_mod x 6 6 rfl (by decide)
  simp only [← Int32.toInt_inj, show (0 : Int32).toInt = 0 from rfl, show (1 : Int32).toInt = 1 from rfl, show (2 : Int32).toInt = 2 from rfl, show (3 : Int32).toInt = 3 from rfl, show (4 : Int32).toInt = 4 from rfl, show (5 : Int32).toInt = 5 from rfl]
  omega
theorem own_and1 (x : Int32) : x &&& 1 = 0 ∨ x &&& 1 = 1 := by
  have h := c_and x 1 (by decide)
  simp only [← Int32.toInt_inj, show (0 : Int32).toInt = 0 from rfl, show (1 : Int32).toInt = 1 from rfl] at *
  omega
theorem own_and3 (x : Int32) : x &&& 3 = 0 ∨ x &&& 3 = 1 ∨ x &&& 3 = 2 ∨ x &&& 3 = 3 := by
  have h := c_and x 3 (by decide)
  simp only [← Int32.toInt_inj, show (0 : Int32).toInt = 0 from rfl, show (1 : Int32).toInt = 1 from rfl, show (2 : Int32).toInt = 2 from rfl, show (3 : Int32).toInt = 3 from rfl] at *
  omega
def own_K (Z : State) (h0 : Heap) (w0 : Addr) (w1 : Addr) (w2 : Addr) (w3 : Addr) (w4 : Addr) : Prop :=
  Sta Z h0 "com/example/grantfall/grantfall/model/Role" "OWNER" "Lcom/example/grantfall/grantfall/model/Role;" (.ref w0) ∧
  Sta Z h0 "com/example/grantfall/grantfall/model/Role" "GUEST" "Lcom/example/grantfall/grantfall/model/Role;" (.ref w1) ∧
  Sta Z h0 "com/example/grantfall/grantfall/model/Role" "REVIEWER" "Lcom/example/grantfall/grantfall/model/Role;" (.ref w2) ∧
  Sta Z h0 "com/example/grantfall/grantfall/model/Role" "CONTENT_ADMIN" "Lcom/example/grantfall/grantfall/model/Role;" (.ref w3) ∧
  Sta Z h0 "com/example/grantfall/grantfall/model/Role" "MEMBER" "Lcom/example/grantfall/grantfall/model/Role;" (.ref w4) ∧
  Exa Z h0 w0 "com/example/grantfall/grantfall/model/Role" ∧
  Exa Z h0 w1 "com/example/grantfall/grantfall/model/Role" ∧
  Exa Z h0 w2 "com/example/grantfall/grantfall/model/Role" ∧
  Exa Z h0 w3 "com/example/grantfall/grantfall/model/Role" ∧
  Exa Z h0 w4 "com/example/grantfall/grantfall/model/Role" ∧
  Fld Z h0 w2 "java/lang/Enum" "ordinal" "I" (.int (4 : Int32)) ∧
  Fld Z h0 w0 "java/lang/Enum" "ordinal" "I" (.int (0 : Int32)) ∧
  Fld Z h0 w3 "java/lang/Enum" "ordinal" "I" (.int (1 : Int32)) ∧
  Fld Z h0 w1 "java/lang/Enum" "ordinal" "I" (.int (3 : Int32)) ∧
  Fld Z h0 w4 "java/lang/Enum" "ordinal" "I" (.int (2 : Int32)) ∧
  ¬ (w0 = w1) ∧
  ¬ (w0 = w2) ∧
  ¬ (w0 = w3) ∧
  ¬ (w0 = w4) ∧
  ¬ (w1 = w2) ∧
  ¬ (w1 = w3) ∧
  ¬ (w1 = w4) ∧
  ¬ (w2 = w3) ∧
  ¬ (w2 = w4) ∧
  ¬ (w3 = w4)
theorem pn0 : plainName "com/example/grantfall/grantfall/model/RoleIncludesPinLaw" = true := by first | (simp [plainName, overriddenIn]; done) | decide +kernel
theorem pn1 : plainName "com/example/grantfall/grantfall/model/Role" = true := by first | (simp [plainName, overriddenIn]; done) | decide +kernel
theorem pd0 : parseMethodDescriptor "(I)Lcom/example/grantfall/grantfall/model/Role;" = some ⟨[.int], some (.object "com/example/grantfall/grantfall/model/Role")⟩ := by decide +kernel
theorem pd1 : parseMethodDescriptor "(Lcom/example/grantfall/grantfall/model/Role;)Z" = some ⟨[(.object "com/example/grantfall/grantfall/model/Role")], some .boolean⟩ := by decide +kernel
theorem d1_0 : decode method_2_code 0 = .ok (.iload_n 0, 1) := by decide +kernel
theorem d1_1 : decode method_2_code 1 = .ok (.ifCond .ne 7, 3) := by decide +kernel
theorem d1_4 : decode method_2_code 4 = .ok (.getstatic 7, 3) := by decide +kernel
theorem d1_7 : decode method_2_code 7 = .ok (.areturn, 1) := by decide +kernel
theorem d1_8 : decode method_2_code 8 = .ok (.iload_n 0, 1) := by decide +kernel
theorem d1_9 : decode method_2_code 9 = .ok (.iconst 1, 1) := by decide +kernel
theorem d1_10 : decode method_2_code 10 = .ok (.if_icmp .ne 7, 3) := by decide +kernel
theorem d1_13 : decode method_2_code 13 = .ok (.getstatic 13, 3) := by decide +kernel
theorem d1_16 : decode method_2_code 16 = .ok (.areturn, 1) := by decide +kernel
theorem d1_17 : decode method_2_code 17 = .ok (.iload_n 0, 1) := by decide +kernel
theorem d1_18 : decode method_2_code 18 = .ok (.iconst 2, 1) := by decide +kernel
theorem d1_19 : decode method_2_code 19 = .ok (.if_icmp .ne 7, 3) := by decide +kernel
theorem d1_22 : decode method_2_code 22 = .ok (.getstatic 16, 3) := by decide +kernel
theorem d1_25 : decode method_2_code 25 = .ok (.areturn, 1) := by decide +kernel
theorem d1_26 : decode method_2_code 26 = .ok (.iload_n 0, 1) := by decide +kernel
theorem d1_27 : decode method_2_code 27 = .ok (.iconst 3, 1) := by decide +kernel
theorem d1_28 : decode method_2_code 28 = .ok (.if_icmp .ne 7, 3) := by decide +kernel
theorem d1_31 : decode method_2_code 31 = .ok (.getstatic 19, 3) := by decide +kernel
theorem d1_34 : decode method_2_code 34 = .ok (.areturn, 1) := by decide +kernel
theorem d1_35 : decode method_2_code 35 = .ok (.getstatic 22, 3) := by decide +kernel
theorem d1_38 : decode method_2_code 38 = .ok (.areturn, 1) := by decide +kernel
theorem d2_0 : decode prog_19_method_5_code 0 = .ok (.aload_n 0, 1) := by decide +kernel
theorem d2_1 : decode prog_19_method_5_code 1 = .ok (.getstatic 3, 3) := by decide +kernel
theorem d2_4 : decode prog_19_method_5_code 4 = .ok (.if_acmp .eq 8, 3) := by decide +kernel
theorem d2_7 : decode prog_19_method_5_code 7 = .ok (.aload_n 0, 1) := by decide +kernel
theorem d2_8 : decode prog_19_method_5_code 8 = .ok (.aload_n 1, 1) := by decide +kernel
theorem d2_9 : decode prog_19_method_5_code 9 = .ok (.if_acmp .ne 7, 3) := by decide +kernel
theorem d2_12 : decode prog_19_method_5_code 12 = .ok (.iconst 1, 1) := by decide +kernel
theorem d2_13 : decode prog_19_method_5_code 13 = .ok (.goto 4, 3) := by decide +kernel
theorem d2_16 : decode prog_19_method_5_code 16 = .ok (.iconst 0, 1) := by decide +kernel
theorem d2_17 : decode prog_19_method_5_code 17 = .ok (.ireturn, 1) := by decide +kernel
def Q1_0 (w0 : Addr) (w1 : Addr) (w2 : Addr) (w3 : Addr) (w4 : Addr) (h0 : Heap) (v : Option Value) (h : Heap) (L : List Loc) : Prop := L = [] ∧ h = h0 ∧ ((v = some (.ref w0)))
set_option maxRecDepth 65536 in
set_option maxHeartbeats 40000000 in
theorem rm1_0 (l : Launch) (Z : State) (a0 : Array Value) (hw : ∀ d ∈ tables_1, d.before a0 Z = true) (ws : List Jvm.Cond) (w0 : Addr) (w1 : Addr) (w2 : Addr) (w3 : Addr) (w4 : Addr) (h0 : Heap) (n0 : Nat) (Z0 : n0 ≤ h0.size) (K : own_K Z h0 w0 w1 w2 w3 w4) :
    MetFree l (⟨"com/example/grantfall/grantfall/model/RoleIncludesPinLaw", "pick", "(I)Lcom/example/grantfall/grantfall/model/Role;"⟩ : MethodName) (head1 (Jvm.Cond.code (⟨"com/example/grantfall/grantfall/model/RoleIncludesPinLaw", "pick", "(I)Lcom/example/grantfall/grantfall/model/Role;"⟩ : MethodName) method_2_code 1 (some (.object "com/example/grantfall/grantfall/model/Role")) :: ws) ({ frames := 0, cells := 0, slots := 0, locals := 0 } : Room)) (fun a U => a = #[(.int (0 : Int32))] ∧ Z.Warmed39 U.vm ∧ U.heap = h0) (fun _ _ _ _ _ => True) (fun _ U o U' => ∃ v L, o = .returned v ∧ Q1_0 w0 w1 w2 w3 w4 h0 v U'.heap L ∧ FrameEnd U o U' L ({ frames := 0, cells := 0, slots := 0, locals := 0 } : Room).cells ({ frames := 0, cells := 0, slots := 0, locals := 0 } : Room).slots) := by
  refine MetFree.of_bodySF (plainFor_of_name pn0) hisR ?_
  intro p e s m args below meth c s₁ Bd hml0 hP hK
  obtain ⟨rfl, hZ, hh⟩ := hP
  have hx := Bd.exec
  have hby := Bd.bytes
  have hml : c.maxLocals = 1 := hml0
  have hown : s.vm.findClass "com/example/grantfall/grantfall/model/RoleIncludesPinLaw" = some m.cls := findClass_of_methodNamed Bd.named
  have hnm := (name_of_methodNamed Bd.named Bd.method).1
  have hlk := Bd.notSynchronized
  have X0 : Stand p l e ({ frames := 0, cells := 0, slots := 0, locals := 0 } : Room) s m #[(.int (0 : Int32))] below meth c s₁ [] 0 0 := Stand.of_body Bd
  have e0 : s₁.heap = h0 := by rw [← hh, Bd.state]; rfl
  have K0 := K
  obtain ⟨S_w0, S_w1, S_w2, S_w3, S_w4, E_w0, E_w1, E_w2, E_w3, E_w4, F_w2_ordinal, F_w0_ordinal, F_w3_ordinal, F_w1_ordinal, F_w4_ordinal, n_w0_w1, n_w0_w2, n_w0_w3, n_w0_w4, n_w1_w2, n_w1_w3, n_w1_w4, n_w2_w3, n_w2_w4, n_w3_w4⟩ := K
  show own_Go p e below s (Q1_0 w0 w1 w2 w3 w4 h0) 0 0 (s₁.setTop (entryFrame m #[(.int (0 : Int32))] 1))
  rw [show entryFrame m #[(.int (0 : Int32))] 1 = mkF m 0 #[.val (.int (0 : Int32))] [] from by first | (simp [entryFrame, mkF, argsToLocals, Value.category]; done) | rfl]
  show own_Go p e below s _ _ _ (s₁.setTop (mkF m 0 #[.val (.int (0 : Int32))] []))
  refine own_via (fun _ k => XS.iloadN X0.here hx rfl (hb hby d1_0) rfl k) ?_
  show own_Go p e below s _ _ _ (s₁.setTop (mkF m 1 #[.val (.int (0 : Int32))] [(.int (0 : Int32))]))
  refine own_via (fun _ k => XS.ifNo X0.here hx rfl (hb hby d1_1) rfl ((if0 _ _).trans (teq (by decide : (0 : Int32) = (0 : Int32))).2) k) ?_
  show own_Go p e below s _ _ _ (s₁.setTop (mkF m 4 #[.val (.int (0 : Int32))] []))
  obtain ⟨T1, X1, e1, st1⟩ := getS2 X0 hx hZ hown (host := "") (Or.inl (hw _ (List.mem_of_getElem? (i := 5) rfl))) Via.refl e0 S_w0 (g := (mkF m 4 #[.val (.int (0 : Int32))] [])) rfl (hb hby d1_4)
  refine own_via st1 ?_
  show own_Go p e below s _ _ _ (T1.setTop (mkF m 7 #[.val (.int (0 : Int32))] [(.ref w0)]))
  exact own_retR X1 hx hlk Bd.returns rfl rfl (hb hby d1_7) ⟨rfl, e1, rfl⟩ (by decide) (by decide)
def Q2_0 (w0 : Addr) (w1 : Addr) (w2 : Addr) (w3 : Addr) (w4 : Addr) (h0 : Heap) (v : Option Value) (h : Heap) (L : List Loc) : Prop := L = [] ∧ h = h0 ∧ ((v = some (.int (1 : Int32))))
set_option maxRecDepth 65536 in
set_option maxHeartbeats 40000000 in
theorem rm2_0 (l : Launch) (Z : State) (a0 : Array Value) (hw : ∀ d ∈ tables_1, d.before a0 Z = true) (ws : List Jvm.Cond) (w0 : Addr) (w1 : Addr) (w2 : Addr) (w3 : Addr) (w4 : Addr) (h0 : Heap) (n0 : Nat) (Z0 : n0 ≤ h0.size) (K : own_K Z h0 w0 w1 w2 w3 w4) :
    MetFree l (⟨"com/example/grantfall/grantfall/model/Role", "includes", "(Lcom/example/grantfall/grantfall/model/Role;)Z"⟩ : MethodName) (head1 (Jvm.Cond.code (⟨"com/example/grantfall/grantfall/model/Role", "includes", "(Lcom/example/grantfall/grantfall/model/Role;)Z"⟩ : MethodName) prog_19_method_5_code 2 (some .boolean) :: ws) ({ frames := 0, cells := 0, slots := 0, locals := 0 } : Room)) (fun a U => a = #[(.ref w0), (.ref w0)] ∧ Z.Warmed39 U.vm ∧ U.heap = h0) (fun _ _ _ _ _ => True) (fun _ U o U' => ∃ v L, o = .returned v ∧ Q2_0 w0 w1 w2 w3 w4 h0 v U'.heap L ∧ FrameEnd U o U' L ({ frames := 0, cells := 0, slots := 0, locals := 0 } : Room).cells ({ frames := 0, cells := 0, slots := 0, locals := 0 } : Room).slots) := by
  refine MetFree.of_bodySF (plainFor_of_name pn1) hisR ?_
  intro p e s m args below meth c s₁ Bd hml0 hP hK
  obtain ⟨rfl, hZ, hh⟩ := hP
  have hx := Bd.exec
  have hby := Bd.bytes
  have hml : c.maxLocals = 2 := hml0
  have hown : s.vm.findClass "com/example/grantfall/grantfall/model/Role" = some m.cls := findClass_of_methodNamed Bd.named
  have hnm := (name_of_methodNamed Bd.named Bd.method).1
  have hlk := Bd.notSynchronized
  have X0 : Stand p l e ({ frames := 0, cells := 0, slots := 0, locals := 0 } : Room) s m #[(.ref w0), (.ref w0)] below meth c s₁ [] 0 0 := Stand.of_body Bd
  have e0 : s₁.heap = h0 := by rw [← hh, Bd.state]; rfl
  have K0 := K
  obtain ⟨S_w0, S_w1, S_w2, S_w3, S_w4, E_w0, E_w1, E_w2, E_w3, E_w4, F_w2_ordinal, F_w0_ordinal, F_w3_ordinal, F_w1_ordinal, F_w4_ordinal, n_w0_w1, n_w0_w2, n_w0_w3, n_w0_w4, n_w1_w2, n_w1_w3, n_w1_w4, n_w2_w3, n_w2_w4, n_w3_w4⟩ := K
  show own_Go p e below s (Q2_0 w0 w1 w2 w3 w4 h0) 0 0 (s₁.setTop (entryFrame m #[(.ref w0), (.ref w0)] 2))
  rw [show entryFrame m #[(.ref w0), (.ref w0)] 2 = mkF m 0 #[.val (.ref w0), .val (.ref w0)] [] from by first | (simp [entryFrame, mkF, argsToLocals, Value.category]; done) | rfl]
  show own_Go p e below s _ _ _ (s₁.setTop (mkF m 0 #[.val (.ref w0), .val (.ref w0)] []))
  refine own_via (fun _ k => XS.aloadN X0.here hx rfl (hb hby d2_0) rfl rfl k) ?_
  show own_Go p e below s _ _ _ (s₁.setTop (mkF m 1 #[.val (.ref w0), .val (.ref w0)] [(.ref w0)]))
  obtain ⟨T1, X1, e1, st1⟩ := getS2 X0 hx hZ hown (host := "") (Or.inl (hw _ (List.mem_of_getElem? (i := 15) rfl))) Via.refl e0 S_w0 (g := (mkF m 1 #[.val (.ref w0), .val (.ref w0)] [(.ref w0)])) rfl (hb hby d2_1)
  refine own_via st1 ?_
  show own_Go p e below s _ _ _ (T1.setTop (mkF m 4 #[.val (.ref w0), .val (.ref w0)] [(.ref w0), (.ref w0)]))
  refine own_via (fun _ k => Jvm.RoadKit.acmp (g := (mkF m 4 #[.val (.ref w0), .val (.ref w0)] [(.ref w0), (.ref w0)])) X1 hx rfl rfl rfl (pc0 := 4) (pc' := 12) (same := true) rfl (hb hby d2_4) rfl (decide_eq_true rfl) (by decide) (by decide) k) ?_
  show own_Go p e below s _ _ _ (T1.setTop (mkF m 12 #[.val (.ref w0), .val (.ref w0)] []))
  refine own_via (fun _ k => XS.iconst X1.here hx rfl (hb hby d2_12) k) ?_
  show own_Go p e below s _ _ _ (T1.setTop (mkF m 13 #[.val (.ref w0), .val (.ref w0)] [(.int (1 : Int32))]))
  refine own_via (fun _ k => XS.goto X1.here hx rfl (pc0 := 13) (pc' := 17) rfl (hb hby d2_13) (by decide) (by decide) k) ?_
  show own_Go p e below s _ _ _ (T1.setTop (mkF m 17 #[.val (.ref w0), .val (.ref w0)] [(.int (1 : Int32))]))
  exact own_retZ X1 hx hlk (t := .boolean) Bd.returns (by simp) (hb hby d2_17) (z' := (1 : Int32)) (by first | rfl | decide) ⟨rfl, e1, rfl⟩ (by decide) (by decide)
def Q1_1 (w0 : Addr) (w1 : Addr) (w2 : Addr) (w3 : Addr) (w4 : Addr) (h0 : Heap) (v : Option Value) (h : Heap) (L : List Loc) : Prop := L = [] ∧ h = h0 ∧ ((v = some (.ref w3)))
set_option maxRecDepth 65536 in
set_option maxHeartbeats 40000000 in
theorem rm1_1 (l : Launch) (Z : State) (a0 : Array Value) (hw : ∀ d ∈ tables_1, d.before a0 Z = true) (ws : List Jvm.Cond) (w0 : Addr) (w1 : Addr) (w2 : Addr) (w3 : Addr) (w4 : Addr) (h0 : Heap) (n0 : Nat) (Z0 : n0 ≤ h0.size) (K : own_K Z h0 w0 w1 w2 w3 w4) :
    MetFree l (⟨"com/example/grantfall/grantfall/model/RoleIncludesPinLaw", "pick", "(I)Lcom/example/grantfall/grantfall/model/Role;"⟩ : MethodName) (head1 (Jvm.Cond.code (⟨"com/example/grantfall/grantfall/model/RoleIncludesPinLaw", "pick", "(I)Lcom/example/grantfall/grantfall/model/Role;"⟩ : MethodName) method_2_code 1 (some (.object "com/example/grantfall/grantfall/model/Role")) :: ws) ({ frames := 0, cells := 0, slots := 0, locals := 0 } : Room)) (fun a U => a = #[(.int (1 : Int32))] ∧ Z.Warmed39 U.vm ∧ U.heap = h0) (fun _ _ _ _ _ => True) (fun _ U o U' => ∃ v L, o = .returned v ∧ Q1_1 w0 w1 w2 w3 w4 h0 v U'.heap L ∧ FrameEnd U o U' L ({ frames := 0, cells := 0, slots := 0, locals := 0 } : Room).cells ({ frames := 0, cells := 0, slots := 0, locals := 0 } : Room).slots) := by
  refine MetFree.of_bodySF (plainFor_of_name pn0) hisR ?_
  intro p e s m args below meth c s₁ Bd hml0 hP hK
  obtain ⟨rfl, hZ, hh⟩ := hP
  have hx := Bd.exec
  have hby := Bd.bytes
  have hml : c.maxLocals = 1 := hml0
  have hown : s.vm.findClass "com/example/grantfall/grantfall/model/RoleIncludesPinLaw" = some m.cls := findClass_of_methodNamed Bd.named
  have hnm := (name_of_methodNamed Bd.named Bd.method).1
  have hlk := Bd.notSynchronized
  have X0 : Stand p l e ({ frames := 0, cells := 0, slots := 0, locals := 0 } : Room) s m #[(.int (1 : Int32))] below meth c s₁ [] 0 0 := Stand.of_body Bd
  have e0 : s₁.heap = h0 := by rw [← hh, Bd.state]; rfl
  have K0 := K
  obtain ⟨S_w0, S_w1, S_w2, S_w3, S_w4, E_w0, E_w1, E_w2, E_w3, E_w4, F_w2_ordinal, F_w0_ordinal, F_w3_ordinal, F_w1_ordinal, F_w4_ordinal, n_w0_w1, n_w0_w2, n_w0_w3, n_w0_w4, n_w1_w2, n_w1_w3, n_w1_w4, n_w2_w3, n_w2_w4, n_w3_w4⟩ := K
  show own_Go p e below s (Q1_1 w0 w1 w2 w3 w4 h0) 0 0 (s₁.setTop (entryFrame m #[(.int (1 : Int32))] 1))
  rw [show entryFrame m #[(.int (1 : Int32))] 1 = mkF m 0 #[.val (.int (1 : Int32))] [] from by first | (simp [entryFrame, mkF, argsToLocals, Value.category]; done) | rfl]
  show own_Go p e below s _ _ _ (s₁.setTop (mkF m 0 #[.val (.int (1 : Int32))] []))
  refine own_via (fun _ k => XS.iloadN X0.here hx rfl (hb hby d1_0) rfl k) ?_
  show own_Go p e below s _ _ _ (s₁.setTop (mkF m 1 #[.val (.int (1 : Int32))] [(.int (1 : Int32))]))
  refine own_via (fun _ k => XS.ifYes X0.here hx rfl (pc0 := 1) (pc' := 8) rfl (hb hby d1_1) rfl ((if0 _ _).trans (feq (by decide : ¬ ((1 : Int32) = (0 : Int32)))).2) (by decide) (by decide) k) ?_
  show own_Go p e below s _ _ _ (s₁.setTop (mkF m 8 #[.val (.int (1 : Int32))] []))
  refine own_via (fun _ k => XS.iloadN X0.here hx rfl (hb hby d1_8) rfl k) ?_
  show own_Go p e below s _ _ _ (s₁.setTop (mkF m 9 #[.val (.int (1 : Int32))] [(.int (1 : Int32))]))
  refine own_via (fun _ k => XS.iconst X0.here hx rfl (hb hby d1_9) k) ?_
  show own_Go p e below s _ _ _ (s₁.setTop (mkF m 10 #[.val (.int (1 : Int32))] [(.int (1 : Int32)), (.int (1 : Int32))]))
  refine own_via (fun _ k => XS.icmpNo X0.here hx rfl (hb hby d1_10) rfl (teq (by decide : (1 : Int32) = (1 : Int32))).2 k) ?_
  show own_Go p e below s _ _ _ (s₁.setTop (mkF m 13 #[.val (.int (1 : Int32))] []))
  obtain ⟨T1, X1, e1, st1⟩ := getS2 X0 hx hZ hown (host := "") (Or.inl (hw _ (List.mem_of_getElem? (i := 18) rfl))) Via.refl e0 S_w3 (g := (mkF m 13 #[.val (.int (1 : Int32))] [])) rfl (hb hby d1_13)
  refine own_via st1 ?_
  show own_Go p e below s _ _ _ (T1.setTop (mkF m 16 #[.val (.int (1 : Int32))] [(.ref w3)]))
  exact own_retR X1 hx hlk Bd.returns rfl rfl (hb hby d1_16) ⟨rfl, e1, rfl⟩ (by decide) (by decide)
def Q2_1 (w0 : Addr) (w1 : Addr) (w2 : Addr) (w3 : Addr) (w4 : Addr) (h0 : Heap) (v : Option Value) (h : Heap) (L : List Loc) : Prop := L = [] ∧ h = h0 ∧ ((v = some (.int (1 : Int32))))
set_option maxRecDepth 65536 in
set_option maxHeartbeats 40000000 in
theorem rm2_1 (l : Launch) (Z : State) (a0 : Array Value) (hw : ∀ d ∈ tables_1, d.before a0 Z = true) (ws : List Jvm.Cond) (w0 : Addr) (w1 : Addr) (w2 : Addr) (w3 : Addr) (w4 : Addr) (h0 : Heap) (n0 : Nat) (Z0 : n0 ≤ h0.size) (K : own_K Z h0 w0 w1 w2 w3 w4) :
    MetFree l (⟨"com/example/grantfall/grantfall/model/Role", "includes", "(Lcom/example/grantfall/grantfall/model/Role;)Z"⟩ : MethodName) (head1 (Jvm.Cond.code (⟨"com/example/grantfall/grantfall/model/Role", "includes", "(Lcom/example/grantfall/grantfall/model/Role;)Z"⟩ : MethodName) prog_19_method_5_code 2 (some .boolean) :: ws) ({ frames := 0, cells := 0, slots := 0, locals := 0 } : Room)) (fun a U => a = #[(.ref w0), (.ref w3)] ∧ Z.Warmed39 U.vm ∧ U.heap = h0) (fun _ _ _ _ _ => True) (fun _ U o U' => ∃ v L, o = .returned v ∧ Q2_1 w0 w1 w2 w3 w4 h0 v U'.heap L ∧ FrameEnd U o U' L ({ frames := 0, cells := 0, slots := 0, locals := 0 } : Room).cells ({ frames := 0, cells := 0, slots := 0, locals := 0 } : Room).slots) := by
  refine MetFree.of_bodySF (plainFor_of_name pn1) hisR ?_
  intro p e s m args below meth c s₁ Bd hml0 hP hK
  obtain ⟨rfl, hZ, hh⟩ := hP
  have hx := Bd.exec
  have hby := Bd.bytes
  have hml : c.maxLocals = 2 := hml0
  have hown : s.vm.findClass "com/example/grantfall/grantfall/model/Role" = some m.cls := findClass_of_methodNamed Bd.named
  have hnm := (name_of_methodNamed Bd.named Bd.method).1
  have hlk := Bd.notSynchronized
  have X0 : Stand p l e ({ frames := 0, cells := 0, slots := 0, locals := 0 } : Room) s m #[(.ref w0), (.ref w3)] below meth c s₁ [] 0 0 := Stand.of_body Bd
  have e0 : s₁.heap = h0 := by rw [← hh, Bd.state]; rfl
  have K0 := K
  obtain ⟨S_w0, S_w1, S_w2, S_w3, S_w4, E_w0, E_w1, E_w2, E_w3, E_w4, F_w2_ordinal, F_w0_ordinal, F_w3_ordinal, F_w1_ordinal, F_w4_ordinal, n_w0_w1, n_w0_w2, n_w0_w3, n_w0_w4, n_w1_w2, n_w1_w3, n_w1_w4, n_w2_w3, n_w2_w4, n_w3_w4⟩ := K
  show own_Go p e below s (Q2_1 w0 w1 w2 w3 w4 h0) 0 0 (s₁.setTop (entryFrame m #[(.ref w0), (.ref w3)] 2))
  rw [show entryFrame m #[(.ref w0), (.ref w3)] 2 = mkF m 0 #[.val (.ref w0), .val (.ref w3)] [] from by first | (simp [entryFrame, mkF, argsToLocals, Value.category]; done) | rfl]
  show own_Go p e below s _ _ _ (s₁.setTop (mkF m 0 #[.val (.ref w0), .val (.ref w3)] []))
  refine own_via (fun _ k => XS.aloadN X0.here hx rfl (hb hby d2_0) rfl rfl k) ?_
  show own_Go p e below s _ _ _ (s₁.setTop (mkF m 1 #[.val (.ref w0), .val (.ref w3)] [(.ref w0)]))
  obtain ⟨T1, X1, e1, st1⟩ := getS2 X0 hx hZ hown (host := "") (Or.inl (hw _ (List.mem_of_getElem? (i := 15) rfl))) Via.refl e0 S_w0 (g := (mkF m 1 #[.val (.ref w0), .val (.ref w3)] [(.ref w0)])) rfl (hb hby d2_1)
  refine own_via st1 ?_
  show own_Go p e below s _ _ _ (T1.setTop (mkF m 4 #[.val (.ref w0), .val (.ref w3)] [(.ref w0), (.ref w0)]))
  refine own_via (fun _ k => Jvm.RoadKit.acmp (g := (mkF m 4 #[.val (.ref w0), .val (.ref w3)] [(.ref w0), (.ref w0)])) X1 hx rfl rfl rfl (pc0 := 4) (pc' := 12) (same := true) rfl (hb hby d2_4) rfl (decide_eq_true rfl) (by decide) (by decide) k) ?_
  show own_Go p e below s _ _ _ (T1.setTop (mkF m 12 #[.val (.ref w0), .val (.ref w3)] []))
  refine own_via (fun _ k => XS.iconst X1.here hx rfl (hb hby d2_12) k) ?_
  show own_Go p e below s _ _ _ (T1.setTop (mkF m 13 #[.val (.ref w0), .val (.ref w3)] [(.int (1 : Int32))]))
  refine own_via (fun _ k => XS.goto X1.here hx rfl (pc0 := 13) (pc' := 17) rfl (hb hby d2_13) (by decide) (by decide) k) ?_
  show own_Go p e below s _ _ _ (T1.setTop (mkF m 17 #[.val (.ref w0), .val (.ref w3)] [(.int (1 : Int32))]))
  exact own_retZ X1 hx hlk (t := .boolean) Bd.returns (by simp) (hb hby d2_17) (z' := (1 : Int32)) (by first | rfl | decide) ⟨rfl, e1, rfl⟩ (by decide) (by decide)
def Q1_2 (w0 : Addr) (w1 : Addr) (w2 : Addr) (w3 : Addr) (w4 : Addr) (h0 : Heap) (v : Option Value) (h : Heap) (L : List Loc) : Prop := L = [] ∧ h = h0 ∧ ((v = some (.ref w4)))
set_option maxRecDepth 65536 in
set_option maxHeartbeats 40000000 in
theorem rm1_2 (l : Launch) (Z : State) (a0 : Array Value) (hw : ∀ d ∈ tables_1, d.before a0 Z = true) (ws : List Jvm.Cond) (w0 : Addr) (w1 : Addr) (w2 : Addr) (w3 : Addr) (w4 : Addr) (h0 : Heap) (n0 : Nat) (Z0 : n0 ≤ h0.size) (K : own_K Z h0 w0 w1 w2 w3 w4) :
    MetFree l (⟨"com/example/grantfall/grantfall/model/RoleIncludesPinLaw", "pick", "(I)Lcom/example/grantfall/grantfall/model/Role;"⟩ : MethodName) (head1 (Jvm.Cond.code (⟨"com/example/grantfall/grantfall/model/RoleIncludesPinLaw", "pick", "(I)Lcom/example/grantfall/grantfall/model/Role;"⟩ : MethodName) method_2_code 1 (some (.object "com/example/grantfall/grantfall/model/Role")) :: ws) ({ frames := 0, cells := 0, slots := 0, locals := 0 } : Room)) (fun a U => a = #[(.int (2 : Int32))] ∧ Z.Warmed39 U.vm ∧ U.heap = h0) (fun _ _ _ _ _ => True) (fun _ U o U' => ∃ v L, o = .returned v ∧ Q1_2 w0 w1 w2 w3 w4 h0 v U'.heap L ∧ FrameEnd U o U' L ({ frames := 0, cells := 0, slots := 0, locals := 0 } : Room).cells ({ frames := 0, cells := 0, slots := 0, locals := 0 } : Room).slots) := by
  refine MetFree.of_bodySF (plainFor_of_name pn0) hisR ?_
  intro p e s m args below meth c s₁ Bd hml0 hP hK
  obtain ⟨rfl, hZ, hh⟩ := hP
  have hx := Bd.exec
  have hby := Bd.bytes
  have hml : c.maxLocals = 1 := hml0
  have hown : s.vm.findClass "com/example/grantfall/grantfall/model/RoleIncludesPinLaw" = some m.cls := findClass_of_methodNamed Bd.named
  have hnm := (name_of_methodNamed Bd.named Bd.method).1
  have hlk := Bd.notSynchronized
  have X0 : Stand p l e ({ frames := 0, cells := 0, slots := 0, locals := 0 } : Room) s m #[(.int (2 : Int32))] below meth c s₁ [] 0 0 := Stand.of_body Bd
  have e0 : s₁.heap = h0 := by rw [← hh, Bd.state]; rfl
  have K0 := K
  obtain ⟨S_w0, S_w1, S_w2, S_w3, S_w4, E_w0, E_w1, E_w2, E_w3, E_w4, F_w2_ordinal, F_w0_ordinal, F_w3_ordinal, F_w1_ordinal, F_w4_ordinal, n_w0_w1, n_w0_w2, n_w0_w3, n_w0_w4, n_w1_w2, n_w1_w3, n_w1_w4, n_w2_w3, n_w2_w4, n_w3_w4⟩ := K
  show own_Go p e below s (Q1_2 w0 w1 w2 w3 w4 h0) 0 0 (s₁.setTop (entryFrame m #[(.int (2 : Int32))] 1))
  rw [show entryFrame m #[(.int (2 : Int32))] 1 = mkF m 0 #[.val (.int (2 : Int32))] [] from by first | (simp [entryFrame, mkF, argsToLocals, Value.category]; done) | rfl]
  show own_Go p e below s _ _ _ (s₁.setTop (mkF m 0 #[.val (.int (2 : Int32))] []))
  refine own_via (fun _ k => XS.iloadN X0.here hx rfl (hb hby d1_0) rfl k) ?_
  show own_Go p e below s _ _ _ (s₁.setTop (mkF m 1 #[.val (.int (2 : Int32))] [(.int (2 : Int32))]))
  refine own_via (fun _ k => XS.ifYes X0.here hx rfl (pc0 := 1) (pc' := 8) rfl (hb hby d1_1) rfl ((if0 _ _).trans (feq (by decide : ¬ ((2 : Int32) = (0 : Int32)))).2) (by decide) (by decide) k) ?_
  show own_Go p e below s _ _ _ (s₁.setTop (mkF m 8 #[.val (.int (2 : Int32))] []))
  refine own_via (fun _ k => XS.iloadN X0.here hx rfl (hb hby d1_8) rfl k) ?_
  show own_Go p e below s _ _ _ (s₁.setTop (mkF m 9 #[.val (.int (2 : Int32))] [(.int (2 : Int32))]))
  refine own_via (fun _ k => XS.iconst X0.here hx rfl (hb hby d1_9) k) ?_
  show own_Go p e below s _ _ _ (s₁.setTop (mkF m 10 #[.val (.int (2 : Int32))] [(.int (1 : Int32)), (.int (2 : Int32))]))
  refine own_via (fun _ k => XS.icmpYes X0.here hx rfl (pc0 := 10) (pc' := 17) rfl (hb hby d1_10) rfl (feq (by decide : ¬ ((2 : Int32) = (1 : Int32)))).2 (by decide) (by decide) k) ?_
  show own_Go p e below s _ _ _ (s₁.setTop (mkF m 17 #[.val (.int (2 : Int32))] []))
  refine own_via (fun _ k => XS.iloadN X0.here hx rfl (hb hby d1_17) rfl k) ?_
  show own_Go p e below s _ _ _ (s₁.setTop (mkF m 18 #[.val (.int (2 : Int32))] [(.int (2 : Int32))]))
  refine own_via (fun _ k => XS.iconst X0.here hx rfl (hb hby d1_18) k) ?_
  show own_Go p e below s _ _ _ (s₁.setTop (mkF m 19 #[.val (.int (2 : Int32))] [(.int (2 : Int32)), (.int (2 : Int32))]))
  refine own_via (fun _ k => XS.icmpNo X0.here hx rfl (hb hby d1_19) rfl (teq (by decide : (2 : Int32) = (2 : Int32))).2 k) ?_
  show own_Go p e below s _ _ _ (s₁.setTop (mkF m 22 #[.val (.int (2 : Int32))] []))
  obtain ⟨T1, X1, e1, st1⟩ := getS2 X0 hx hZ hown (host := "") (Or.inl (hw _ (List.mem_of_getElem? (i := 20) rfl))) Via.refl e0 S_w4 (g := (mkF m 22 #[.val (.int (2 : Int32))] [])) rfl (hb hby d1_22)
  refine own_via st1 ?_
  show own_Go p e below s _ _ _ (T1.setTop (mkF m 25 #[.val (.int (2 : Int32))] [(.ref w4)]))
  exact own_retR X1 hx hlk Bd.returns rfl rfl (hb hby d1_25) ⟨rfl, e1, rfl⟩ (by decide) (by decide)
def Q2_2 (w0 : Addr) (w1 : Addr) (w2 : Addr) (w3 : Addr) (w4 : Addr) (h0 : Heap) (v : Option Value) (h : Heap) (L : List Loc) : Prop := L = [] ∧ h = h0 ∧ ((v = some (.int (1 : Int32))))
set_option maxRecDepth 65536 in
set_option maxHeartbeats 40000000 in
theorem rm2_2 (l : Launch) (Z : State) (a0 : Array Value) (hw : ∀ d ∈ tables_1, d.before a0 Z = true) (ws : List Jvm.Cond) (w0 : Addr) (w1 : Addr) (w2 : Addr) (w3 : Addr) (w4 : Addr) (h0 : Heap) (n0 : Nat) (Z0 : n0 ≤ h0.size) (K : own_K Z h0 w0 w1 w2 w3 w4) :
    MetFree l (⟨"com/example/grantfall/grantfall/model/Role", "includes", "(Lcom/example/grantfall/grantfall/model/Role;)Z"⟩ : MethodName) (head1 (Jvm.Cond.code (⟨"com/example/grantfall/grantfall/model/Role", "includes", "(Lcom/example/grantfall/grantfall/model/Role;)Z"⟩ : MethodName) prog_19_method_5_code 2 (some .boolean) :: ws) ({ frames := 0, cells := 0, slots := 0, locals := 0 } : Room)) (fun a U => a = #[(.ref w0), (.ref w4)] ∧ Z.Warmed39 U.vm ∧ U.heap = h0) (fun _ _ _ _ _ => True) (fun _ U o U' => ∃ v L, o = .returned v ∧ Q2_2 w0 w1 w2 w3 w4 h0 v U'.heap L ∧ FrameEnd U o U' L ({ frames := 0, cells := 0, slots := 0, locals := 0 } : Room).cells ({ frames := 0, cells := 0, slots := 0, locals := 0 } : Room).slots) := by
  refine MetFree.of_bodySF (plainFor_of_name pn1) hisR ?_
  intro p e s m args below meth c s₁ Bd hml0 hP hK
  obtain ⟨rfl, hZ, hh⟩ := hP
  have hx := Bd.exec
  have hby := Bd.bytes
  have hml : c.maxLocals = 2 := hml0
  have hown : s.vm.findClass "com/example/grantfall/grantfall/model/Role" = some m.cls := findClass_of_methodNamed Bd.named
  have hnm := (name_of_methodNamed Bd.named Bd.method).1
  have hlk := Bd.notSynchronized
  have X0 : Stand p l e ({ frames := 0, cells := 0, slots := 0, locals := 0 } : Room) s m #[(.ref w0), (.ref w4)] below meth c s₁ [] 0 0 := Stand.of_body Bd
  have e0 : s₁.heap = h0 := by rw [← hh, Bd.state]; rfl
  have K0 := K
  obtain ⟨S_w0, S_w1, S_w2, S_w3, S_w4, E_w0, E_w1, E_w2, E_w3, E_w4, F_w2_ordinal, F_w0_ordinal, F_w3_ordinal, F_w1_ordinal, F_w4_ordinal, n_w0_w1, n_w0_w2, n_w0_w3, n_w0_w4, n_w1_w2, n_w1_w3, n_w1_w4, n_w2_w3, n_w2_w4, n_w3_w4⟩ := K
  show own_Go p e below s (Q2_2 w0 w1 w2 w3 w4 h0) 0 0 (s₁.setTop (entryFrame m #[(.ref w0), (.ref w4)] 2))
  rw [show entryFrame m #[(.ref w0), (.ref w4)] 2 = mkF m 0 #[.val (.ref w0), .val (.ref w4)] [] from by first | (simp [entryFrame, mkF, argsToLocals, Value.category]; done) | rfl]
  show own_Go p e below s _ _ _ (s₁.setTop (mkF m 0 #[.val (.ref w0), .val (.ref w4)] []))
  refine own_via (fun _ k => XS.aloadN X0.here hx rfl (hb hby d2_0) rfl rfl k) ?_
  show own_Go p e below s _ _ _ (s₁.setTop (mkF m 1 #[.val (.ref w0), .val (.ref w4)] [(.ref w0)]))
  obtain ⟨T1, X1, e1, st1⟩ := getS2 X0 hx hZ hown (host := "") (Or.inl (hw _ (List.mem_of_getElem? (i := 15) rfl))) Via.refl e0 S_w0 (g := (mkF m 1 #[.val (.ref w0), .val (.ref w4)] [(.ref w0)])) rfl (hb hby d2_1)
  refine own_via st1 ?_
  show own_Go p e below s _ _ _ (T1.setTop (mkF m 4 #[.val (.ref w0), .val (.ref w4)] [(.ref w0), (.ref w0)]))
  refine own_via (fun _ k => Jvm.RoadKit.acmp (g := (mkF m 4 #[.val (.ref w0), .val (.ref w4)] [(.ref w0), (.ref w0)])) X1 hx rfl rfl rfl (pc0 := 4) (pc' := 12) (same := true) rfl (hb hby d2_4) rfl (decide_eq_true rfl) (by decide) (by decide) k) ?_
  show own_Go p e below s _ _ _ (T1.setTop (mkF m 12 #[.val (.ref w0), .val (.ref w4)] []))
  refine own_via (fun _ k => XS.iconst X1.here hx rfl (hb hby d2_12) k) ?_
  show own_Go p e below s _ _ _ (T1.setTop (mkF m 13 #[.val (.ref w0), .val (.ref w4)] [(.int (1 : Int32))]))
  refine own_via (fun _ k => XS.goto X1.here hx rfl (pc0 := 13) (pc' := 17) rfl (hb hby d2_13) (by decide) (by decide) k) ?_
  show own_Go p e below s _ _ _ (T1.setTop (mkF m 17 #[.val (.ref w0), .val (.ref w4)] [(.int (1 : Int32))]))
  exact own_retZ X1 hx hlk (t := .boolean) Bd.returns (by simp) (hb hby d2_17) (z' := (1 : Int32)) (by first | rfl | decide) ⟨rfl, e1, rfl⟩ (by decide) (by decide)
def Q1_3 (w0 : Addr) (w1 : Addr) (w2 : Addr) (w3 : Addr) (w4 : Addr) (h0 : Heap) (v : Option Value) (h : Heap) (L : List Loc) : Prop := L = [] ∧ h = h0 ∧ ((v = some (.ref w1)))
set_option maxRecDepth 65536 in
set_option maxHeartbeats 40000000 in
theorem rm1_3 (l : Launch) (Z : State) (a0 : Array Value) (hw : ∀ d ∈ tables_1, d.before a0 Z = true) (ws : List Jvm.Cond) (w0 : Addr) (w1 : Addr) (w2 : Addr) (w3 : Addr) (w4 : Addr) (h0 : Heap) (n0 : Nat) (Z0 : n0 ≤ h0.size) (K : own_K Z h0 w0 w1 w2 w3 w4) :
    MetFree l (⟨"com/example/grantfall/grantfall/model/RoleIncludesPinLaw", "pick", "(I)Lcom/example/grantfall/grantfall/model/Role;"⟩ : MethodName) (head1 (Jvm.Cond.code (⟨"com/example/grantfall/grantfall/model/RoleIncludesPinLaw", "pick", "(I)Lcom/example/grantfall/grantfall/model/Role;"⟩ : MethodName) method_2_code 1 (some (.object "com/example/grantfall/grantfall/model/Role")) :: ws) ({ frames := 0, cells := 0, slots := 0, locals := 0 } : Room)) (fun a U => a = #[(.int (3 : Int32))] ∧ Z.Warmed39 U.vm ∧ U.heap = h0) (fun _ _ _ _ _ => True) (fun _ U o U' => ∃ v L, o = .returned v ∧ Q1_3 w0 w1 w2 w3 w4 h0 v U'.heap L ∧ FrameEnd U o U' L ({ frames := 0, cells := 0, slots := 0, locals := 0 } : Room).cells ({ frames := 0, cells := 0, slots := 0, locals := 0 } : Room).slots) := by
  refine MetFree.of_bodySF (plainFor_of_name pn0) hisR ?_
  intro p e s m args below meth c s₁ Bd hml0 hP hK
  obtain ⟨rfl, hZ, hh⟩ := hP
  have hx := Bd.exec
  have hby := Bd.bytes
  have hml : c.maxLocals = 1 := hml0
  have hown : s.vm.findClass "com/example/grantfall/grantfall/model/RoleIncludesPinLaw" = some m.cls := findClass_of_methodNamed Bd.named
  have hnm := (name_of_methodNamed Bd.named Bd.method).1
  have hlk := Bd.notSynchronized
  have X0 : Stand p l e ({ frames := 0, cells := 0, slots := 0, locals := 0 } : Room) s m #[(.int (3 : Int32))] below meth c s₁ [] 0 0 := Stand.of_body Bd
  have e0 : s₁.heap = h0 := by rw [← hh, Bd.state]; rfl
  have K0 := K
  obtain ⟨S_w0, S_w1, S_w2, S_w3, S_w4, E_w0, E_w1, E_w2, E_w3, E_w4, F_w2_ordinal, F_w0_ordinal, F_w3_ordinal, F_w1_ordinal, F_w4_ordinal, n_w0_w1, n_w0_w2, n_w0_w3, n_w0_w4, n_w1_w2, n_w1_w3, n_w1_w4, n_w2_w3, n_w2_w4, n_w3_w4⟩ := K
  show own_Go p e below s (Q1_3 w0 w1 w2 w3 w4 h0) 0 0 (s₁.setTop (entryFrame m #[(.int (3 : Int32))] 1))
  rw [show entryFrame m #[(.int (3 : Int32))] 1 = mkF m 0 #[.val (.int (3 : Int32))] [] from by first | (simp [entryFrame, mkF, argsToLocals, Value.category]; done) | rfl]
  show own_Go p e below s _ _ _ (s₁.setTop (mkF m 0 #[.val (.int (3 : Int32))] []))
  refine own_via (fun _ k => XS.iloadN X0.here hx rfl (hb hby d1_0) rfl k) ?_
  show own_Go p e below s _ _ _ (s₁.setTop (mkF m 1 #[.val (.int (3 : Int32))] [(.int (3 : Int32))]))
  refine own_via (fun _ k => XS.ifYes X0.here hx rfl (pc0 := 1) (pc' := 8) rfl (hb hby d1_1) rfl ((if0 _ _).trans (feq (by decide : ¬ ((3 : Int32) = (0 : Int32)))).2) (by decide) (by decide) k) ?_
  show own_Go p e below s _ _ _ (s₁.setTop (mkF m 8 #[.val (.int (3 : Int32))] []))
  refine own_via (fun _ k => XS.iloadN X0.here hx rfl (hb hby d1_8) rfl k) ?_
  show own_Go p e below s _ _ _ (s₁.setTop (mkF m 9 #[.val (.int (3 : Int32))] [(.int (3 : Int32))]))
  refine own_via (fun _ k => XS.iconst X0.here hx rfl (hb hby d1_9) k) ?_
  show own_Go p e below s _ _ _ (s₁.setTop (mkF m 10 #[.val (.int (3 : Int32))] [(.int (1 : Int32)), (.int (3 : Int32))]))
  refine own_via (fun _ k => XS.icmpYes X0.here hx rfl (pc0 := 10) (pc' := 17) rfl (hb hby d1_10) rfl (feq (by decide : ¬ ((3 : Int32) = (1 : Int32)))).2 (by decide) (by decide) k) ?_
  show own_Go p e below s _ _ _ (s₁.setTop (mkF m 17 #[.val (.int (3 : Int32))] []))
  refine own_via (fun _ k => XS.iloadN X0.here hx rfl (hb hby d1_17) rfl k) ?_
  show own_Go p e below s _ _ _ (s₁.setTop (mkF m 18 #[.val (.int (3 : Int32))] [(.int (3 : Int32))]))
  refine own_via (fun _ k => XS.iconst X0.here hx rfl (hb hby d1_18) k) ?_
  show own_Go p e below s _ _ _ (s₁.setTop (mkF m 19 #[.val (.int (3 : Int32))] [(.int (2 : Int32)), (.int (3 : Int32))]))
  refine own_via (fun _ k => XS.icmpYes X0.here hx rfl (pc0 := 19) (pc' := 26) rfl (hb hby d1_19) rfl (feq (by decide : ¬ ((3 : Int32) = (2 : Int32)))).2 (by decide) (by decide) k) ?_
  show own_Go p e below s _ _ _ (s₁.setTop (mkF m 26 #[.val (.int (3 : Int32))] []))
  refine own_via (fun _ k => XS.iloadN X0.here hx rfl (hb hby d1_26) rfl k) ?_
  show own_Go p e below s _ _ _ (s₁.setTop (mkF m 27 #[.val (.int (3 : Int32))] [(.int (3 : Int32))]))
  refine own_via (fun _ k => XS.iconst X0.here hx rfl (hb hby d1_27) k) ?_
  show own_Go p e below s _ _ _ (s₁.setTop (mkF m 28 #[.val (.int (3 : Int32))] [(.int (3 : Int32)), (.int (3 : Int32))]))
  refine own_via (fun _ k => XS.icmpNo X0.here hx rfl (hb hby d1_28) rfl (teq (by decide : (3 : Int32) = (3 : Int32))).2 k) ?_
  show own_Go p e below s _ _ _ (s₁.setTop (mkF m 31 #[.val (.int (3 : Int32))] []))
  obtain ⟨T1, X1, e1, st1⟩ := getS2 X0 hx hZ hown (host := "") (Or.inl (hw _ (List.mem_of_getElem? (i := 8) rfl))) Via.refl e0 S_w1 (g := (mkF m 31 #[.val (.int (3 : Int32))] [])) rfl (hb hby d1_31)
  refine own_via st1 ?_
  show own_Go p e below s _ _ _ (T1.setTop (mkF m 34 #[.val (.int (3 : Int32))] [(.ref w1)]))
  exact own_retR X1 hx hlk Bd.returns rfl rfl (hb hby d1_34) ⟨rfl, e1, rfl⟩ (by decide) (by decide)
def Q2_3 (w0 : Addr) (w1 : Addr) (w2 : Addr) (w3 : Addr) (w4 : Addr) (h0 : Heap) (v : Option Value) (h : Heap) (L : List Loc) : Prop := L = [] ∧ h = h0 ∧ ((v = some (.int (1 : Int32))))
set_option maxRecDepth 65536 in
set_option maxHeartbeats 40000000 in
theorem rm2_3 (l : Launch) (Z : State) (a0 : Array Value) (hw : ∀ d ∈ tables_1, d.before a0 Z = true) (ws : List Jvm.Cond) (w0 : Addr) (w1 : Addr) (w2 : Addr) (w3 : Addr) (w4 : Addr) (h0 : Heap) (n0 : Nat) (Z0 : n0 ≤ h0.size) (K : own_K Z h0 w0 w1 w2 w3 w4) :
    MetFree l (⟨"com/example/grantfall/grantfall/model/Role", "includes", "(Lcom/example/grantfall/grantfall/model/Role;)Z"⟩ : MethodName) (head1 (Jvm.Cond.code (⟨"com/example/grantfall/grantfall/model/Role", "includes", "(Lcom/example/grantfall/grantfall/model/Role;)Z"⟩ : MethodName) prog_19_method_5_code 2 (some .boolean) :: ws) ({ frames := 0, cells := 0, slots := 0, locals := 0 } : Room)) (fun a U => a = #[(.ref w0), (.ref w1)] ∧ Z.Warmed39 U.vm ∧ U.heap = h0) (fun _ _ _ _ _ => True) (fun _ U o U' => ∃ v L, o = .returned v ∧ Q2_3 w0 w1 w2 w3 w4 h0 v U'.heap L ∧ FrameEnd U o U' L ({ frames := 0, cells := 0, slots := 0, locals := 0 } : Room).cells ({ frames := 0, cells := 0, slots := 0, locals := 0 } : Room).slots) := by
  refine MetFree.of_bodySF (plainFor_of_name pn1) hisR ?_
  intro p e s m args below meth c s₁ Bd hml0 hP hK
  obtain ⟨rfl, hZ, hh⟩ := hP
  have hx := Bd.exec
  have hby := Bd.bytes
  have hml : c.maxLocals = 2 := hml0
  have hown : s.vm.findClass "com/example/grantfall/grantfall/model/Role" = some m.cls := findClass_of_methodNamed Bd.named
  have hnm := (name_of_methodNamed Bd.named Bd.method).1
  have hlk := Bd.notSynchronized
  have X0 : Stand p l e ({ frames := 0, cells := 0, slots := 0, locals := 0 } : Room) s m #[(.ref w0), (.ref w1)] below meth c s₁ [] 0 0 := Stand.of_body Bd
  have e0 : s₁.heap = h0 := by rw [← hh, Bd.state]; rfl
  have K0 := K
  obtain ⟨S_w0, S_w1, S_w2, S_w3, S_w4, E_w0, E_w1, E_w2, E_w3, E_w4, F_w2_ordinal, F_w0_ordinal, F_w3_ordinal, F_w1_ordinal, F_w4_ordinal, n_w0_w1, n_w0_w2, n_w0_w3, n_w0_w4, n_w1_w2, n_w1_w3, n_w1_w4, n_w2_w3, n_w2_w4, n_w3_w4⟩ := K
  show own_Go p e below s (Q2_3 w0 w1 w2 w3 w4 h0) 0 0 (s₁.setTop (entryFrame m #[(.ref w0), (.ref w1)] 2))
  rw [show entryFrame m #[(.ref w0), (.ref w1)] 2 = mkF m 0 #[.val (.ref w0), .val (.ref w1)] [] from by first | (simp [entryFrame, mkF, argsToLocals, Value.category]; done) | rfl]
  show own_Go p e below s _ _ _ (s₁.setTop (mkF m 0 #[.val (.ref w0), .val (.ref w1)] []))
  refine own_via (fun _ k => XS.aloadN X0.here hx rfl (hb hby d2_0) rfl rfl k) ?_
  show own_Go p e below s _ _ _ (s₁.setTop (mkF m 1 #[.val (.ref w0), .val (.ref w1)] [(.ref w0)]))
  obtain ⟨T1, X1, e1, st1⟩ := getS2 X0 hx hZ hown (host := "") (Or.inl (hw _ (List.mem_of_getElem? (i := 15) rfl))) Via.refl e0 S_w0 (g := (mkF m 1 #[.val (.ref w0), .val (.ref w1)] [(.ref w0)])) rfl (hb hby d2_1)
  refine own_via st1 ?_
  show own_Go p e below s _ _ _ (T1.setTop (mkF m 4 #[.val (.ref w0), .val (.ref w1)] [(.ref w0), (.ref w0)]))
  refine own_via (fun _ k => Jvm.RoadKit.acmp (g := (mkF m 4 #[.val (.ref w0), .val (.ref w1)] [(.ref w0), (.ref w0)])) X1 hx rfl rfl rfl (pc0 := 4) (pc' := 12) (same := true) rfl (hb hby d2_4) rfl (decide_eq_true rfl) (by decide) (by decide) k) ?_
  show own_Go p e below s _ _ _ (T1.setTop (mkF m 12 #[.val (.ref w0), .val (.ref w1)] []))
  refine own_via (fun _ k => XS.iconst X1.here hx rfl (hb hby d2_12) k) ?_
  show own_Go p e below s _ _ _ (T1.setTop (mkF m 13 #[.val (.ref w0), .val (.ref w1)] [(.int (1 : Int32))]))
  refine own_via (fun _ k => XS.goto X1.here hx rfl (pc0 := 13) (pc' := 17) rfl (hb hby d2_13) (by decide) (by decide) k) ?_
  show own_Go p e below s _ _ _ (T1.setTop (mkF m 17 #[.val (.ref w0), .val (.ref w1)] [(.int (1 : Int32))]))
  exact own_retZ X1 hx hlk (t := .boolean) Bd.returns (by simp) (hb hby d2_17) (z' := (1 : Int32)) (by first | rfl | decide) ⟨rfl, e1, rfl⟩ (by decide) (by decide)
def Q1_4 (w0 : Addr) (w1 : Addr) (w2 : Addr) (w3 : Addr) (w4 : Addr) (h0 : Heap) (v : Option Value) (h : Heap) (L : List Loc) : Prop := L = [] ∧ h = h0 ∧ ((v = some (.ref w2)))
set_option maxRecDepth 65536 in
set_option maxHeartbeats 40000000 in
theorem rm1_4 (l : Launch) (Z : State) (a0 : Array Value) (hw : ∀ d ∈ tables_1, d.before a0 Z = true) (ws : List Jvm.Cond) (w0 : Addr) (w1 : Addr) (w2 : Addr) (w3 : Addr) (w4 : Addr) (h0 : Heap) (n0 : Nat) (Z0 : n0 ≤ h0.size) (K : own_K Z h0 w0 w1 w2 w3 w4) :
    MetFree l (⟨"com/example/grantfall/grantfall/model/RoleIncludesPinLaw", "pick", "(I)Lcom/example/grantfall/grantfall/model/Role;"⟩ : MethodName) (head1 (Jvm.Cond.code (⟨"com/example/grantfall/grantfall/model/RoleIncludesPinLaw", "pick", "(I)Lcom/example/grantfall/grantfall/model/Role;"⟩ : MethodName) method_2_code 1 (some (.object "com/example/grantfall/grantfall/model/Role")) :: ws) ({ frames := 0, cells := 0, slots := 0, locals := 0 } : Room)) (fun a U => a = #[(.int (4 : Int32))] ∧ Z.Warmed39 U.vm ∧ U.heap = h0) (fun _ _ _ _ _ => True) (fun _ U o U' => ∃ v L, o = .returned v ∧ Q1_4 w0 w1 w2 w3 w4 h0 v U'.heap L ∧ FrameEnd U o U' L ({ frames := 0, cells := 0, slots := 0, locals := 0 } : Room).cells ({ frames := 0, cells := 0, slots := 0, locals := 0 } : Room).slots) := by
  refine MetFree.of_bodySF (plainFor_of_name pn0) hisR ?_
  intro p e s m args below meth c s₁ Bd hml0 hP hK
  obtain ⟨rfl, hZ, hh⟩ := hP
  have hx := Bd.exec
  have hby := Bd.bytes
  have hml : c.maxLocals = 1 := hml0
  have hown : s.vm.findClass "com/example/grantfall/grantfall/model/RoleIncludesPinLaw" = some m.cls := findClass_of_methodNamed Bd.named
  have hnm := (name_of_methodNamed Bd.named Bd.method).1
  have hlk := Bd.notSynchronized
  have X0 : Stand p l e ({ frames := 0, cells := 0, slots := 0, locals := 0 } : Room) s m #[(.int (4 : Int32))] below meth c s₁ [] 0 0 := Stand.of_body Bd
  have e0 : s₁.heap = h0 := by rw [← hh, Bd.state]; rfl
  have K0 := K
  obtain ⟨S_w0, S_w1, S_w2, S_w3, S_w4, E_w0, E_w1, E_w2, E_w3, E_w4, F_w2_ordinal, F_w0_ordinal, F_w3_ordinal, F_w1_ordinal, F_w4_ordinal, n_w0_w1, n_w0_w2, n_w0_w3, n_w0_w4, n_w1_w2, n_w1_w3, n_w1_w4, n_w2_w3, n_w2_w4, n_w3_w4⟩ := K
  show own_Go p e below s (Q1_4 w0 w1 w2 w3 w4 h0) 0 0 (s₁.setTop (entryFrame m #[(.int (4 : Int32))] 1))
  rw [show entryFrame m #[(.int (4 : Int32))] 1 = mkF m 0 #[.val (.int (4 : Int32))] [] from by first | (simp [entryFrame, mkF, argsToLocals, Value.category]; done) | rfl]
  show own_Go p e below s _ _ _ (s₁.setTop (mkF m 0 #[.val (.int (4 : Int32))] []))
  refine own_via (fun _ k => XS.iloadN X0.here hx rfl (hb hby d1_0) rfl k) ?_
  show own_Go p e below s _ _ _ (s₁.setTop (mkF m 1 #[.val (.int (4 : Int32))] [(.int (4 : Int32))]))
  refine own_via (fun _ k => XS.ifYes X0.here hx rfl (pc0 := 1) (pc' := 8) rfl (hb hby d1_1) rfl ((if0 _ _).trans (feq (by decide : ¬ ((4 : Int32) = (0 : Int32)))).2) (by decide) (by decide) k) ?_
  show own_Go p e below s _ _ _ (s₁.setTop (mkF m 8 #[.val (.int (4 : Int32))] []))
  refine own_via (fun _ k => XS.iloadN X0.here hx rfl (hb hby d1_8) rfl k) ?_
  show own_Go p e below s _ _ _ (s₁.setTop (mkF m 9 #[.val (.int (4 : Int32))] [(.int (4 : Int32))]))
  refine own_via (fun _ k => XS.iconst X0.here hx rfl (hb hby d1_9) k) ?_
  show own_Go p e below s _ _ _ (s₁.setTop (mkF m 10 #[.val (.int (4 : Int32))] [(.int (1 : Int32)), (.int (4 : Int32))]))
  refine own_via (fun _ k => XS.icmpYes X0.here hx rfl (pc0 := 10) (pc' := 17) rfl (hb hby d1_10) rfl (feq (by decide : ¬ ((4 : Int32) = (1 : Int32)))).2 (by decide) (by decide) k) ?_
  show own_Go p e below s _ _ _ (s₁.setTop (mkF m 17 #[.val (.int (4 : Int32))] []))
  refine own_via (fun _ k => XS.iloadN X0.here hx rfl (hb hby d1_17) rfl k) ?_
  show own_Go p e below s _ _ _ (s₁.setTop (mkF m 18 #[.val (.int (4 : Int32))] [(.int (4 : Int32))]))
  refine own_via (fun _ k => XS.iconst X0.here hx rfl (hb hby d1_18) k) ?_
  show own_Go p e below s _ _ _ (s₁.setTop (mkF m 19 #[.val (.int (4 : Int32))] [(.int (2 : Int32)), (.int (4 : Int32))]))
  refine own_via (fun _ k => XS.icmpYes X0.here hx rfl (pc0 := 19) (pc' := 26) rfl (hb hby d1_19) rfl (feq (by decide : ¬ ((4 : Int32) = (2 : Int32)))).2 (by decide) (by decide) k) ?_
  show own_Go p e below s _ _ _ (s₁.setTop (mkF m 26 #[.val (.int (4 : Int32))] []))
  refine own_via (fun _ k => XS.iloadN X0.here hx rfl (hb hby d1_26) rfl k) ?_
  show own_Go p e below s _ _ _ (s₁.setTop (mkF m 27 #[.val (.int (4 : Int32))] [(.int (4 : Int32))]))
  refine own_via (fun _ k => XS.iconst X0.here hx rfl (hb hby d1_27) k) ?_
  show own_Go p e below s _ _ _ (s₁.setTop (mkF m 28 #[.val (.int (4 : Int32))] [(.int (3 : Int32)), (.int (4 : Int32))]))
  refine own_via (fun _ k => XS.icmpYes X0.here hx rfl (pc0 := 28) (pc' := 35) rfl (hb hby d1_28) rfl (feq (by decide : ¬ ((4 : Int32) = (3 : Int32)))).2 (by decide) (by decide) k) ?_
  show own_Go p e below s _ _ _ (s₁.setTop (mkF m 35 #[.val (.int (4 : Int32))] []))
  obtain ⟨T1, X1, e1, st1⟩ := getS2 X0 hx hZ hown (host := "") (Or.inl (hw _ (List.mem_of_getElem? (i := 16) rfl))) Via.refl e0 S_w2 (g := (mkF m 35 #[.val (.int (4 : Int32))] [])) rfl (hb hby d1_35)
  refine own_via st1 ?_
  show own_Go p e below s _ _ _ (T1.setTop (mkF m 38 #[.val (.int (4 : Int32))] [(.ref w2)]))
  exact own_retR X1 hx hlk Bd.returns rfl rfl (hb hby d1_38) ⟨rfl, e1, rfl⟩ (by decide) (by decide)
def Q2_4 (w0 : Addr) (w1 : Addr) (w2 : Addr) (w3 : Addr) (w4 : Addr) (h0 : Heap) (v : Option Value) (h : Heap) (L : List Loc) : Prop := L = [] ∧ h = h0 ∧ ((v = some (.int (1 : Int32))))
set_option maxRecDepth 65536 in
set_option maxHeartbeats 40000000 in
theorem rm2_4 (l : Launch) (Z : State) (a0 : Array Value) (hw : ∀ d ∈ tables_1, d.before a0 Z = true) (ws : List Jvm.Cond) (w0 : Addr) (w1 : Addr) (w2 : Addr) (w3 : Addr) (w4 : Addr) (h0 : Heap) (n0 : Nat) (Z0 : n0 ≤ h0.size) (K : own_K Z h0 w0 w1 w2 w3 w4) :
    MetFree l (⟨"com/example/grantfall/grantfall/model/Role", "includes", "(Lcom/example/grantfall/grantfall/model/Role;)Z"⟩ : MethodName) (head1 (Jvm.Cond.code (⟨"com/example/grantfall/grantfall/model/Role", "includes", "(Lcom/example/grantfall/grantfall/model/Role;)Z"⟩ : MethodName) prog_19_method_5_code 2 (some .boolean) :: ws) ({ frames := 0, cells := 0, slots := 0, locals := 0 } : Room)) (fun a U => a = #[(.ref w0), (.ref w2)] ∧ Z.Warmed39 U.vm ∧ U.heap = h0) (fun _ _ _ _ _ => True) (fun _ U o U' => ∃ v L, o = .returned v ∧ Q2_4 w0 w1 w2 w3 w4 h0 v U'.heap L ∧ FrameEnd U o U' L ({ frames := 0, cells := 0, slots := 0, locals := 0 } : Room).cells ({ frames := 0, cells := 0, slots := 0, locals := 0 } : Room).slots) := by
  refine MetFree.of_bodySF (plainFor_of_name pn1) hisR ?_
  intro p e s m args below meth c s₁ Bd hml0 hP hK
  obtain ⟨rfl, hZ, hh⟩ := hP
  have hx := Bd.exec
  have hby := Bd.bytes
  have hml : c.maxLocals = 2 := hml0
  have hown : s.vm.findClass "com/example/grantfall/grantfall/model/Role" = some m.cls := findClass_of_methodNamed Bd.named
  have hnm := (name_of_methodNamed Bd.named Bd.method).1
  have hlk := Bd.notSynchronized
  have X0 : Stand p l e ({ frames := 0, cells := 0, slots := 0, locals := 0 } : Room) s m #[(.ref w0), (.ref w2)] below meth c s₁ [] 0 0 := Stand.of_body Bd
  have e0 : s₁.heap = h0 := by rw [← hh, Bd.state]; rfl
  have K0 := K
  obtain ⟨S_w0, S_w1, S_w2, S_w3, S_w4, E_w0, E_w1, E_w2, E_w3, E_w4, F_w2_ordinal, F_w0_ordinal, F_w3_ordinal, F_w1_ordinal, F_w4_ordinal, n_w0_w1, n_w0_w2, n_w0_w3, n_w0_w4, n_w1_w2, n_w1_w3, n_w1_w4, n_w2_w3, n_w2_w4, n_w3_w4⟩ := K
  show own_Go p e below s (Q2_4 w0 w1 w2 w3 w4 h0) 0 0 (s₁.setTop (entryFrame m #[(.ref w0), (.ref w2)] 2))
  rw [show entryFrame m #[(.ref w0), (.ref w2)] 2 = mkF m 0 #[.val (.ref w0), .val (.ref w2)] [] from by first | (simp [entryFrame, mkF, argsToLocals, Value.category]; done) | rfl]
  show own_Go p e below s _ _ _ (s₁.setTop (mkF m 0 #[.val (.ref w0), .val (.ref w2)] []))
  refine own_via (fun _ k => XS.aloadN X0.here hx rfl (hb hby d2_0) rfl rfl k) ?_
  show own_Go p e below s _ _ _ (s₁.setTop (mkF m 1 #[.val (.ref w0), .val (.ref w2)] [(.ref w0)]))
  obtain ⟨T1, X1, e1, st1⟩ := getS2 X0 hx hZ hown (host := "") (Or.inl (hw _ (List.mem_of_getElem? (i := 15) rfl))) Via.refl e0 S_w0 (g := (mkF m 1 #[.val (.ref w0), .val (.ref w2)] [(.ref w0)])) rfl (hb hby d2_1)
  refine own_via st1 ?_
  show own_Go p e below s _ _ _ (T1.setTop (mkF m 4 #[.val (.ref w0), .val (.ref w2)] [(.ref w0), (.ref w0)]))
  refine own_via (fun _ k => Jvm.RoadKit.acmp (g := (mkF m 4 #[.val (.ref w0), .val (.ref w2)] [(.ref w0), (.ref w0)])) X1 hx rfl rfl rfl (pc0 := 4) (pc' := 12) (same := true) rfl (hb hby d2_4) rfl (decide_eq_true rfl) (by decide) (by decide) k) ?_
  show own_Go p e below s _ _ _ (T1.setTop (mkF m 12 #[.val (.ref w0), .val (.ref w2)] []))
  refine own_via (fun _ k => XS.iconst X1.here hx rfl (hb hby d2_12) k) ?_
  show own_Go p e below s _ _ _ (T1.setTop (mkF m 13 #[.val (.ref w0), .val (.ref w2)] [(.int (1 : Int32))]))
  refine own_via (fun _ k => XS.goto X1.here hx rfl (pc0 := 13) (pc' := 17) rfl (hb hby d2_13) (by decide) (by decide) k) ?_
  show own_Go p e below s _ _ _ (T1.setTop (mkF m 17 #[.val (.ref w0), .val (.ref w2)] [(.int (1 : Int32))]))
  exact own_retZ X1 hx hlk (t := .boolean) Bd.returns (by simp) (hb hby d2_17) (z' := (1 : Int32)) (by first | rfl | decide) ⟨rfl, e1, rfl⟩ (by decide) (by decide)
def Q2_5 (w0 : Addr) (w1 : Addr) (w2 : Addr) (w3 : Addr) (w4 : Addr) (h0 : Heap) (v : Option Value) (h : Heap) (L : List Loc) : Prop := L = [] ∧ h = h0 ∧ ((v = some (.int (0 : Int32))))
set_option maxRecDepth 65536 in
set_option maxHeartbeats 40000000 in
theorem rm2_5 (l : Launch) (Z : State) (a0 : Array Value) (hw : ∀ d ∈ tables_1, d.before a0 Z = true) (ws : List Jvm.Cond) (w0 : Addr) (w1 : Addr) (w2 : Addr) (w3 : Addr) (w4 : Addr) (h0 : Heap) (n0 : Nat) (Z0 : n0 ≤ h0.size) (K : own_K Z h0 w0 w1 w2 w3 w4) :
    MetFree l (⟨"com/example/grantfall/grantfall/model/Role", "includes", "(Lcom/example/grantfall/grantfall/model/Role;)Z"⟩ : MethodName) (head1 (Jvm.Cond.code (⟨"com/example/grantfall/grantfall/model/Role", "includes", "(Lcom/example/grantfall/grantfall/model/Role;)Z"⟩ : MethodName) prog_19_method_5_code 2 (some .boolean) :: ws) ({ frames := 0, cells := 0, slots := 0, locals := 0 } : Room)) (fun a U => a = #[(.ref w3), (.ref w0)] ∧ Z.Warmed39 U.vm ∧ U.heap = h0) (fun _ _ _ _ _ => True) (fun _ U o U' => ∃ v L, o = .returned v ∧ Q2_5 w0 w1 w2 w3 w4 h0 v U'.heap L ∧ FrameEnd U o U' L ({ frames := 0, cells := 0, slots := 0, locals := 0 } : Room).cells ({ frames := 0, cells := 0, slots := 0, locals := 0 } : Room).slots) := by
  refine MetFree.of_bodySF (plainFor_of_name pn1) hisR ?_
  intro p e s m args below meth c s₁ Bd hml0 hP hK
  obtain ⟨rfl, hZ, hh⟩ := hP
  have hx := Bd.exec
  have hby := Bd.bytes
  have hml : c.maxLocals = 2 := hml0
  have hown : s.vm.findClass "com/example/grantfall/grantfall/model/Role" = some m.cls := findClass_of_methodNamed Bd.named
  have hnm := (name_of_methodNamed Bd.named Bd.method).1
  have hlk := Bd.notSynchronized
  have X0 : Stand p l e ({ frames := 0, cells := 0, slots := 0, locals := 0 } : Room) s m #[(.ref w3), (.ref w0)] below meth c s₁ [] 0 0 := Stand.of_body Bd
  have e0 : s₁.heap = h0 := by rw [← hh, Bd.state]; rfl
  have K0 := K
  obtain ⟨S_w0, S_w1, S_w2, S_w3, S_w4, E_w0, E_w1, E_w2, E_w3, E_w4, F_w2_ordinal, F_w0_ordinal, F_w3_ordinal, F_w1_ordinal, F_w4_ordinal, n_w0_w1, n_w0_w2, n_w0_w3, n_w0_w4, n_w1_w2, n_w1_w3, n_w1_w4, n_w2_w3, n_w2_w4, n_w3_w4⟩ := K
  show own_Go p e below s (Q2_5 w0 w1 w2 w3 w4 h0) 0 0 (s₁.setTop (entryFrame m #[(.ref w3), (.ref w0)] 2))
  rw [show entryFrame m #[(.ref w3), (.ref w0)] 2 = mkF m 0 #[.val (.ref w3), .val (.ref w0)] [] from by first | (simp [entryFrame, mkF, argsToLocals, Value.category]; done) | rfl]
  show own_Go p e below s _ _ _ (s₁.setTop (mkF m 0 #[.val (.ref w3), .val (.ref w0)] []))
  refine own_via (fun _ k => XS.aloadN X0.here hx rfl (hb hby d2_0) rfl rfl k) ?_
  show own_Go p e below s _ _ _ (s₁.setTop (mkF m 1 #[.val (.ref w3), .val (.ref w0)] [(.ref w3)]))
  obtain ⟨T1, X1, e1, st1⟩ := getS2 X0 hx hZ hown (host := "") (Or.inl (hw _ (List.mem_of_getElem? (i := 15) rfl))) Via.refl e0 S_w0 (g := (mkF m 1 #[.val (.ref w3), .val (.ref w0)] [(.ref w3)])) rfl (hb hby d2_1)
  refine own_via st1 ?_
  show own_Go p e below s _ _ _ (T1.setTop (mkF m 4 #[.val (.ref w3), .val (.ref w0)] [(.ref w0), (.ref w3)]))
  refine own_via (fun _ k => Jvm.RoadKit.acmp (g := (mkF m 4 #[.val (.ref w3), .val (.ref w0)] [(.ref w0), (.ref w3)])) X1 hx rfl rfl rfl (pc0 := 4) (pc' := 7) (same := false) rfl (hb hby d2_4) rfl (decide_eq_false fun q => (fun q => n_w0_w3 q.symm) (Value.ref.inj q)) (by decide) (by decide) k) ?_
  show own_Go p e below s _ _ _ (T1.setTop (mkF m 7 #[.val (.ref w3), .val (.ref w0)] []))
  refine own_via (fun _ k => XS.aloadN X1.here hx rfl (hb hby d2_7) rfl rfl k) ?_
  show own_Go p e below s _ _ _ (T1.setTop (mkF m 8 #[.val (.ref w3), .val (.ref w0)] [(.ref w3)]))
  refine own_via (fun _ k => XS.aloadN X1.here hx rfl (hb hby d2_8) rfl rfl k) ?_
  show own_Go p e below s _ _ _ (T1.setTop (mkF m 9 #[.val (.ref w3), .val (.ref w0)] [(.ref w0), (.ref w3)]))
  refine own_via (fun _ k => Jvm.RoadKit.acmp (g := (mkF m 9 #[.val (.ref w3), .val (.ref w0)] [(.ref w0), (.ref w3)])) X1 hx rfl rfl rfl (pc0 := 9) (pc' := 16) (same := false) rfl (hb hby d2_9) rfl (decide_eq_false fun q => (fun q => n_w0_w3 q.symm) (Value.ref.inj q)) (by decide) (by decide) k) ?_
  show own_Go p e below s _ _ _ (T1.setTop (mkF m 16 #[.val (.ref w3), .val (.ref w0)] []))
  refine own_via (fun _ k => XS.iconst X1.here hx rfl (hb hby d2_16) k) ?_
  show own_Go p e below s _ _ _ (T1.setTop (mkF m 17 #[.val (.ref w3), .val (.ref w0)] [(.int (0 : Int32))]))
  exact own_retZ X1 hx hlk (t := .boolean) Bd.returns (by simp) (hb hby d2_17) (z' := (0 : Int32)) (by first | rfl | decide) ⟨rfl, e1, rfl⟩ (by decide) (by decide)
def Q2_6 (w0 : Addr) (w1 : Addr) (w2 : Addr) (w3 : Addr) (w4 : Addr) (h0 : Heap) (v : Option Value) (h : Heap) (L : List Loc) : Prop := L = [] ∧ h = h0 ∧ ((v = some (.int (1 : Int32))))
set_option maxRecDepth 65536 in
set_option maxHeartbeats 40000000 in
theorem rm2_6 (l : Launch) (Z : State) (a0 : Array Value) (hw : ∀ d ∈ tables_1, d.before a0 Z = true) (ws : List Jvm.Cond) (w0 : Addr) (w1 : Addr) (w2 : Addr) (w3 : Addr) (w4 : Addr) (h0 : Heap) (n0 : Nat) (Z0 : n0 ≤ h0.size) (K : own_K Z h0 w0 w1 w2 w3 w4) :
    MetFree l (⟨"com/example/grantfall/grantfall/model/Role", "includes", "(Lcom/example/grantfall/grantfall/model/Role;)Z"⟩ : MethodName) (head1 (Jvm.Cond.code (⟨"com/example/grantfall/grantfall/model/Role", "includes", "(Lcom/example/grantfall/grantfall/model/Role;)Z"⟩ : MethodName) prog_19_method_5_code 2 (some .boolean) :: ws) ({ frames := 0, cells := 0, slots := 0, locals := 0 } : Room)) (fun a U => a = #[(.ref w3), (.ref w3)] ∧ Z.Warmed39 U.vm ∧ U.heap = h0) (fun _ _ _ _ _ => True) (fun _ U o U' => ∃ v L, o = .returned v ∧ Q2_6 w0 w1 w2 w3 w4 h0 v U'.heap L ∧ FrameEnd U o U' L ({ frames := 0, cells := 0, slots := 0, locals := 0 } : Room).cells ({ frames := 0, cells := 0, slots := 0, locals := 0 } : Room).slots) := by
  refine MetFree.of_bodySF (plainFor_of_name pn1) hisR ?_
  intro p e s m args below meth c s₁ Bd hml0 hP hK
  obtain ⟨rfl, hZ, hh⟩ := hP
  have hx := Bd.exec
  have hby := Bd.bytes
  have hml : c.maxLocals = 2 := hml0
  have hown : s.vm.findClass "com/example/grantfall/grantfall/model/Role" = some m.cls := findClass_of_methodNamed Bd.named
  have hnm := (name_of_methodNamed Bd.named Bd.method).1
  have hlk := Bd.notSynchronized
  have X0 : Stand p l e ({ frames := 0, cells := 0, slots := 0, locals := 0 } : Room) s m #[(.ref w3), (.ref w3)] below meth c s₁ [] 0 0 := Stand.of_body Bd
  have e0 : s₁.heap = h0 := by rw [← hh, Bd.state]; rfl
  have K0 := K
  obtain ⟨S_w0, S_w1, S_w2, S_w3, S_w4, E_w0, E_w1, E_w2, E_w3, E_w4, F_w2_ordinal, F_w0_ordinal, F_w3_ordinal, F_w1_ordinal, F_w4_ordinal, n_w0_w1, n_w0_w2, n_w0_w3, n_w0_w4, n_w1_w2, n_w1_w3, n_w1_w4, n_w2_w3, n_w2_w4, n_w3_w4⟩ := K
  show own_Go p e below s (Q2_6 w0 w1 w2 w3 w4 h0) 0 0 (s₁.setTop (entryFrame m #[(.ref w3), (.ref w3)] 2))
  rw [show entryFrame m #[(.ref w3), (.ref w3)] 2 = mkF m 0 #[.val (.ref w3), .val (.ref w3)] [] from by first | (simp [entryFrame, mkF, argsToLocals, Value.category]; done) | rfl]
  show own_Go p e below s _ _ _ (s₁.setTop (mkF m 0 #[.val (.ref w3), .val (.ref w3)] []))
  refine own_via (fun _ k => XS.aloadN X0.here hx rfl (hb hby d2_0) rfl rfl k) ?_
  show own_Go p e below s _ _ _ (s₁.setTop (mkF m 1 #[.val (.ref w3), .val (.ref w3)] [(.ref w3)]))
  obtain ⟨T1, X1, e1, st1⟩ := getS2 X0 hx hZ hown (host := "") (Or.inl (hw _ (List.mem_of_getElem? (i := 15) rfl))) Via.refl e0 S_w0 (g := (mkF m 1 #[.val (.ref w3), .val (.ref w3)] [(.ref w3)])) rfl (hb hby d2_1)
  refine own_via st1 ?_
  show own_Go p e below s _ _ _ (T1.setTop (mkF m 4 #[.val (.ref w3), .val (.ref w3)] [(.ref w0), (.ref w3)]))
  refine own_via (fun _ k => Jvm.RoadKit.acmp (g := (mkF m 4 #[.val (.ref w3), .val (.ref w3)] [(.ref w0), (.ref w3)])) X1 hx rfl rfl rfl (pc0 := 4) (pc' := 7) (same := false) rfl (hb hby d2_4) rfl (decide_eq_false fun q => (fun q => n_w0_w3 q.symm) (Value.ref.inj q)) (by decide) (by decide) k) ?_
  show own_Go p e below s _ _ _ (T1.setTop (mkF m 7 #[.val (.ref w3), .val (.ref w3)] []))
  refine own_via (fun _ k => XS.aloadN X1.here hx rfl (hb hby d2_7) rfl rfl k) ?_
  show own_Go p e below s _ _ _ (T1.setTop (mkF m 8 #[.val (.ref w3), .val (.ref w3)] [(.ref w3)]))
  refine own_via (fun _ k => XS.aloadN X1.here hx rfl (hb hby d2_8) rfl rfl k) ?_
  show own_Go p e below s _ _ _ (T1.setTop (mkF m 9 #[.val (.ref w3), .val (.ref w3)] [(.ref w3), (.ref w3)]))
  refine own_via (fun _ k => Jvm.RoadKit.acmp (g := (mkF m 9 #[.val (.ref w3), .val (.ref w3)] [(.ref w3), (.ref w3)])) X1 hx rfl rfl rfl (pc0 := 9) (pc' := 12) (same := true) rfl (hb hby d2_9) rfl (decide_eq_true rfl) (by decide) (by decide) k) ?_
  show own_Go p e below s _ _ _ (T1.setTop (mkF m 12 #[.val (.ref w3), .val (.ref w3)] []))
  refine own_via (fun _ k => XS.iconst X1.here hx rfl (hb hby d2_12) k) ?_
  show own_Go p e below s _ _ _ (T1.setTop (mkF m 13 #[.val (.ref w3), .val (.ref w3)] [(.int (1 : Int32))]))
  refine own_via (fun _ k => XS.goto X1.here hx rfl (pc0 := 13) (pc' := 17) rfl (hb hby d2_13) (by decide) (by decide) k) ?_
  show own_Go p e below s _ _ _ (T1.setTop (mkF m 17 #[.val (.ref w3), .val (.ref w3)] [(.int (1 : Int32))]))
  exact own_retZ X1 hx hlk (t := .boolean) Bd.returns (by simp) (hb hby d2_17) (z' := (1 : Int32)) (by first | rfl | decide) ⟨rfl, e1, rfl⟩ (by decide) (by decide)
def Q2_7 (w0 : Addr) (w1 : Addr) (w2 : Addr) (w3 : Addr) (w4 : Addr) (h0 : Heap) (v : Option Value) (h : Heap) (L : List Loc) : Prop := L = [] ∧ h = h0 ∧ ((v = some (.int (0 : Int32))))
set_option maxRecDepth 65536 in
set_option maxHeartbeats 40000000 in
theorem rm2_7 (l : Launch) (Z : State) (a0 : Array Value) (hw : ∀ d ∈ tables_1, d.before a0 Z = true) (ws : List Jvm.Cond) (w0 : Addr) (w1 : Addr) (w2 : Addr) (w3 : Addr) (w4 : Addr) (h0 : Heap) (n0 : Nat) (Z0 : n0 ≤ h0.size) (K : own_K Z h0 w0 w1 w2 w3 w4) :
    MetFree l (⟨"com/example/grantfall/grantfall/model/Role", "includes", "(Lcom/example/grantfall/grantfall/model/Role;)Z"⟩ : MethodName) (head1 (Jvm.Cond.code (⟨"com/example/grantfall/grantfall/model/Role", "includes", "(Lcom/example/grantfall/grantfall/model/Role;)Z"⟩ : MethodName) prog_19_method_5_code 2 (some .boolean) :: ws) ({ frames := 0, cells := 0, slots := 0, locals := 0 } : Room)) (fun a U => a = #[(.ref w3), (.ref w4)] ∧ Z.Warmed39 U.vm ∧ U.heap = h0) (fun _ _ _ _ _ => True) (fun _ U o U' => ∃ v L, o = .returned v ∧ Q2_7 w0 w1 w2 w3 w4 h0 v U'.heap L ∧ FrameEnd U o U' L ({ frames := 0, cells := 0, slots := 0, locals := 0 } : Room).cells ({ frames := 0, cells := 0, slots := 0, locals := 0 } : Room).slots) := by
  refine MetFree.of_bodySF (plainFor_of_name pn1) hisR ?_
  intro p e s m args below meth c s₁ Bd hml0 hP hK
  obtain ⟨rfl, hZ, hh⟩ := hP
  have hx := Bd.exec
  have hby := Bd.bytes
  have hml : c.maxLocals = 2 := hml0
  have hown : s.vm.findClass "com/example/grantfall/grantfall/model/Role" = some m.cls := findClass_of_methodNamed Bd.named
  have hnm := (name_of_methodNamed Bd.named Bd.method).1
  have hlk := Bd.notSynchronized
  have X0 : Stand p l e ({ frames := 0, cells := 0, slots := 0, locals := 0 } : Room) s m #[(.ref w3), (.ref w4)] below meth c s₁ [] 0 0 := Stand.of_body Bd
  have e0 : s₁.heap = h0 := by rw [← hh, Bd.state]; rfl
  have K0 := K
  obtain ⟨S_w0, S_w1, S_w2, S_w3, S_w4, E_w0, E_w1, E_w2, E_w3, E_w4, F_w2_ordinal, F_w0_ordinal, F_w3_ordinal, F_w1_ordinal, F_w4_ordinal, n_w0_w1, n_w0_w2, n_w0_w3, n_w0_w4, n_w1_w2, n_w1_w3, n_w1_w4, n_w2_w3, n_w2_w4, n_w3_w4⟩ := K
  show own_Go p e below s (Q2_7 w0 w1 w2 w3 w4 h0) 0 0 (s₁.setTop (entryFrame m #[(.ref w3), (.ref w4)] 2))
  rw [show entryFrame m #[(.ref w3), (.ref w4)] 2 = mkF m 0 #[.val (.ref w3), .val (.ref w4)] [] from by first | (simp [entryFrame, mkF, argsToLocals, Value.category]; done) | rfl]
  show own_Go p e below s _ _ _ (s₁.setTop (mkF m 0 #[.val (.ref w3), .val (.ref w4)] []))
  refine own_via (fun _ k => XS.aloadN X0.here hx rfl (hb hby d2_0) rfl rfl k) ?_
  show own_Go p e below s _ _ _ (s₁.setTop (mkF m 1 #[.val (.ref w3), .val (.ref w4)] [(.ref w3)]))
  obtain ⟨T1, X1, e1, st1⟩ := getS2 X0 hx hZ hown (host := "") (Or.inl (hw _ (List.mem_of_getElem? (i := 15) rfl))) Via.refl e0 S_w0 (g := (mkF m 1 #[.val (.ref w3), .val (.ref w4)] [(.ref w3)])) rfl (hb hby d2_1)
  refine own_via st1 ?_
  show own_Go p e below s _ _ _ (T1.setTop (mkF m 4 #[.val (.ref w3), .val (.ref w4)] [(.ref w0), (.ref w3)]))
  refine own_via (fun _ k => Jvm.RoadKit.acmp (g := (mkF m 4 #[.val (.ref w3), .val (.ref w4)] [(.ref w0), (.ref w3)])) X1 hx rfl rfl rfl (pc0 := 4) (pc' := 7) (same := false) rfl (hb hby d2_4) rfl (decide_eq_false fun q => (fun q => n_w0_w3 q.symm) (Value.ref.inj q)) (by decide) (by decide) k) ?_
  show own_Go p e below s _ _ _ (T1.setTop (mkF m 7 #[.val (.ref w3), .val (.ref w4)] []))
  refine own_via (fun _ k => XS.aloadN X1.here hx rfl (hb hby d2_7) rfl rfl k) ?_
  show own_Go p e below s _ _ _ (T1.setTop (mkF m 8 #[.val (.ref w3), .val (.ref w4)] [(.ref w3)]))
  refine own_via (fun _ k => XS.aloadN X1.here hx rfl (hb hby d2_8) rfl rfl k) ?_
  show own_Go p e below s _ _ _ (T1.setTop (mkF m 9 #[.val (.ref w3), .val (.ref w4)] [(.ref w4), (.ref w3)]))
  refine own_via (fun _ k => Jvm.RoadKit.acmp (g := (mkF m 9 #[.val (.ref w3), .val (.ref w4)] [(.ref w4), (.ref w3)])) X1 hx rfl rfl rfl (pc0 := 9) (pc' := 16) (same := false) rfl (hb hby d2_9) rfl (decide_eq_false fun q => n_w3_w4 (Value.ref.inj q)) (by decide) (by decide) k) ?_
  show own_Go p e below s _ _ _ (T1.setTop (mkF m 16 #[.val (.ref w3), .val (.ref w4)] []))
  refine own_via (fun _ k => XS.iconst X1.here hx rfl (hb hby d2_16) k) ?_
  show own_Go p e below s _ _ _ (T1.setTop (mkF m 17 #[.val (.ref w3), .val (.ref w4)] [(.int (0 : Int32))]))
  exact own_retZ X1 hx hlk (t := .boolean) Bd.returns (by simp) (hb hby d2_17) (z' := (0 : Int32)) (by first | rfl | decide) ⟨rfl, e1, rfl⟩ (by decide) (by decide)
def Q2_8 (w0 : Addr) (w1 : Addr) (w2 : Addr) (w3 : Addr) (w4 : Addr) (h0 : Heap) (v : Option Value) (h : Heap) (L : List Loc) : Prop := L = [] ∧ h = h0 ∧ ((v = some (.int (0 : Int32))))
set_option maxRecDepth 65536 in
set_option maxHeartbeats 40000000 in
theorem rm2_8 (l : Launch) (Z : State) (a0 : Array Value) (hw : ∀ d ∈ tables_1, d.before a0 Z = true) (ws : List Jvm.Cond) (w0 : Addr) (w1 : Addr) (w2 : Addr) (w3 : Addr) (w4 : Addr) (h0 : Heap) (n0 : Nat) (Z0 : n0 ≤ h0.size) (K : own_K Z h0 w0 w1 w2 w3 w4) :
    MetFree l (⟨"com/example/grantfall/grantfall/model/Role", "includes", "(Lcom/example/grantfall/grantfall/model/Role;)Z"⟩ : MethodName) (head1 (Jvm.Cond.code (⟨"com/example/grantfall/grantfall/model/Role", "includes", "(Lcom/example/grantfall/grantfall/model/Role;)Z"⟩ : MethodName) prog_19_method_5_code 2 (some .boolean) :: ws) ({ frames := 0, cells := 0, slots := 0, locals := 0 } : Room)) (fun a U => a = #[(.ref w3), (.ref w1)] ∧ Z.Warmed39 U.vm ∧ U.heap = h0) (fun _ _ _ _ _ => True) (fun _ U o U' => ∃ v L, o = .returned v ∧ Q2_8 w0 w1 w2 w3 w4 h0 v U'.heap L ∧ FrameEnd U o U' L ({ frames := 0, cells := 0, slots := 0, locals := 0 } : Room).cells ({ frames := 0, cells := 0, slots := 0, locals := 0 } : Room).slots) := by
  refine MetFree.of_bodySF (plainFor_of_name pn1) hisR ?_
  intro p e s m args below meth c s₁ Bd hml0 hP hK
  obtain ⟨rfl, hZ, hh⟩ := hP
  have hx := Bd.exec
  have hby := Bd.bytes
  have hml : c.maxLocals = 2 := hml0
  have hown : s.vm.findClass "com/example/grantfall/grantfall/model/Role" = some m.cls := findClass_of_methodNamed Bd.named
  have hnm := (name_of_methodNamed Bd.named Bd.method).1
  have hlk := Bd.notSynchronized
  have X0 : Stand p l e ({ frames := 0, cells := 0, slots := 0, locals := 0 } : Room) s m #[(.ref w3), (.ref w1)] below meth c s₁ [] 0 0 := Stand.of_body Bd
  have e0 : s₁.heap = h0 := by rw [← hh, Bd.state]; rfl
  have K0 := K
  obtain ⟨S_w0, S_w1, S_w2, S_w3, S_w4, E_w0, E_w1, E_w2, E_w3, E_w4, F_w2_ordinal, F_w0_ordinal, F_w3_ordinal, F_w1_ordinal, F_w4_ordinal, n_w0_w1, n_w0_w2, n_w0_w3, n_w0_w4, n_w1_w2, n_w1_w3, n_w1_w4, n_w2_w3, n_w2_w4, n_w3_w4⟩ := K
  show own_Go p e below s (Q2_8 w0 w1 w2 w3 w4 h0) 0 0 (s₁.setTop (entryFrame m #[(.ref w3), (.ref w1)] 2))
  rw [show entryFrame m #[(.ref w3), (.ref w1)] 2 = mkF m 0 #[.val (.ref w3), .val (.ref w1)] [] from by first | (simp [entryFrame, mkF, argsToLocals, Value.category]; done) | rfl]
  show own_Go p e below s _ _ _ (s₁.setTop (mkF m 0 #[.val (.ref w3), .val (.ref w1)] []))
  refine own_via (fun _ k => XS.aloadN X0.here hx rfl (hb hby d2_0) rfl rfl k) ?_
  show own_Go p e below s _ _ _ (s₁.setTop (mkF m 1 #[.val (.ref w3), .val (.ref w1)] [(.ref w3)]))
  obtain ⟨T1, X1, e1, st1⟩ := getS2 X0 hx hZ hown (host := "") (Or.inl (hw _ (List.mem_of_getElem? (i := 15) rfl))) Via.refl e0 S_w0 (g := (mkF m 1 #[.val (.ref w3), .val (.ref w1)] [(.ref w3)])) rfl (hb hby d2_1)
  refine own_via st1 ?_
  show own_Go p e below s _ _ _ (T1.setTop (mkF m 4 #[.val (.ref w3), .val (.ref w1)] [(.ref w0), (.ref w3)]))
  refine own_via (fun _ k => Jvm.RoadKit.acmp (g := (mkF m 4 #[.val (.ref w3), .val (.ref w1)] [(.ref w0), (.ref w3)])) X1 hx rfl rfl rfl (pc0 := 4) (pc' := 7) (same := false) rfl (hb hby d2_4) rfl (decide_eq_false fun q => (fun q => n_w0_w3 q.symm) (Value.ref.inj q)) (by decide) (by decide) k) ?_
  show own_Go p e below s _ _ _ (T1.setTop (mkF m 7 #[.val (.ref w3), .val (.ref w1)] []))
  refine own_via (fun _ k => XS.aloadN X1.here hx rfl (hb hby d2_7) rfl rfl k) ?_
  show own_Go p e below s _ _ _ (T1.setTop (mkF m 8 #[.val (.ref w3), .val (.ref w1)] [(.ref w3)]))
  refine own_via (fun _ k => XS.aloadN X1.here hx rfl (hb hby d2_8) rfl rfl k) ?_
  show own_Go p e below s _ _ _ (T1.setTop (mkF m 9 #[.val (.ref w3), .val (.ref w1)] [(.ref w1), (.ref w3)]))
  refine own_via (fun _ k => Jvm.RoadKit.acmp (g := (mkF m 9 #[.val (.ref w3), .val (.ref w1)] [(.ref w1), (.ref w3)])) X1 hx rfl rfl rfl (pc0 := 9) (pc' := 16) (same := false) rfl (hb hby d2_9) rfl (decide_eq_false fun q => (fun q => n_w1_w3 q.symm) (Value.ref.inj q)) (by decide) (by decide) k) ?_
  show own_Go p e below s _ _ _ (T1.setTop (mkF m 16 #[.val (.ref w3), .val (.ref w1)] []))
  refine own_via (fun _ k => XS.iconst X1.here hx rfl (hb hby d2_16) k) ?_
  show own_Go p e below s _ _ _ (T1.setTop (mkF m 17 #[.val (.ref w3), .val (.ref w1)] [(.int (0 : Int32))]))
  exact own_retZ X1 hx hlk (t := .boolean) Bd.returns (by simp) (hb hby d2_17) (z' := (0 : Int32)) (by first | rfl | decide) ⟨rfl, e1, rfl⟩ (by decide) (by decide)
def Q2_9 (w0 : Addr) (w1 : Addr) (w2 : Addr) (w3 : Addr) (w4 : Addr) (h0 : Heap) (v : Option Value) (h : Heap) (L : List Loc) : Prop := L = [] ∧ h = h0 ∧ ((v = some (.int (0 : Int32))))
set_option maxRecDepth 65536 in
set_option maxHeartbeats 40000000 in
theorem rm2_9 (l : Launch) (Z : State) (a0 : Array Value) (hw : ∀ d ∈ tables_1, d.before a0 Z = true) (ws : List Jvm.Cond) (w0 : Addr) (w1 : Addr) (w2 : Addr) (w3 : Addr) (w4 : Addr) (h0 : Heap) (n0 : Nat) (Z0 : n0 ≤ h0.size) (K : own_K Z h0 w0 w1 w2 w3 w4) :
    MetFree l (⟨"com/example/grantfall/grantfall/model/Role", "includes", "(Lcom/example/grantfall/grantfall/model/Role;)Z"⟩ : MethodName) (head1 (Jvm.Cond.code (⟨"com/example/grantfall/grantfall/model/Role", "includes", "(Lcom/example/grantfall/grantfall/model/Role;)Z"⟩ : MethodName) prog_19_method_5_code 2 (some .boolean) :: ws) ({ frames := 0, cells := 0, slots := 0, locals := 0 } : Room)) (fun a U => a = #[(.ref w3), (.ref w2)] ∧ Z.Warmed39 U.vm ∧ U.heap = h0) (fun _ _ _ _ _ => True) (fun _ U o U' => ∃ v L, o = .returned v ∧ Q2_9 w0 w1 w2 w3 w4 h0 v U'.heap L ∧ FrameEnd U o U' L ({ frames := 0, cells := 0, slots := 0, locals := 0 } : Room).cells ({ frames := 0, cells := 0, slots := 0, locals := 0 } : Room).slots) := by
  refine MetFree.of_bodySF (plainFor_of_name pn1) hisR ?_
  intro p e s m args below meth c s₁ Bd hml0 hP hK
  obtain ⟨rfl, hZ, hh⟩ := hP
  have hx := Bd.exec
  have hby := Bd.bytes
  have hml : c.maxLocals = 2 := hml0
  have hown : s.vm.findClass "com/example/grantfall/grantfall/model/Role" = some m.cls := findClass_of_methodNamed Bd.named
  have hnm := (name_of_methodNamed Bd.named Bd.method).1
  have hlk := Bd.notSynchronized
  have X0 : Stand p l e ({ frames := 0, cells := 0, slots := 0, locals := 0 } : Room) s m #[(.ref w3), (.ref w2)] below meth c s₁ [] 0 0 := Stand.of_body Bd
  have e0 : s₁.heap = h0 := by rw [← hh, Bd.state]; rfl
  have K0 := K
  obtain ⟨S_w0, S_w1, S_w2, S_w3, S_w4, E_w0, E_w1, E_w2, E_w3, E_w4, F_w2_ordinal, F_w0_ordinal, F_w3_ordinal, F_w1_ordinal, F_w4_ordinal, n_w0_w1, n_w0_w2, n_w0_w3, n_w0_w4, n_w1_w2, n_w1_w3, n_w1_w4, n_w2_w3, n_w2_w4, n_w3_w4⟩ := K
  show own_Go p e below s (Q2_9 w0 w1 w2 w3 w4 h0) 0 0 (s₁.setTop (entryFrame m #[(.ref w3), (.ref w2)] 2))
  rw [show entryFrame m #[(.ref w3), (.ref w2)] 2 = mkF m 0 #[.val (.ref w3), .val (.ref w2)] [] from by first | (simp [entryFrame, mkF, argsToLocals, Value.category]; done) | rfl]
  show own_Go p e below s _ _ _ (s₁.setTop (mkF m 0 #[.val (.ref w3), .val (.ref w2)] []))
  refine own_via (fun _ k => XS.aloadN X0.here hx rfl (hb hby d2_0) rfl rfl k) ?_
  show own_Go p e below s _ _ _ (s₁.setTop (mkF m 1 #[.val (.ref w3), .val (.ref w2)] [(.ref w3)]))
  obtain ⟨T1, X1, e1, st1⟩ := getS2 X0 hx hZ hown (host := "") (Or.inl (hw _ (List.mem_of_getElem? (i := 15) rfl))) Via.refl e0 S_w0 (g := (mkF m 1 #[.val (.ref w3), .val (.ref w2)] [(.ref w3)])) rfl (hb hby d2_1)
  refine own_via st1 ?_
  show own_Go p e below s _ _ _ (T1.setTop (mkF m 4 #[.val (.ref w3), .val (.ref w2)] [(.ref w0), (.ref w3)]))
  refine own_via (fun _ k => Jvm.RoadKit.acmp (g := (mkF m 4 #[.val (.ref w3), .val (.ref w2)] [(.ref w0), (.ref w3)])) X1 hx rfl rfl rfl (pc0 := 4) (pc' := 7) (same := false) rfl (hb hby d2_4) rfl (decide_eq_false fun q => (fun q => n_w0_w3 q.symm) (Value.ref.inj q)) (by decide) (by decide) k) ?_
  show own_Go p e below s _ _ _ (T1.setTop (mkF m 7 #[.val (.ref w3), .val (.ref w2)] []))
  refine own_via (fun _ k => XS.aloadN X1.here hx rfl (hb hby d2_7) rfl rfl k) ?_
  show own_Go p e below s _ _ _ (T1.setTop (mkF m 8 #[.val (.ref w3), .val (.ref w2)] [(.ref w3)]))
  refine own_via (fun _ k => XS.aloadN X1.here hx rfl (hb hby d2_8) rfl rfl k) ?_
  show own_Go p e below s _ _ _ (T1.setTop (mkF m 9 #[.val (.ref w3), .val (.ref w2)] [(.ref w2), (.ref w3)]))
  refine own_via (fun _ k => Jvm.RoadKit.acmp (g := (mkF m 9 #[.val (.ref w3), .val (.ref w2)] [(.ref w2), (.ref w3)])) X1 hx rfl rfl rfl (pc0 := 9) (pc' := 16) (same := false) rfl (hb hby d2_9) rfl (decide_eq_false fun q => (fun q => n_w2_w3 q.symm) (Value.ref.inj q)) (by decide) (by decide) k) ?_
  show own_Go p e below s _ _ _ (T1.setTop (mkF m 16 #[.val (.ref w3), .val (.ref w2)] []))
  refine own_via (fun _ k => XS.iconst X1.here hx rfl (hb hby d2_16) k) ?_
  show own_Go p e below s _ _ _ (T1.setTop (mkF m 17 #[.val (.ref w3), .val (.ref w2)] [(.int (0 : Int32))]))
  exact own_retZ X1 hx hlk (t := .boolean) Bd.returns (by simp) (hb hby d2_17) (z' := (0 : Int32)) (by first | rfl | decide) ⟨rfl, e1, rfl⟩ (by decide) (by decide)
def Q2_10 (w0 : Addr) (w1 : Addr) (w2 : Addr) (w3 : Addr) (w4 : Addr) (h0 : Heap) (v : Option Value) (h : Heap) (L : List Loc) : Prop := L = [] ∧ h = h0 ∧ ((v = some (.int (0 : Int32))))
set_option maxRecDepth 65536 in
set_option maxHeartbeats 40000000 in
theorem rm2_10 (l : Launch) (Z : State) (a0 : Array Value) (hw : ∀ d ∈ tables_1, d.before a0 Z = true) (ws : List Jvm.Cond) (w0 : Addr) (w1 : Addr) (w2 : Addr) (w3 : Addr) (w4 : Addr) (h0 : Heap) (n0 : Nat) (Z0 : n0 ≤ h0.size) (K : own_K Z h0 w0 w1 w2 w3 w4) :
    MetFree l (⟨"com/example/grantfall/grantfall/model/Role", "includes", "(Lcom/example/grantfall/grantfall/model/Role;)Z"⟩ : MethodName) (head1 (Jvm.Cond.code (⟨"com/example/grantfall/grantfall/model/Role", "includes", "(Lcom/example/grantfall/grantfall/model/Role;)Z"⟩ : MethodName) prog_19_method_5_code 2 (some .boolean) :: ws) ({ frames := 0, cells := 0, slots := 0, locals := 0 } : Room)) (fun a U => a = #[(.ref w4), (.ref w0)] ∧ Z.Warmed39 U.vm ∧ U.heap = h0) (fun _ _ _ _ _ => True) (fun _ U o U' => ∃ v L, o = .returned v ∧ Q2_10 w0 w1 w2 w3 w4 h0 v U'.heap L ∧ FrameEnd U o U' L ({ frames := 0, cells := 0, slots := 0, locals := 0 } : Room).cells ({ frames := 0, cells := 0, slots := 0, locals := 0 } : Room).slots) := by
  refine MetFree.of_bodySF (plainFor_of_name pn1) hisR ?_
  intro p e s m args below meth c s₁ Bd hml0 hP hK
  obtain ⟨rfl, hZ, hh⟩ := hP
  have hx := Bd.exec
  have hby := Bd.bytes
  have hml : c.maxLocals = 2 := hml0
  have hown : s.vm.findClass "com/example/grantfall/grantfall/model/Role" = some m.cls := findClass_of_methodNamed Bd.named
  have hnm := (name_of_methodNamed Bd.named Bd.method).1
  have hlk := Bd.notSynchronized
  have X0 : Stand p l e ({ frames := 0, cells := 0, slots := 0, locals := 0 } : Room) s m #[(.ref w4), (.ref w0)] below meth c s₁ [] 0 0 := Stand.of_body Bd
  have e0 : s₁.heap = h0 := by rw [← hh, Bd.state]; rfl
  have K0 := K
  obtain ⟨S_w0, S_w1, S_w2, S_w3, S_w4, E_w0, E_w1, E_w2, E_w3, E_w4, F_w2_ordinal, F_w0_ordinal, F_w3_ordinal, F_w1_ordinal, F_w4_ordinal, n_w0_w1, n_w0_w2, n_w0_w3, n_w0_w4, n_w1_w2, n_w1_w3, n_w1_w4, n_w2_w3, n_w2_w4, n_w3_w4⟩ := K
  show own_Go p e below s (Q2_10 w0 w1 w2 w3 w4 h0) 0 0 (s₁.setTop (entryFrame m #[(.ref w4), (.ref w0)] 2))
  rw [show entryFrame m #[(.ref w4), (.ref w0)] 2 = mkF m 0 #[.val (.ref w4), .val (.ref w0)] [] from by first | (simp [entryFrame, mkF, argsToLocals, Value.category]; done) | rfl]
  show own_Go p e below s _ _ _ (s₁.setTop (mkF m 0 #[.val (.ref w4), .val (.ref w0)] []))
  refine own_via (fun _ k => XS.aloadN X0.here hx rfl (hb hby d2_0) rfl rfl k) ?_
  show own_Go p e below s _ _ _ (s₁.setTop (mkF m 1 #[.val (.ref w4), .val (.ref w0)] [(.ref w4)]))
  obtain ⟨T1, X1, e1, st1⟩ := getS2 X0 hx hZ hown (host := "") (Or.inl (hw _ (List.mem_of_getElem? (i := 15) rfl))) Via.refl e0 S_w0 (g := (mkF m 1 #[.val (.ref w4), .val (.ref w0)] [(.ref w4)])) rfl (hb hby d2_1)
  refine own_via st1 ?_
  show own_Go p e below s _ _ _ (T1.setTop (mkF m 4 #[.val (.ref w4), .val (.ref w0)] [(.ref w0), (.ref w4)]))
  refine own_via (fun _ k => Jvm.RoadKit.acmp (g := (mkF m 4 #[.val (.ref w4), .val (.ref w0)] [(.ref w0), (.ref w4)])) X1 hx rfl rfl rfl (pc0 := 4) (pc' := 7) (same := false) rfl (hb hby d2_4) rfl (decide_eq_false fun q => (fun q => n_w0_w4 q.symm) (Value.ref.inj q)) (by decide) (by decide) k) ?_
  show own_Go p e below s _ _ _ (T1.setTop (mkF m 7 #[.val (.ref w4), .val (.ref w0)] []))
  refine own_via (fun _ k => XS.aloadN X1.here hx rfl (hb hby d2_7) rfl rfl k) ?_
  show own_Go p e below s _ _ _ (T1.setTop (mkF m 8 #[.val (.ref w4), .val (.ref w0)] [(.ref w4)]))
  refine own_via (fun _ k => XS.aloadN X1.here hx rfl (hb hby d2_8) rfl rfl k) ?_
  show own_Go p e below s _ _ _ (T1.setTop (mkF m 9 #[.val (.ref w4), .val (.ref w0)] [(.ref w0), (.ref w4)]))
  refine own_via (fun _ k => Jvm.RoadKit.acmp (g := (mkF m 9 #[.val (.ref w4), .val (.ref w0)] [(.ref w0), (.ref w4)])) X1 hx rfl rfl rfl (pc0 := 9) (pc' := 16) (same := false) rfl (hb hby d2_9) rfl (decide_eq_false fun q => (fun q => n_w0_w4 q.symm) (Value.ref.inj q)) (by decide) (by decide) k) ?_
  show own_Go p e below s _ _ _ (T1.setTop (mkF m 16 #[.val (.ref w4), .val (.ref w0)] []))
  refine own_via (fun _ k => XS.iconst X1.here hx rfl (hb hby d2_16) k) ?_
  show own_Go p e below s _ _ _ (T1.setTop (mkF m 17 #[.val (.ref w4), .val (.ref w0)] [(.int (0 : Int32))]))
  exact own_retZ X1 hx hlk (t := .boolean) Bd.returns (by simp) (hb hby d2_17) (z' := (0 : Int32)) (by first | rfl | decide) ⟨rfl, e1, rfl⟩ (by decide) (by decide)
def Q2_11 (w0 : Addr) (w1 : Addr) (w2 : Addr) (w3 : Addr) (w4 : Addr) (h0 : Heap) (v : Option Value) (h : Heap) (L : List Loc) : Prop := L = [] ∧ h = h0 ∧ ((v = some (.int (0 : Int32))))
set_option maxRecDepth 65536 in
set_option maxHeartbeats 40000000 in
theorem rm2_11 (l : Launch) (Z : State) (a0 : Array Value) (hw : ∀ d ∈ tables_1, d.before a0 Z = true) (ws : List Jvm.Cond) (w0 : Addr) (w1 : Addr) (w2 : Addr) (w3 : Addr) (w4 : Addr) (h0 : Heap) (n0 : Nat) (Z0 : n0 ≤ h0.size) (K : own_K Z h0 w0 w1 w2 w3 w4) :
    MetFree l (⟨"com/example/grantfall/grantfall/model/Role", "includes", "(Lcom/example/grantfall/grantfall/model/Role;)Z"⟩ : MethodName) (head1 (Jvm.Cond.code (⟨"com/example/grantfall/grantfall/model/Role", "includes", "(Lcom/example/grantfall/grantfall/model/Role;)Z"⟩ : MethodName) prog_19_method_5_code 2 (some .boolean) :: ws) ({ frames := 0, cells := 0, slots := 0, locals := 0 } : Room)) (fun a U => a = #[(.ref w4), (.ref w3)] ∧ Z.Warmed39 U.vm ∧ U.heap = h0) (fun _ _ _ _ _ => True) (fun _ U o U' => ∃ v L, o = .returned v ∧ Q2_11 w0 w1 w2 w3 w4 h0 v U'.heap L ∧ FrameEnd U o U' L ({ frames := 0, cells := 0, slots := 0, locals := 0 } : Room).cells ({ frames := 0, cells := 0, slots := 0, locals := 0 } : Room).slots) := by
  refine MetFree.of_bodySF (plainFor_of_name pn1) hisR ?_
  intro p e s m args below meth c s₁ Bd hml0 hP hK
  obtain ⟨rfl, hZ, hh⟩ := hP
  have hx := Bd.exec
  have hby := Bd.bytes
  have hml : c.maxLocals = 2 := hml0
  have hown : s.vm.findClass "com/example/grantfall/grantfall/model/Role" = some m.cls := findClass_of_methodNamed Bd.named
  have hnm := (name_of_methodNamed Bd.named Bd.method).1
  have hlk := Bd.notSynchronized
  have X0 : Stand p l e ({ frames := 0, cells := 0, slots := 0, locals := 0 } : Room) s m #[(.ref w4), (.ref w3)] below meth c s₁ [] 0 0 := Stand.of_body Bd
  have e0 : s₁.heap = h0 := by rw [← hh, Bd.state]; rfl
  have K0 := K
  obtain ⟨S_w0, S_w1, S_w2, S_w3, S_w4, E_w0, E_w1, E_w2, E_w3, E_w4, F_w2_ordinal, F_w0_ordinal, F_w3_ordinal, F_w1_ordinal, F_w4_ordinal, n_w0_w1, n_w0_w2, n_w0_w3, n_w0_w4, n_w1_w2, n_w1_w3, n_w1_w4, n_w2_w3, n_w2_w4, n_w3_w4⟩ := K
  show own_Go p e below s (Q2_11 w0 w1 w2 w3 w4 h0) 0 0 (s₁.setTop (entryFrame m #[(.ref w4), (.ref w3)] 2))
  rw [show entryFrame m #[(.ref w4), (.ref w3)] 2 = mkF m 0 #[.val (.ref w4), .val (.ref w3)] [] from by first | (simp [entryFrame, mkF, argsToLocals, Value.category]; done) | rfl]
  show own_Go p e below s _ _ _ (s₁.setTop (mkF m 0 #[.val (.ref w4), .val (.ref w3)] []))
  refine own_via (fun _ k => XS.aloadN X0.here hx rfl (hb hby d2_0) rfl rfl k) ?_
  show own_Go p e below s _ _ _ (s₁.setTop (mkF m 1 #[.val (.ref w4), .val (.ref w3)] [(.ref w4)]))
  obtain ⟨T1, X1, e1, st1⟩ := getS2 X0 hx hZ hown (host := "") (Or.inl (hw _ (List.mem_of_getElem? (i := 15) rfl))) Via.refl e0 S_w0 (g := (mkF m 1 #[.val (.ref w4), .val (.ref w3)] [(.ref w4)])) rfl (hb hby d2_1)
  refine own_via st1 ?_
  show own_Go p e below s _ _ _ (T1.setTop (mkF m 4 #[.val (.ref w4), .val (.ref w3)] [(.ref w0), (.ref w4)]))
  refine own_via (fun _ k => Jvm.RoadKit.acmp (g := (mkF m 4 #[.val (.ref w4), .val (.ref w3)] [(.ref w0), (.ref w4)])) X1 hx rfl rfl rfl (pc0 := 4) (pc' := 7) (same := false) rfl (hb hby d2_4) rfl (decide_eq_false fun q => (fun q => n_w0_w4 q.symm) (Value.ref.inj q)) (by decide) (by decide) k) ?_
  show own_Go p e below s _ _ _ (T1.setTop (mkF m 7 #[.val (.ref w4), .val (.ref w3)] []))
  refine own_via (fun _ k => XS.aloadN X1.here hx rfl (hb hby d2_7) rfl rfl k) ?_
  show own_Go p e below s _ _ _ (T1.setTop (mkF m 8 #[.val (.ref w4), .val (.ref w3)] [(.ref w4)]))
  refine own_via (fun _ k => XS.aloadN X1.here hx rfl (hb hby d2_8) rfl rfl k) ?_
  show own_Go p e below s _ _ _ (T1.setTop (mkF m 9 #[.val (.ref w4), .val (.ref w3)] [(.ref w3), (.ref w4)]))
  refine own_via (fun _ k => Jvm.RoadKit.acmp (g := (mkF m 9 #[.val (.ref w4), .val (.ref w3)] [(.ref w3), (.ref w4)])) X1 hx rfl rfl rfl (pc0 := 9) (pc' := 16) (same := false) rfl (hb hby d2_9) rfl (decide_eq_false fun q => (fun q => n_w3_w4 q.symm) (Value.ref.inj q)) (by decide) (by decide) k) ?_
  show own_Go p e below s _ _ _ (T1.setTop (mkF m 16 #[.val (.ref w4), .val (.ref w3)] []))
  refine own_via (fun _ k => XS.iconst X1.here hx rfl (hb hby d2_16) k) ?_
  show own_Go p e below s _ _ _ (T1.setTop (mkF m 17 #[.val (.ref w4), .val (.ref w3)] [(.int (0 : Int32))]))
  exact own_retZ X1 hx hlk (t := .boolean) Bd.returns (by simp) (hb hby d2_17) (z' := (0 : Int32)) (by first | rfl | decide) ⟨rfl, e1, rfl⟩ (by decide) (by decide)
def Q2_12 (w0 : Addr) (w1 : Addr) (w2 : Addr) (w3 : Addr) (w4 : Addr) (h0 : Heap) (v : Option Value) (h : Heap) (L : List Loc) : Prop := L = [] ∧ h = h0 ∧ ((v = some (.int (1 : Int32))))
set_option maxRecDepth 65536 in
set_option maxHeartbeats 40000000 in
theorem rm2_12 (l : Launch) (Z : State) (a0 : Array Value) (hw : ∀ d ∈ tables_1, d.before a0 Z = true) (ws : List Jvm.Cond) (w0 : Addr) (w1 : Addr) (w2 : Addr) (w3 : Addr) (w4 : Addr) (h0 : Heap) (n0 : Nat) (Z0 : n0 ≤ h0.size) (K : own_K Z h0 w0 w1 w2 w3 w4) :
    MetFree l (⟨"com/example/grantfall/grantfall/model/Role", "includes", "(Lcom/example/grantfall/grantfall/model/Role;)Z"⟩ : MethodName) (head1 (Jvm.Cond.code (⟨"com/example/grantfall/grantfall/model/Role", "includes", "(Lcom/example/grantfall/grantfall/model/Role;)Z"⟩ : MethodName) prog_19_method_5_code 2 (some .boolean) :: ws) ({ frames := 0, cells := 0, slots := 0, locals := 0 } : Room)) (fun a U => a = #[(.ref w4), (.ref w4)] ∧ Z.Warmed39 U.vm ∧ U.heap = h0) (fun _ _ _ _ _ => True) (fun _ U o U' => ∃ v L, o = .returned v ∧ Q2_12 w0 w1 w2 w3 w4 h0 v U'.heap L ∧ FrameEnd U o U' L ({ frames := 0, cells := 0, slots := 0, locals := 0 } : Room).cells ({ frames := 0, cells := 0, slots := 0, locals := 0 } : Room).slots) := by
  refine MetFree.of_bodySF (plainFor_of_name pn1) hisR ?_
  intro p e s m args below meth c s₁ Bd hml0 hP hK
  obtain ⟨rfl, hZ, hh⟩ := hP
  have hx := Bd.exec
  have hby := Bd.bytes
  have hml : c.maxLocals = 2 := hml0
  have hown : s.vm.findClass "com/example/grantfall/grantfall/model/Role" = some m.cls := findClass_of_methodNamed Bd.named
  have hnm := (name_of_methodNamed Bd.named Bd.method).1
  have hlk := Bd.notSynchronized
  have X0 : Stand p l e ({ frames := 0, cells := 0, slots := 0, locals := 0 } : Room) s m #[(.ref w4), (.ref w4)] below meth c s₁ [] 0 0 := Stand.of_body Bd
  have e0 : s₁.heap = h0 := by rw [← hh, Bd.state]; rfl
  have K0 := K
  obtain ⟨S_w0, S_w1, S_w2, S_w3, S_w4, E_w0, E_w1, E_w2, E_w3, E_w4, F_w2_ordinal, F_w0_ordinal, F_w3_ordinal, F_w1_ordinal, F_w4_ordinal, n_w0_w1, n_w0_w2, n_w0_w3, n_w0_w4, n_w1_w2, n_w1_w3, n_w1_w4, n_w2_w3, n_w2_w4, n_w3_w4⟩ := K
  show own_Go p e below s (Q2_12 w0 w1 w2 w3 w4 h0) 0 0 (s₁.setTop (entryFrame m #[(.ref w4), (.ref w4)] 2))
  rw [show entryFrame m #[(.ref w4), (.ref w4)] 2 = mkF m 0 #[.val (.ref w4), .val (.ref w4)] [] from by first | (simp [entryFrame, mkF, argsToLocals, Value.category]; done) | rfl]
  show own_Go p e below s _ _ _ (s₁.setTop (mkF m 0 #[.val (.ref w4), .val (.ref w4)] []))
  refine own_via (fun _ k => XS.aloadN X0.here hx rfl (hb hby d2_0) rfl rfl k) ?_
  show own_Go p e below s _ _ _ (s₁.setTop (mkF m 1 #[.val (.ref w4), .val (.ref w4)] [(.ref w4)]))
  obtain ⟨T1, X1, e1, st1⟩ := getS2 X0 hx hZ hown (host := "") (Or.inl (hw _ (List.mem_of_getElem? (i := 15) rfl))) Via.refl e0 S_w0 (g := (mkF m 1 #[.val (.ref w4), .val (.ref w4)] [(.ref w4)])) rfl (hb hby d2_1)
  refine own_via st1 ?_
  show own_Go p e below s _ _ _ (T1.setTop (mkF m 4 #[.val (.ref w4), .val (.ref w4)] [(.ref w0), (.ref w4)]))
  refine own_via (fun _ k => Jvm.RoadKit.acmp (g := (mkF m 4 #[.val (.ref w4), .val (.ref w4)] [(.ref w0), (.ref w4)])) X1 hx rfl rfl rfl (pc0 := 4) (pc' := 7) (same := false) rfl (hb hby d2_4) rfl (decide_eq_false fun q => (fun q => n_w0_w4 q.symm) (Value.ref.inj q)) (by decide) (by decide) k) ?_
  show own_Go p e below s _ _ _ (T1.setTop (mkF m 7 #[.val (.ref w4), .val (.ref w4)] []))
  refine own_via (fun _ k => XS.aloadN X1.here hx rfl (hb hby d2_7) rfl rfl k) ?_
  show own_Go p e below s _ _ _ (T1.setTop (mkF m 8 #[.val (.ref w4), .val (.ref w4)] [(.ref w4)]))
  refine own_via (fun _ k => XS.aloadN X1.here hx rfl (hb hby d2_8) rfl rfl k) ?_
  show own_Go p e below s _ _ _ (T1.setTop (mkF m 9 #[.val (.ref w4), .val (.ref w4)] [(.ref w4), (.ref w4)]))
  refine own_via (fun _ k => Jvm.RoadKit.acmp (g := (mkF m 9 #[.val (.ref w4), .val (.ref w4)] [(.ref w4), (.ref w4)])) X1 hx rfl rfl rfl (pc0 := 9) (pc' := 12) (same := true) rfl (hb hby d2_9) rfl (decide_eq_true rfl) (by decide) (by decide) k) ?_
  show own_Go p e below s _ _ _ (T1.setTop (mkF m 12 #[.val (.ref w4), .val (.ref w4)] []))
  refine own_via (fun _ k => XS.iconst X1.here hx rfl (hb hby d2_12) k) ?_
  show own_Go p e below s _ _ _ (T1.setTop (mkF m 13 #[.val (.ref w4), .val (.ref w4)] [(.int (1 : Int32))]))
  refine own_via (fun _ k => XS.goto X1.here hx rfl (pc0 := 13) (pc' := 17) rfl (hb hby d2_13) (by decide) (by decide) k) ?_
  show own_Go p e below s _ _ _ (T1.setTop (mkF m 17 #[.val (.ref w4), .val (.ref w4)] [(.int (1 : Int32))]))
  exact own_retZ X1 hx hlk (t := .boolean) Bd.returns (by simp) (hb hby d2_17) (z' := (1 : Int32)) (by first | rfl | decide) ⟨rfl, e1, rfl⟩ (by decide) (by decide)
def Q2_13 (w0 : Addr) (w1 : Addr) (w2 : Addr) (w3 : Addr) (w4 : Addr) (h0 : Heap) (v : Option Value) (h : Heap) (L : List Loc) : Prop := L = [] ∧ h = h0 ∧ ((v = some (.int (0 : Int32))))
set_option maxRecDepth 65536 in
set_option maxHeartbeats 40000000 in
theorem rm2_13 (l : Launch) (Z : State) (a0 : Array Value) (hw : ∀ d ∈ tables_1, d.before a0 Z = true) (ws : List Jvm.Cond) (w0 : Addr) (w1 : Addr) (w2 : Addr) (w3 : Addr) (w4 : Addr) (h0 : Heap) (n0 : Nat) (Z0 : n0 ≤ h0.size) (K : own_K Z h0 w0 w1 w2 w3 w4) :
    MetFree l (⟨"com/example/grantfall/grantfall/model/Role", "includes", "(Lcom/example/grantfall/grantfall/model/Role;)Z"⟩ : MethodName) (head1 (Jvm.Cond.code (⟨"com/example/grantfall/grantfall/model/Role", "includes", "(Lcom/example/grantfall/grantfall/model/Role;)Z"⟩ : MethodName) prog_19_method_5_code 2 (some .boolean) :: ws) ({ frames := 0, cells := 0, slots := 0, locals := 0 } : Room)) (fun a U => a = #[(.ref w4), (.ref w1)] ∧ Z.Warmed39 U.vm ∧ U.heap = h0) (fun _ _ _ _ _ => True) (fun _ U o U' => ∃ v L, o = .returned v ∧ Q2_13 w0 w1 w2 w3 w4 h0 v U'.heap L ∧ FrameEnd U o U' L ({ frames := 0, cells := 0, slots := 0, locals := 0 } : Room).cells ({ frames := 0, cells := 0, slots := 0, locals := 0 } : Room).slots) := by
  refine MetFree.of_bodySF (plainFor_of_name pn1) hisR ?_
  intro p e s m args below meth c s₁ Bd hml0 hP hK
  obtain ⟨rfl, hZ, hh⟩ := hP
  have hx := Bd.exec
  have hby := Bd.bytes
  have hml : c.maxLocals = 2 := hml0
  have hown : s.vm.findClass "com/example/grantfall/grantfall/model/Role" = some m.cls := findClass_of_methodNamed Bd.named
  have hnm := (name_of_methodNamed Bd.named Bd.method).1
  have hlk := Bd.notSynchronized
  have X0 : Stand p l e ({ frames := 0, cells := 0, slots := 0, locals := 0 } : Room) s m #[(.ref w4), (.ref w1)] below meth c s₁ [] 0 0 := Stand.of_body Bd
  have e0 : s₁.heap = h0 := by rw [← hh, Bd.state]; rfl
  have K0 := K
  obtain ⟨S_w0, S_w1, S_w2, S_w3, S_w4, E_w0, E_w1, E_w2, E_w3, E_w4, F_w2_ordinal, F_w0_ordinal, F_w3_ordinal, F_w1_ordinal, F_w4_ordinal, n_w0_w1, n_w0_w2, n_w0_w3, n_w0_w4, n_w1_w2, n_w1_w3, n_w1_w4, n_w2_w3, n_w2_w4, n_w3_w4⟩ := K
  show own_Go p e below s (Q2_13 w0 w1 w2 w3 w4 h0) 0 0 (s₁.setTop (entryFrame m #[(.ref w4), (.ref w1)] 2))
  rw [show entryFrame m #[(.ref w4), (.ref w1)] 2 = mkF m 0 #[.val (.ref w4), .val (.ref w1)] [] from by first | (simp [entryFrame, mkF, argsToLocals, Value.category]; done) | rfl]
  show own_Go p e below s _ _ _ (s₁.setTop (mkF m 0 #[.val (.ref w4), .val (.ref w1)] []))
  refine own_via (fun _ k => XS.aloadN X0.here hx rfl (hb hby d2_0) rfl rfl k) ?_
  show own_Go p e below s _ _ _ (s₁.setTop (mkF m 1 #[.val (.ref w4), .val (.ref w1)] [(.ref w4)]))
  obtain ⟨T1, X1, e1, st1⟩ := getS2 X0 hx hZ hown (host := "") (Or.inl (hw _ (List.mem_of_getElem? (i := 15) rfl))) Via.refl e0 S_w0 (g := (mkF m 1 #[.val (.ref w4), .val (.ref w1)] [(.ref w4)])) rfl (hb hby d2_1)
  refine own_via st1 ?_
  show own_Go p e below s _ _ _ (T1.setTop (mkF m 4 #[.val (.ref w4), .val (.ref w1)] [(.ref w0), (.ref w4)]))
  refine own_via (fun _ k => Jvm.RoadKit.acmp (g := (mkF m 4 #[.val (.ref w4), .val (.ref w1)] [(.ref w0), (.ref w4)])) X1 hx rfl rfl rfl (pc0 := 4) (pc' := 7) (same := false) rfl (hb hby d2_4) rfl (decide_eq_false fun q => (fun q => n_w0_w4 q.symm) (Value.ref.inj q)) (by decide) (by decide) k) ?_
  show own_Go p e below s _ _ _ (T1.setTop (mkF m 7 #[.val (.ref w4), .val (.ref w1)] []))
  refine own_via (fun _ k => XS.aloadN X1.here hx rfl (hb hby d2_7) rfl rfl k) ?_
  show own_Go p e below s _ _ _ (T1.setTop (mkF m 8 #[.val (.ref w4), .val (.ref w1)] [(.ref w4)]))
  refine own_via (fun _ k => XS.aloadN X1.here hx rfl (hb hby d2_8) rfl rfl k) ?_
  show own_Go p e below s _ _ _ (T1.setTop (mkF m 9 #[.val (.ref w4), .val (.ref w1)] [(.ref w1), (.ref w4)]))
  refine own_via (fun _ k => Jvm.RoadKit.acmp (g := (mkF m 9 #[.val (.ref w4), .val (.ref w1)] [(.ref w1), (.ref w4)])) X1 hx rfl rfl rfl (pc0 := 9) (pc' := 16) (same := false) rfl (hb hby d2_9) rfl (decide_eq_false fun q => (fun q => n_w1_w4 q.symm) (Value.ref.inj q)) (by decide) (by decide) k) ?_
  show own_Go p e below s _ _ _ (T1.setTop (mkF m 16 #[.val (.ref w4), .val (.ref w1)] []))
  refine own_via (fun _ k => XS.iconst X1.here hx rfl (hb hby d2_16) k) ?_
  show own_Go p e below s _ _ _ (T1.setTop (mkF m 17 #[.val (.ref w4), .val (.ref w1)] [(.int (0 : Int32))]))
  exact own_retZ X1 hx hlk (t := .boolean) Bd.returns (by simp) (hb hby d2_17) (z' := (0 : Int32)) (by first | rfl | decide) ⟨rfl, e1, rfl⟩ (by decide) (by decide)
def Q2_14 (w0 : Addr) (w1 : Addr) (w2 : Addr) (w3 : Addr) (w4 : Addr) (h0 : Heap) (v : Option Value) (h : Heap) (L : List Loc) : Prop := L = [] ∧ h = h0 ∧ ((v = some (.int (0 : Int32))))
set_option maxRecDepth 65536 in
set_option maxHeartbeats 40000000 in
theorem rm2_14 (l : Launch) (Z : State) (a0 : Array Value) (hw : ∀ d ∈ tables_1, d.before a0 Z = true) (ws : List Jvm.Cond) (w0 : Addr) (w1 : Addr) (w2 : Addr) (w3 : Addr) (w4 : Addr) (h0 : Heap) (n0 : Nat) (Z0 : n0 ≤ h0.size) (K : own_K Z h0 w0 w1 w2 w3 w4) :
    MetFree l (⟨"com/example/grantfall/grantfall/model/Role", "includes", "(Lcom/example/grantfall/grantfall/model/Role;)Z"⟩ : MethodName) (head1 (Jvm.Cond.code (⟨"com/example/grantfall/grantfall/model/Role", "includes", "(Lcom/example/grantfall/grantfall/model/Role;)Z"⟩ : MethodName) prog_19_method_5_code 2 (some .boolean) :: ws) ({ frames := 0, cells := 0, slots := 0, locals := 0 } : Room)) (fun a U => a = #[(.ref w4), (.ref w2)] ∧ Z.Warmed39 U.vm ∧ U.heap = h0) (fun _ _ _ _ _ => True) (fun _ U o U' => ∃ v L, o = .returned v ∧ Q2_14 w0 w1 w2 w3 w4 h0 v U'.heap L ∧ FrameEnd U o U' L ({ frames := 0, cells := 0, slots := 0, locals := 0 } : Room).cells ({ frames := 0, cells := 0, slots := 0, locals := 0 } : Room).slots) := by
  refine MetFree.of_bodySF (plainFor_of_name pn1) hisR ?_
  intro p e s m args below meth c s₁ Bd hml0 hP hK
  obtain ⟨rfl, hZ, hh⟩ := hP
  have hx := Bd.exec
  have hby := Bd.bytes
  have hml : c.maxLocals = 2 := hml0
  have hown : s.vm.findClass "com/example/grantfall/grantfall/model/Role" = some m.cls := findClass_of_methodNamed Bd.named
  have hnm := (name_of_methodNamed Bd.named Bd.method).1
  have hlk := Bd.notSynchronized
  have X0 : Stand p l e ({ frames := 0, cells := 0, slots := 0, locals := 0 } : Room) s m #[(.ref w4), (.ref w2)] below meth c s₁ [] 0 0 := Stand.of_body Bd
  have e0 : s₁.heap = h0 := by rw [← hh, Bd.state]; rfl
  have K0 := K
  obtain ⟨S_w0, S_w1, S_w2, S_w3, S_w4, E_w0, E_w1, E_w2, E_w3, E_w4, F_w2_ordinal, F_w0_ordinal, F_w3_ordinal, F_w1_ordinal, F_w4_ordinal, n_w0_w1, n_w0_w2, n_w0_w3, n_w0_w4, n_w1_w2, n_w1_w3, n_w1_w4, n_w2_w3, n_w2_w4, n_w3_w4⟩ := K
  show own_Go p e below s (Q2_14 w0 w1 w2 w3 w4 h0) 0 0 (s₁.setTop (entryFrame m #[(.ref w4), (.ref w2)] 2))
  rw [show entryFrame m #[(.ref w4), (.ref w2)] 2 = mkF m 0 #[.val (.ref w4), .val (.ref w2)] [] from by first | (simp [entryFrame, mkF, argsToLocals, Value.category]; done) | rfl]
  show own_Go p e below s _ _ _ (s₁.setTop (mkF m 0 #[.val (.ref w4), .val (.ref w2)] []))
  refine own_via (fun _ k => XS.aloadN X0.here hx rfl (hb hby d2_0) rfl rfl k) ?_
  show own_Go p e below s _ _ _ (s₁.setTop (mkF m 1 #[.val (.ref w4), .val (.ref w2)] [(.ref w4)]))
  obtain ⟨T1, X1, e1, st1⟩ := getS2 X0 hx hZ hown (host := "") (Or.inl (hw _ (List.mem_of_getElem? (i := 15) rfl))) Via.refl e0 S_w0 (g := (mkF m 1 #[.val (.ref w4), .val (.ref w2)] [(.ref w4)])) rfl (hb hby d2_1)
  refine own_via st1 ?_
  show own_Go p e below s _ _ _ (T1.setTop (mkF m 4 #[.val (.ref w4), .val (.ref w2)] [(.ref w0), (.ref w4)]))
  refine own_via (fun _ k => Jvm.RoadKit.acmp (g := (mkF m 4 #[.val (.ref w4), .val (.ref w2)] [(.ref w0), (.ref w4)])) X1 hx rfl rfl rfl (pc0 := 4) (pc' := 7) (same := false) rfl (hb hby d2_4) rfl (decide_eq_false fun q => (fun q => n_w0_w4 q.symm) (Value.ref.inj q)) (by decide) (by decide) k) ?_
  show own_Go p e below s _ _ _ (T1.setTop (mkF m 7 #[.val (.ref w4), .val (.ref w2)] []))
  refine own_via (fun _ k => XS.aloadN X1.here hx rfl (hb hby d2_7) rfl rfl k) ?_
  show own_Go p e below s _ _ _ (T1.setTop (mkF m 8 #[.val (.ref w4), .val (.ref w2)] [(.ref w4)]))
  refine own_via (fun _ k => XS.aloadN X1.here hx rfl (hb hby d2_8) rfl rfl k) ?_
  show own_Go p e below s _ _ _ (T1.setTop (mkF m 9 #[.val (.ref w4), .val (.ref w2)] [(.ref w2), (.ref w4)]))
  refine own_via (fun _ k => Jvm.RoadKit.acmp (g := (mkF m 9 #[.val (.ref w4), .val (.ref w2)] [(.ref w2), (.ref w4)])) X1 hx rfl rfl rfl (pc0 := 9) (pc' := 16) (same := false) rfl (hb hby d2_9) rfl (decide_eq_false fun q => (fun q => n_w2_w4 q.symm) (Value.ref.inj q)) (by decide) (by decide) k) ?_
  show own_Go p e below s _ _ _ (T1.setTop (mkF m 16 #[.val (.ref w4), .val (.ref w2)] []))
  refine own_via (fun _ k => XS.iconst X1.here hx rfl (hb hby d2_16) k) ?_
  show own_Go p e below s _ _ _ (T1.setTop (mkF m 17 #[.val (.ref w4), .val (.ref w2)] [(.int (0 : Int32))]))
  exact own_retZ X1 hx hlk (t := .boolean) Bd.returns (by simp) (hb hby d2_17) (z' := (0 : Int32)) (by first | rfl | decide) ⟨rfl, e1, rfl⟩ (by decide) (by decide)
def Q2_15 (w0 : Addr) (w1 : Addr) (w2 : Addr) (w3 : Addr) (w4 : Addr) (h0 : Heap) (v : Option Value) (h : Heap) (L : List Loc) : Prop := L = [] ∧ h = h0 ∧ ((v = some (.int (0 : Int32))))
set_option maxRecDepth 65536 in
set_option maxHeartbeats 40000000 in
theorem rm2_15 (l : Launch) (Z : State) (a0 : Array Value) (hw : ∀ d ∈ tables_1, d.before a0 Z = true) (ws : List Jvm.Cond) (w0 : Addr) (w1 : Addr) (w2 : Addr) (w3 : Addr) (w4 : Addr) (h0 : Heap) (n0 : Nat) (Z0 : n0 ≤ h0.size) (K : own_K Z h0 w0 w1 w2 w3 w4) :
    MetFree l (⟨"com/example/grantfall/grantfall/model/Role", "includes", "(Lcom/example/grantfall/grantfall/model/Role;)Z"⟩ : MethodName) (head1 (Jvm.Cond.code (⟨"com/example/grantfall/grantfall/model/Role", "includes", "(Lcom/example/grantfall/grantfall/model/Role;)Z"⟩ : MethodName) prog_19_method_5_code 2 (some .boolean) :: ws) ({ frames := 0, cells := 0, slots := 0, locals := 0 } : Room)) (fun a U => a = #[(.ref w1), (.ref w0)] ∧ Z.Warmed39 U.vm ∧ U.heap = h0) (fun _ _ _ _ _ => True) (fun _ U o U' => ∃ v L, o = .returned v ∧ Q2_15 w0 w1 w2 w3 w4 h0 v U'.heap L ∧ FrameEnd U o U' L ({ frames := 0, cells := 0, slots := 0, locals := 0 } : Room).cells ({ frames := 0, cells := 0, slots := 0, locals := 0 } : Room).slots) := by
  refine MetFree.of_bodySF (plainFor_of_name pn1) hisR ?_
  intro p e s m args below meth c s₁ Bd hml0 hP hK
  obtain ⟨rfl, hZ, hh⟩ := hP
  have hx := Bd.exec
  have hby := Bd.bytes
  have hml : c.maxLocals = 2 := hml0
  have hown : s.vm.findClass "com/example/grantfall/grantfall/model/Role" = some m.cls := findClass_of_methodNamed Bd.named
  have hnm := (name_of_methodNamed Bd.named Bd.method).1
  have hlk := Bd.notSynchronized
  have X0 : Stand p l e ({ frames := 0, cells := 0, slots := 0, locals := 0 } : Room) s m #[(.ref w1), (.ref w0)] below meth c s₁ [] 0 0 := Stand.of_body Bd
  have e0 : s₁.heap = h0 := by rw [← hh, Bd.state]; rfl
  have K0 := K
  obtain ⟨S_w0, S_w1, S_w2, S_w3, S_w4, E_w0, E_w1, E_w2, E_w3, E_w4, F_w2_ordinal, F_w0_ordinal, F_w3_ordinal, F_w1_ordinal, F_w4_ordinal, n_w0_w1, n_w0_w2, n_w0_w3, n_w0_w4, n_w1_w2, n_w1_w3, n_w1_w4, n_w2_w3, n_w2_w4, n_w3_w4⟩ := K
  show own_Go p e below s (Q2_15 w0 w1 w2 w3 w4 h0) 0 0 (s₁.setTop (entryFrame m #[(.ref w1), (.ref w0)] 2))
  rw [show entryFrame m #[(.ref w1), (.ref w0)] 2 = mkF m 0 #[.val (.ref w1), .val (.ref w0)] [] from by first | (simp [entryFrame, mkF, argsToLocals, Value.category]; done) | rfl]
  show own_Go p e below s _ _ _ (s₁.setTop (mkF m 0 #[.val (.ref w1), .val (.ref w0)] []))
  refine own_via (fun _ k => XS.aloadN X0.here hx rfl (hb hby d2_0) rfl rfl k) ?_
  show own_Go p e below s _ _ _ (s₁.setTop (mkF m 1 #[.val (.ref w1), .val (.ref w0)] [(.ref w1)]))
  obtain ⟨T1, X1, e1, st1⟩ := getS2 X0 hx hZ hown (host := "") (Or.inl (hw _ (List.mem_of_getElem? (i := 15) rfl))) Via.refl e0 S_w0 (g := (mkF m 1 #[.val (.ref w1), .val (.ref w0)] [(.ref w1)])) rfl (hb hby d2_1)
  refine own_via st1 ?_
  show own_Go p e below s _ _ _ (T1.setTop (mkF m 4 #[.val (.ref w1), .val (.ref w0)] [(.ref w0), (.ref w1)]))
  refine own_via (fun _ k => Jvm.RoadKit.acmp (g := (mkF m 4 #[.val (.ref w1), .val (.ref w0)] [(.ref w0), (.ref w1)])) X1 hx rfl rfl rfl (pc0 := 4) (pc' := 7) (same := false) rfl (hb hby d2_4) rfl (decide_eq_false fun q => (fun q => n_w0_w1 q.symm) (Value.ref.inj q)) (by decide) (by decide) k) ?_
  show own_Go p e below s _ _ _ (T1.setTop (mkF m 7 #[.val (.ref w1), .val (.ref w0)] []))
  refine own_via (fun _ k => XS.aloadN X1.here hx rfl (hb hby d2_7) rfl rfl k) ?_
  show own_Go p e below s _ _ _ (T1.setTop (mkF m 8 #[.val (.ref w1), .val (.ref w0)] [(.ref w1)]))
  refine own_via (fun _ k => XS.aloadN X1.here hx rfl (hb hby d2_8) rfl rfl k) ?_
  show own_Go p e below s _ _ _ (T1.setTop (mkF m 9 #[.val (.ref w1), .val (.ref w0)] [(.ref w0), (.ref w1)]))
  refine own_via (fun _ k => Jvm.RoadKit.acmp (g := (mkF m 9 #[.val (.ref w1), .val (.ref w0)] [(.ref w0), (.ref w1)])) X1 hx rfl rfl rfl (pc0 := 9) (pc' := 16) (same := false) rfl (hb hby d2_9) rfl (decide_eq_false fun q => (fun q => n_w0_w1 q.symm) (Value.ref.inj q)) (by decide) (by decide) k) ?_
  show own_Go p e below s _ _ _ (T1.setTop (mkF m 16 #[.val (.ref w1), .val (.ref w0)] []))
  refine own_via (fun _ k => XS.iconst X1.here hx rfl (hb hby d2_16) k) ?_
  show own_Go p e below s _ _ _ (T1.setTop (mkF m 17 #[.val (.ref w1), .val (.ref w0)] [(.int (0 : Int32))]))
  exact own_retZ X1 hx hlk (t := .boolean) Bd.returns (by simp) (hb hby d2_17) (z' := (0 : Int32)) (by first | rfl | decide) ⟨rfl, e1, rfl⟩ (by decide) (by decide)
def Q2_16 (w0 : Addr) (w1 : Addr) (w2 : Addr) (w3 : Addr) (w4 : Addr) (h0 : Heap) (v : Option Value) (h : Heap) (L : List Loc) : Prop := L = [] ∧ h = h0 ∧ ((v = some (.int (0 : Int32))))
set_option maxRecDepth 65536 in
set_option maxHeartbeats 40000000 in
theorem rm2_16 (l : Launch) (Z : State) (a0 : Array Value) (hw : ∀ d ∈ tables_1, d.before a0 Z = true) (ws : List Jvm.Cond) (w0 : Addr) (w1 : Addr) (w2 : Addr) (w3 : Addr) (w4 : Addr) (h0 : Heap) (n0 : Nat) (Z0 : n0 ≤ h0.size) (K : own_K Z h0 w0 w1 w2 w3 w4) :
    MetFree l (⟨"com/example/grantfall/grantfall/model/Role", "includes", "(Lcom/example/grantfall/grantfall/model/Role;)Z"⟩ : MethodName) (head1 (Jvm.Cond.code (⟨"com/example/grantfall/grantfall/model/Role", "includes", "(Lcom/example/grantfall/grantfall/model/Role;)Z"⟩ : MethodName) prog_19_method_5_code 2 (some .boolean) :: ws) ({ frames := 0, cells := 0, slots := 0, locals := 0 } : Room)) (fun a U => a = #[(.ref w1), (.ref w3)] ∧ Z.Warmed39 U.vm ∧ U.heap = h0) (fun _ _ _ _ _ => True) (fun _ U o U' => ∃ v L, o = .returned v ∧ Q2_16 w0 w1 w2 w3 w4 h0 v U'.heap L ∧ FrameEnd U o U' L ({ frames := 0, cells := 0, slots := 0, locals := 0 } : Room).cells ({ frames := 0, cells := 0, slots := 0, locals := 0 } : Room).slots) := by
  refine MetFree.of_bodySF (plainFor_of_name pn1) hisR ?_
  intro p e s m args below meth c s₁ Bd hml0 hP hK
  obtain ⟨rfl, hZ, hh⟩ := hP
  have hx := Bd.exec
  have hby := Bd.bytes
  have hml : c.maxLocals = 2 := hml0
  have hown : s.vm.findClass "com/example/grantfall/grantfall/model/Role" = some m.cls := findClass_of_methodNamed Bd.named
  have hnm := (name_of_methodNamed Bd.named Bd.method).1
  have hlk := Bd.notSynchronized
  have X0 : Stand p l e ({ frames := 0, cells := 0, slots := 0, locals := 0 } : Room) s m #[(.ref w1), (.ref w3)] below meth c s₁ [] 0 0 := Stand.of_body Bd
  have e0 : s₁.heap = h0 := by rw [← hh, Bd.state]; rfl
  have K0 := K
  obtain ⟨S_w0, S_w1, S_w2, S_w3, S_w4, E_w0, E_w1, E_w2, E_w3, E_w4, F_w2_ordinal, F_w0_ordinal, F_w3_ordinal, F_w1_ordinal, F_w4_ordinal, n_w0_w1, n_w0_w2, n_w0_w3, n_w0_w4, n_w1_w2, n_w1_w3, n_w1_w4, n_w2_w3, n_w2_w4, n_w3_w4⟩ := K
  show own_Go p e below s (Q2_16 w0 w1 w2 w3 w4 h0) 0 0 (s₁.setTop (entryFrame m #[(.ref w1), (.ref w3)] 2))
  rw [show entryFrame m #[(.ref w1), (.ref w3)] 2 = mkF m 0 #[.val (.ref w1), .val (.ref w3)] [] from by first | (simp [entryFrame, mkF, argsToLocals, Value.category]; done) | rfl]
  show own_Go p e below s _ _ _ (s₁.setTop (mkF m 0 #[.val (.ref w1), .val (.ref w3)] []))
  refine own_via (fun _ k => XS.aloadN X0.here hx rfl (hb hby d2_0) rfl rfl k) ?_
  show own_Go p e below s _ _ _ (s₁.setTop (mkF m 1 #[.val (.ref w1), .val (.ref w3)] [(.ref w1)]))
  obtain ⟨T1, X1, e1, st1⟩ := getS2 X0 hx hZ hown (host := "") (Or.inl (hw _ (List.mem_of_getElem? (i := 15) rfl))) Via.refl e0 S_w0 (g := (mkF m 1 #[.val (.ref w1), .val (.ref w3)] [(.ref w1)])) rfl (hb hby d2_1)
  refine own_via st1 ?_
  show own_Go p e below s _ _ _ (T1.setTop (mkF m 4 #[.val (.ref w1), .val (.ref w3)] [(.ref w0), (.ref w1)]))
  refine own_via (fun _ k => Jvm.RoadKit.acmp (g := (mkF m 4 #[.val (.ref w1), .val (.ref w3)] [(.ref w0), (.ref w1)])) X1 hx rfl rfl rfl (pc0 := 4) (pc' := 7) (same := false) rfl (hb hby d2_4) rfl (decide_eq_false fun q => (fun q => n_w0_w1 q.symm) (Value.ref.inj q)) (by decide) (by decide) k) ?_
  show own_Go p e below s _ _ _ (T1.setTop (mkF m 7 #[.val (.ref w1), .val (.ref w3)] []))
  refine own_via (fun _ k => XS.aloadN X1.here hx rfl (hb hby d2_7) rfl rfl k) ?_
  show own_Go p e below s _ _ _ (T1.setTop (mkF m 8 #[.val (.ref w1), .val (.ref w3)] [(.ref w1)]))
  refine own_via (fun _ k => XS.aloadN X1.here hx rfl (hb hby d2_8) rfl rfl k) ?_
  show own_Go p e below s _ _ _ (T1.setTop (mkF m 9 #[.val (.ref w1), .val (.ref w3)] [(.ref w3), (.ref w1)]))
  refine own_via (fun _ k => Jvm.RoadKit.acmp (g := (mkF m 9 #[.val (.ref w1), .val (.ref w3)] [(.ref w3), (.ref w1)])) X1 hx rfl rfl rfl (pc0 := 9) (pc' := 16) (same := false) rfl (hb hby d2_9) rfl (decide_eq_false fun q => n_w1_w3 (Value.ref.inj q)) (by decide) (by decide) k) ?_
  show own_Go p e below s _ _ _ (T1.setTop (mkF m 16 #[.val (.ref w1), .val (.ref w3)] []))
  refine own_via (fun _ k => XS.iconst X1.here hx rfl (hb hby d2_16) k) ?_
  show own_Go p e below s _ _ _ (T1.setTop (mkF m 17 #[.val (.ref w1), .val (.ref w3)] [(.int (0 : Int32))]))
  exact own_retZ X1 hx hlk (t := .boolean) Bd.returns (by simp) (hb hby d2_17) (z' := (0 : Int32)) (by first | rfl | decide) ⟨rfl, e1, rfl⟩ (by decide) (by decide)
def Q2_17 (w0 : Addr) (w1 : Addr) (w2 : Addr) (w3 : Addr) (w4 : Addr) (h0 : Heap) (v : Option Value) (h : Heap) (L : List Loc) : Prop := L = [] ∧ h = h0 ∧ ((v = some (.int (0 : Int32))))
set_option maxRecDepth 65536 in
set_option maxHeartbeats 40000000 in
theorem rm2_17 (l : Launch) (Z : State) (a0 : Array Value) (hw : ∀ d ∈ tables_1, d.before a0 Z = true) (ws : List Jvm.Cond) (w0 : Addr) (w1 : Addr) (w2 : Addr) (w3 : Addr) (w4 : Addr) (h0 : Heap) (n0 : Nat) (Z0 : n0 ≤ h0.size) (K : own_K Z h0 w0 w1 w2 w3 w4) :
    MetFree l (⟨"com/example/grantfall/grantfall/model/Role", "includes", "(Lcom/example/grantfall/grantfall/model/Role;)Z"⟩ : MethodName) (head1 (Jvm.Cond.code (⟨"com/example/grantfall/grantfall/model/Role", "includes", "(Lcom/example/grantfall/grantfall/model/Role;)Z"⟩ : MethodName) prog_19_method_5_code 2 (some .boolean) :: ws) ({ frames := 0, cells := 0, slots := 0, locals := 0 } : Room)) (fun a U => a = #[(.ref w1), (.ref w4)] ∧ Z.Warmed39 U.vm ∧ U.heap = h0) (fun _ _ _ _ _ => True) (fun _ U o U' => ∃ v L, o = .returned v ∧ Q2_17 w0 w1 w2 w3 w4 h0 v U'.heap L ∧ FrameEnd U o U' L ({ frames := 0, cells := 0, slots := 0, locals := 0 } : Room).cells ({ frames := 0, cells := 0, slots := 0, locals := 0 } : Room).slots) := by
  refine MetFree.of_bodySF (plainFor_of_name pn1) hisR ?_
  intro p e s m args below meth c s₁ Bd hml0 hP hK
  obtain ⟨rfl, hZ, hh⟩ := hP
  have hx := Bd.exec
  have hby := Bd.bytes
  have hml : c.maxLocals = 2 := hml0
  have hown : s.vm.findClass "com/example/grantfall/grantfall/model/Role" = some m.cls := findClass_of_methodNamed Bd.named
  have hnm := (name_of_methodNamed Bd.named Bd.method).1
  have hlk := Bd.notSynchronized
  have X0 : Stand p l e ({ frames := 0, cells := 0, slots := 0, locals := 0 } : Room) s m #[(.ref w1), (.ref w4)] below meth c s₁ [] 0 0 := Stand.of_body Bd
  have e0 : s₁.heap = h0 := by rw [← hh, Bd.state]; rfl
  have K0 := K
  obtain ⟨S_w0, S_w1, S_w2, S_w3, S_w4, E_w0, E_w1, E_w2, E_w3, E_w4, F_w2_ordinal, F_w0_ordinal, F_w3_ordinal, F_w1_ordinal, F_w4_ordinal, n_w0_w1, n_w0_w2, n_w0_w3, n_w0_w4, n_w1_w2, n_w1_w3, n_w1_w4, n_w2_w3, n_w2_w4, n_w3_w4⟩ := K
  show own_Go p e below s (Q2_17 w0 w1 w2 w3 w4 h0) 0 0 (s₁.setTop (entryFrame m #[(.ref w1), (.ref w4)] 2))
  rw [show entryFrame m #[(.ref w1), (.ref w4)] 2 = mkF m 0 #[.val (.ref w1), .val (.ref w4)] [] from by first | (simp [entryFrame, mkF, argsToLocals, Value.category]; done) | rfl]
  show own_Go p e below s _ _ _ (s₁.setTop (mkF m 0 #[.val (.ref w1), .val (.ref w4)] []))
  refine own_via (fun _ k => XS.aloadN X0.here hx rfl (hb hby d2_0) rfl rfl k) ?_
  show own_Go p e below s _ _ _ (s₁.setTop (mkF m 1 #[.val (.ref w1), .val (.ref w4)] [(.ref w1)]))
  obtain ⟨T1, X1, e1, st1⟩ := getS2 X0 hx hZ hown (host := "") (Or.inl (hw _ (List.mem_of_getElem? (i := 15) rfl))) Via.refl e0 S_w0 (g := (mkF m 1 #[.val (.ref w1), .val (.ref w4)] [(.ref w1)])) rfl (hb hby d2_1)
  refine own_via st1 ?_
  show own_Go p e below s _ _ _ (T1.setTop (mkF m 4 #[.val (.ref w1), .val (.ref w4)] [(.ref w0), (.ref w1)]))
  refine own_via (fun _ k => Jvm.RoadKit.acmp (g := (mkF m 4 #[.val (.ref w1), .val (.ref w4)] [(.ref w0), (.ref w1)])) X1 hx rfl rfl rfl (pc0 := 4) (pc' := 7) (same := false) rfl (hb hby d2_4) rfl (decide_eq_false fun q => (fun q => n_w0_w1 q.symm) (Value.ref.inj q)) (by decide) (by decide) k) ?_
  show own_Go p e below s _ _ _ (T1.setTop (mkF m 7 #[.val (.ref w1), .val (.ref w4)] []))
  refine own_via (fun _ k => XS.aloadN X1.here hx rfl (hb hby d2_7) rfl rfl k) ?_
  show own_Go p e below s _ _ _ (T1.setTop (mkF m 8 #[.val (.ref w1), .val (.ref w4)] [(.ref w1)]))
  refine own_via (fun _ k => XS.aloadN X1.here hx rfl (hb hby d2_8) rfl rfl k) ?_
  show own_Go p e below s _ _ _ (T1.setTop (mkF m 9 #[.val (.ref w1), .val (.ref w4)] [(.ref w4), (.ref w1)]))
  refine own_via (fun _ k => Jvm.RoadKit.acmp (g := (mkF m 9 #[.val (.ref w1), .val (.ref w4)] [(.ref w4), (.ref w1)])) X1 hx rfl rfl rfl (pc0 := 9) (pc' := 16) (same := false) rfl (hb hby d2_9) rfl (decide_eq_false fun q => n_w1_w4 (Value.ref.inj q)) (by decide) (by decide) k) ?_
  show own_Go p e below s _ _ _ (T1.setTop (mkF m 16 #[.val (.ref w1), .val (.ref w4)] []))
  refine own_via (fun _ k => XS.iconst X1.here hx rfl (hb hby d2_16) k) ?_
  show own_Go p e below s _ _ _ (T1.setTop (mkF m 17 #[.val (.ref w1), .val (.ref w4)] [(.int (0 : Int32))]))
  exact own_retZ X1 hx hlk (t := .boolean) Bd.returns (by simp) (hb hby d2_17) (z' := (0 : Int32)) (by first | rfl | decide) ⟨rfl, e1, rfl⟩ (by decide) (by decide)
def Q2_18 (w0 : Addr) (w1 : Addr) (w2 : Addr) (w3 : Addr) (w4 : Addr) (h0 : Heap) (v : Option Value) (h : Heap) (L : List Loc) : Prop := L = [] ∧ h = h0 ∧ ((v = some (.int (1 : Int32))))
set_option maxRecDepth 65536 in
set_option maxHeartbeats 40000000 in
theorem rm2_18 (l : Launch) (Z : State) (a0 : Array Value) (hw : ∀ d ∈ tables_1, d.before a0 Z = true) (ws : List Jvm.Cond) (w0 : Addr) (w1 : Addr) (w2 : Addr) (w3 : Addr) (w4 : Addr) (h0 : Heap) (n0 : Nat) (Z0 : n0 ≤ h0.size) (K : own_K Z h0 w0 w1 w2 w3 w4) :
    MetFree l (⟨"com/example/grantfall/grantfall/model/Role", "includes", "(Lcom/example/grantfall/grantfall/model/Role;)Z"⟩ : MethodName) (head1 (Jvm.Cond.code (⟨"com/example/grantfall/grantfall/model/Role", "includes", "(Lcom/example/grantfall/grantfall/model/Role;)Z"⟩ : MethodName) prog_19_method_5_code 2 (some .boolean) :: ws) ({ frames := 0, cells := 0, slots := 0, locals := 0 } : Room)) (fun a U => a = #[(.ref w1), (.ref w1)] ∧ Z.Warmed39 U.vm ∧ U.heap = h0) (fun _ _ _ _ _ => True) (fun _ U o U' => ∃ v L, o = .returned v ∧ Q2_18 w0 w1 w2 w3 w4 h0 v U'.heap L ∧ FrameEnd U o U' L ({ frames := 0, cells := 0, slots := 0, locals := 0 } : Room).cells ({ frames := 0, cells := 0, slots := 0, locals := 0 } : Room).slots) := by
  refine MetFree.of_bodySF (plainFor_of_name pn1) hisR ?_
  intro p e s m args below meth c s₁ Bd hml0 hP hK
  obtain ⟨rfl, hZ, hh⟩ := hP
  have hx := Bd.exec
  have hby := Bd.bytes
  have hml : c.maxLocals = 2 := hml0
  have hown : s.vm.findClass "com/example/grantfall/grantfall/model/Role" = some m.cls := findClass_of_methodNamed Bd.named
  have hnm := (name_of_methodNamed Bd.named Bd.method).1
  have hlk := Bd.notSynchronized
  have X0 : Stand p l e ({ frames := 0, cells := 0, slots := 0, locals := 0 } : Room) s m #[(.ref w1), (.ref w1)] below meth c s₁ [] 0 0 := Stand.of_body Bd
  have e0 : s₁.heap = h0 := by rw [← hh, Bd.state]; rfl
  have K0 := K
  obtain ⟨S_w0, S_w1, S_w2, S_w3, S_w4, E_w0, E_w1, E_w2, E_w3, E_w4, F_w2_ordinal, F_w0_ordinal, F_w3_ordinal, F_w1_ordinal, F_w4_ordinal, n_w0_w1, n_w0_w2, n_w0_w3, n_w0_w4, n_w1_w2, n_w1_w3, n_w1_w4, n_w2_w3, n_w2_w4, n_w3_w4⟩ := K
  show own_Go p e below s (Q2_18 w0 w1 w2 w3 w4 h0) 0 0 (s₁.setTop (entryFrame m #[(.ref w1), (.ref w1)] 2))
  rw [show entryFrame m #[(.ref w1), (.ref w1)] 2 = mkF m 0 #[.val (.ref w1), .val (.ref w1)] [] from by first | (simp [entryFrame, mkF, argsToLocals, Value.category]; done) | rfl]
  show own_Go p e below s _ _ _ (s₁.setTop (mkF m 0 #[.val (.ref w1), .val (.ref w1)] []))
  refine own_via (fun _ k => XS.aloadN X0.here hx rfl (hb hby d2_0) rfl rfl k) ?_
  show own_Go p e below s _ _ _ (s₁.setTop (mkF m 1 #[.val (.ref w1), .val (.ref w1)] [(.ref w1)]))
  obtain ⟨T1, X1, e1, st1⟩ := getS2 X0 hx hZ hown (host := "") (Or.inl (hw _ (List.mem_of_getElem? (i := 15) rfl))) Via.refl e0 S_w0 (g := (mkF m 1 #[.val (.ref w1), .val (.ref w1)] [(.ref w1)])) rfl (hb hby d2_1)
  refine own_via st1 ?_
  show own_Go p e below s _ _ _ (T1.setTop (mkF m 4 #[.val (.ref w1), .val (.ref w1)] [(.ref w0), (.ref w1)]))
  refine own_via (fun _ k => Jvm.RoadKit.acmp (g := (mkF m 4 #[.val (.ref w1), .val (.ref w1)] [(.ref w0), (.ref w1)])) X1 hx rfl rfl rfl (pc0 := 4) (pc' := 7) (same := false) rfl (hb hby d2_4) rfl (decide_eq_false fun q => (fun q => n_w0_w1 q.symm) (Value.ref.inj q)) (by decide) (by decide) k) ?_
  show own_Go p e below s _ _ _ (T1.setTop (mkF m 7 #[.val (.ref w1), .val (.ref w1)] []))
  refine own_via (fun _ k => XS.aloadN X1.here hx rfl (hb hby d2_7) rfl rfl k) ?_
  show own_Go p e below s _ _ _ (T1.setTop (mkF m 8 #[.val (.ref w1), .val (.ref w1)] [(.ref w1)]))
  refine own_via (fun _ k => XS.aloadN X1.here hx rfl (hb hby d2_8) rfl rfl k) ?_
  show own_Go p e below s _ _ _ (T1.setTop (mkF m 9 #[.val (.ref w1), .val (.ref w1)] [(.ref w1), (.ref w1)]))
  refine own_via (fun _ k => Jvm.RoadKit.acmp (g := (mkF m 9 #[.val (.ref w1), .val (.ref w1)] [(.ref w1), (.ref w1)])) X1 hx rfl rfl rfl (pc0 := 9) (pc' := 12) (same := true) rfl (hb hby d2_9) rfl (decide_eq_true rfl) (by decide) (by decide) k) ?_
  show own_Go p e below s _ _ _ (T1.setTop (mkF m 12 #[.val (.ref w1), .val (.ref w1)] []))
  refine own_via (fun _ k => XS.iconst X1.here hx rfl (hb hby d2_12) k) ?_
  show own_Go p e below s _ _ _ (T1.setTop (mkF m 13 #[.val (.ref w1), .val (.ref w1)] [(.int (1 : Int32))]))
  refine own_via (fun _ k => XS.goto X1.here hx rfl (pc0 := 13) (pc' := 17) rfl (hb hby d2_13) (by decide) (by decide) k) ?_
  show own_Go p e below s _ _ _ (T1.setTop (mkF m 17 #[.val (.ref w1), .val (.ref w1)] [(.int (1 : Int32))]))
  exact own_retZ X1 hx hlk (t := .boolean) Bd.returns (by simp) (hb hby d2_17) (z' := (1 : Int32)) (by first | rfl | decide) ⟨rfl, e1, rfl⟩ (by decide) (by decide)
def Q2_19 (w0 : Addr) (w1 : Addr) (w2 : Addr) (w3 : Addr) (w4 : Addr) (h0 : Heap) (v : Option Value) (h : Heap) (L : List Loc) : Prop := L = [] ∧ h = h0 ∧ ((v = some (.int (0 : Int32))))
set_option maxRecDepth 65536 in
set_option maxHeartbeats 40000000 in
theorem rm2_19 (l : Launch) (Z : State) (a0 : Array Value) (hw : ∀ d ∈ tables_1, d.before a0 Z = true) (ws : List Jvm.Cond) (w0 : Addr) (w1 : Addr) (w2 : Addr) (w3 : Addr) (w4 : Addr) (h0 : Heap) (n0 : Nat) (Z0 : n0 ≤ h0.size) (K : own_K Z h0 w0 w1 w2 w3 w4) :
    MetFree l (⟨"com/example/grantfall/grantfall/model/Role", "includes", "(Lcom/example/grantfall/grantfall/model/Role;)Z"⟩ : MethodName) (head1 (Jvm.Cond.code (⟨"com/example/grantfall/grantfall/model/Role", "includes", "(Lcom/example/grantfall/grantfall/model/Role;)Z"⟩ : MethodName) prog_19_method_5_code 2 (some .boolean) :: ws) ({ frames := 0, cells := 0, slots := 0, locals := 0 } : Room)) (fun a U => a = #[(.ref w1), (.ref w2)] ∧ Z.Warmed39 U.vm ∧ U.heap = h0) (fun _ _ _ _ _ => True) (fun _ U o U' => ∃ v L, o = .returned v ∧ Q2_19 w0 w1 w2 w3 w4 h0 v U'.heap L ∧ FrameEnd U o U' L ({ frames := 0, cells := 0, slots := 0, locals := 0 } : Room).cells ({ frames := 0, cells := 0, slots := 0, locals := 0 } : Room).slots) := by
  refine MetFree.of_bodySF (plainFor_of_name pn1) hisR ?_
  intro p e s m args below meth c s₁ Bd hml0 hP hK
  obtain ⟨rfl, hZ, hh⟩ := hP
  have hx := Bd.exec
  have hby := Bd.bytes
  have hml : c.maxLocals = 2 := hml0
  have hown : s.vm.findClass "com/example/grantfall/grantfall/model/Role" = some m.cls := findClass_of_methodNamed Bd.named
  have hnm := (name_of_methodNamed Bd.named Bd.method).1
  have hlk := Bd.notSynchronized
  have X0 : Stand p l e ({ frames := 0, cells := 0, slots := 0, locals := 0 } : Room) s m #[(.ref w1), (.ref w2)] below meth c s₁ [] 0 0 := Stand.of_body Bd
  have e0 : s₁.heap = h0 := by rw [← hh, Bd.state]; rfl
  have K0 := K
  obtain ⟨S_w0, S_w1, S_w2, S_w3, S_w4, E_w0, E_w1, E_w2, E_w3, E_w4, F_w2_ordinal, F_w0_ordinal, F_w3_ordinal, F_w1_ordinal, F_w4_ordinal, n_w0_w1, n_w0_w2, n_w0_w3, n_w0_w4, n_w1_w2, n_w1_w3, n_w1_w4, n_w2_w3, n_w2_w4, n_w3_w4⟩ := K
  show own_Go p e below s (Q2_19 w0 w1 w2 w3 w4 h0) 0 0 (s₁.setTop (entryFrame m #[(.ref w1), (.ref w2)] 2))
  rw [show entryFrame m #[(.ref w1), (.ref w2)] 2 = mkF m 0 #[.val (.ref w1), .val (.ref w2)] [] from by first | (simp [entryFrame, mkF, argsToLocals, Value.category]; done) | rfl]
  show own_Go p e below s _ _ _ (s₁.setTop (mkF m 0 #[.val (.ref w1), .val (.ref w2)] []))
  refine own_via (fun _ k => XS.aloadN X0.here hx rfl (hb hby d2_0) rfl rfl k) ?_
  show own_Go p e below s _ _ _ (s₁.setTop (mkF m 1 #[.val (.ref w1), .val (.ref w2)] [(.ref w1)]))
  obtain ⟨T1, X1, e1, st1⟩ := getS2 X0 hx hZ hown (host := "") (Or.inl (hw _ (List.mem_of_getElem? (i := 15) rfl))) Via.refl e0 S_w0 (g := (mkF m 1 #[.val (.ref w1), .val (.ref w2)] [(.ref w1)])) rfl (hb hby d2_1)
  refine own_via st1 ?_
  show own_Go p e below s _ _ _ (T1.setTop (mkF m 4 #[.val (.ref w1), .val (.ref w2)] [(.ref w0), (.ref w1)]))
  refine own_via (fun _ k => Jvm.RoadKit.acmp (g := (mkF m 4 #[.val (.ref w1), .val (.ref w2)] [(.ref w0), (.ref w1)])) X1 hx rfl rfl rfl (pc0 := 4) (pc' := 7) (same := false) rfl (hb hby d2_4) rfl (decide_eq_false fun q => (fun q => n_w0_w1 q.symm) (Value.ref.inj q)) (by decide) (by decide) k) ?_
  show own_Go p e below s _ _ _ (T1.setTop (mkF m 7 #[.val (.ref w1), .val (.ref w2)] []))
  refine own_via (fun _ k => XS.aloadN X1.here hx rfl (hb hby d2_7) rfl rfl k) ?_
  show own_Go p e below s _ _ _ (T1.setTop (mkF m 8 #[.val (.ref w1), .val (.ref w2)] [(.ref w1)]))
  refine own_via (fun _ k => XS.aloadN X1.here hx rfl (hb hby d2_8) rfl rfl k) ?_
  show own_Go p e below s _ _ _ (T1.setTop (mkF m 9 #[.val (.ref w1), .val (.ref w2)] [(.ref w2), (.ref w1)]))
  refine own_via (fun _ k => Jvm.RoadKit.acmp (g := (mkF m 9 #[.val (.ref w1), .val (.ref w2)] [(.ref w2), (.ref w1)])) X1 hx rfl rfl rfl (pc0 := 9) (pc' := 16) (same := false) rfl (hb hby d2_9) rfl (decide_eq_false fun q => n_w1_w2 (Value.ref.inj q)) (by decide) (by decide) k) ?_
  show own_Go p e below s _ _ _ (T1.setTop (mkF m 16 #[.val (.ref w1), .val (.ref w2)] []))
  refine own_via (fun _ k => XS.iconst X1.here hx rfl (hb hby d2_16) k) ?_
  show own_Go p e below s _ _ _ (T1.setTop (mkF m 17 #[.val (.ref w1), .val (.ref w2)] [(.int (0 : Int32))]))
  exact own_retZ X1 hx hlk (t := .boolean) Bd.returns (by simp) (hb hby d2_17) (z' := (0 : Int32)) (by first | rfl | decide) ⟨rfl, e1, rfl⟩ (by decide) (by decide)
def Q2_20 (w0 : Addr) (w1 : Addr) (w2 : Addr) (w3 : Addr) (w4 : Addr) (h0 : Heap) (v : Option Value) (h : Heap) (L : List Loc) : Prop := L = [] ∧ h = h0 ∧ ((v = some (.int (0 : Int32))))
set_option maxRecDepth 65536 in
set_option maxHeartbeats 40000000 in
theorem rm2_20 (l : Launch) (Z : State) (a0 : Array Value) (hw : ∀ d ∈ tables_1, d.before a0 Z = true) (ws : List Jvm.Cond) (w0 : Addr) (w1 : Addr) (w2 : Addr) (w3 : Addr) (w4 : Addr) (h0 : Heap) (n0 : Nat) (Z0 : n0 ≤ h0.size) (K : own_K Z h0 w0 w1 w2 w3 w4) :
    MetFree l (⟨"com/example/grantfall/grantfall/model/Role", "includes", "(Lcom/example/grantfall/grantfall/model/Role;)Z"⟩ : MethodName) (head1 (Jvm.Cond.code (⟨"com/example/grantfall/grantfall/model/Role", "includes", "(Lcom/example/grantfall/grantfall/model/Role;)Z"⟩ : MethodName) prog_19_method_5_code 2 (some .boolean) :: ws) ({ frames := 0, cells := 0, slots := 0, locals := 0 } : Room)) (fun a U => a = #[(.ref w2), (.ref w0)] ∧ Z.Warmed39 U.vm ∧ U.heap = h0) (fun _ _ _ _ _ => True) (fun _ U o U' => ∃ v L, o = .returned v ∧ Q2_20 w0 w1 w2 w3 w4 h0 v U'.heap L ∧ FrameEnd U o U' L ({ frames := 0, cells := 0, slots := 0, locals := 0 } : Room).cells ({ frames := 0, cells := 0, slots := 0, locals := 0 } : Room).slots) := by
  refine MetFree.of_bodySF (plainFor_of_name pn1) hisR ?_
  intro p e s m args below meth c s₁ Bd hml0 hP hK
  obtain ⟨rfl, hZ, hh⟩ := hP
  have hx := Bd.exec
  have hby := Bd.bytes
  have hml : c.maxLocals = 2 := hml0
  have hown : s.vm.findClass "com/example/grantfall/grantfall/model/Role" = some m.cls := findClass_of_methodNamed Bd.named
  have hnm := (name_of_methodNamed Bd.named Bd.method).1
  have hlk := Bd.notSynchronized
  have X0 : Stand p l e ({ frames := 0, cells := 0, slots := 0, locals := 0 } : Room) s m #[(.ref w2), (.ref w0)] below meth c s₁ [] 0 0 := Stand.of_body Bd
  have e0 : s₁.heap = h0 := by rw [← hh, Bd.state]; rfl
  have K0 := K
  obtain ⟨S_w0, S_w1, S_w2, S_w3, S_w4, E_w0, E_w1, E_w2, E_w3, E_w4, F_w2_ordinal, F_w0_ordinal, F_w3_ordinal, F_w1_ordinal, F_w4_ordinal, n_w0_w1, n_w0_w2, n_w0_w3, n_w0_w4, n_w1_w2, n_w1_w3, n_w1_w4, n_w2_w3, n_w2_w4, n_w3_w4⟩ := K
  show own_Go p e below s (Q2_20 w0 w1 w2 w3 w4 h0) 0 0 (s₁.setTop (entryFrame m #[(.ref w2), (.ref w0)] 2))
  rw [show entryFrame m #[(.ref w2), (.ref w0)] 2 = mkF m 0 #[.val (.ref w2), .val (.ref w0)] [] from by first | (simp [entryFrame, mkF, argsToLocals, Value.category]; done) | rfl]
  show own_Go p e below s _ _ _ (s₁.setTop (mkF m 0 #[.val (.ref w2), .val (.ref w0)] []))
  refine own_via (fun _ k => XS.aloadN X0.here hx rfl (hb hby d2_0) rfl rfl k) ?_
  show own_Go p e below s _ _ _ (s₁.setTop (mkF m 1 #[.val (.ref w2), .val (.ref w0)] [(.ref w2)]))
  obtain ⟨T1, X1, e1, st1⟩ := getS2 X0 hx hZ hown (host := "") (Or.inl (hw _ (List.mem_of_getElem? (i := 15) rfl))) Via.refl e0 S_w0 (g := (mkF m 1 #[.val (.ref w2), .val (.ref w0)] [(.ref w2)])) rfl (hb hby d2_1)
  refine own_via st1 ?_
  show own_Go p e below s _ _ _ (T1.setTop (mkF m 4 #[.val (.ref w2), .val (.ref w0)] [(.ref w0), (.ref w2)]))
  refine own_via (fun _ k => Jvm.RoadKit.acmp (g := (mkF m 4 #[.val (.ref w2), .val (.ref w0)] [(.ref w0), (.ref w2)])) X1 hx rfl rfl rfl (pc0 := 4) (pc' := 7) (same := false) rfl (hb hby d2_4) rfl (decide_eq_false fun q => (fun q => n_w0_w2 q.symm) (Value.ref.inj q)) (by decide) (by decide) k) ?_
  show own_Go p e below s _ _ _ (T1.setTop (mkF m 7 #[.val (.ref w2), .val (.ref w0)] []))
  refine own_via (fun _ k => XS.aloadN X1.here hx rfl (hb hby d2_7) rfl rfl k) ?_
  show own_Go p e below s _ _ _ (T1.setTop (mkF m 8 #[.val (.ref w2), .val (.ref w0)] [(.ref w2)]))
  refine own_via (fun _ k => XS.aloadN X1.here hx rfl (hb hby d2_8) rfl rfl k) ?_
  show own_Go p e below s _ _ _ (T1.setTop (mkF m 9 #[.val (.ref w2), .val (.ref w0)] [(.ref w0), (.ref w2)]))
  refine own_via (fun _ k => Jvm.RoadKit.acmp (g := (mkF m 9 #[.val (.ref w2), .val (.ref w0)] [(.ref w0), (.ref w2)])) X1 hx rfl rfl rfl (pc0 := 9) (pc' := 16) (same := false) rfl (hb hby d2_9) rfl (decide_eq_false fun q => (fun q => n_w0_w2 q.symm) (Value.ref.inj q)) (by decide) (by decide) k) ?_
  show own_Go p e below s _ _ _ (T1.setTop (mkF m 16 #[.val (.ref w2), .val (.ref w0)] []))
  refine own_via (fun _ k => XS.iconst X1.here hx rfl (hb hby d2_16) k) ?_
  show own_Go p e below s _ _ _ (T1.setTop (mkF m 17 #[.val (.ref w2), .val (.ref w0)] [(.int (0 : Int32))]))
  exact own_retZ X1 hx hlk (t := .boolean) Bd.returns (by simp) (hb hby d2_17) (z' := (0 : Int32)) (by first | rfl | decide) ⟨rfl, e1, rfl⟩ (by decide) (by decide)
def Q2_21 (w0 : Addr) (w1 : Addr) (w2 : Addr) (w3 : Addr) (w4 : Addr) (h0 : Heap) (v : Option Value) (h : Heap) (L : List Loc) : Prop := L = [] ∧ h = h0 ∧ ((v = some (.int (0 : Int32))))
set_option maxRecDepth 65536 in
set_option maxHeartbeats 40000000 in
theorem rm2_21 (l : Launch) (Z : State) (a0 : Array Value) (hw : ∀ d ∈ tables_1, d.before a0 Z = true) (ws : List Jvm.Cond) (w0 : Addr) (w1 : Addr) (w2 : Addr) (w3 : Addr) (w4 : Addr) (h0 : Heap) (n0 : Nat) (Z0 : n0 ≤ h0.size) (K : own_K Z h0 w0 w1 w2 w3 w4) :
    MetFree l (⟨"com/example/grantfall/grantfall/model/Role", "includes", "(Lcom/example/grantfall/grantfall/model/Role;)Z"⟩ : MethodName) (head1 (Jvm.Cond.code (⟨"com/example/grantfall/grantfall/model/Role", "includes", "(Lcom/example/grantfall/grantfall/model/Role;)Z"⟩ : MethodName) prog_19_method_5_code 2 (some .boolean) :: ws) ({ frames := 0, cells := 0, slots := 0, locals := 0 } : Room)) (fun a U => a = #[(.ref w2), (.ref w3)] ∧ Z.Warmed39 U.vm ∧ U.heap = h0) (fun _ _ _ _ _ => True) (fun _ U o U' => ∃ v L, o = .returned v ∧ Q2_21 w0 w1 w2 w3 w4 h0 v U'.heap L ∧ FrameEnd U o U' L ({ frames := 0, cells := 0, slots := 0, locals := 0 } : Room).cells ({ frames := 0, cells := 0, slots := 0, locals := 0 } : Room).slots) := by
  refine MetFree.of_bodySF (plainFor_of_name pn1) hisR ?_
  intro p e s m args below meth c s₁ Bd hml0 hP hK
  obtain ⟨rfl, hZ, hh⟩ := hP
  have hx := Bd.exec
  have hby := Bd.bytes
  have hml : c.maxLocals = 2 := hml0
  have hown : s.vm.findClass "com/example/grantfall/grantfall/model/Role" = some m.cls := findClass_of_methodNamed Bd.named
  have hnm := (name_of_methodNamed Bd.named Bd.method).1
  have hlk := Bd.notSynchronized
  have X0 : Stand p l e ({ frames := 0, cells := 0, slots := 0, locals := 0 } : Room) s m #[(.ref w2), (.ref w3)] below meth c s₁ [] 0 0 := Stand.of_body Bd
  have e0 : s₁.heap = h0 := by rw [← hh, Bd.state]; rfl
  have K0 := K
  obtain ⟨S_w0, S_w1, S_w2, S_w3, S_w4, E_w0, E_w1, E_w2, E_w3, E_w4, F_w2_ordinal, F_w0_ordinal, F_w3_ordinal, F_w1_ordinal, F_w4_ordinal, n_w0_w1, n_w0_w2, n_w0_w3, n_w0_w4, n_w1_w2, n_w1_w3, n_w1_w4, n_w2_w3, n_w2_w4, n_w3_w4⟩ := K
  show own_Go p e below s (Q2_21 w0 w1 w2 w3 w4 h0) 0 0 (s₁.setTop (entryFrame m #[(.ref w2), (.ref w3)] 2))
  rw [show entryFrame m #[(.ref w2), (.ref w3)] 2 = mkF m 0 #[.val (.ref w2), .val (.ref w3)] [] from by first | (simp [entryFrame, mkF, argsToLocals, Value.category]; done) | rfl]
  show own_Go p e below s _ _ _ (s₁.setTop (mkF m 0 #[.val (.ref w2), .val (.ref w3)] []))
  refine own_via (fun _ k => XS.aloadN X0.here hx rfl (hb hby d2_0) rfl rfl k) ?_
  show own_Go p e below s _ _ _ (s₁.setTop (mkF m 1 #[.val (.ref w2), .val (.ref w3)] [(.ref w2)]))
  obtain ⟨T1, X1, e1, st1⟩ := getS2 X0 hx hZ hown (host := "") (Or.inl (hw _ (List.mem_of_getElem? (i := 15) rfl))) Via.refl e0 S_w0 (g := (mkF m 1 #[.val (.ref w2), .val (.ref w3)] [(.ref w2)])) rfl (hb hby d2_1)
  refine own_via st1 ?_
  show own_Go p e below s _ _ _ (T1.setTop (mkF m 4 #[.val (.ref w2), .val (.ref w3)] [(.ref w0), (.ref w2)]))
  refine own_via (fun _ k => Jvm.RoadKit.acmp (g := (mkF m 4 #[.val (.ref w2), .val (.ref w3)] [(.ref w0), (.ref w2)])) X1 hx rfl rfl rfl (pc0 := 4) (pc' := 7) (same := false) rfl (hb hby d2_4) rfl (decide_eq_false fun q => (fun q => n_w0_w2 q.symm) (Value.ref.inj q)) (by decide) (by decide) k) ?_
  show own_Go p e below s _ _ _ (T1.setTop (mkF m 7 #[.val (.ref w2), .val (.ref w3)] []))
  refine own_via (fun _ k => XS.aloadN X1.here hx rfl (hb hby d2_7) rfl rfl k) ?_
  show own_Go p e below s _ _ _ (T1.setTop (mkF m 8 #[.val (.ref w2), .val (.ref w3)] [(.ref w2)]))
  refine own_via (fun _ k => XS.aloadN X1.here hx rfl (hb hby d2_8) rfl rfl k) ?_
  show own_Go p e below s _ _ _ (T1.setTop (mkF m 9 #[.val (.ref w2), .val (.ref w3)] [(.ref w3), (.ref w2)]))
  refine own_via (fun _ k => Jvm.RoadKit.acmp (g := (mkF m 9 #[.val (.ref w2), .val (.ref w3)] [(.ref w3), (.ref w2)])) X1 hx rfl rfl rfl (pc0 := 9) (pc' := 16) (same := false) rfl (hb hby d2_9) rfl (decide_eq_false fun q => n_w2_w3 (Value.ref.inj q)) (by decide) (by decide) k) ?_
  show own_Go p e below s _ _ _ (T1.setTop (mkF m 16 #[.val (.ref w2), .val (.ref w3)] []))
  refine own_via (fun _ k => XS.iconst X1.here hx rfl (hb hby d2_16) k) ?_
  show own_Go p e below s _ _ _ (T1.setTop (mkF m 17 #[.val (.ref w2), .val (.ref w3)] [(.int (0 : Int32))]))
  exact own_retZ X1 hx hlk (t := .boolean) Bd.returns (by simp) (hb hby d2_17) (z' := (0 : Int32)) (by first | rfl | decide) ⟨rfl, e1, rfl⟩ (by decide) (by decide)
def Q2_22 (w0 : Addr) (w1 : Addr) (w2 : Addr) (w3 : Addr) (w4 : Addr) (h0 : Heap) (v : Option Value) (h : Heap) (L : List Loc) : Prop := L = [] ∧ h = h0 ∧ ((v = some (.int (0 : Int32))))
set_option maxRecDepth 65536 in
set_option maxHeartbeats 40000000 in
theorem rm2_22 (l : Launch) (Z : State) (a0 : Array Value) (hw : ∀ d ∈ tables_1, d.before a0 Z = true) (ws : List Jvm.Cond) (w0 : Addr) (w1 : Addr) (w2 : Addr) (w3 : Addr) (w4 : Addr) (h0 : Heap) (n0 : Nat) (Z0 : n0 ≤ h0.size) (K : own_K Z h0 w0 w1 w2 w3 w4) :
    MetFree l (⟨"com/example/grantfall/grantfall/model/Role", "includes", "(Lcom/example/grantfall/grantfall/model/Role;)Z"⟩ : MethodName) (head1 (Jvm.Cond.code (⟨"com/example/grantfall/grantfall/model/Role", "includes", "(Lcom/example/grantfall/grantfall/model/Role;)Z"⟩ : MethodName) prog_19_method_5_code 2 (some .boolean) :: ws) ({ frames := 0, cells := 0, slots := 0, locals := 0 } : Room)) (fun a U => a = #[(.ref w2), (.ref w4)] ∧ Z.Warmed39 U.vm ∧ U.heap = h0) (fun _ _ _ _ _ => True) (fun _ U o U' => ∃ v L, o = .returned v ∧ Q2_22 w0 w1 w2 w3 w4 h0 v U'.heap L ∧ FrameEnd U o U' L ({ frames := 0, cells := 0, slots := 0, locals := 0 } : Room).cells ({ frames := 0, cells := 0, slots := 0, locals := 0 } : Room).slots) := by
  refine MetFree.of_bodySF (plainFor_of_name pn1) hisR ?_
  intro p e s m args below meth c s₁ Bd hml0 hP hK
  obtain ⟨rfl, hZ, hh⟩ := hP
  have hx := Bd.exec
  have hby := Bd.bytes
  have hml : c.maxLocals = 2 := hml0
  have hown : s.vm.findClass "com/example/grantfall/grantfall/model/Role" = some m.cls := findClass_of_methodNamed Bd.named
  have hnm := (name_of_methodNamed Bd.named Bd.method).1
  have hlk := Bd.notSynchronized
  have X0 : Stand p l e ({ frames := 0, cells := 0, slots := 0, locals := 0 } : Room) s m #[(.ref w2), (.ref w4)] below meth c s₁ [] 0 0 := Stand.of_body Bd
  have e0 : s₁.heap = h0 := by rw [← hh, Bd.state]; rfl
  have K0 := K
  obtain ⟨S_w0, S_w1, S_w2, S_w3, S_w4, E_w0, E_w1, E_w2, E_w3, E_w4, F_w2_ordinal, F_w0_ordinal, F_w3_ordinal, F_w1_ordinal, F_w4_ordinal, n_w0_w1, n_w0_w2, n_w0_w3, n_w0_w4, n_w1_w2, n_w1_w3, n_w1_w4, n_w2_w3, n_w2_w4, n_w3_w4⟩ := K
  show own_Go p e below s (Q2_22 w0 w1 w2 w3 w4 h0) 0 0 (s₁.setTop (entryFrame m #[(.ref w2), (.ref w4)] 2))
  rw [show entryFrame m #[(.ref w2), (.ref w4)] 2 = mkF m 0 #[.val (.ref w2), .val (.ref w4)] [] from by first | (simp [entryFrame, mkF, argsToLocals, Value.category]; done) | rfl]
  show own_Go p e below s _ _ _ (s₁.setTop (mkF m 0 #[.val (.ref w2), .val (.ref w4)] []))
  refine own_via (fun _ k => XS.aloadN X0.here hx rfl (hb hby d2_0) rfl rfl k) ?_
  show own_Go p e below s _ _ _ (s₁.setTop (mkF m 1 #[.val (.ref w2), .val (.ref w4)] [(.ref w2)]))
  obtain ⟨T1, X1, e1, st1⟩ := getS2 X0 hx hZ hown (host := "") (Or.inl (hw _ (List.mem_of_getElem? (i := 15) rfl))) Via.refl e0 S_w0 (g := (mkF m 1 #[.val (.ref w2), .val (.ref w4)] [(.ref w2)])) rfl (hb hby d2_1)
  refine own_via st1 ?_
  show own_Go p e below s _ _ _ (T1.setTop (mkF m 4 #[.val (.ref w2), .val (.ref w4)] [(.ref w0), (.ref w2)]))
  refine own_via (fun _ k => Jvm.RoadKit.acmp (g := (mkF m 4 #[.val (.ref w2), .val (.ref w4)] [(.ref w0), (.ref w2)])) X1 hx rfl rfl rfl (pc0 := 4) (pc' := 7) (same := false) rfl (hb hby d2_4) rfl (decide_eq_false fun q => (fun q => n_w0_w2 q.symm) (Value.ref.inj q)) (by decide) (by decide) k) ?_
  show own_Go p e below s _ _ _ (T1.setTop (mkF m 7 #[.val (.ref w2), .val (.ref w4)] []))
  refine own_via (fun _ k => XS.aloadN X1.here hx rfl (hb hby d2_7) rfl rfl k) ?_
  show own_Go p e below s _ _ _ (T1.setTop (mkF m 8 #[.val (.ref w2), .val (.ref w4)] [(.ref w2)]))
  refine own_via (fun _ k => XS.aloadN X1.here hx rfl (hb hby d2_8) rfl rfl k) ?_
  show own_Go p e below s _ _ _ (T1.setTop (mkF m 9 #[.val (.ref w2), .val (.ref w4)] [(.ref w4), (.ref w2)]))
  refine own_via (fun _ k => Jvm.RoadKit.acmp (g := (mkF m 9 #[.val (.ref w2), .val (.ref w4)] [(.ref w4), (.ref w2)])) X1 hx rfl rfl rfl (pc0 := 9) (pc' := 16) (same := false) rfl (hb hby d2_9) rfl (decide_eq_false fun q => n_w2_w4 (Value.ref.inj q)) (by decide) (by decide) k) ?_
  show own_Go p e below s _ _ _ (T1.setTop (mkF m 16 #[.val (.ref w2), .val (.ref w4)] []))
  refine own_via (fun _ k => XS.iconst X1.here hx rfl (hb hby d2_16) k) ?_
  show own_Go p e below s _ _ _ (T1.setTop (mkF m 17 #[.val (.ref w2), .val (.ref w4)] [(.int (0 : Int32))]))
  exact own_retZ X1 hx hlk (t := .boolean) Bd.returns (by simp) (hb hby d2_17) (z' := (0 : Int32)) (by first | rfl | decide) ⟨rfl, e1, rfl⟩ (by decide) (by decide)
def Q2_23 (w0 : Addr) (w1 : Addr) (w2 : Addr) (w3 : Addr) (w4 : Addr) (h0 : Heap) (v : Option Value) (h : Heap) (L : List Loc) : Prop := L = [] ∧ h = h0 ∧ ((v = some (.int (0 : Int32))))
set_option maxRecDepth 65536 in
set_option maxHeartbeats 40000000 in
theorem rm2_23 (l : Launch) (Z : State) (a0 : Array Value) (hw : ∀ d ∈ tables_1, d.before a0 Z = true) (ws : List Jvm.Cond) (w0 : Addr) (w1 : Addr) (w2 : Addr) (w3 : Addr) (w4 : Addr) (h0 : Heap) (n0 : Nat) (Z0 : n0 ≤ h0.size) (K : own_K Z h0 w0 w1 w2 w3 w4) :
    MetFree l (⟨"com/example/grantfall/grantfall/model/Role", "includes", "(Lcom/example/grantfall/grantfall/model/Role;)Z"⟩ : MethodName) (head1 (Jvm.Cond.code (⟨"com/example/grantfall/grantfall/model/Role", "includes", "(Lcom/example/grantfall/grantfall/model/Role;)Z"⟩ : MethodName) prog_19_method_5_code 2 (some .boolean) :: ws) ({ frames := 0, cells := 0, slots := 0, locals := 0 } : Room)) (fun a U => a = #[(.ref w2), (.ref w1)] ∧ Z.Warmed39 U.vm ∧ U.heap = h0) (fun _ _ _ _ _ => True) (fun _ U o U' => ∃ v L, o = .returned v ∧ Q2_23 w0 w1 w2 w3 w4 h0 v U'.heap L ∧ FrameEnd U o U' L ({ frames := 0, cells := 0, slots := 0, locals := 0 } : Room).cells ({ frames := 0, cells := 0, slots := 0, locals := 0 } : Room).slots) := by
  refine MetFree.of_bodySF (plainFor_of_name pn1) hisR ?_
  intro p e s m args below meth c s₁ Bd hml0 hP hK
  obtain ⟨rfl, hZ, hh⟩ := hP
  have hx := Bd.exec
  have hby := Bd.bytes
  have hml : c.maxLocals = 2 := hml0
  have hown : s.vm.findClass "com/example/grantfall/grantfall/model/Role" = some m.cls := findClass_of_methodNamed Bd.named
  have hnm := (name_of_methodNamed Bd.named Bd.method).1
  have hlk := Bd.notSynchronized
  have X0 : Stand p l e ({ frames := 0, cells := 0, slots := 0, locals := 0 } : Room) s m #[(.ref w2), (.ref w1)] below meth c s₁ [] 0 0 := Stand.of_body Bd
  have e0 : s₁.heap = h0 := by rw [← hh, Bd.state]; rfl
  have K0 := K
  obtain ⟨S_w0, S_w1, S_w2, S_w3, S_w4, E_w0, E_w1, E_w2, E_w3, E_w4, F_w2_ordinal, F_w0_ordinal, F_w3_ordinal, F_w1_ordinal, F_w4_ordinal, n_w0_w1, n_w0_w2, n_w0_w3, n_w0_w4, n_w1_w2, n_w1_w3, n_w1_w4, n_w2_w3, n_w2_w4, n_w3_w4⟩ := K
  show own_Go p e below s (Q2_23 w0 w1 w2 w3 w4 h0) 0 0 (s₁.setTop (entryFrame m #[(.ref w2), (.ref w1)] 2))
  rw [show entryFrame m #[(.ref w2), (.ref w1)] 2 = mkF m 0 #[.val (.ref w2), .val (.ref w1)] [] from by first | (simp [entryFrame, mkF, argsToLocals, Value.category]; done) | rfl]
  show own_Go p e below s _ _ _ (s₁.setTop (mkF m 0 #[.val (.ref w2), .val (.ref w1)] []))
  refine own_via (fun _ k => XS.aloadN X0.here hx rfl (hb hby d2_0) rfl rfl k) ?_
  show own_Go p e below s _ _ _ (s₁.setTop (mkF m 1 #[.val (.ref w2), .val (.ref w1)] [(.ref w2)]))
  obtain ⟨T1, X1, e1, st1⟩ := getS2 X0 hx hZ hown (host := "") (Or.inl (hw _ (List.mem_of_getElem? (i := 15) rfl))) Via.refl e0 S_w0 (g := (mkF m 1 #[.val (.ref w2), .val (.ref w1)] [(.ref w2)])) rfl (hb hby d2_1)
  refine own_via st1 ?_
  show own_Go p e below s _ _ _ (T1.setTop (mkF m 4 #[.val (.ref w2), .val (.ref w1)] [(.ref w0), (.ref w2)]))
  refine own_via (fun _ k => Jvm.RoadKit.acmp (g := (mkF m 4 #[.val (.ref w2), .val (.ref w1)] [(.ref w0), (.ref w2)])) X1 hx rfl rfl rfl (pc0 := 4) (pc' := 7) (same := false) rfl (hb hby d2_4) rfl (decide_eq_false fun q => (fun q => n_w0_w2 q.symm) (Value.ref.inj q)) (by decide) (by decide) k) ?_
  show own_Go p e below s _ _ _ (T1.setTop (mkF m 7 #[.val (.ref w2), .val (.ref w1)] []))
  refine own_via (fun _ k => XS.aloadN X1.here hx rfl (hb hby d2_7) rfl rfl k) ?_
  show own_Go p e below s _ _ _ (T1.setTop (mkF m 8 #[.val (.ref w2), .val (.ref w1)] [(.ref w2)]))
  refine own_via (fun _ k => XS.aloadN X1.here hx rfl (hb hby d2_8) rfl rfl k) ?_
  show own_Go p e below s _ _ _ (T1.setTop (mkF m 9 #[.val (.ref w2), .val (.ref w1)] [(.ref w1), (.ref w2)]))
  refine own_via (fun _ k => Jvm.RoadKit.acmp (g := (mkF m 9 #[.val (.ref w2), .val (.ref w1)] [(.ref w1), (.ref w2)])) X1 hx rfl rfl rfl (pc0 := 9) (pc' := 16) (same := false) rfl (hb hby d2_9) rfl (decide_eq_false fun q => (fun q => n_w1_w2 q.symm) (Value.ref.inj q)) (by decide) (by decide) k) ?_
  show own_Go p e below s _ _ _ (T1.setTop (mkF m 16 #[.val (.ref w2), .val (.ref w1)] []))
  refine own_via (fun _ k => XS.iconst X1.here hx rfl (hb hby d2_16) k) ?_
  show own_Go p e below s _ _ _ (T1.setTop (mkF m 17 #[.val (.ref w2), .val (.ref w1)] [(.int (0 : Int32))]))
  exact own_retZ X1 hx hlk (t := .boolean) Bd.returns (by simp) (hb hby d2_17) (z' := (0 : Int32)) (by first | rfl | decide) ⟨rfl, e1, rfl⟩ (by decide) (by decide)
def Q2_24 (w0 : Addr) (w1 : Addr) (w2 : Addr) (w3 : Addr) (w4 : Addr) (h0 : Heap) (v : Option Value) (h : Heap) (L : List Loc) : Prop := L = [] ∧ h = h0 ∧ ((v = some (.int (1 : Int32))))
set_option maxRecDepth 65536 in
set_option maxHeartbeats 40000000 in
theorem rm2_24 (l : Launch) (Z : State) (a0 : Array Value) (hw : ∀ d ∈ tables_1, d.before a0 Z = true) (ws : List Jvm.Cond) (w0 : Addr) (w1 : Addr) (w2 : Addr) (w3 : Addr) (w4 : Addr) (h0 : Heap) (n0 : Nat) (Z0 : n0 ≤ h0.size) (K : own_K Z h0 w0 w1 w2 w3 w4) :
    MetFree l (⟨"com/example/grantfall/grantfall/model/Role", "includes", "(Lcom/example/grantfall/grantfall/model/Role;)Z"⟩ : MethodName) (head1 (Jvm.Cond.code (⟨"com/example/grantfall/grantfall/model/Role", "includes", "(Lcom/example/grantfall/grantfall/model/Role;)Z"⟩ : MethodName) prog_19_method_5_code 2 (some .boolean) :: ws) ({ frames := 0, cells := 0, slots := 0, locals := 0 } : Room)) (fun a U => a = #[(.ref w2), (.ref w2)] ∧ Z.Warmed39 U.vm ∧ U.heap = h0) (fun _ _ _ _ _ => True) (fun _ U o U' => ∃ v L, o = .returned v ∧ Q2_24 w0 w1 w2 w3 w4 h0 v U'.heap L ∧ FrameEnd U o U' L ({ frames := 0, cells := 0, slots := 0, locals := 0 } : Room).cells ({ frames := 0, cells := 0, slots := 0, locals := 0 } : Room).slots) := by
  refine MetFree.of_bodySF (plainFor_of_name pn1) hisR ?_
  intro p e s m args below meth c s₁ Bd hml0 hP hK
  obtain ⟨rfl, hZ, hh⟩ := hP
  have hx := Bd.exec
  have hby := Bd.bytes
  have hml : c.maxLocals = 2 := hml0
  have hown : s.vm.findClass "com/example/grantfall/grantfall/model/Role" = some m.cls := findClass_of_methodNamed Bd.named
  have hnm := (name_of_methodNamed Bd.named Bd.method).1
  have hlk := Bd.notSynchronized
  have X0 : Stand p l e ({ frames := 0, cells := 0, slots := 0, locals := 0 } : Room) s m #[(.ref w2), (.ref w2)] below meth c s₁ [] 0 0 := Stand.of_body Bd
  have e0 : s₁.heap = h0 := by rw [← hh, Bd.state]; rfl
  have K0 := K
  obtain ⟨S_w0, S_w1, S_w2, S_w3, S_w4, E_w0, E_w1, E_w2, E_w3, E_w4, F_w2_ordinal, F_w0_ordinal, F_w3_ordinal, F_w1_ordinal, F_w4_ordinal, n_w0_w1, n_w0_w2, n_w0_w3, n_w0_w4, n_w1_w2, n_w1_w3, n_w1_w4, n_w2_w3, n_w2_w4, n_w3_w4⟩ := K
  show own_Go p e below s (Q2_24 w0 w1 w2 w3 w4 h0) 0 0 (s₁.setTop (entryFrame m #[(.ref w2), (.ref w2)] 2))
  rw [show entryFrame m #[(.ref w2), (.ref w2)] 2 = mkF m 0 #[.val (.ref w2), .val (.ref w2)] [] from by first | (simp [entryFrame, mkF, argsToLocals, Value.category]; done) | rfl]
  show own_Go p e below s _ _ _ (s₁.setTop (mkF m 0 #[.val (.ref w2), .val (.ref w2)] []))
  refine own_via (fun _ k => XS.aloadN X0.here hx rfl (hb hby d2_0) rfl rfl k) ?_
  show own_Go p e below s _ _ _ (s₁.setTop (mkF m 1 #[.val (.ref w2), .val (.ref w2)] [(.ref w2)]))
  obtain ⟨T1, X1, e1, st1⟩ := getS2 X0 hx hZ hown (host := "") (Or.inl (hw _ (List.mem_of_getElem? (i := 15) rfl))) Via.refl e0 S_w0 (g := (mkF m 1 #[.val (.ref w2), .val (.ref w2)] [(.ref w2)])) rfl (hb hby d2_1)
  refine own_via st1 ?_
  show own_Go p e below s _ _ _ (T1.setTop (mkF m 4 #[.val (.ref w2), .val (.ref w2)] [(.ref w0), (.ref w2)]))
  refine own_via (fun _ k => Jvm.RoadKit.acmp (g := (mkF m 4 #[.val (.ref w2), .val (.ref w2)] [(.ref w0), (.ref w2)])) X1 hx rfl rfl rfl (pc0 := 4) (pc' := 7) (same := false) rfl (hb hby d2_4) rfl (decide_eq_false fun q => (fun q => n_w0_w2 q.symm) (Value.ref.inj q)) (by decide) (by decide) k) ?_
  show own_Go p e below s _ _ _ (T1.setTop (mkF m 7 #[.val (.ref w2), .val (.ref w2)] []))
  refine own_via (fun _ k => XS.aloadN X1.here hx rfl (hb hby d2_7) rfl rfl k) ?_
  show own_Go p e below s _ _ _ (T1.setTop (mkF m 8 #[.val (.ref w2), .val (.ref w2)] [(.ref w2)]))
  refine own_via (fun _ k => XS.aloadN X1.here hx rfl (hb hby d2_8) rfl rfl k) ?_
  show own_Go p e below s _ _ _ (T1.setTop (mkF m 9 #[.val (.ref w2), .val (.ref w2)] [(.ref w2), (.ref w2)]))
  refine own_via (fun _ k => Jvm.RoadKit.acmp (g := (mkF m 9 #[.val (.ref w2), .val (.ref w2)] [(.ref w2), (.ref w2)])) X1 hx rfl rfl rfl (pc0 := 9) (pc' := 12) (same := true) rfl (hb hby d2_9) rfl (decide_eq_true rfl) (by decide) (by decide) k) ?_
  show own_Go p e below s _ _ _ (T1.setTop (mkF m 12 #[.val (.ref w2), .val (.ref w2)] []))
  refine own_via (fun _ k => XS.iconst X1.here hx rfl (hb hby d2_12) k) ?_
  show own_Go p e below s _ _ _ (T1.setTop (mkF m 13 #[.val (.ref w2), .val (.ref w2)] [(.int (1 : Int32))]))
  refine own_via (fun _ k => XS.goto X1.here hx rfl (pc0 := 13) (pc' := 17) rfl (hb hby d2_13) (by decide) (by decide) k) ?_
  show own_Go p e below s _ _ _ (T1.setTop (mkF m 17 #[.val (.ref w2), .val (.ref w2)] [(.int (1 : Int32))]))
  exact own_retZ X1 hx hlk (t := .boolean) Bd.returns (by simp) (hb hby d2_17) (z' := (1 : Int32)) (by first | rfl | decide) ⟨rfl, e1, rfl⟩ (by decide) (by decide)
def Q0 (n0 : Nat) (v : Option Value) (h : Heap) (L : List Loc) : Prop := v = some (.int 1) ∧ Fr n0 L
set_option maxRecDepth 65536 in
set_option maxHeartbeats 40000000 in
theorem rm0 (l : Launch) (Z : State) (a0 : Array Value) (hw : ∀ d ∈ tables_1, d.before a0 Z = true) (ws : List Jvm.Cond) (p0 : Int32) (p1 : Int32) (w0 : Addr) (w1 : Addr) (w2 : Addr) (w3 : Addr) (w4 : Addr) (h0 : Heap) (n0 : Nat) (Z0 : n0 ≤ h0.size) (K : own_K Z h0 w0 w1 w2 w3 w4) :
    MetFree l x (head1 (Jvm.Cond.code x code maxLocals ret :: ws) room_1) (fun a U => a = #[(.int p0), (.int p1)] ∧ Z.Warmed39 U.vm ∧ U.heap = h0) (fun _ _ _ _ _ => True) (fun _ U o U' => ∃ v L, o = .returned v ∧ Q0 n0 v U'.heap L ∧ FrameEnd U o U' L 0 0) := by
  refine MetFree.of_bodySF (plainFor_of_name pn0) hisR ?_
  intro p e s m args below meth c s₁ Bd hml0 hP hK
  obtain ⟨rfl, hZ, hh⟩ := hP
  have hx := Bd.exec
  have hby := Bd.bytes
  have hml : c.maxLocals = 7 := hml0
  have hown : s.vm.findClass "com/example/grantfall/grantfall/model/RoleIncludesPinLaw" = some m.cls := findClass_of_methodNamed Bd.named
  have hnm := (name_of_methodNamed Bd.named Bd.method).1
  have hlk := Bd.notSynchronized
  have X0 : Stand p l e room_1 s m #[(.int p0), (.int p1)] below meth c s₁ [] 0 0 := Stand.of_body Bd
  have e0 : s₁.heap = h0 := by rw [← hh, Bd.state]; rfl
  have K0 := K
  obtain ⟨S_w0, S_w1, S_w2, S_w3, S_w4, E_w0, E_w1, E_w2, E_w3, E_w4, F_w2_ordinal, F_w0_ordinal, F_w3_ordinal, F_w1_ordinal, F_w4_ordinal, n_w0_w1, n_w0_w2, n_w0_w3, n_w0_w4, n_w1_w2, n_w1_w3, n_w1_w4, n_w2_w3, n_w2_w4, n_w3_w4⟩ := K
  show own_Go p e below s (Q0 n0) 0 0 (s₁.setTop (entryFrame m #[(.int p0), (.int p1)] maxLocals))
  rw [show entryFrame m #[(.int p0), (.int p1)] maxLocals = mkF m 0 #[.val (.int p0), .val (.int p1), .unset, .unset, .unset, .unset, .unset] [] from by first | (simp [entryFrame, mkF, argsToLocals, Value.category, maxLocals]; done) | rfl]
  show own_Go p e below s _ _ _ (s₁.setTop (mkF m 0 #[.val (.int p0), .val (.int p1), .unset, .unset, .unset, .unset, .unset] []))
  refine own_via (fun _ k => XS.iloadN X0.here hx rfl (hb hby at_0) rfl k) ?_
  show own_Go p e below s _ _ _ (s₁.setTop (mkF m 1 #[.val (.int p0), .val (.int p1), .unset, .unset, .unset, .unset, .unset] [(.int p0)]))
  refine own_via (fun _ k => X0.ldcInt hx hown (mvT hZ (hw _ (List.mem_of_getElem? (i := 0) rfl))) (g := (mkF m 1 #[.val (.int p0), .val (.int p1), .unset, .unset, .unset, .unset, .unset] [(.int p0)])) rfl (hb hby at_1) _ k) ?_
  show own_Go p e below s _ _ _ (s₁.setTop (mkF m 3 #[.val (.int p0), .val (.int p1), .unset, .unset, .unset, .unset, .unset] [(.int (2147483647 : Int32)), (.int p0)]))
  refine own_via (fun _ k => XS.iand X0.here hx rfl (hb hby at_3) rfl k) ?_
  show own_Go p e below s _ _ _ (s₁.setTop (mkF m 4 #[.val (.int p0), .val (.int p1), .unset, .unset, .unset, .unset, .unset] [(.int (p0 &&& (2147483647 : Int32)))]))
  refine own_via (fun _ k => XS.iconst X0.here hx rfl (hb hby at_4) k) ?_
  show own_Go p e below s _ _ _ (s₁.setTop (mkF m 5 #[.val (.int p0), .val (.int p1), .unset, .unset, .unset, .unset, .unset] [(.int (5 : Int32)), (.int (p0 &&& (2147483647 : Int32)))]))
  refine own_via (fun _ k => iremM X0 hx rfl (hb hby at_5) rfl (by decide : ¬ ((5 : Int32) = (0 : Int32))) k) ?_
  rcases (own_mod5 _ : ((p0 &&& (2147483647 : Int32)) % (5 : Int32)) = (0 : Int32) ∨ ((p0 &&& (2147483647 : Int32)) % (5 : Int32)) = (1 : Int32) ∨ ((p0 &&& (2147483647 : Int32)) % (5 : Int32)) = (2 : Int32) ∨ ((p0 &&& (2147483647 : Int32)) % (5 : Int32)) = (3 : Int32) ∨ ((p0 &&& (2147483647 : Int32)) % (5 : Int32)) = (4 : Int32)) with hk1 | hk2 | hk3 | hk4 | hk5
  · rw [hk1]
    show own_Go p e below s _ _ _ (s₁.setTop (mkF m 6 #[.val (.int p0), .val (.int p1), .unset, .unset, .unset, .unset, .unset] [(.int (0 : Int32))]))
    refine own_via (fun _ k => XS.istoreN X0.here hx rfl (hb hby at_6) rfl (l' := #[.val (.int p0), .val (.int p1), .val (.int (0 : Int32)), .unset, .unset, .unset, .unset]) rfl k) ?_
    show own_Go p e below s _ _ _ (s₁.setTop (mkF m 7 #[.val (.int p0), .val (.int p1), .val (.int (0 : Int32)), .unset, .unset, .unset, .unset] []))
    refine own_via (fun _ k => XS.iloadN X0.here hx rfl (hb hby at_7) rfl k) ?_
    show own_Go p e below s _ _ _ (s₁.setTop (mkF m 8 #[.val (.int p0), .val (.int p1), .val (.int (0 : Int32)), .unset, .unset, .unset, .unset] [(.int p1)]))
    refine own_via (fun _ k => X0.ldcInt hx hown (mvT hZ (hw _ (List.mem_of_getElem? (i := 0) rfl))) (g := (mkF m 8 #[.val (.int p0), .val (.int p1), .val (.int (0 : Int32)), .unset, .unset, .unset, .unset] [(.int p1)])) rfl (hb hby at_8) _ k) ?_
    show own_Go p e below s _ _ _ (s₁.setTop (mkF m 10 #[.val (.int p0), .val (.int p1), .val (.int (0 : Int32)), .unset, .unset, .unset, .unset] [(.int (2147483647 : Int32)), (.int p1)]))
    refine own_via (fun _ k => XS.iand X0.here hx rfl (hb hby at_10) rfl k) ?_
    show own_Go p e below s _ _ _ (s₁.setTop (mkF m 11 #[.val (.int p0), .val (.int p1), .val (.int (0 : Int32)), .unset, .unset, .unset, .unset] [(.int (p1 &&& (2147483647 : Int32)))]))
    refine own_via (fun _ k => XS.iconst X0.here hx rfl (hb hby at_11) k) ?_
    show own_Go p e below s _ _ _ (s₁.setTop (mkF m 12 #[.val (.int p0), .val (.int p1), .val (.int (0 : Int32)), .unset, .unset, .unset, .unset] [(.int (5 : Int32)), (.int (p1 &&& (2147483647 : Int32)))]))
    refine own_via (fun _ k => iremM X0 hx rfl (hb hby at_12) rfl (by decide : ¬ ((5 : Int32) = (0 : Int32))) k) ?_
    rcases (own_mod5 _ : ((p1 &&& (2147483647 : Int32)) % (5 : Int32)) = (0 : Int32) ∨ ((p1 &&& (2147483647 : Int32)) % (5 : Int32)) = (1 : Int32) ∨ ((p1 &&& (2147483647 : Int32)) % (5 : Int32)) = (2 : Int32) ∨ ((p1 &&& (2147483647 : Int32)) % (5 : Int32)) = (3 : Int32) ∨ ((p1 &&& (2147483647 : Int32)) % (5 : Int32)) = (4 : Int32)) with hk6 | hk7 | hk8 | hk9 | hk10
    · rw [hk6]
      show own_Go p e below s _ _ _ (s₁.setTop (mkF m 13 #[.val (.int p0), .val (.int p1), .val (.int (0 : Int32)), .unset, .unset, .unset, .unset] [(.int (0 : Int32))]))
      refine own_via (fun _ k => XS.istoreN X0.here hx rfl (hb hby at_13) rfl (l' := #[.val (.int p0), .val (.int p1), .val (.int (0 : Int32)), .val (.int (0 : Int32)), .unset, .unset, .unset]) rfl k) ?_
      show own_Go p e below s _ _ _ (s₁.setTop (mkF m 14 #[.val (.int p0), .val (.int p1), .val (.int (0 : Int32)), .val (.int (0 : Int32)), .unset, .unset, .unset] []))
      refine own_via (fun _ k => XS.iloadN X0.here hx rfl (hb hby at_14) rfl k) ?_
      show own_Go p e below s _ _ _ (s₁.setTop (mkF m 15 #[.val (.int p0), .val (.int p1), .val (.int (0 : Int32)), .val (.int (0 : Int32)), .unset, .unset, .unset] [(.int (0 : Int32))]))
      obtain ⟨_, _, ⟨T11, L11, k11, n11⟩, -, X11, ⟨Lc11, hQ11, l11, y11, z11⟩, st11⟩ := Jvm.LawKit.callS X0 hx (y := (⟨"com/example/grantfall/grantfall/model/RoleIncludesPinLaw", "pick", "(I)Lcom/example/grantfall/grantfall/model/Role;"⟩ : MethodName)) hown (mvT hZ (hw _ (List.mem_of_getElem? (i := 1) rfl))) (mvT hZ (hw _ (List.mem_of_getElem? (i := 2) rfl))) (mvT hZ (hw _ (List.mem_of_getElem? (i := 3) rfl))) (mvT hZ (hw _ (List.mem_of_getElem? (i := 4) rfl))) (by decide) (backOf (W := 0) (rm1_0 l Z a0 hw [] w0 w1 w2 w3 w4 h0 n0 Z0 K0) hZ (hw _ (List.mem_of_getElem? (i := 4) rfl)) (hw _ (List.mem_of_getElem? (i := 3) rfl)) (by decide) (by decide)) (g := (mkF m 15 #[.val (.int p0), .val (.int p1), .val (.int (0 : Int32)), .val (.int (0 : Int32)), .unset, .unset, .unset] [(.int (0 : Int32))])) rfl (by rw [hml]; rfl) (argsL := [(.int (0 : Int32))]) (rest := []) (lenOf pd0 rfl) rfl (by show 2 * 0 + _ ≤ _; exact Nat.le_of_eq rfl) (hb hby at_15) (fun _ _ => ⟨rfl, e0, (by decide : 0 + 0 ≤ _), (by decide : 0 + 0 ≤ _)⟩)
      dsimp only [Pt.U, Pt.locs, Pt.cells, Pt.slots] at X11 l11 y11 z11 st11 hQ11
      subst l11 y11 z11
      obtain ⟨rfl, e11, hO11⟩ := hQ11
      obtain rfl := hO11
      refine own_via st11 ?_
      show own_Go p e below s _ _ _ (T11.setTop (mkF m 18 #[.val (.int p0), .val (.int p1), .val (.int (0 : Int32)), .val (.int (0 : Int32)), .unset, .unset, .unset] [(.ref w0)]))
      refine own_via (fun _ k => XS.astore X11.here hx rfl (hb hby at_18) rfl rfl (l' := #[.val (.int p0), .val (.int p1), .val (.int (0 : Int32)), .val (.int (0 : Int32)), .val (.ref w0), .unset, .unset]) rfl k) ?_
      show own_Go p e below s _ _ _ (T11.setTop (mkF m 20 #[.val (.int p0), .val (.int p1), .val (.int (0 : Int32)), .val (.int (0 : Int32)), .val (.ref w0), .unset, .unset] []))
      refine own_via (fun _ k => XS.iloadN X11.here hx rfl (hb hby at_20) rfl k) ?_
      show own_Go p e below s _ _ _ (T11.setTop (mkF m 21 #[.val (.int p0), .val (.int p1), .val (.int (0 : Int32)), .val (.int (0 : Int32)), .val (.ref w0), .unset, .unset] [(.int (0 : Int32))]))
      obtain ⟨_, _, ⟨T12, L12, k12, n12⟩, -, X12, ⟨Lc12, hQ12, l12, y12, z12⟩, st12⟩ := Jvm.LawKit.callS X11 hx (y := (⟨"com/example/grantfall/grantfall/model/RoleIncludesPinLaw", "pick", "(I)Lcom/example/grantfall/grantfall/model/Role;"⟩ : MethodName)) hown (mvT hZ (hw _ (List.mem_of_getElem? (i := 1) rfl))) (mvT hZ (hw _ (List.mem_of_getElem? (i := 2) rfl))) (mvT hZ (hw _ (List.mem_of_getElem? (i := 3) rfl))) (mvT hZ (hw _ (List.mem_of_getElem? (i := 4) rfl))) (by decide) (backOf (W := 0) (rm1_0 l Z a0 hw [] w0 w1 w2 w3 w4 h0 n0 Z0 K0) hZ (hw _ (List.mem_of_getElem? (i := 4) rfl)) (hw _ (List.mem_of_getElem? (i := 3) rfl)) (by decide) (by decide)) (g := (mkF m 21 #[.val (.int p0), .val (.int p1), .val (.int (0 : Int32)), .val (.int (0 : Int32)), .val (.ref w0), .unset, .unset] [(.int (0 : Int32))])) rfl (by rw [hml]; rfl) (argsL := [(.int (0 : Int32))]) (rest := []) (lenOf pd0 rfl) rfl (by show 2 * 0 + _ ≤ _; exact Nat.le_of_eq rfl) (hb hby at_21) (fun _ _ => ⟨rfl, e11, (by decide : 0 + 0 ≤ _), (by decide : 0 + 0 ≤ _)⟩)
      dsimp only [Pt.U, Pt.locs, Pt.cells, Pt.slots] at X12 l12 y12 z12 st12 hQ12
      subst l12 y12 z12
      obtain ⟨rfl, e12, hO12⟩ := hQ12
      obtain rfl := hO12
      refine own_via st12 ?_
      show own_Go p e below s _ _ _ (T12.setTop (mkF m 24 #[.val (.int p0), .val (.int p1), .val (.int (0 : Int32)), .val (.int (0 : Int32)), .val (.ref w0), .unset, .unset] [(.ref w0)]))
      refine own_via (fun _ k => XS.astore X12.here hx rfl (hb hby at_24) rfl rfl (l' := #[.val (.int p0), .val (.int p1), .val (.int (0 : Int32)), .val (.int (0 : Int32)), .val (.ref w0), .val (.ref w0), .unset]) rfl k) ?_
      show own_Go p e below s _ _ _ (T12.setTop (mkF m 26 #[.val (.int p0), .val (.int p1), .val (.int (0 : Int32)), .val (.int (0 : Int32)), .val (.ref w0), .val (.ref w0), .unset] []))
      refine own_via (fun _ k => XS.iloadN X12.here hx rfl (hb hby at_26) rfl k) ?_
      show own_Go p e below s _ _ _ (T12.setTop (mkF m 27 #[.val (.int p0), .val (.int p1), .val (.int (0 : Int32)), .val (.int (0 : Int32)), .val (.ref w0), .val (.ref w0), .unset] [(.int (0 : Int32))]))
      refine own_via (fun _ k => XS.ifNo X12.here hx rfl (hb hby at_27) rfl ((if0 _ _).trans (teq (by decide : (0 : Int32) = (0 : Int32))).2) k) ?_
      show own_Go p e below s _ _ _ (T12.setTop (mkF m 30 #[.val (.int p0), .val (.int p1), .val (.int (0 : Int32)), .val (.int (0 : Int32)), .val (.ref w0), .val (.ref w0), .unset] []))
      refine own_via (fun _ k => XS.iconst X12.here hx rfl (hb hby at_30) k) ?_
      show own_Go p e below s _ _ _ (T12.setTop (mkF m 31 #[.val (.int p0), .val (.int p1), .val (.int (0 : Int32)), .val (.int (0 : Int32)), .val (.ref w0), .val (.ref w0), .unset] [(.int (1 : Int32))]))
      refine own_via (fun _ k => XS.istore X12.here hx rfl (hb hby at_31) rfl (l' := #[.val (.int p0), .val (.int p1), .val (.int (0 : Int32)), .val (.int (0 : Int32)), .val (.ref w0), .val (.ref w0), .val (.int (1 : Int32))]) rfl k) ?_
      show own_Go p e below s _ _ _ (T12.setTop (mkF m 33 #[.val (.int p0), .val (.int p1), .val (.int (0 : Int32)), .val (.int (0 : Int32)), .val (.ref w0), .val (.ref w0), .val (.int (1 : Int32))] []))
      refine own_via (fun _ k => XS.goto X12.here hx rfl (pc0 := 33) (pc' := 50) rfl (hb hby at_33) (by decide) (by decide) k) ?_
      show own_Go p e below s _ _ _ (T12.setTop (mkF m 50 #[.val (.int p0), .val (.int p1), .val (.int (0 : Int32)), .val (.int (0 : Int32)), .val (.ref w0), .val (.ref w0), .val (.int (1 : Int32))] []))
      refine own_via (fun _ k => XS.aload X12.here hx rfl (hb hby at_50) rfl rfl k) ?_
      show own_Go p e below s _ _ _ (T12.setTop (mkF m 52 #[.val (.int p0), .val (.int p1), .val (.int (0 : Int32)), .val (.int (0 : Int32)), .val (.ref w0), .val (.ref w0), .val (.int (1 : Int32))] [(.ref w0)]))
      refine own_via (fun _ k => XS.aload X12.here hx rfl (hb hby at_52) rfl rfl k) ?_
      show own_Go p e below s _ _ _ (T12.setTop (mkF m 54 #[.val (.int p0), .val (.int p1), .val (.int (0 : Int32)), .val (.int (0 : Int32)), .val (.ref w0), .val (.ref w0), .val (.int (1 : Int32))] [(.ref w0), (.ref w0)]))
      obtain ⟨cq13, kq13, q13a, q13b, q13c⟩ := isOf hZ e12 E_w0
      obtain ⟨_, _, ⟨T13, L13, k13, n13⟩, -, X13, ⟨Lc13, hQ13, l13, y13, z13⟩, st13⟩ := X12.virtualBack hx (y := (⟨"com/example/grantfall/grantfall/model/Role", "includes", "(Lcom/example/grantfall/grantfall/model/Role;)Z"⟩ : MethodName)) (z := (⟨"com/example/grantfall/grantfall/model/Role", "includes", "(Lcom/example/grantfall/grantfall/model/Role;)Z"⟩ : MethodName)) hown (mvT hZ (hw _ (List.mem_of_getElem? (i := 10) rfl))) (mvT hZ (hw _ (List.mem_of_getElem? (i := 11) rfl))) (notFace_of_selects (args := #[]) (mvT hZ (hw _ (List.mem_of_getElem? (i := 13) rfl)))) (mvT hZ (hw _ (List.mem_of_getElem? (i := 13) rfl))) (mvT hZ (hw _ (List.mem_of_getElem? (i := 12) rfl))) (by decide) (backOf (W := 0) (rm2_0 l Z a0 hw [] w0 w1 w2 w3 w4 h0 n0 Z0 K0) hZ (hw _ (List.mem_of_getElem? (i := 14) rfl)) (hw _ (List.mem_of_getElem? (i := 6) rfl)) (by decide) (by decide)) q13a q13c (g := (mkF m 54 #[.val (.int p0), .val (.int p1), .val (.int (0 : Int32)), .val (.int (0 : Int32)), .val (.ref w0), .val (.ref w0), .val (.int (1 : Int32))] [(.ref w0), (.ref w0)])) rfl (by rw [hml]; rfl) (Steps.refl _) (argsL := [(.ref w0)]) (rest := []) (lenOf pd1 rfl) rfl (by show 2 * 0 + _ ≤ _; exact Nat.le_of_eq rfl) (hb hby at_54) (fun _ _ => ⟨rfl, e12, (by decide : 0 + 0 ≤ _), (by decide : 0 + 0 ≤ _)⟩)
      dsimp only [Pt.U, Pt.locs, Pt.cells, Pt.slots] at X13 l13 y13 z13 st13 hQ13
      subst l13 y13 z13
      obtain ⟨rfl, e13, hO13⟩ := hQ13
      obtain rfl := hO13
      refine own_tr st13 ?_
      show own_Go p e below s _ _ _ (T13.setTop (mkF m 57 #[.val (.int p0), .val (.int p1), .val (.int (0 : Int32)), .val (.int (0 : Int32)), .val (.ref w0), .val (.ref w0), .val (.int (1 : Int32))] [(.int (1 : Int32))]))
      refine own_via (fun _ k => XS.iload X13.here hx rfl (hb hby at_57) rfl k) ?_
      show own_Go p e below s _ _ _ (T13.setTop (mkF m 59 #[.val (.int p0), .val (.int p1), .val (.int (0 : Int32)), .val (.int (0 : Int32)), .val (.ref w0), .val (.ref w0), .val (.int (1 : Int32))] [(.int (1 : Int32)), (.int (1 : Int32))]))
      refine own_via (fun _ k => XS.icmpNo X13.here hx rfl (hb hby at_59) rfl (teq (by decide : (1 : Int32) = (1 : Int32))).2 k) ?_
      show own_Go p e below s _ _ _ (T13.setTop (mkF m 62 #[.val (.int p0), .val (.int p1), .val (.int (0 : Int32)), .val (.int (0 : Int32)), .val (.ref w0), .val (.ref w0), .val (.int (1 : Int32))] []))
      refine own_via (fun _ k => XS.iconst X13.here hx rfl (hb hby at_62) k) ?_
      show own_Go p e below s _ _ _ (T13.setTop (mkF m 63 #[.val (.int p0), .val (.int p1), .val (.int (0 : Int32)), .val (.int (0 : Int32)), .val (.ref w0), .val (.ref w0), .val (.int (1 : Int32))] [(.int (1 : Int32))]))
      refine own_via (fun _ k => XS.goto X13.here hx rfl (pc0 := 63) (pc' := 67) rfl (hb hby at_63) (by decide) (by decide) k) ?_
      show own_Go p e below s _ _ _ (T13.setTop (mkF m 67 #[.val (.int p0), .val (.int p1), .val (.int (0 : Int32)), .val (.int (0 : Int32)), .val (.ref w0), .val (.ref w0), .val (.int (1 : Int32))] [(.int (1 : Int32))]))
      exact own_retZ X13 hx hlk (t := .boolean) Bd.returns (by simp) (hb hby at_67) (z' := (1 : Int32)) (by first | rfl | decide) ⟨rfl, (Fr.nil n0)⟩ (by decide) (by decide)
    · rw [hk7]
      show own_Go p e below s _ _ _ (s₁.setTop (mkF m 13 #[.val (.int p0), .val (.int p1), .val (.int (0 : Int32)), .unset, .unset, .unset, .unset] [(.int (1 : Int32))]))
      refine own_via (fun _ k => XS.istoreN X0.here hx rfl (hb hby at_13) rfl (l' := #[.val (.int p0), .val (.int p1), .val (.int (0 : Int32)), .val (.int (1 : Int32)), .unset, .unset, .unset]) rfl k) ?_
      show own_Go p e below s _ _ _ (s₁.setTop (mkF m 14 #[.val (.int p0), .val (.int p1), .val (.int (0 : Int32)), .val (.int (1 : Int32)), .unset, .unset, .unset] []))
      refine own_via (fun _ k => XS.iloadN X0.here hx rfl (hb hby at_14) rfl k) ?_
      show own_Go p e below s _ _ _ (s₁.setTop (mkF m 15 #[.val (.int p0), .val (.int p1), .val (.int (0 : Int32)), .val (.int (1 : Int32)), .unset, .unset, .unset] [(.int (0 : Int32))]))
      obtain ⟨_, _, ⟨T14, L14, k14, n14⟩, -, X14, ⟨Lc14, hQ14, l14, y14, z14⟩, st14⟩ := Jvm.LawKit.callS X0 hx (y := (⟨"com/example/grantfall/grantfall/model/RoleIncludesPinLaw", "pick", "(I)Lcom/example/grantfall/grantfall/model/Role;"⟩ : MethodName)) hown (mvT hZ (hw _ (List.mem_of_getElem? (i := 1) rfl))) (mvT hZ (hw _ (List.mem_of_getElem? (i := 2) rfl))) (mvT hZ (hw _ (List.mem_of_getElem? (i := 3) rfl))) (mvT hZ (hw _ (List.mem_of_getElem? (i := 4) rfl))) (by decide) (backOf (W := 0) (rm1_0 l Z a0 hw [] w0 w1 w2 w3 w4 h0 n0 Z0 K0) hZ (hw _ (List.mem_of_getElem? (i := 4) rfl)) (hw _ (List.mem_of_getElem? (i := 3) rfl)) (by decide) (by decide)) (g := (mkF m 15 #[.val (.int p0), .val (.int p1), .val (.int (0 : Int32)), .val (.int (1 : Int32)), .unset, .unset, .unset] [(.int (0 : Int32))])) rfl (by rw [hml]; rfl) (argsL := [(.int (0 : Int32))]) (rest := []) (lenOf pd0 rfl) rfl (by show 2 * 0 + _ ≤ _; exact Nat.le_of_eq rfl) (hb hby at_15) (fun _ _ => ⟨rfl, e0, (by decide : 0 + 0 ≤ _), (by decide : 0 + 0 ≤ _)⟩)
      dsimp only [Pt.U, Pt.locs, Pt.cells, Pt.slots] at X14 l14 y14 z14 st14 hQ14
      subst l14 y14 z14
      obtain ⟨rfl, e14, hO14⟩ := hQ14
      obtain rfl := hO14
      refine own_via st14 ?_
      show own_Go p e below s _ _ _ (T14.setTop (mkF m 18 #[.val (.int p0), .val (.int p1), .val (.int (0 : Int32)), .val (.int (1 : Int32)), .unset, .unset, .unset] [(.ref w0)]))
      refine own_via (fun _ k => XS.astore X14.here hx rfl (hb hby at_18) rfl rfl (l' := #[.val (.int p0), .val (.int p1), .val (.int (0 : Int32)), .val (.int (1 : Int32)), .val (.ref w0), .unset, .unset]) rfl k) ?_
      show own_Go p e below s _ _ _ (T14.setTop (mkF m 20 #[.val (.int p0), .val (.int p1), .val (.int (0 : Int32)), .val (.int (1 : Int32)), .val (.ref w0), .unset, .unset] []))
      refine own_via (fun _ k => XS.iloadN X14.here hx rfl (hb hby at_20) rfl k) ?_
      show own_Go p e below s _ _ _ (T14.setTop (mkF m 21 #[.val (.int p0), .val (.int p1), .val (.int (0 : Int32)), .val (.int (1 : Int32)), .val (.ref w0), .unset, .unset] [(.int (1 : Int32))]))
      obtain ⟨_, _, ⟨T15, L15, k15, n15⟩, -, X15, ⟨Lc15, hQ15, l15, y15, z15⟩, st15⟩ := Jvm.LawKit.callS X14 hx (y := (⟨"com/example/grantfall/grantfall/model/RoleIncludesPinLaw", "pick", "(I)Lcom/example/grantfall/grantfall/model/Role;"⟩ : MethodName)) hown (mvT hZ (hw _ (List.mem_of_getElem? (i := 1) rfl))) (mvT hZ (hw _ (List.mem_of_getElem? (i := 2) rfl))) (mvT hZ (hw _ (List.mem_of_getElem? (i := 3) rfl))) (mvT hZ (hw _ (List.mem_of_getElem? (i := 4) rfl))) (by decide) (backOf (W := 0) (rm1_1 l Z a0 hw [] w0 w1 w2 w3 w4 h0 n0 Z0 K0) hZ (hw _ (List.mem_of_getElem? (i := 4) rfl)) (hw _ (List.mem_of_getElem? (i := 3) rfl)) (by decide) (by decide)) (g := (mkF m 21 #[.val (.int p0), .val (.int p1), .val (.int (0 : Int32)), .val (.int (1 : Int32)), .val (.ref w0), .unset, .unset] [(.int (1 : Int32))])) rfl (by rw [hml]; rfl) (argsL := [(.int (1 : Int32))]) (rest := []) (lenOf pd0 rfl) rfl (by show 2 * 0 + _ ≤ _; exact Nat.le_of_eq rfl) (hb hby at_21) (fun _ _ => ⟨rfl, e14, (by decide : 0 + 0 ≤ _), (by decide : 0 + 0 ≤ _)⟩)
      dsimp only [Pt.U, Pt.locs, Pt.cells, Pt.slots] at X15 l15 y15 z15 st15 hQ15
      subst l15 y15 z15
      obtain ⟨rfl, e15, hO15⟩ := hQ15
      obtain rfl := hO15
      refine own_via st15 ?_
      show own_Go p e below s _ _ _ (T15.setTop (mkF m 24 #[.val (.int p0), .val (.int p1), .val (.int (0 : Int32)), .val (.int (1 : Int32)), .val (.ref w0), .unset, .unset] [(.ref w3)]))
      refine own_via (fun _ k => XS.astore X15.here hx rfl (hb hby at_24) rfl rfl (l' := #[.val (.int p0), .val (.int p1), .val (.int (0 : Int32)), .val (.int (1 : Int32)), .val (.ref w0), .val (.ref w3), .unset]) rfl k) ?_
      show own_Go p e below s _ _ _ (T15.setTop (mkF m 26 #[.val (.int p0), .val (.int p1), .val (.int (0 : Int32)), .val (.int (1 : Int32)), .val (.ref w0), .val (.ref w3), .unset] []))
      refine own_via (fun _ k => XS.iloadN X15.here hx rfl (hb hby at_26) rfl k) ?_
      show own_Go p e below s _ _ _ (T15.setTop (mkF m 27 #[.val (.int p0), .val (.int p1), .val (.int (0 : Int32)), .val (.int (1 : Int32)), .val (.ref w0), .val (.ref w3), .unset] [(.int (0 : Int32))]))
      refine own_via (fun _ k => XS.ifNo X15.here hx rfl (hb hby at_27) rfl ((if0 _ _).trans (teq (by decide : (0 : Int32) = (0 : Int32))).2) k) ?_
      show own_Go p e below s _ _ _ (T15.setTop (mkF m 30 #[.val (.int p0), .val (.int p1), .val (.int (0 : Int32)), .val (.int (1 : Int32)), .val (.ref w0), .val (.ref w3), .unset] []))
      refine own_via (fun _ k => XS.iconst X15.here hx rfl (hb hby at_30) k) ?_
      show own_Go p e below s _ _ _ (T15.setTop (mkF m 31 #[.val (.int p0), .val (.int p1), .val (.int (0 : Int32)), .val (.int (1 : Int32)), .val (.ref w0), .val (.ref w3), .unset] [(.int (1 : Int32))]))
      refine own_via (fun _ k => XS.istore X15.here hx rfl (hb hby at_31) rfl (l' := #[.val (.int p0), .val (.int p1), .val (.int (0 : Int32)), .val (.int (1 : Int32)), .val (.ref w0), .val (.ref w3), .val (.int (1 : Int32))]) rfl k) ?_
      show own_Go p e below s _ _ _ (T15.setTop (mkF m 33 #[.val (.int p0), .val (.int p1), .val (.int (0 : Int32)), .val (.int (1 : Int32)), .val (.ref w0), .val (.ref w3), .val (.int (1 : Int32))] []))
      refine own_via (fun _ k => XS.goto X15.here hx rfl (pc0 := 33) (pc' := 50) rfl (hb hby at_33) (by decide) (by decide) k) ?_
      show own_Go p e below s _ _ _ (T15.setTop (mkF m 50 #[.val (.int p0), .val (.int p1), .val (.int (0 : Int32)), .val (.int (1 : Int32)), .val (.ref w0), .val (.ref w3), .val (.int (1 : Int32))] []))
      refine own_via (fun _ k => XS.aload X15.here hx rfl (hb hby at_50) rfl rfl k) ?_
      show own_Go p e below s _ _ _ (T15.setTop (mkF m 52 #[.val (.int p0), .val (.int p1), .val (.int (0 : Int32)), .val (.int (1 : Int32)), .val (.ref w0), .val (.ref w3), .val (.int (1 : Int32))] [(.ref w0)]))
      refine own_via (fun _ k => XS.aload X15.here hx rfl (hb hby at_52) rfl rfl k) ?_
      show own_Go p e below s _ _ _ (T15.setTop (mkF m 54 #[.val (.int p0), .val (.int p1), .val (.int (0 : Int32)), .val (.int (1 : Int32)), .val (.ref w0), .val (.ref w3), .val (.int (1 : Int32))] [(.ref w3), (.ref w0)]))
      obtain ⟨cq16, kq16, q16a, q16b, q16c⟩ := isOf hZ e15 E_w0
      obtain ⟨_, _, ⟨T16, L16, k16, n16⟩, -, X16, ⟨Lc16, hQ16, l16, y16, z16⟩, st16⟩ := X15.virtualBack hx (y := (⟨"com/example/grantfall/grantfall/model/Role", "includes", "(Lcom/example/grantfall/grantfall/model/Role;)Z"⟩ : MethodName)) (z := (⟨"com/example/grantfall/grantfall/model/Role", "includes", "(Lcom/example/grantfall/grantfall/model/Role;)Z"⟩ : MethodName)) hown (mvT hZ (hw _ (List.mem_of_getElem? (i := 10) rfl))) (mvT hZ (hw _ (List.mem_of_getElem? (i := 11) rfl))) (notFace_of_selects (args := #[]) (mvT hZ (hw _ (List.mem_of_getElem? (i := 13) rfl)))) (mvT hZ (hw _ (List.mem_of_getElem? (i := 13) rfl))) (mvT hZ (hw _ (List.mem_of_getElem? (i := 12) rfl))) (by decide) (backOf (W := 0) (rm2_1 l Z a0 hw [] w0 w1 w2 w3 w4 h0 n0 Z0 K0) hZ (hw _ (List.mem_of_getElem? (i := 14) rfl)) (hw _ (List.mem_of_getElem? (i := 6) rfl)) (by decide) (by decide)) q16a q16c (g := (mkF m 54 #[.val (.int p0), .val (.int p1), .val (.int (0 : Int32)), .val (.int (1 : Int32)), .val (.ref w0), .val (.ref w3), .val (.int (1 : Int32))] [(.ref w3), (.ref w0)])) rfl (by rw [hml]; rfl) (Steps.refl _) (argsL := [(.ref w3)]) (rest := []) (lenOf pd1 rfl) rfl (by show 2 * 0 + _ ≤ _; exact Nat.le_of_eq rfl) (hb hby at_54) (fun _ _ => ⟨rfl, e15, (by decide : 0 + 0 ≤ _), (by decide : 0 + 0 ≤ _)⟩)
      dsimp only [Pt.U, Pt.locs, Pt.cells, Pt.slots] at X16 l16 y16 z16 st16 hQ16
      subst l16 y16 z16
      obtain ⟨rfl, e16, hO16⟩ := hQ16
      obtain rfl := hO16
      refine own_tr st16 ?_
      show own_Go p e below s _ _ _ (T16.setTop (mkF m 57 #[.val (.int p0), .val (.int p1), .val (.int (0 : Int32)), .val (.int (1 : Int32)), .val (.ref w0), .val (.ref w3), .val (.int (1 : Int32))] [(.int (1 : Int32))]))
      refine own_via (fun _ k => XS.iload X16.here hx rfl (hb hby at_57) rfl k) ?_
      show own_Go p e below s _ _ _ (T16.setTop (mkF m 59 #[.val (.int p0), .val (.int p1), .val (.int (0 : Int32)), .val (.int (1 : Int32)), .val (.ref w0), .val (.ref w3), .val (.int (1 : Int32))] [(.int (1 : Int32)), (.int (1 : Int32))]))
      refine own_via (fun _ k => XS.icmpNo X16.here hx rfl (hb hby at_59) rfl (teq (by decide : (1 : Int32) = (1 : Int32))).2 k) ?_
      show own_Go p e below s _ _ _ (T16.setTop (mkF m 62 #[.val (.int p0), .val (.int p1), .val (.int (0 : Int32)), .val (.int (1 : Int32)), .val (.ref w0), .val (.ref w3), .val (.int (1 : Int32))] []))
      refine own_via (fun _ k => XS.iconst X16.here hx rfl (hb hby at_62) k) ?_
      show own_Go p e below s _ _ _ (T16.setTop (mkF m 63 #[.val (.int p0), .val (.int p1), .val (.int (0 : Int32)), .val (.int (1 : Int32)), .val (.ref w0), .val (.ref w3), .val (.int (1 : Int32))] [(.int (1 : Int32))]))
      refine own_via (fun _ k => XS.goto X16.here hx rfl (pc0 := 63) (pc' := 67) rfl (hb hby at_63) (by decide) (by decide) k) ?_
      show own_Go p e below s _ _ _ (T16.setTop (mkF m 67 #[.val (.int p0), .val (.int p1), .val (.int (0 : Int32)), .val (.int (1 : Int32)), .val (.ref w0), .val (.ref w3), .val (.int (1 : Int32))] [(.int (1 : Int32))]))
      exact own_retZ X16 hx hlk (t := .boolean) Bd.returns (by simp) (hb hby at_67) (z' := (1 : Int32)) (by first | rfl | decide) ⟨rfl, (Fr.nil n0)⟩ (by decide) (by decide)
    · rw [hk8]
      show own_Go p e below s _ _ _ (s₁.setTop (mkF m 13 #[.val (.int p0), .val (.int p1), .val (.int (0 : Int32)), .unset, .unset, .unset, .unset] [(.int (2 : Int32))]))
      refine own_via (fun _ k => XS.istoreN X0.here hx rfl (hb hby at_13) rfl (l' := #[.val (.int p0), .val (.int p1), .val (.int (0 : Int32)), .val (.int (2 : Int32)), .unset, .unset, .unset]) rfl k) ?_
      show own_Go p e below s _ _ _ (s₁.setTop (mkF m 14 #[.val (.int p0), .val (.int p1), .val (.int (0 : Int32)), .val (.int (2 : Int32)), .unset, .unset, .unset] []))
      refine own_via (fun _ k => XS.iloadN X0.here hx rfl (hb hby at_14) rfl k) ?_
      show own_Go p e below s _ _ _ (s₁.setTop (mkF m 15 #[.val (.int p0), .val (.int p1), .val (.int (0 : Int32)), .val (.int (2 : Int32)), .unset, .unset, .unset] [(.int (0 : Int32))]))
      obtain ⟨_, _, ⟨T17, L17, k17, n17⟩, -, X17, ⟨Lc17, hQ17, l17, y17, z17⟩, st17⟩ := Jvm.LawKit.callS X0 hx (y := (⟨"com/example/grantfall/grantfall/model/RoleIncludesPinLaw", "pick", "(I)Lcom/example/grantfall/grantfall/model/Role;"⟩ : MethodName)) hown (mvT hZ (hw _ (List.mem_of_getElem? (i := 1) rfl))) (mvT hZ (hw _ (List.mem_of_getElem? (i := 2) rfl))) (mvT hZ (hw _ (List.mem_of_getElem? (i := 3) rfl))) (mvT hZ (hw _ (List.mem_of_getElem? (i := 4) rfl))) (by decide) (backOf (W := 0) (rm1_0 l Z a0 hw [] w0 w1 w2 w3 w4 h0 n0 Z0 K0) hZ (hw _ (List.mem_of_getElem? (i := 4) rfl)) (hw _ (List.mem_of_getElem? (i := 3) rfl)) (by decide) (by decide)) (g := (mkF m 15 #[.val (.int p0), .val (.int p1), .val (.int (0 : Int32)), .val (.int (2 : Int32)), .unset, .unset, .unset] [(.int (0 : Int32))])) rfl (by rw [hml]; rfl) (argsL := [(.int (0 : Int32))]) (rest := []) (lenOf pd0 rfl) rfl (by show 2 * 0 + _ ≤ _; exact Nat.le_of_eq rfl) (hb hby at_15) (fun _ _ => ⟨rfl, e0, (by decide : 0 + 0 ≤ _), (by decide : 0 + 0 ≤ _)⟩)
      dsimp only [Pt.U, Pt.locs, Pt.cells, Pt.slots] at X17 l17 y17 z17 st17 hQ17
      subst l17 y17 z17
      obtain ⟨rfl, e17, hO17⟩ := hQ17
      obtain rfl := hO17
      refine own_via st17 ?_
      show own_Go p e below s _ _ _ (T17.setTop (mkF m 18 #[.val (.int p0), .val (.int p1), .val (.int (0 : Int32)), .val (.int (2 : Int32)), .unset, .unset, .unset] [(.ref w0)]))
      refine own_via (fun _ k => XS.astore X17.here hx rfl (hb hby at_18) rfl rfl (l' := #[.val (.int p0), .val (.int p1), .val (.int (0 : Int32)), .val (.int (2 : Int32)), .val (.ref w0), .unset, .unset]) rfl k) ?_
      show own_Go p e below s _ _ _ (T17.setTop (mkF m 20 #[.val (.int p0), .val (.int p1), .val (.int (0 : Int32)), .val (.int (2 : Int32)), .val (.ref w0), .unset, .unset] []))
      refine own_via (fun _ k => XS.iloadN X17.here hx rfl (hb hby at_20) rfl k) ?_
      show own_Go p e below s _ _ _ (T17.setTop (mkF m 21 #[.val (.int p0), .val (.int p1), .val (.int (0 : Int32)), .val (.int (2 : Int32)), .val (.ref w0), .unset, .unset] [(.int (2 : Int32))]))
      obtain ⟨_, _, ⟨T18, L18, k18, n18⟩, -, X18, ⟨Lc18, hQ18, l18, y18, z18⟩, st18⟩ := Jvm.LawKit.callS X17 hx (y := (⟨"com/example/grantfall/grantfall/model/RoleIncludesPinLaw", "pick", "(I)Lcom/example/grantfall/grantfall/model/Role;"⟩ : MethodName)) hown (mvT hZ (hw _ (List.mem_of_getElem? (i := 1) rfl))) (mvT hZ (hw _ (List.mem_of_getElem? (i := 2) rfl))) (mvT hZ (hw _ (List.mem_of_getElem? (i := 3) rfl))) (mvT hZ (hw _ (List.mem_of_getElem? (i := 4) rfl))) (by decide) (backOf (W := 0) (rm1_2 l Z a0 hw [] w0 w1 w2 w3 w4 h0 n0 Z0 K0) hZ (hw _ (List.mem_of_getElem? (i := 4) rfl)) (hw _ (List.mem_of_getElem? (i := 3) rfl)) (by decide) (by decide)) (g := (mkF m 21 #[.val (.int p0), .val (.int p1), .val (.int (0 : Int32)), .val (.int (2 : Int32)), .val (.ref w0), .unset, .unset] [(.int (2 : Int32))])) rfl (by rw [hml]; rfl) (argsL := [(.int (2 : Int32))]) (rest := []) (lenOf pd0 rfl) rfl (by show 2 * 0 + _ ≤ _; exact Nat.le_of_eq rfl) (hb hby at_21) (fun _ _ => ⟨rfl, e17, (by decide : 0 + 0 ≤ _), (by decide : 0 + 0 ≤ _)⟩)
      dsimp only [Pt.U, Pt.locs, Pt.cells, Pt.slots] at X18 l18 y18 z18 st18 hQ18
      subst l18 y18 z18
      obtain ⟨rfl, e18, hO18⟩ := hQ18
      obtain rfl := hO18
      refine own_via st18 ?_
      show own_Go p e below s _ _ _ (T18.setTop (mkF m 24 #[.val (.int p0), .val (.int p1), .val (.int (0 : Int32)), .val (.int (2 : Int32)), .val (.ref w0), .unset, .unset] [(.ref w4)]))
      refine own_via (fun _ k => XS.astore X18.here hx rfl (hb hby at_24) rfl rfl (l' := #[.val (.int p0), .val (.int p1), .val (.int (0 : Int32)), .val (.int (2 : Int32)), .val (.ref w0), .val (.ref w4), .unset]) rfl k) ?_
      show own_Go p e below s _ _ _ (T18.setTop (mkF m 26 #[.val (.int p0), .val (.int p1), .val (.int (0 : Int32)), .val (.int (2 : Int32)), .val (.ref w0), .val (.ref w4), .unset] []))
      refine own_via (fun _ k => XS.iloadN X18.here hx rfl (hb hby at_26) rfl k) ?_
      show own_Go p e below s _ _ _ (T18.setTop (mkF m 27 #[.val (.int p0), .val (.int p1), .val (.int (0 : Int32)), .val (.int (2 : Int32)), .val (.ref w0), .val (.ref w4), .unset] [(.int (0 : Int32))]))
      refine own_via (fun _ k => XS.ifNo X18.here hx rfl (hb hby at_27) rfl ((if0 _ _).trans (teq (by decide : (0 : Int32) = (0 : Int32))).2) k) ?_
      show own_Go p e below s _ _ _ (T18.setTop (mkF m 30 #[.val (.int p0), .val (.int p1), .val (.int (0 : Int32)), .val (.int (2 : Int32)), .val (.ref w0), .val (.ref w4), .unset] []))
      refine own_via (fun _ k => XS.iconst X18.here hx rfl (hb hby at_30) k) ?_
      show own_Go p e below s _ _ _ (T18.setTop (mkF m 31 #[.val (.int p0), .val (.int p1), .val (.int (0 : Int32)), .val (.int (2 : Int32)), .val (.ref w0), .val (.ref w4), .unset] [(.int (1 : Int32))]))
      refine own_via (fun _ k => XS.istore X18.here hx rfl (hb hby at_31) rfl (l' := #[.val (.int p0), .val (.int p1), .val (.int (0 : Int32)), .val (.int (2 : Int32)), .val (.ref w0), .val (.ref w4), .val (.int (1 : Int32))]) rfl k) ?_
      show own_Go p e below s _ _ _ (T18.setTop (mkF m 33 #[.val (.int p0), .val (.int p1), .val (.int (0 : Int32)), .val (.int (2 : Int32)), .val (.ref w0), .val (.ref w4), .val (.int (1 : Int32))] []))
      refine own_via (fun _ k => XS.goto X18.here hx rfl (pc0 := 33) (pc' := 50) rfl (hb hby at_33) (by decide) (by decide) k) ?_
      show own_Go p e below s _ _ _ (T18.setTop (mkF m 50 #[.val (.int p0), .val (.int p1), .val (.int (0 : Int32)), .val (.int (2 : Int32)), .val (.ref w0), .val (.ref w4), .val (.int (1 : Int32))] []))
      refine own_via (fun _ k => XS.aload X18.here hx rfl (hb hby at_50) rfl rfl k) ?_
      show own_Go p e below s _ _ _ (T18.setTop (mkF m 52 #[.val (.int p0), .val (.int p1), .val (.int (0 : Int32)), .val (.int (2 : Int32)), .val (.ref w0), .val (.ref w4), .val (.int (1 : Int32))] [(.ref w0)]))
      refine own_via (fun _ k => XS.aload X18.here hx rfl (hb hby at_52) rfl rfl k) ?_
      show own_Go p e below s _ _ _ (T18.setTop (mkF m 54 #[.val (.int p0), .val (.int p1), .val (.int (0 : Int32)), .val (.int (2 : Int32)), .val (.ref w0), .val (.ref w4), .val (.int (1 : Int32))] [(.ref w4), (.ref w0)]))
      obtain ⟨cq19, kq19, q19a, q19b, q19c⟩ := isOf hZ e18 E_w0
      obtain ⟨_, _, ⟨T19, L19, k19, n19⟩, -, X19, ⟨Lc19, hQ19, l19, y19, z19⟩, st19⟩ := X18.virtualBack hx (y := (⟨"com/example/grantfall/grantfall/model/Role", "includes", "(Lcom/example/grantfall/grantfall/model/Role;)Z"⟩ : MethodName)) (z := (⟨"com/example/grantfall/grantfall/model/Role", "includes", "(Lcom/example/grantfall/grantfall/model/Role;)Z"⟩ : MethodName)) hown (mvT hZ (hw _ (List.mem_of_getElem? (i := 10) rfl))) (mvT hZ (hw _ (List.mem_of_getElem? (i := 11) rfl))) (notFace_of_selects (args := #[]) (mvT hZ (hw _ (List.mem_of_getElem? (i := 13) rfl)))) (mvT hZ (hw _ (List.mem_of_getElem? (i := 13) rfl))) (mvT hZ (hw _ (List.mem_of_getElem? (i := 12) rfl))) (by decide) (backOf (W := 0) (rm2_2 l Z a0 hw [] w0 w1 w2 w3 w4 h0 n0 Z0 K0) hZ (hw _ (List.mem_of_getElem? (i := 14) rfl)) (hw _ (List.mem_of_getElem? (i := 6) rfl)) (by decide) (by decide)) q19a q19c (g := (mkF m 54 #[.val (.int p0), .val (.int p1), .val (.int (0 : Int32)), .val (.int (2 : Int32)), .val (.ref w0), .val (.ref w4), .val (.int (1 : Int32))] [(.ref w4), (.ref w0)])) rfl (by rw [hml]; rfl) (Steps.refl _) (argsL := [(.ref w4)]) (rest := []) (lenOf pd1 rfl) rfl (by show 2 * 0 + _ ≤ _; exact Nat.le_of_eq rfl) (hb hby at_54) (fun _ _ => ⟨rfl, e18, (by decide : 0 + 0 ≤ _), (by decide : 0 + 0 ≤ _)⟩)
      dsimp only [Pt.U, Pt.locs, Pt.cells, Pt.slots] at X19 l19 y19 z19 st19 hQ19
      subst l19 y19 z19
      obtain ⟨rfl, e19, hO19⟩ := hQ19
      obtain rfl := hO19
      refine own_tr st19 ?_
      show own_Go p e below s _ _ _ (T19.setTop (mkF m 57 #[.val (.int p0), .val (.int p1), .val (.int (0 : Int32)), .val (.int (2 : Int32)), .val (.ref w0), .val (.ref w4), .val (.int (1 : Int32))] [(.int (1 : Int32))]))
      refine own_via (fun _ k => XS.iload X19.here hx rfl (hb hby at_57) rfl k) ?_
      show own_Go p e below s _ _ _ (T19.setTop (mkF m 59 #[.val (.int p0), .val (.int p1), .val (.int (0 : Int32)), .val (.int (2 : Int32)), .val (.ref w0), .val (.ref w4), .val (.int (1 : Int32))] [(.int (1 : Int32)), (.int (1 : Int32))]))
      refine own_via (fun _ k => XS.icmpNo X19.here hx rfl (hb hby at_59) rfl (teq (by decide : (1 : Int32) = (1 : Int32))).2 k) ?_
      show own_Go p e below s _ _ _ (T19.setTop (mkF m 62 #[.val (.int p0), .val (.int p1), .val (.int (0 : Int32)), .val (.int (2 : Int32)), .val (.ref w0), .val (.ref w4), .val (.int (1 : Int32))] []))
      refine own_via (fun _ k => XS.iconst X19.here hx rfl (hb hby at_62) k) ?_
      show own_Go p e below s _ _ _ (T19.setTop (mkF m 63 #[.val (.int p0), .val (.int p1), .val (.int (0 : Int32)), .val (.int (2 : Int32)), .val (.ref w0), .val (.ref w4), .val (.int (1 : Int32))] [(.int (1 : Int32))]))
      refine own_via (fun _ k => XS.goto X19.here hx rfl (pc0 := 63) (pc' := 67) rfl (hb hby at_63) (by decide) (by decide) k) ?_
      show own_Go p e below s _ _ _ (T19.setTop (mkF m 67 #[.val (.int p0), .val (.int p1), .val (.int (0 : Int32)), .val (.int (2 : Int32)), .val (.ref w0), .val (.ref w4), .val (.int (1 : Int32))] [(.int (1 : Int32))]))
      exact own_retZ X19 hx hlk (t := .boolean) Bd.returns (by simp) (hb hby at_67) (z' := (1 : Int32)) (by first | rfl | decide) ⟨rfl, (Fr.nil n0)⟩ (by decide) (by decide)
    · rw [hk9]
      show own_Go p e below s _ _ _ (s₁.setTop (mkF m 13 #[.val (.int p0), .val (.int p1), .val (.int (0 : Int32)), .unset, .unset, .unset, .unset] [(.int (3 : Int32))]))
      refine own_via (fun _ k => XS.istoreN X0.here hx rfl (hb hby at_13) rfl (l' := #[.val (.int p0), .val (.int p1), .val (.int (0 : Int32)), .val (.int (3 : Int32)), .unset, .unset, .unset]) rfl k) ?_
      show own_Go p e below s _ _ _ (s₁.setTop (mkF m 14 #[.val (.int p0), .val (.int p1), .val (.int (0 : Int32)), .val (.int (3 : Int32)), .unset, .unset, .unset] []))
      refine own_via (fun _ k => XS.iloadN X0.here hx rfl (hb hby at_14) rfl k) ?_
      show own_Go p e below s _ _ _ (s₁.setTop (mkF m 15 #[.val (.int p0), .val (.int p1), .val (.int (0 : Int32)), .val (.int (3 : Int32)), .unset, .unset, .unset] [(.int (0 : Int32))]))
      obtain ⟨_, _, ⟨T20, L20, k20, n20⟩, -, X20, ⟨Lc20, hQ20, l20, y20, z20⟩, st20⟩ := Jvm.LawKit.callS X0 hx (y := (⟨"com/example/grantfall/grantfall/model/RoleIncludesPinLaw", "pick", "(I)Lcom/example/grantfall/grantfall/model/Role;"⟩ : MethodName)) hown (mvT hZ (hw _ (List.mem_of_getElem? (i := 1) rfl))) (mvT hZ (hw _ (List.mem_of_getElem? (i := 2) rfl))) (mvT hZ (hw _ (List.mem_of_getElem? (i := 3) rfl))) (mvT hZ (hw _ (List.mem_of_getElem? (i := 4) rfl))) (by decide) (backOf (W := 0) (rm1_0 l Z a0 hw [] w0 w1 w2 w3 w4 h0 n0 Z0 K0) hZ (hw _ (List.mem_of_getElem? (i := 4) rfl)) (hw _ (List.mem_of_getElem? (i := 3) rfl)) (by decide) (by decide)) (g := (mkF m 15 #[.val (.int p0), .val (.int p1), .val (.int (0 : Int32)), .val (.int (3 : Int32)), .unset, .unset, .unset] [(.int (0 : Int32))])) rfl (by rw [hml]; rfl) (argsL := [(.int (0 : Int32))]) (rest := []) (lenOf pd0 rfl) rfl (by show 2 * 0 + _ ≤ _; exact Nat.le_of_eq rfl) (hb hby at_15) (fun _ _ => ⟨rfl, e0, (by decide : 0 + 0 ≤ _), (by decide : 0 + 0 ≤ _)⟩)
      dsimp only [Pt.U, Pt.locs, Pt.cells, Pt.slots] at X20 l20 y20 z20 st20 hQ20
      subst l20 y20 z20
      obtain ⟨rfl, e20, hO20⟩ := hQ20
      obtain rfl := hO20
      refine own_via st20 ?_
      show own_Go p e below s _ _ _ (T20.setTop (mkF m 18 #[.val (.int p0), .val (.int p1), .val (.int (0 : Int32)), .val (.int (3 : Int32)), .unset, .unset, .unset] [(.ref w0)]))
      refine own_via (fun _ k => XS.astore X20.here hx rfl (hb hby at_18) rfl rfl (l' := #[.val (.int p0), .val (.int p1), .val (.int (0 : Int32)), .val (.int (3 : Int32)), .val (.ref w0), .unset, .unset]) rfl k) ?_
      show own_Go p e below s _ _ _ (T20.setTop (mkF m 20 #[.val (.int p0), .val (.int p1), .val (.int (0 : Int32)), .val (.int (3 : Int32)), .val (.ref w0), .unset, .unset] []))
      refine own_via (fun _ k => XS.iloadN X20.here hx rfl (hb hby at_20) rfl k) ?_
      show own_Go p e below s _ _ _ (T20.setTop (mkF m 21 #[.val (.int p0), .val (.int p1), .val (.int (0 : Int32)), .val (.int (3 : Int32)), .val (.ref w0), .unset, .unset] [(.int (3 : Int32))]))
      obtain ⟨_, _, ⟨T21, L21, k21, n21⟩, -, X21, ⟨Lc21, hQ21, l21, y21, z21⟩, st21⟩ := Jvm.LawKit.callS X20 hx (y := (⟨"com/example/grantfall/grantfall/model/RoleIncludesPinLaw", "pick", "(I)Lcom/example/grantfall/grantfall/model/Role;"⟩ : MethodName)) hown (mvT hZ (hw _ (List.mem_of_getElem? (i := 1) rfl))) (mvT hZ (hw _ (List.mem_of_getElem? (i := 2) rfl))) (mvT hZ (hw _ (List.mem_of_getElem? (i := 3) rfl))) (mvT hZ (hw _ (List.mem_of_getElem? (i := 4) rfl))) (by decide) (backOf (W := 0) (rm1_3 l Z a0 hw [] w0 w1 w2 w3 w4 h0 n0 Z0 K0) hZ (hw _ (List.mem_of_getElem? (i := 4) rfl)) (hw _ (List.mem_of_getElem? (i := 3) rfl)) (by decide) (by decide)) (g := (mkF m 21 #[.val (.int p0), .val (.int p1), .val (.int (0 : Int32)), .val (.int (3 : Int32)), .val (.ref w0), .unset, .unset] [(.int (3 : Int32))])) rfl (by rw [hml]; rfl) (argsL := [(.int (3 : Int32))]) (rest := []) (lenOf pd0 rfl) rfl (by show 2 * 0 + _ ≤ _; exact Nat.le_of_eq rfl) (hb hby at_21) (fun _ _ => ⟨rfl, e20, (by decide : 0 + 0 ≤ _), (by decide : 0 + 0 ≤ _)⟩)
      dsimp only [Pt.U, Pt.locs, Pt.cells, Pt.slots] at X21 l21 y21 z21 st21 hQ21
      subst l21 y21 z21
      obtain ⟨rfl, e21, hO21⟩ := hQ21
      obtain rfl := hO21
      refine own_via st21 ?_
      show own_Go p e below s _ _ _ (T21.setTop (mkF m 24 #[.val (.int p0), .val (.int p1), .val (.int (0 : Int32)), .val (.int (3 : Int32)), .val (.ref w0), .unset, .unset] [(.ref w1)]))
      refine own_via (fun _ k => XS.astore X21.here hx rfl (hb hby at_24) rfl rfl (l' := #[.val (.int p0), .val (.int p1), .val (.int (0 : Int32)), .val (.int (3 : Int32)), .val (.ref w0), .val (.ref w1), .unset]) rfl k) ?_
      show own_Go p e below s _ _ _ (T21.setTop (mkF m 26 #[.val (.int p0), .val (.int p1), .val (.int (0 : Int32)), .val (.int (3 : Int32)), .val (.ref w0), .val (.ref w1), .unset] []))
      refine own_via (fun _ k => XS.iloadN X21.here hx rfl (hb hby at_26) rfl k) ?_
      show own_Go p e below s _ _ _ (T21.setTop (mkF m 27 #[.val (.int p0), .val (.int p1), .val (.int (0 : Int32)), .val (.int (3 : Int32)), .val (.ref w0), .val (.ref w1), .unset] [(.int (0 : Int32))]))
      refine own_via (fun _ k => XS.ifNo X21.here hx rfl (hb hby at_27) rfl ((if0 _ _).trans (teq (by decide : (0 : Int32) = (0 : Int32))).2) k) ?_
      show own_Go p e below s _ _ _ (T21.setTop (mkF m 30 #[.val (.int p0), .val (.int p1), .val (.int (0 : Int32)), .val (.int (3 : Int32)), .val (.ref w0), .val (.ref w1), .unset] []))
      refine own_via (fun _ k => XS.iconst X21.here hx rfl (hb hby at_30) k) ?_
      show own_Go p e below s _ _ _ (T21.setTop (mkF m 31 #[.val (.int p0), .val (.int p1), .val (.int (0 : Int32)), .val (.int (3 : Int32)), .val (.ref w0), .val (.ref w1), .unset] [(.int (1 : Int32))]))
      refine own_via (fun _ k => XS.istore X21.here hx rfl (hb hby at_31) rfl (l' := #[.val (.int p0), .val (.int p1), .val (.int (0 : Int32)), .val (.int (3 : Int32)), .val (.ref w0), .val (.ref w1), .val (.int (1 : Int32))]) rfl k) ?_
      show own_Go p e below s _ _ _ (T21.setTop (mkF m 33 #[.val (.int p0), .val (.int p1), .val (.int (0 : Int32)), .val (.int (3 : Int32)), .val (.ref w0), .val (.ref w1), .val (.int (1 : Int32))] []))
      refine own_via (fun _ k => XS.goto X21.here hx rfl (pc0 := 33) (pc' := 50) rfl (hb hby at_33) (by decide) (by decide) k) ?_
      show own_Go p e below s _ _ _ (T21.setTop (mkF m 50 #[.val (.int p0), .val (.int p1), .val (.int (0 : Int32)), .val (.int (3 : Int32)), .val (.ref w0), .val (.ref w1), .val (.int (1 : Int32))] []))
      refine own_via (fun _ k => XS.aload X21.here hx rfl (hb hby at_50) rfl rfl k) ?_
      show own_Go p e below s _ _ _ (T21.setTop (mkF m 52 #[.val (.int p0), .val (.int p1), .val (.int (0 : Int32)), .val (.int (3 : Int32)), .val (.ref w0), .val (.ref w1), .val (.int (1 : Int32))] [(.ref w0)]))
      refine own_via (fun _ k => XS.aload X21.here hx rfl (hb hby at_52) rfl rfl k) ?_
      show own_Go p e below s _ _ _ (T21.setTop (mkF m 54 #[.val (.int p0), .val (.int p1), .val (.int (0 : Int32)), .val (.int (3 : Int32)), .val (.ref w0), .val (.ref w1), .val (.int (1 : Int32))] [(.ref w1), (.ref w0)]))
      obtain ⟨cq22, kq22, q22a, q22b, q22c⟩ := isOf hZ e21 E_w0
      obtain ⟨_, _, ⟨T22, L22, k22, n22⟩, -, X22, ⟨Lc22, hQ22, l22, y22, z22⟩, st22⟩ := X21.virtualBack hx (y := (⟨"com/example/grantfall/grantfall/model/Role", "includes", "(Lcom/example/grantfall/grantfall/model/Role;)Z"⟩ : MethodName)) (z := (⟨"com/example/grantfall/grantfall/model/Role", "includes", "(Lcom/example/grantfall/grantfall/model/Role;)Z"⟩ : MethodName)) hown (mvT hZ (hw _ (List.mem_of_getElem? (i := 10) rfl))) (mvT hZ (hw _ (List.mem_of_getElem? (i := 11) rfl))) (notFace_of_selects (args := #[]) (mvT hZ (hw _ (List.mem_of_getElem? (i := 13) rfl)))) (mvT hZ (hw _ (List.mem_of_getElem? (i := 13) rfl))) (mvT hZ (hw _ (List.mem_of_getElem? (i := 12) rfl))) (by decide) (backOf (W := 0) (rm2_3 l Z a0 hw [] w0 w1 w2 w3 w4 h0 n0 Z0 K0) hZ (hw _ (List.mem_of_getElem? (i := 14) rfl)) (hw _ (List.mem_of_getElem? (i := 6) rfl)) (by decide) (by decide)) q22a q22c (g := (mkF m 54 #[.val (.int p0), .val (.int p1), .val (.int (0 : Int32)), .val (.int (3 : Int32)), .val (.ref w0), .val (.ref w1), .val (.int (1 : Int32))] [(.ref w1), (.ref w0)])) rfl (by rw [hml]; rfl) (Steps.refl _) (argsL := [(.ref w1)]) (rest := []) (lenOf pd1 rfl) rfl (by show 2 * 0 + _ ≤ _; exact Nat.le_of_eq rfl) (hb hby at_54) (fun _ _ => ⟨rfl, e21, (by decide : 0 + 0 ≤ _), (by decide : 0 + 0 ≤ _)⟩)
      dsimp only [Pt.U, Pt.locs, Pt.cells, Pt.slots] at X22 l22 y22 z22 st22 hQ22
      subst l22 y22 z22
      obtain ⟨rfl, e22, hO22⟩ := hQ22
      obtain rfl := hO22
      refine own_tr st22 ?_
      show own_Go p e below s _ _ _ (T22.setTop (mkF m 57 #[.val (.int p0), .val (.int p1), .val (.int (0 : Int32)), .val (.int (3 : Int32)), .val (.ref w0), .val (.ref w1), .val (.int (1 : Int32))] [(.int (1 : Int32))]))
      refine own_via (fun _ k => XS.iload X22.here hx rfl (hb hby at_57) rfl k) ?_
      show own_Go p e below s _ _ _ (T22.setTop (mkF m 59 #[.val (.int p0), .val (.int p1), .val (.int (0 : Int32)), .val (.int (3 : Int32)), .val (.ref w0), .val (.ref w1), .val (.int (1 : Int32))] [(.int (1 : Int32)), (.int (1 : Int32))]))
      refine own_via (fun _ k => XS.icmpNo X22.here hx rfl (hb hby at_59) rfl (teq (by decide : (1 : Int32) = (1 : Int32))).2 k) ?_
      show own_Go p e below s _ _ _ (T22.setTop (mkF m 62 #[.val (.int p0), .val (.int p1), .val (.int (0 : Int32)), .val (.int (3 : Int32)), .val (.ref w0), .val (.ref w1), .val (.int (1 : Int32))] []))
      refine own_via (fun _ k => XS.iconst X22.here hx rfl (hb hby at_62) k) ?_
      show own_Go p e below s _ _ _ (T22.setTop (mkF m 63 #[.val (.int p0), .val (.int p1), .val (.int (0 : Int32)), .val (.int (3 : Int32)), .val (.ref w0), .val (.ref w1), .val (.int (1 : Int32))] [(.int (1 : Int32))]))
      refine own_via (fun _ k => XS.goto X22.here hx rfl (pc0 := 63) (pc' := 67) rfl (hb hby at_63) (by decide) (by decide) k) ?_
      show own_Go p e below s _ _ _ (T22.setTop (mkF m 67 #[.val (.int p0), .val (.int p1), .val (.int (0 : Int32)), .val (.int (3 : Int32)), .val (.ref w0), .val (.ref w1), .val (.int (1 : Int32))] [(.int (1 : Int32))]))
      exact own_retZ X22 hx hlk (t := .boolean) Bd.returns (by simp) (hb hby at_67) (z' := (1 : Int32)) (by first | rfl | decide) ⟨rfl, (Fr.nil n0)⟩ (by decide) (by decide)
    · rw [hk10]
      show own_Go p e below s _ _ _ (s₁.setTop (mkF m 13 #[.val (.int p0), .val (.int p1), .val (.int (0 : Int32)), .unset, .unset, .unset, .unset] [(.int (4 : Int32))]))
      refine own_via (fun _ k => XS.istoreN X0.here hx rfl (hb hby at_13) rfl (l' := #[.val (.int p0), .val (.int p1), .val (.int (0 : Int32)), .val (.int (4 : Int32)), .unset, .unset, .unset]) rfl k) ?_
      show own_Go p e below s _ _ _ (s₁.setTop (mkF m 14 #[.val (.int p0), .val (.int p1), .val (.int (0 : Int32)), .val (.int (4 : Int32)), .unset, .unset, .unset] []))
      refine own_via (fun _ k => XS.iloadN X0.here hx rfl (hb hby at_14) rfl k) ?_
      show own_Go p e below s _ _ _ (s₁.setTop (mkF m 15 #[.val (.int p0), .val (.int p1), .val (.int (0 : Int32)), .val (.int (4 : Int32)), .unset, .unset, .unset] [(.int (0 : Int32))]))
      obtain ⟨_, _, ⟨T23, L23, k23, n23⟩, -, X23, ⟨Lc23, hQ23, l23, y23, z23⟩, st23⟩ := Jvm.LawKit.callS X0 hx (y := (⟨"com/example/grantfall/grantfall/model/RoleIncludesPinLaw", "pick", "(I)Lcom/example/grantfall/grantfall/model/Role;"⟩ : MethodName)) hown (mvT hZ (hw _ (List.mem_of_getElem? (i := 1) rfl))) (mvT hZ (hw _ (List.mem_of_getElem? (i := 2) rfl))) (mvT hZ (hw _ (List.mem_of_getElem? (i := 3) rfl))) (mvT hZ (hw _ (List.mem_of_getElem? (i := 4) rfl))) (by decide) (backOf (W := 0) (rm1_0 l Z a0 hw [] w0 w1 w2 w3 w4 h0 n0 Z0 K0) hZ (hw _ (List.mem_of_getElem? (i := 4) rfl)) (hw _ (List.mem_of_getElem? (i := 3) rfl)) (by decide) (by decide)) (g := (mkF m 15 #[.val (.int p0), .val (.int p1), .val (.int (0 : Int32)), .val (.int (4 : Int32)), .unset, .unset, .unset] [(.int (0 : Int32))])) rfl (by rw [hml]; rfl) (argsL := [(.int (0 : Int32))]) (rest := []) (lenOf pd0 rfl) rfl (by show 2 * 0 + _ ≤ _; exact Nat.le_of_eq rfl) (hb hby at_15) (fun _ _ => ⟨rfl, e0, (by decide : 0 + 0 ≤ _), (by decide : 0 + 0 ≤ _)⟩)
      dsimp only [Pt.U, Pt.locs, Pt.cells, Pt.slots] at X23 l23 y23 z23 st23 hQ23
      subst l23 y23 z23
      obtain ⟨rfl, e23, hO23⟩ := hQ23
      obtain rfl := hO23
      refine own_via st23 ?_
      show own_Go p e below s _ _ _ (T23.setTop (mkF m 18 #[.val (.int p0), .val (.int p1), .val (.int (0 : Int32)), .val (.int (4 : Int32)), .unset, .unset, .unset] [(.ref w0)]))
      refine own_via (fun _ k => XS.astore X23.here hx rfl (hb hby at_18) rfl rfl (l' := #[.val (.int p0), .val (.int p1), .val (.int (0 : Int32)), .val (.int (4 : Int32)), .val (.ref w0), .unset, .unset]) rfl k) ?_
      show own_Go p e below s _ _ _ (T23.setTop (mkF m 20 #[.val (.int p0), .val (.int p1), .val (.int (0 : Int32)), .val (.int (4 : Int32)), .val (.ref w0), .unset, .unset] []))
      refine own_via (fun _ k => XS.iloadN X23.here hx rfl (hb hby at_20) rfl k) ?_
      show own_Go p e below s _ _ _ (T23.setTop (mkF m 21 #[.val (.int p0), .val (.int p1), .val (.int (0 : Int32)), .val (.int (4 : Int32)), .val (.ref w0), .unset, .unset] [(.int (4 : Int32))]))
      obtain ⟨_, _, ⟨T24, L24, k24, n24⟩, -, X24, ⟨Lc24, hQ24, l24, y24, z24⟩, st24⟩ := Jvm.LawKit.callS X23 hx (y := (⟨"com/example/grantfall/grantfall/model/RoleIncludesPinLaw", "pick", "(I)Lcom/example/grantfall/grantfall/model/Role;"⟩ : MethodName)) hown (mvT hZ (hw _ (List.mem_of_getElem? (i := 1) rfl))) (mvT hZ (hw _ (List.mem_of_getElem? (i := 2) rfl))) (mvT hZ (hw _ (List.mem_of_getElem? (i := 3) rfl))) (mvT hZ (hw _ (List.mem_of_getElem? (i := 4) rfl))) (by decide) (backOf (W := 0) (rm1_4 l Z a0 hw [] w0 w1 w2 w3 w4 h0 n0 Z0 K0) hZ (hw _ (List.mem_of_getElem? (i := 4) rfl)) (hw _ (List.mem_of_getElem? (i := 3) rfl)) (by decide) (by decide)) (g := (mkF m 21 #[.val (.int p0), .val (.int p1), .val (.int (0 : Int32)), .val (.int (4 : Int32)), .val (.ref w0), .unset, .unset] [(.int (4 : Int32))])) rfl (by rw [hml]; rfl) (argsL := [(.int (4 : Int32))]) (rest := []) (lenOf pd0 rfl) rfl (by show 2 * 0 + _ ≤ _; exact Nat.le_of_eq rfl) (hb hby at_21) (fun _ _ => ⟨rfl, e23, (by decide : 0 + 0 ≤ _), (by decide : 0 + 0 ≤ _)⟩)
      dsimp only [Pt.U, Pt.locs, Pt.cells, Pt.slots] at X24 l24 y24 z24 st24 hQ24
      subst l24 y24 z24
      obtain ⟨rfl, e24, hO24⟩ := hQ24
      obtain rfl := hO24
      refine own_via st24 ?_
      show own_Go p e below s _ _ _ (T24.setTop (mkF m 24 #[.val (.int p0), .val (.int p1), .val (.int (0 : Int32)), .val (.int (4 : Int32)), .val (.ref w0), .unset, .unset] [(.ref w2)]))
      refine own_via (fun _ k => XS.astore X24.here hx rfl (hb hby at_24) rfl rfl (l' := #[.val (.int p0), .val (.int p1), .val (.int (0 : Int32)), .val (.int (4 : Int32)), .val (.ref w0), .val (.ref w2), .unset]) rfl k) ?_
      show own_Go p e below s _ _ _ (T24.setTop (mkF m 26 #[.val (.int p0), .val (.int p1), .val (.int (0 : Int32)), .val (.int (4 : Int32)), .val (.ref w0), .val (.ref w2), .unset] []))
      refine own_via (fun _ k => XS.iloadN X24.here hx rfl (hb hby at_26) rfl k) ?_
      show own_Go p e below s _ _ _ (T24.setTop (mkF m 27 #[.val (.int p0), .val (.int p1), .val (.int (0 : Int32)), .val (.int (4 : Int32)), .val (.ref w0), .val (.ref w2), .unset] [(.int (0 : Int32))]))
      refine own_via (fun _ k => XS.ifNo X24.here hx rfl (hb hby at_27) rfl ((if0 _ _).trans (teq (by decide : (0 : Int32) = (0 : Int32))).2) k) ?_
      show own_Go p e below s _ _ _ (T24.setTop (mkF m 30 #[.val (.int p0), .val (.int p1), .val (.int (0 : Int32)), .val (.int (4 : Int32)), .val (.ref w0), .val (.ref w2), .unset] []))
      refine own_via (fun _ k => XS.iconst X24.here hx rfl (hb hby at_30) k) ?_
      show own_Go p e below s _ _ _ (T24.setTop (mkF m 31 #[.val (.int p0), .val (.int p1), .val (.int (0 : Int32)), .val (.int (4 : Int32)), .val (.ref w0), .val (.ref w2), .unset] [(.int (1 : Int32))]))
      refine own_via (fun _ k => XS.istore X24.here hx rfl (hb hby at_31) rfl (l' := #[.val (.int p0), .val (.int p1), .val (.int (0 : Int32)), .val (.int (4 : Int32)), .val (.ref w0), .val (.ref w2), .val (.int (1 : Int32))]) rfl k) ?_
      show own_Go p e below s _ _ _ (T24.setTop (mkF m 33 #[.val (.int p0), .val (.int p1), .val (.int (0 : Int32)), .val (.int (4 : Int32)), .val (.ref w0), .val (.ref w2), .val (.int (1 : Int32))] []))
      refine own_via (fun _ k => XS.goto X24.here hx rfl (pc0 := 33) (pc' := 50) rfl (hb hby at_33) (by decide) (by decide) k) ?_
      show own_Go p e below s _ _ _ (T24.setTop (mkF m 50 #[.val (.int p0), .val (.int p1), .val (.int (0 : Int32)), .val (.int (4 : Int32)), .val (.ref w0), .val (.ref w2), .val (.int (1 : Int32))] []))
      refine own_via (fun _ k => XS.aload X24.here hx rfl (hb hby at_50) rfl rfl k) ?_
      show own_Go p e below s _ _ _ (T24.setTop (mkF m 52 #[.val (.int p0), .val (.int p1), .val (.int (0 : Int32)), .val (.int (4 : Int32)), .val (.ref w0), .val (.ref w2), .val (.int (1 : Int32))] [(.ref w0)]))
      refine own_via (fun _ k => XS.aload X24.here hx rfl (hb hby at_52) rfl rfl k) ?_
      show own_Go p e below s _ _ _ (T24.setTop (mkF m 54 #[.val (.int p0), .val (.int p1), .val (.int (0 : Int32)), .val (.int (4 : Int32)), .val (.ref w0), .val (.ref w2), .val (.int (1 : Int32))] [(.ref w2), (.ref w0)]))
      obtain ⟨cq25, kq25, q25a, q25b, q25c⟩ := isOf hZ e24 E_w0
      obtain ⟨_, _, ⟨T25, L25, k25, n25⟩, -, X25, ⟨Lc25, hQ25, l25, y25, z25⟩, st25⟩ := X24.virtualBack hx (y := (⟨"com/example/grantfall/grantfall/model/Role", "includes", "(Lcom/example/grantfall/grantfall/model/Role;)Z"⟩ : MethodName)) (z := (⟨"com/example/grantfall/grantfall/model/Role", "includes", "(Lcom/example/grantfall/grantfall/model/Role;)Z"⟩ : MethodName)) hown (mvT hZ (hw _ (List.mem_of_getElem? (i := 10) rfl))) (mvT hZ (hw _ (List.mem_of_getElem? (i := 11) rfl))) (notFace_of_selects (args := #[]) (mvT hZ (hw _ (List.mem_of_getElem? (i := 13) rfl)))) (mvT hZ (hw _ (List.mem_of_getElem? (i := 13) rfl))) (mvT hZ (hw _ (List.mem_of_getElem? (i := 12) rfl))) (by decide) (backOf (W := 0) (rm2_4 l Z a0 hw [] w0 w1 w2 w3 w4 h0 n0 Z0 K0) hZ (hw _ (List.mem_of_getElem? (i := 14) rfl)) (hw _ (List.mem_of_getElem? (i := 6) rfl)) (by decide) (by decide)) q25a q25c (g := (mkF m 54 #[.val (.int p0), .val (.int p1), .val (.int (0 : Int32)), .val (.int (4 : Int32)), .val (.ref w0), .val (.ref w2), .val (.int (1 : Int32))] [(.ref w2), (.ref w0)])) rfl (by rw [hml]; rfl) (Steps.refl _) (argsL := [(.ref w2)]) (rest := []) (lenOf pd1 rfl) rfl (by show 2 * 0 + _ ≤ _; exact Nat.le_of_eq rfl) (hb hby at_54) (fun _ _ => ⟨rfl, e24, (by decide : 0 + 0 ≤ _), (by decide : 0 + 0 ≤ _)⟩)
      dsimp only [Pt.U, Pt.locs, Pt.cells, Pt.slots] at X25 l25 y25 z25 st25 hQ25
      subst l25 y25 z25
      obtain ⟨rfl, e25, hO25⟩ := hQ25
      obtain rfl := hO25
      refine own_tr st25 ?_
      show own_Go p e below s _ _ _ (T25.setTop (mkF m 57 #[.val (.int p0), .val (.int p1), .val (.int (0 : Int32)), .val (.int (4 : Int32)), .val (.ref w0), .val (.ref w2), .val (.int (1 : Int32))] [(.int (1 : Int32))]))
      refine own_via (fun _ k => XS.iload X25.here hx rfl (hb hby at_57) rfl k) ?_
      show own_Go p e below s _ _ _ (T25.setTop (mkF m 59 #[.val (.int p0), .val (.int p1), .val (.int (0 : Int32)), .val (.int (4 : Int32)), .val (.ref w0), .val (.ref w2), .val (.int (1 : Int32))] [(.int (1 : Int32)), (.int (1 : Int32))]))
      refine own_via (fun _ k => XS.icmpNo X25.here hx rfl (hb hby at_59) rfl (teq (by decide : (1 : Int32) = (1 : Int32))).2 k) ?_
      show own_Go p e below s _ _ _ (T25.setTop (mkF m 62 #[.val (.int p0), .val (.int p1), .val (.int (0 : Int32)), .val (.int (4 : Int32)), .val (.ref w0), .val (.ref w2), .val (.int (1 : Int32))] []))
      refine own_via (fun _ k => XS.iconst X25.here hx rfl (hb hby at_62) k) ?_
      show own_Go p e below s _ _ _ (T25.setTop (mkF m 63 #[.val (.int p0), .val (.int p1), .val (.int (0 : Int32)), .val (.int (4 : Int32)), .val (.ref w0), .val (.ref w2), .val (.int (1 : Int32))] [(.int (1 : Int32))]))
      refine own_via (fun _ k => XS.goto X25.here hx rfl (pc0 := 63) (pc' := 67) rfl (hb hby at_63) (by decide) (by decide) k) ?_
      show own_Go p e below s _ _ _ (T25.setTop (mkF m 67 #[.val (.int p0), .val (.int p1), .val (.int (0 : Int32)), .val (.int (4 : Int32)), .val (.ref w0), .val (.ref w2), .val (.int (1 : Int32))] [(.int (1 : Int32))]))
      exact own_retZ X25 hx hlk (t := .boolean) Bd.returns (by simp) (hb hby at_67) (z' := (1 : Int32)) (by first | rfl | decide) ⟨rfl, (Fr.nil n0)⟩ (by decide) (by decide)
  · rw [hk2]
    show own_Go p e below s _ _ _ (s₁.setTop (mkF m 6 #[.val (.int p0), .val (.int p1), .unset, .unset, .unset, .unset, .unset] [(.int (1 : Int32))]))
    refine own_via (fun _ k => XS.istoreN X0.here hx rfl (hb hby at_6) rfl (l' := #[.val (.int p0), .val (.int p1), .val (.int (1 : Int32)), .unset, .unset, .unset, .unset]) rfl k) ?_
    show own_Go p e below s _ _ _ (s₁.setTop (mkF m 7 #[.val (.int p0), .val (.int p1), .val (.int (1 : Int32)), .unset, .unset, .unset, .unset] []))
    refine own_via (fun _ k => XS.iloadN X0.here hx rfl (hb hby at_7) rfl k) ?_
    show own_Go p e below s _ _ _ (s₁.setTop (mkF m 8 #[.val (.int p0), .val (.int p1), .val (.int (1 : Int32)), .unset, .unset, .unset, .unset] [(.int p1)]))
    refine own_via (fun _ k => X0.ldcInt hx hown (mvT hZ (hw _ (List.mem_of_getElem? (i := 0) rfl))) (g := (mkF m 8 #[.val (.int p0), .val (.int p1), .val (.int (1 : Int32)), .unset, .unset, .unset, .unset] [(.int p1)])) rfl (hb hby at_8) _ k) ?_
    show own_Go p e below s _ _ _ (s₁.setTop (mkF m 10 #[.val (.int p0), .val (.int p1), .val (.int (1 : Int32)), .unset, .unset, .unset, .unset] [(.int (2147483647 : Int32)), (.int p1)]))
    refine own_via (fun _ k => XS.iand X0.here hx rfl (hb hby at_10) rfl k) ?_
    show own_Go p e below s _ _ _ (s₁.setTop (mkF m 11 #[.val (.int p0), .val (.int p1), .val (.int (1 : Int32)), .unset, .unset, .unset, .unset] [(.int (p1 &&& (2147483647 : Int32)))]))
    refine own_via (fun _ k => XS.iconst X0.here hx rfl (hb hby at_11) k) ?_
    show own_Go p e below s _ _ _ (s₁.setTop (mkF m 12 #[.val (.int p0), .val (.int p1), .val (.int (1 : Int32)), .unset, .unset, .unset, .unset] [(.int (5 : Int32)), (.int (p1 &&& (2147483647 : Int32)))]))
    refine own_via (fun _ k => iremM X0 hx rfl (hb hby at_12) rfl (by decide : ¬ ((5 : Int32) = (0 : Int32))) k) ?_
    rcases (own_mod5 _ : ((p1 &&& (2147483647 : Int32)) % (5 : Int32)) = (0 : Int32) ∨ ((p1 &&& (2147483647 : Int32)) % (5 : Int32)) = (1 : Int32) ∨ ((p1 &&& (2147483647 : Int32)) % (5 : Int32)) = (2 : Int32) ∨ ((p1 &&& (2147483647 : Int32)) % (5 : Int32)) = (3 : Int32) ∨ ((p1 &&& (2147483647 : Int32)) % (5 : Int32)) = (4 : Int32)) with hk26 | hk27 | hk28 | hk29 | hk30
    · rw [hk26]
      show own_Go p e below s _ _ _ (s₁.setTop (mkF m 13 #[.val (.int p0), .val (.int p1), .val (.int (1 : Int32)), .unset, .unset, .unset, .unset] [(.int (0 : Int32))]))
      refine own_via (fun _ k => XS.istoreN X0.here hx rfl (hb hby at_13) rfl (l' := #[.val (.int p0), .val (.int p1), .val (.int (1 : Int32)), .val (.int (0 : Int32)), .unset, .unset, .unset]) rfl k) ?_
      show own_Go p e below s _ _ _ (s₁.setTop (mkF m 14 #[.val (.int p0), .val (.int p1), .val (.int (1 : Int32)), .val (.int (0 : Int32)), .unset, .unset, .unset] []))
      refine own_via (fun _ k => XS.iloadN X0.here hx rfl (hb hby at_14) rfl k) ?_
      show own_Go p e below s _ _ _ (s₁.setTop (mkF m 15 #[.val (.int p0), .val (.int p1), .val (.int (1 : Int32)), .val (.int (0 : Int32)), .unset, .unset, .unset] [(.int (1 : Int32))]))
      obtain ⟨_, _, ⟨T31, L31, k31, n31⟩, -, X31, ⟨Lc31, hQ31, l31, y31, z31⟩, st31⟩ := Jvm.LawKit.callS X0 hx (y := (⟨"com/example/grantfall/grantfall/model/RoleIncludesPinLaw", "pick", "(I)Lcom/example/grantfall/grantfall/model/Role;"⟩ : MethodName)) hown (mvT hZ (hw _ (List.mem_of_getElem? (i := 1) rfl))) (mvT hZ (hw _ (List.mem_of_getElem? (i := 2) rfl))) (mvT hZ (hw _ (List.mem_of_getElem? (i := 3) rfl))) (mvT hZ (hw _ (List.mem_of_getElem? (i := 4) rfl))) (by decide) (backOf (W := 0) (rm1_1 l Z a0 hw [] w0 w1 w2 w3 w4 h0 n0 Z0 K0) hZ (hw _ (List.mem_of_getElem? (i := 4) rfl)) (hw _ (List.mem_of_getElem? (i := 3) rfl)) (by decide) (by decide)) (g := (mkF m 15 #[.val (.int p0), .val (.int p1), .val (.int (1 : Int32)), .val (.int (0 : Int32)), .unset, .unset, .unset] [(.int (1 : Int32))])) rfl (by rw [hml]; rfl) (argsL := [(.int (1 : Int32))]) (rest := []) (lenOf pd0 rfl) rfl (by show 2 * 0 + _ ≤ _; exact Nat.le_of_eq rfl) (hb hby at_15) (fun _ _ => ⟨rfl, e0, (by decide : 0 + 0 ≤ _), (by decide : 0 + 0 ≤ _)⟩)
      dsimp only [Pt.U, Pt.locs, Pt.cells, Pt.slots] at X31 l31 y31 z31 st31 hQ31
      subst l31 y31 z31
      obtain ⟨rfl, e31, hO31⟩ := hQ31
      obtain rfl := hO31
      refine own_via st31 ?_
      show own_Go p e below s _ _ _ (T31.setTop (mkF m 18 #[.val (.int p0), .val (.int p1), .val (.int (1 : Int32)), .val (.int (0 : Int32)), .unset, .unset, .unset] [(.ref w3)]))
      refine own_via (fun _ k => XS.astore X31.here hx rfl (hb hby at_18) rfl rfl (l' := #[.val (.int p0), .val (.int p1), .val (.int (1 : Int32)), .val (.int (0 : Int32)), .val (.ref w3), .unset, .unset]) rfl k) ?_
      show own_Go p e below s _ _ _ (T31.setTop (mkF m 20 #[.val (.int p0), .val (.int p1), .val (.int (1 : Int32)), .val (.int (0 : Int32)), .val (.ref w3), .unset, .unset] []))
      refine own_via (fun _ k => XS.iloadN X31.here hx rfl (hb hby at_20) rfl k) ?_
      show own_Go p e below s _ _ _ (T31.setTop (mkF m 21 #[.val (.int p0), .val (.int p1), .val (.int (1 : Int32)), .val (.int (0 : Int32)), .val (.ref w3), .unset, .unset] [(.int (0 : Int32))]))
      obtain ⟨_, _, ⟨T32, L32, k32, n32⟩, -, X32, ⟨Lc32, hQ32, l32, y32, z32⟩, st32⟩ := Jvm.LawKit.callS X31 hx (y := (⟨"com/example/grantfall/grantfall/model/RoleIncludesPinLaw", "pick", "(I)Lcom/example/grantfall/grantfall/model/Role;"⟩ : MethodName)) hown (mvT hZ (hw _ (List.mem_of_getElem? (i := 1) rfl))) (mvT hZ (hw _ (List.mem_of_getElem? (i := 2) rfl))) (mvT hZ (hw _ (List.mem_of_getElem? (i := 3) rfl))) (mvT hZ (hw _ (List.mem_of_getElem? (i := 4) rfl))) (by decide) (backOf (W := 0) (rm1_0 l Z a0 hw [] w0 w1 w2 w3 w4 h0 n0 Z0 K0) hZ (hw _ (List.mem_of_getElem? (i := 4) rfl)) (hw _ (List.mem_of_getElem? (i := 3) rfl)) (by decide) (by decide)) (g := (mkF m 21 #[.val (.int p0), .val (.int p1), .val (.int (1 : Int32)), .val (.int (0 : Int32)), .val (.ref w3), .unset, .unset] [(.int (0 : Int32))])) rfl (by rw [hml]; rfl) (argsL := [(.int (0 : Int32))]) (rest := []) (lenOf pd0 rfl) rfl (by show 2 * 0 + _ ≤ _; exact Nat.le_of_eq rfl) (hb hby at_21) (fun _ _ => ⟨rfl, e31, (by decide : 0 + 0 ≤ _), (by decide : 0 + 0 ≤ _)⟩)
      dsimp only [Pt.U, Pt.locs, Pt.cells, Pt.slots] at X32 l32 y32 z32 st32 hQ32
      subst l32 y32 z32
      obtain ⟨rfl, e32, hO32⟩ := hQ32
      obtain rfl := hO32
      refine own_via st32 ?_
      show own_Go p e below s _ _ _ (T32.setTop (mkF m 24 #[.val (.int p0), .val (.int p1), .val (.int (1 : Int32)), .val (.int (0 : Int32)), .val (.ref w3), .unset, .unset] [(.ref w0)]))
      refine own_via (fun _ k => XS.astore X32.here hx rfl (hb hby at_24) rfl rfl (l' := #[.val (.int p0), .val (.int p1), .val (.int (1 : Int32)), .val (.int (0 : Int32)), .val (.ref w3), .val (.ref w0), .unset]) rfl k) ?_
      show own_Go p e below s _ _ _ (T32.setTop (mkF m 26 #[.val (.int p0), .val (.int p1), .val (.int (1 : Int32)), .val (.int (0 : Int32)), .val (.ref w3), .val (.ref w0), .unset] []))
      refine own_via (fun _ k => XS.iloadN X32.here hx rfl (hb hby at_26) rfl k) ?_
      show own_Go p e below s _ _ _ (T32.setTop (mkF m 27 #[.val (.int p0), .val (.int p1), .val (.int (1 : Int32)), .val (.int (0 : Int32)), .val (.ref w3), .val (.ref w0), .unset] [(.int (1 : Int32))]))
      refine own_via (fun _ k => XS.ifYes X32.here hx rfl (pc0 := 27) (pc' := 36) rfl (hb hby at_27) rfl ((if0 _ _).trans (feq (by decide : ¬ ((1 : Int32) = (0 : Int32)))).2) (by decide) (by decide) k) ?_
      show own_Go p e below s _ _ _ (T32.setTop (mkF m 36 #[.val (.int p0), .val (.int p1), .val (.int (1 : Int32)), .val (.int (0 : Int32)), .val (.ref w3), .val (.ref w0), .unset] []))
      refine own_via (fun _ k => XS.iloadN X32.here hx rfl (hb hby at_36) rfl k) ?_
      show own_Go p e below s _ _ _ (T32.setTop (mkF m 37 #[.val (.int p0), .val (.int p1), .val (.int (1 : Int32)), .val (.int (0 : Int32)), .val (.ref w3), .val (.ref w0), .unset] [(.int (1 : Int32))]))
      refine own_via (fun _ k => XS.iloadN X32.here hx rfl (hb hby at_37) rfl k) ?_
      show own_Go p e below s _ _ _ (T32.setTop (mkF m 38 #[.val (.int p0), .val (.int p1), .val (.int (1 : Int32)), .val (.int (0 : Int32)), .val (.ref w3), .val (.ref w0), .unset] [(.int (0 : Int32)), (.int (1 : Int32))]))
      refine own_via (fun _ k => XS.icmpYes X32.here hx rfl (pc0 := 38) (pc' := 47) rfl (hb hby at_38) rfl (feq (by decide : ¬ ((1 : Int32) = (0 : Int32)))).2 (by decide) (by decide) k) ?_
      show own_Go p e below s _ _ _ (T32.setTop (mkF m 47 #[.val (.int p0), .val (.int p1), .val (.int (1 : Int32)), .val (.int (0 : Int32)), .val (.ref w3), .val (.ref w0), .unset] []))
      refine own_via (fun _ k => XS.iconst X32.here hx rfl (hb hby at_47) k) ?_
      show own_Go p e below s _ _ _ (T32.setTop (mkF m 48 #[.val (.int p0), .val (.int p1), .val (.int (1 : Int32)), .val (.int (0 : Int32)), .val (.ref w3), .val (.ref w0), .unset] [(.int (0 : Int32))]))
      refine own_via (fun _ k => XS.istore X32.here hx rfl (hb hby at_48) rfl (l' := #[.val (.int p0), .val (.int p1), .val (.int (1 : Int32)), .val (.int (0 : Int32)), .val (.ref w3), .val (.ref w0), .val (.int (0 : Int32))]) rfl k) ?_
      show own_Go p e below s _ _ _ (T32.setTop (mkF m 50 #[.val (.int p0), .val (.int p1), .val (.int (1 : Int32)), .val (.int (0 : Int32)), .val (.ref w3), .val (.ref w0), .val (.int (0 : Int32))] []))
      refine own_via (fun _ k => XS.aload X32.here hx rfl (hb hby at_50) rfl rfl k) ?_
      show own_Go p e below s _ _ _ (T32.setTop (mkF m 52 #[.val (.int p0), .val (.int p1), .val (.int (1 : Int32)), .val (.int (0 : Int32)), .val (.ref w3), .val (.ref w0), .val (.int (0 : Int32))] [(.ref w3)]))
      refine own_via (fun _ k => XS.aload X32.here hx rfl (hb hby at_52) rfl rfl k) ?_
      show own_Go p e below s _ _ _ (T32.setTop (mkF m 54 #[.val (.int p0), .val (.int p1), .val (.int (1 : Int32)), .val (.int (0 : Int32)), .val (.ref w3), .val (.ref w0), .val (.int (0 : Int32))] [(.ref w0), (.ref w3)]))
      obtain ⟨cq33, kq33, q33a, q33b, q33c⟩ := isOf hZ e32 E_w3
      obtain ⟨_, _, ⟨T33, L33, k33, n33⟩, -, X33, ⟨Lc33, hQ33, l33, y33, z33⟩, st33⟩ := X32.virtualBack hx (y := (⟨"com/example/grantfall/grantfall/model/Role", "includes", "(Lcom/example/grantfall/grantfall/model/Role;)Z"⟩ : MethodName)) (z := (⟨"com/example/grantfall/grantfall/model/Role", "includes", "(Lcom/example/grantfall/grantfall/model/Role;)Z"⟩ : MethodName)) hown (mvT hZ (hw _ (List.mem_of_getElem? (i := 10) rfl))) (mvT hZ (hw _ (List.mem_of_getElem? (i := 11) rfl))) (notFace_of_selects (args := #[]) (mvT hZ (hw _ (List.mem_of_getElem? (i := 13) rfl)))) (mvT hZ (hw _ (List.mem_of_getElem? (i := 13) rfl))) (mvT hZ (hw _ (List.mem_of_getElem? (i := 12) rfl))) (by decide) (backOf (W := 0) (rm2_5 l Z a0 hw [] w0 w1 w2 w3 w4 h0 n0 Z0 K0) hZ (hw _ (List.mem_of_getElem? (i := 14) rfl)) (hw _ (List.mem_of_getElem? (i := 6) rfl)) (by decide) (by decide)) q33a q33c (g := (mkF m 54 #[.val (.int p0), .val (.int p1), .val (.int (1 : Int32)), .val (.int (0 : Int32)), .val (.ref w3), .val (.ref w0), .val (.int (0 : Int32))] [(.ref w0), (.ref w3)])) rfl (by rw [hml]; rfl) (Steps.refl _) (argsL := [(.ref w0)]) (rest := []) (lenOf pd1 rfl) rfl (by show 2 * 0 + _ ≤ _; exact Nat.le_of_eq rfl) (hb hby at_54) (fun _ _ => ⟨rfl, e32, (by decide : 0 + 0 ≤ _), (by decide : 0 + 0 ≤ _)⟩)
      dsimp only [Pt.U, Pt.locs, Pt.cells, Pt.slots] at X33 l33 y33 z33 st33 hQ33
      subst l33 y33 z33
      obtain ⟨rfl, e33, hO33⟩ := hQ33
      obtain rfl := hO33
      refine own_tr st33 ?_
      show own_Go p e below s _ _ _ (T33.setTop (mkF m 57 #[.val (.int p0), .val (.int p1), .val (.int (1 : Int32)), .val (.int (0 : Int32)), .val (.ref w3), .val (.ref w0), .val (.int (0 : Int32))] [(.int (0 : Int32))]))
      refine own_via (fun _ k => XS.iload X33.here hx rfl (hb hby at_57) rfl k) ?_
      show own_Go p e below s _ _ _ (T33.setTop (mkF m 59 #[.val (.int p0), .val (.int p1), .val (.int (1 : Int32)), .val (.int (0 : Int32)), .val (.ref w3), .val (.ref w0), .val (.int (0 : Int32))] [(.int (0 : Int32)), (.int (0 : Int32))]))
      refine own_via (fun _ k => XS.icmpNo X33.here hx rfl (hb hby at_59) rfl (teq (by decide : (0 : Int32) = (0 : Int32))).2 k) ?_
      show own_Go p e below s _ _ _ (T33.setTop (mkF m 62 #[.val (.int p0), .val (.int p1), .val (.int (1 : Int32)), .val (.int (0 : Int32)), .val (.ref w3), .val (.ref w0), .val (.int (0 : Int32))] []))
      refine own_via (fun _ k => XS.iconst X33.here hx rfl (hb hby at_62) k) ?_
      show own_Go p e below s _ _ _ (T33.setTop (mkF m 63 #[.val (.int p0), .val (.int p1), .val (.int (1 : Int32)), .val (.int (0 : Int32)), .val (.ref w3), .val (.ref w0), .val (.int (0 : Int32))] [(.int (1 : Int32))]))
      refine own_via (fun _ k => XS.goto X33.here hx rfl (pc0 := 63) (pc' := 67) rfl (hb hby at_63) (by decide) (by decide) k) ?_
      show own_Go p e below s _ _ _ (T33.setTop (mkF m 67 #[.val (.int p0), .val (.int p1), .val (.int (1 : Int32)), .val (.int (0 : Int32)), .val (.ref w3), .val (.ref w0), .val (.int (0 : Int32))] [(.int (1 : Int32))]))
      exact own_retZ X33 hx hlk (t := .boolean) Bd.returns (by simp) (hb hby at_67) (z' := (1 : Int32)) (by first | rfl | decide) ⟨rfl, (Fr.nil n0)⟩ (by decide) (by decide)
    · rw [hk27]
      show own_Go p e below s _ _ _ (s₁.setTop (mkF m 13 #[.val (.int p0), .val (.int p1), .val (.int (1 : Int32)), .unset, .unset, .unset, .unset] [(.int (1 : Int32))]))
      refine own_via (fun _ k => XS.istoreN X0.here hx rfl (hb hby at_13) rfl (l' := #[.val (.int p0), .val (.int p1), .val (.int (1 : Int32)), .val (.int (1 : Int32)), .unset, .unset, .unset]) rfl k) ?_
      show own_Go p e below s _ _ _ (s₁.setTop (mkF m 14 #[.val (.int p0), .val (.int p1), .val (.int (1 : Int32)), .val (.int (1 : Int32)), .unset, .unset, .unset] []))
      refine own_via (fun _ k => XS.iloadN X0.here hx rfl (hb hby at_14) rfl k) ?_
      show own_Go p e below s _ _ _ (s₁.setTop (mkF m 15 #[.val (.int p0), .val (.int p1), .val (.int (1 : Int32)), .val (.int (1 : Int32)), .unset, .unset, .unset] [(.int (1 : Int32))]))
      obtain ⟨_, _, ⟨T34, L34, k34, n34⟩, -, X34, ⟨Lc34, hQ34, l34, y34, z34⟩, st34⟩ := Jvm.LawKit.callS X0 hx (y := (⟨"com/example/grantfall/grantfall/model/RoleIncludesPinLaw", "pick", "(I)Lcom/example/grantfall/grantfall/model/Role;"⟩ : MethodName)) hown (mvT hZ (hw _ (List.mem_of_getElem? (i := 1) rfl))) (mvT hZ (hw _ (List.mem_of_getElem? (i := 2) rfl))) (mvT hZ (hw _ (List.mem_of_getElem? (i := 3) rfl))) (mvT hZ (hw _ (List.mem_of_getElem? (i := 4) rfl))) (by decide) (backOf (W := 0) (rm1_1 l Z a0 hw [] w0 w1 w2 w3 w4 h0 n0 Z0 K0) hZ (hw _ (List.mem_of_getElem? (i := 4) rfl)) (hw _ (List.mem_of_getElem? (i := 3) rfl)) (by decide) (by decide)) (g := (mkF m 15 #[.val (.int p0), .val (.int p1), .val (.int (1 : Int32)), .val (.int (1 : Int32)), .unset, .unset, .unset] [(.int (1 : Int32))])) rfl (by rw [hml]; rfl) (argsL := [(.int (1 : Int32))]) (rest := []) (lenOf pd0 rfl) rfl (by show 2 * 0 + _ ≤ _; exact Nat.le_of_eq rfl) (hb hby at_15) (fun _ _ => ⟨rfl, e0, (by decide : 0 + 0 ≤ _), (by decide : 0 + 0 ≤ _)⟩)
      dsimp only [Pt.U, Pt.locs, Pt.cells, Pt.slots] at X34 l34 y34 z34 st34 hQ34
      subst l34 y34 z34
      obtain ⟨rfl, e34, hO34⟩ := hQ34
      obtain rfl := hO34
      refine own_via st34 ?_
      show own_Go p e below s _ _ _ (T34.setTop (mkF m 18 #[.val (.int p0), .val (.int p1), .val (.int (1 : Int32)), .val (.int (1 : Int32)), .unset, .unset, .unset] [(.ref w3)]))
      refine own_via (fun _ k => XS.astore X34.here hx rfl (hb hby at_18) rfl rfl (l' := #[.val (.int p0), .val (.int p1), .val (.int (1 : Int32)), .val (.int (1 : Int32)), .val (.ref w3), .unset, .unset]) rfl k) ?_
      show own_Go p e below s _ _ _ (T34.setTop (mkF m 20 #[.val (.int p0), .val (.int p1), .val (.int (1 : Int32)), .val (.int (1 : Int32)), .val (.ref w3), .unset, .unset] []))
      refine own_via (fun _ k => XS.iloadN X34.here hx rfl (hb hby at_20) rfl k) ?_
      show own_Go p e below s _ _ _ (T34.setTop (mkF m 21 #[.val (.int p0), .val (.int p1), .val (.int (1 : Int32)), .val (.int (1 : Int32)), .val (.ref w3), .unset, .unset] [(.int (1 : Int32))]))
      obtain ⟨_, _, ⟨T35, L35, k35, n35⟩, -, X35, ⟨Lc35, hQ35, l35, y35, z35⟩, st35⟩ := Jvm.LawKit.callS X34 hx (y := (⟨"com/example/grantfall/grantfall/model/RoleIncludesPinLaw", "pick", "(I)Lcom/example/grantfall/grantfall/model/Role;"⟩ : MethodName)) hown (mvT hZ (hw _ (List.mem_of_getElem? (i := 1) rfl))) (mvT hZ (hw _ (List.mem_of_getElem? (i := 2) rfl))) (mvT hZ (hw _ (List.mem_of_getElem? (i := 3) rfl))) (mvT hZ (hw _ (List.mem_of_getElem? (i := 4) rfl))) (by decide) (backOf (W := 0) (rm1_1 l Z a0 hw [] w0 w1 w2 w3 w4 h0 n0 Z0 K0) hZ (hw _ (List.mem_of_getElem? (i := 4) rfl)) (hw _ (List.mem_of_getElem? (i := 3) rfl)) (by decide) (by decide)) (g := (mkF m 21 #[.val (.int p0), .val (.int p1), .val (.int (1 : Int32)), .val (.int (1 : Int32)), .val (.ref w3), .unset, .unset] [(.int (1 : Int32))])) rfl (by rw [hml]; rfl) (argsL := [(.int (1 : Int32))]) (rest := []) (lenOf pd0 rfl) rfl (by show 2 * 0 + _ ≤ _; exact Nat.le_of_eq rfl) (hb hby at_21) (fun _ _ => ⟨rfl, e34, (by decide : 0 + 0 ≤ _), (by decide : 0 + 0 ≤ _)⟩)
      dsimp only [Pt.U, Pt.locs, Pt.cells, Pt.slots] at X35 l35 y35 z35 st35 hQ35
      subst l35 y35 z35
      obtain ⟨rfl, e35, hO35⟩ := hQ35
      obtain rfl := hO35
      refine own_via st35 ?_
      show own_Go p e below s _ _ _ (T35.setTop (mkF m 24 #[.val (.int p0), .val (.int p1), .val (.int (1 : Int32)), .val (.int (1 : Int32)), .val (.ref w3), .unset, .unset] [(.ref w3)]))
      refine own_via (fun _ k => XS.astore X35.here hx rfl (hb hby at_24) rfl rfl (l' := #[.val (.int p0), .val (.int p1), .val (.int (1 : Int32)), .val (.int (1 : Int32)), .val (.ref w3), .val (.ref w3), .unset]) rfl k) ?_
      show own_Go p e below s _ _ _ (T35.setTop (mkF m 26 #[.val (.int p0), .val (.int p1), .val (.int (1 : Int32)), .val (.int (1 : Int32)), .val (.ref w3), .val (.ref w3), .unset] []))
      refine own_via (fun _ k => XS.iloadN X35.here hx rfl (hb hby at_26) rfl k) ?_
      show own_Go p e below s _ _ _ (T35.setTop (mkF m 27 #[.val (.int p0), .val (.int p1), .val (.int (1 : Int32)), .val (.int (1 : Int32)), .val (.ref w3), .val (.ref w3), .unset] [(.int (1 : Int32))]))
      refine own_via (fun _ k => XS.ifYes X35.here hx rfl (pc0 := 27) (pc' := 36) rfl (hb hby at_27) rfl ((if0 _ _).trans (feq (by decide : ¬ ((1 : Int32) = (0 : Int32)))).2) (by decide) (by decide) k) ?_
      show own_Go p e below s _ _ _ (T35.setTop (mkF m 36 #[.val (.int p0), .val (.int p1), .val (.int (1 : Int32)), .val (.int (1 : Int32)), .val (.ref w3), .val (.ref w3), .unset] []))
      refine own_via (fun _ k => XS.iloadN X35.here hx rfl (hb hby at_36) rfl k) ?_
      show own_Go p e below s _ _ _ (T35.setTop (mkF m 37 #[.val (.int p0), .val (.int p1), .val (.int (1 : Int32)), .val (.int (1 : Int32)), .val (.ref w3), .val (.ref w3), .unset] [(.int (1 : Int32))]))
      refine own_via (fun _ k => XS.iloadN X35.here hx rfl (hb hby at_37) rfl k) ?_
      show own_Go p e below s _ _ _ (T35.setTop (mkF m 38 #[.val (.int p0), .val (.int p1), .val (.int (1 : Int32)), .val (.int (1 : Int32)), .val (.ref w3), .val (.ref w3), .unset] [(.int (1 : Int32)), (.int (1 : Int32))]))
      refine own_via (fun _ k => XS.icmpNo X35.here hx rfl (hb hby at_38) rfl (teq (by decide : (1 : Int32) = (1 : Int32))).2 k) ?_
      show own_Go p e below s _ _ _ (T35.setTop (mkF m 41 #[.val (.int p0), .val (.int p1), .val (.int (1 : Int32)), .val (.int (1 : Int32)), .val (.ref w3), .val (.ref w3), .unset] []))
      refine own_via (fun _ k => XS.iconst X35.here hx rfl (hb hby at_41) k) ?_
      show own_Go p e below s _ _ _ (T35.setTop (mkF m 42 #[.val (.int p0), .val (.int p1), .val (.int (1 : Int32)), .val (.int (1 : Int32)), .val (.ref w3), .val (.ref w3), .unset] [(.int (1 : Int32))]))
      refine own_via (fun _ k => XS.istore X35.here hx rfl (hb hby at_42) rfl (l' := #[.val (.int p0), .val (.int p1), .val (.int (1 : Int32)), .val (.int (1 : Int32)), .val (.ref w3), .val (.ref w3), .val (.int (1 : Int32))]) rfl k) ?_
      show own_Go p e below s _ _ _ (T35.setTop (mkF m 44 #[.val (.int p0), .val (.int p1), .val (.int (1 : Int32)), .val (.int (1 : Int32)), .val (.ref w3), .val (.ref w3), .val (.int (1 : Int32))] []))
      refine own_via (fun _ k => XS.goto X35.here hx rfl (pc0 := 44) (pc' := 50) rfl (hb hby at_44) (by decide) (by decide) k) ?_
      show own_Go p e below s _ _ _ (T35.setTop (mkF m 50 #[.val (.int p0), .val (.int p1), .val (.int (1 : Int32)), .val (.int (1 : Int32)), .val (.ref w3), .val (.ref w3), .val (.int (1 : Int32))] []))
      refine own_via (fun _ k => XS.aload X35.here hx rfl (hb hby at_50) rfl rfl k) ?_
      show own_Go p e below s _ _ _ (T35.setTop (mkF m 52 #[.val (.int p0), .val (.int p1), .val (.int (1 : Int32)), .val (.int (1 : Int32)), .val (.ref w3), .val (.ref w3), .val (.int (1 : Int32))] [(.ref w3)]))
      refine own_via (fun _ k => XS.aload X35.here hx rfl (hb hby at_52) rfl rfl k) ?_
      show own_Go p e below s _ _ _ (T35.setTop (mkF m 54 #[.val (.int p0), .val (.int p1), .val (.int (1 : Int32)), .val (.int (1 : Int32)), .val (.ref w3), .val (.ref w3), .val (.int (1 : Int32))] [(.ref w3), (.ref w3)]))
      obtain ⟨cq36, kq36, q36a, q36b, q36c⟩ := isOf hZ e35 E_w3
      obtain ⟨_, _, ⟨T36, L36, k36, n36⟩, -, X36, ⟨Lc36, hQ36, l36, y36, z36⟩, st36⟩ := X35.virtualBack hx (y := (⟨"com/example/grantfall/grantfall/model/Role", "includes", "(Lcom/example/grantfall/grantfall/model/Role;)Z"⟩ : MethodName)) (z := (⟨"com/example/grantfall/grantfall/model/Role", "includes", "(Lcom/example/grantfall/grantfall/model/Role;)Z"⟩ : MethodName)) hown (mvT hZ (hw _ (List.mem_of_getElem? (i := 10) rfl))) (mvT hZ (hw _ (List.mem_of_getElem? (i := 11) rfl))) (notFace_of_selects (args := #[]) (mvT hZ (hw _ (List.mem_of_getElem? (i := 13) rfl)))) (mvT hZ (hw _ (List.mem_of_getElem? (i := 13) rfl))) (mvT hZ (hw _ (List.mem_of_getElem? (i := 12) rfl))) (by decide) (backOf (W := 0) (rm2_6 l Z a0 hw [] w0 w1 w2 w3 w4 h0 n0 Z0 K0) hZ (hw _ (List.mem_of_getElem? (i := 14) rfl)) (hw _ (List.mem_of_getElem? (i := 6) rfl)) (by decide) (by decide)) q36a q36c (g := (mkF m 54 #[.val (.int p0), .val (.int p1), .val (.int (1 : Int32)), .val (.int (1 : Int32)), .val (.ref w3), .val (.ref w3), .val (.int (1 : Int32))] [(.ref w3), (.ref w3)])) rfl (by rw [hml]; rfl) (Steps.refl _) (argsL := [(.ref w3)]) (rest := []) (lenOf pd1 rfl) rfl (by show 2 * 0 + _ ≤ _; exact Nat.le_of_eq rfl) (hb hby at_54) (fun _ _ => ⟨rfl, e35, (by decide : 0 + 0 ≤ _), (by decide : 0 + 0 ≤ _)⟩)
      dsimp only [Pt.U, Pt.locs, Pt.cells, Pt.slots] at X36 l36 y36 z36 st36 hQ36
      subst l36 y36 z36
      obtain ⟨rfl, e36, hO36⟩ := hQ36
      obtain rfl := hO36
      refine own_tr st36 ?_
      show own_Go p e below s _ _ _ (T36.setTop (mkF m 57 #[.val (.int p0), .val (.int p1), .val (.int (1 : Int32)), .val (.int (1 : Int32)), .val (.ref w3), .val (.ref w3), .val (.int (1 : Int32))] [(.int (1 : Int32))]))
      refine own_via (fun _ k => XS.iload X36.here hx rfl (hb hby at_57) rfl k) ?_
      show own_Go p e below s _ _ _ (T36.setTop (mkF m 59 #[.val (.int p0), .val (.int p1), .val (.int (1 : Int32)), .val (.int (1 : Int32)), .val (.ref w3), .val (.ref w3), .val (.int (1 : Int32))] [(.int (1 : Int32)), (.int (1 : Int32))]))
      refine own_via (fun _ k => XS.icmpNo X36.here hx rfl (hb hby at_59) rfl (teq (by decide : (1 : Int32) = (1 : Int32))).2 k) ?_
      show own_Go p e below s _ _ _ (T36.setTop (mkF m 62 #[.val (.int p0), .val (.int p1), .val (.int (1 : Int32)), .val (.int (1 : Int32)), .val (.ref w3), .val (.ref w3), .val (.int (1 : Int32))] []))
      refine own_via (fun _ k => XS.iconst X36.here hx rfl (hb hby at_62) k) ?_
      show own_Go p e below s _ _ _ (T36.setTop (mkF m 63 #[.val (.int p0), .val (.int p1), .val (.int (1 : Int32)), .val (.int (1 : Int32)), .val (.ref w3), .val (.ref w3), .val (.int (1 : Int32))] [(.int (1 : Int32))]))
      refine own_via (fun _ k => XS.goto X36.here hx rfl (pc0 := 63) (pc' := 67) rfl (hb hby at_63) (by decide) (by decide) k) ?_
      show own_Go p e below s _ _ _ (T36.setTop (mkF m 67 #[.val (.int p0), .val (.int p1), .val (.int (1 : Int32)), .val (.int (1 : Int32)), .val (.ref w3), .val (.ref w3), .val (.int (1 : Int32))] [(.int (1 : Int32))]))
      exact own_retZ X36 hx hlk (t := .boolean) Bd.returns (by simp) (hb hby at_67) (z' := (1 : Int32)) (by first | rfl | decide) ⟨rfl, (Fr.nil n0)⟩ (by decide) (by decide)
    · rw [hk28]
      show own_Go p e below s _ _ _ (s₁.setTop (mkF m 13 #[.val (.int p0), .val (.int p1), .val (.int (1 : Int32)), .unset, .unset, .unset, .unset] [(.int (2 : Int32))]))
      refine own_via (fun _ k => XS.istoreN X0.here hx rfl (hb hby at_13) rfl (l' := #[.val (.int p0), .val (.int p1), .val (.int (1 : Int32)), .val (.int (2 : Int32)), .unset, .unset, .unset]) rfl k) ?_
      show own_Go p e below s _ _ _ (s₁.setTop (mkF m 14 #[.val (.int p0), .val (.int p1), .val (.int (1 : Int32)), .val (.int (2 : Int32)), .unset, .unset, .unset] []))
      refine own_via (fun _ k => XS.iloadN X0.here hx rfl (hb hby at_14) rfl k) ?_
      show own_Go p e below s _ _ _ (s₁.setTop (mkF m 15 #[.val (.int p0), .val (.int p1), .val (.int (1 : Int32)), .val (.int (2 : Int32)), .unset, .unset, .unset] [(.int (1 : Int32))]))
      obtain ⟨_, _, ⟨T37, L37, k37, n37⟩, -, X37, ⟨Lc37, hQ37, l37, y37, z37⟩, st37⟩ := Jvm.LawKit.callS X0 hx (y := (⟨"com/example/grantfall/grantfall/model/RoleIncludesPinLaw", "pick", "(I)Lcom/example/grantfall/grantfall/model/Role;"⟩ : MethodName)) hown (mvT hZ (hw _ (List.mem_of_getElem? (i := 1) rfl))) (mvT hZ (hw _ (List.mem_of_getElem? (i := 2) rfl))) (mvT hZ (hw _ (List.mem_of_getElem? (i := 3) rfl))) (mvT hZ (hw _ (List.mem_of_getElem? (i := 4) rfl))) (by decide) (backOf (W := 0) (rm1_1 l Z a0 hw [] w0 w1 w2 w3 w4 h0 n0 Z0 K0) hZ (hw _ (List.mem_of_getElem? (i := 4) rfl)) (hw _ (List.mem_of_getElem? (i := 3) rfl)) (by decide) (by decide)) (g := (mkF m 15 #[.val (.int p0), .val (.int p1), .val (.int (1 : Int32)), .val (.int (2 : Int32)), .unset, .unset, .unset] [(.int (1 : Int32))])) rfl (by rw [hml]; rfl) (argsL := [(.int (1 : Int32))]) (rest := []) (lenOf pd0 rfl) rfl (by show 2 * 0 + _ ≤ _; exact Nat.le_of_eq rfl) (hb hby at_15) (fun _ _ => ⟨rfl, e0, (by decide : 0 + 0 ≤ _), (by decide : 0 + 0 ≤ _)⟩)
      dsimp only [Pt.U, Pt.locs, Pt.cells, Pt.slots] at X37 l37 y37 z37 st37 hQ37
      subst l37 y37 z37
      obtain ⟨rfl, e37, hO37⟩ := hQ37
      obtain rfl := hO37
      refine own_via st37 ?_
      show own_Go p e below s _ _ _ (T37.setTop (mkF m 18 #[.val (.int p0), .val (.int p1), .val (.int (1 : Int32)), .val (.int (2 : Int32)), .unset, .unset, .unset] [(.ref w3)]))
      refine own_via (fun _ k => XS.astore X37.here hx rfl (hb hby at_18) rfl rfl (l' := #[.val (.int p0), .val (.int p1), .val (.int (1 : Int32)), .val (.int (2 : Int32)), .val (.ref w3), .unset, .unset]) rfl k) ?_
      show own_Go p e below s _ _ _ (T37.setTop (mkF m 20 #[.val (.int p0), .val (.int p1), .val (.int (1 : Int32)), .val (.int (2 : Int32)), .val (.ref w3), .unset, .unset] []))
      refine own_via (fun _ k => XS.iloadN X37.here hx rfl (hb hby at_20) rfl k) ?_
      show own_Go p e below s _ _ _ (T37.setTop (mkF m 21 #[.val (.int p0), .val (.int p1), .val (.int (1 : Int32)), .val (.int (2 : Int32)), .val (.ref w3), .unset, .unset] [(.int (2 : Int32))]))
      obtain ⟨_, _, ⟨T38, L38, k38, n38⟩, -, X38, ⟨Lc38, hQ38, l38, y38, z38⟩, st38⟩ := Jvm.LawKit.callS X37 hx (y := (⟨"com/example/grantfall/grantfall/model/RoleIncludesPinLaw", "pick", "(I)Lcom/example/grantfall/grantfall/model/Role;"⟩ : MethodName)) hown (mvT hZ (hw _ (List.mem_of_getElem? (i := 1) rfl))) (mvT hZ (hw _ (List.mem_of_getElem? (i := 2) rfl))) (mvT hZ (hw _ (List.mem_of_getElem? (i := 3) rfl))) (mvT hZ (hw _ (List.mem_of_getElem? (i := 4) rfl))) (by decide) (backOf (W := 0) (rm1_2 l Z a0 hw [] w0 w1 w2 w3 w4 h0 n0 Z0 K0) hZ (hw _ (List.mem_of_getElem? (i := 4) rfl)) (hw _ (List.mem_of_getElem? (i := 3) rfl)) (by decide) (by decide)) (g := (mkF m 21 #[.val (.int p0), .val (.int p1), .val (.int (1 : Int32)), .val (.int (2 : Int32)), .val (.ref w3), .unset, .unset] [(.int (2 : Int32))])) rfl (by rw [hml]; rfl) (argsL := [(.int (2 : Int32))]) (rest := []) (lenOf pd0 rfl) rfl (by show 2 * 0 + _ ≤ _; exact Nat.le_of_eq rfl) (hb hby at_21) (fun _ _ => ⟨rfl, e37, (by decide : 0 + 0 ≤ _), (by decide : 0 + 0 ≤ _)⟩)
      dsimp only [Pt.U, Pt.locs, Pt.cells, Pt.slots] at X38 l38 y38 z38 st38 hQ38
      subst l38 y38 z38
      obtain ⟨rfl, e38, hO38⟩ := hQ38
      obtain rfl := hO38
      refine own_via st38 ?_
      show own_Go p e below s _ _ _ (T38.setTop (mkF m 24 #[.val (.int p0), .val (.int p1), .val (.int (1 : Int32)), .val (.int (2 : Int32)), .val (.ref w3), .unset, .unset] [(.ref w4)]))
      refine own_via (fun _ k => XS.astore X38.here hx rfl (hb hby at_24) rfl rfl (l' := #[.val (.int p0), .val (.int p1), .val (.int (1 : Int32)), .val (.int (2 : Int32)), .val (.ref w3), .val (.ref w4), .unset]) rfl k) ?_
      show own_Go p e below s _ _ _ (T38.setTop (mkF m 26 #[.val (.int p0), .val (.int p1), .val (.int (1 : Int32)), .val (.int (2 : Int32)), .val (.ref w3), .val (.ref w4), .unset] []))
      refine own_via (fun _ k => XS.iloadN X38.here hx rfl (hb hby at_26) rfl k) ?_
      show own_Go p e below s _ _ _ (T38.setTop (mkF m 27 #[.val (.int p0), .val (.int p1), .val (.int (1 : Int32)), .val (.int (2 : Int32)), .val (.ref w3), .val (.ref w4), .unset] [(.int (1 : Int32))]))
      refine own_via (fun _ k => XS.ifYes X38.here hx rfl (pc0 := 27) (pc' := 36) rfl (hb hby at_27) rfl ((if0 _ _).trans (feq (by decide : ¬ ((1 : Int32) = (0 : Int32)))).2) (by decide) (by decide) k) ?_
      show own_Go p e below s _ _ _ (T38.setTop (mkF m 36 #[.val (.int p0), .val (.int p1), .val (.int (1 : Int32)), .val (.int (2 : Int32)), .val (.ref w3), .val (.ref w4), .unset] []))
      refine own_via (fun _ k => XS.iloadN X38.here hx rfl (hb hby at_36) rfl k) ?_
      show own_Go p e below s _ _ _ (T38.setTop (mkF m 37 #[.val (.int p0), .val (.int p1), .val (.int (1 : Int32)), .val (.int (2 : Int32)), .val (.ref w3), .val (.ref w4), .unset] [(.int (1 : Int32))]))
      refine own_via (fun _ k => XS.iloadN X38.here hx rfl (hb hby at_37) rfl k) ?_
      show own_Go p e below s _ _ _ (T38.setTop (mkF m 38 #[.val (.int p0), .val (.int p1), .val (.int (1 : Int32)), .val (.int (2 : Int32)), .val (.ref w3), .val (.ref w4), .unset] [(.int (2 : Int32)), (.int (1 : Int32))]))
      refine own_via (fun _ k => XS.icmpYes X38.here hx rfl (pc0 := 38) (pc' := 47) rfl (hb hby at_38) rfl (feq (by decide : ¬ ((1 : Int32) = (2 : Int32)))).2 (by decide) (by decide) k) ?_
      show own_Go p e below s _ _ _ (T38.setTop (mkF m 47 #[.val (.int p0), .val (.int p1), .val (.int (1 : Int32)), .val (.int (2 : Int32)), .val (.ref w3), .val (.ref w4), .unset] []))
      refine own_via (fun _ k => XS.iconst X38.here hx rfl (hb hby at_47) k) ?_
      show own_Go p e below s _ _ _ (T38.setTop (mkF m 48 #[.val (.int p0), .val (.int p1), .val (.int (1 : Int32)), .val (.int (2 : Int32)), .val (.ref w3), .val (.ref w4), .unset] [(.int (0 : Int32))]))
      refine own_via (fun _ k => XS.istore X38.here hx rfl (hb hby at_48) rfl (l' := #[.val (.int p0), .val (.int p1), .val (.int (1 : Int32)), .val (.int (2 : Int32)), .val (.ref w3), .val (.ref w4), .val (.int (0 : Int32))]) rfl k) ?_
      show own_Go p e below s _ _ _ (T38.setTop (mkF m 50 #[.val (.int p0), .val (.int p1), .val (.int (1 : Int32)), .val (.int (2 : Int32)), .val (.ref w3), .val (.ref w4), .val (.int (0 : Int32))] []))
      refine own_via (fun _ k => XS.aload X38.here hx rfl (hb hby at_50) rfl rfl k) ?_
      show own_Go p e below s _ _ _ (T38.setTop (mkF m 52 #[.val (.int p0), .val (.int p1), .val (.int (1 : Int32)), .val (.int (2 : Int32)), .val (.ref w3), .val (.ref w4), .val (.int (0 : Int32))] [(.ref w3)]))
      refine own_via (fun _ k => XS.aload X38.here hx rfl (hb hby at_52) rfl rfl k) ?_
      show own_Go p e below s _ _ _ (T38.setTop (mkF m 54 #[.val (.int p0), .val (.int p1), .val (.int (1 : Int32)), .val (.int (2 : Int32)), .val (.ref w3), .val (.ref w4), .val (.int (0 : Int32))] [(.ref w4), (.ref w3)]))
      obtain ⟨cq39, kq39, q39a, q39b, q39c⟩ := isOf hZ e38 E_w3
      obtain ⟨_, _, ⟨T39, L39, k39, n39⟩, -, X39, ⟨Lc39, hQ39, l39, y39, z39⟩, st39⟩ := X38.virtualBack hx (y := (⟨"com/example/grantfall/grantfall/model/Role", "includes", "(Lcom/example/grantfall/grantfall/model/Role;)Z"⟩ : MethodName)) (z := (⟨"com/example/grantfall/grantfall/model/Role", "includes", "(Lcom/example/grantfall/grantfall/model/Role;)Z"⟩ : MethodName)) hown (mvT hZ (hw _ (List.mem_of_getElem? (i := 10) rfl))) (mvT hZ (hw _ (List.mem_of_getElem? (i := 11) rfl))) (notFace_of_selects (args := #[]) (mvT hZ (hw _ (List.mem_of_getElem? (i := 13) rfl)))) (mvT hZ (hw _ (List.mem_of_getElem? (i := 13) rfl))) (mvT hZ (hw _ (List.mem_of_getElem? (i := 12) rfl))) (by decide) (backOf (W := 0) (rm2_7 l Z a0 hw [] w0 w1 w2 w3 w4 h0 n0 Z0 K0) hZ (hw _ (List.mem_of_getElem? (i := 14) rfl)) (hw _ (List.mem_of_getElem? (i := 6) rfl)) (by decide) (by decide)) q39a q39c (g := (mkF m 54 #[.val (.int p0), .val (.int p1), .val (.int (1 : Int32)), .val (.int (2 : Int32)), .val (.ref w3), .val (.ref w4), .val (.int (0 : Int32))] [(.ref w4), (.ref w3)])) rfl (by rw [hml]; rfl) (Steps.refl _) (argsL := [(.ref w4)]) (rest := []) (lenOf pd1 rfl) rfl (by show 2 * 0 + _ ≤ _; exact Nat.le_of_eq rfl) (hb hby at_54) (fun _ _ => ⟨rfl, e38, (by decide : 0 + 0 ≤ _), (by decide : 0 + 0 ≤ _)⟩)
      dsimp only [Pt.U, Pt.locs, Pt.cells, Pt.slots] at X39 l39 y39 z39 st39 hQ39
      subst l39 y39 z39
      obtain ⟨rfl, e39, hO39⟩ := hQ39
      obtain rfl := hO39
      refine own_tr st39 ?_
      show own_Go p e below s _ _ _ (T39.setTop (mkF m 57 #[.val (.int p0), .val (.int p1), .val (.int (1 : Int32)), .val (.int (2 : Int32)), .val (.ref w3), .val (.ref w4), .val (.int (0 : Int32))] [(.int (0 : Int32))]))
      refine own_via (fun _ k => XS.iload X39.here hx rfl (hb hby at_57) rfl k) ?_
      show own_Go p e below s _ _ _ (T39.setTop (mkF m 59 #[.val (.int p0), .val (.int p1), .val (.int (1 : Int32)), .val (.int (2 : Int32)), .val (.ref w3), .val (.ref w4), .val (.int (0 : Int32))] [(.int (0 : Int32)), (.int (0 : Int32))]))
      refine own_via (fun _ k => XS.icmpNo X39.here hx rfl (hb hby at_59) rfl (teq (by decide : (0 : Int32) = (0 : Int32))).2 k) ?_
      show own_Go p e below s _ _ _ (T39.setTop (mkF m 62 #[.val (.int p0), .val (.int p1), .val (.int (1 : Int32)), .val (.int (2 : Int32)), .val (.ref w3), .val (.ref w4), .val (.int (0 : Int32))] []))
      refine own_via (fun _ k => XS.iconst X39.here hx rfl (hb hby at_62) k) ?_
      show own_Go p e below s _ _ _ (T39.setTop (mkF m 63 #[.val (.int p0), .val (.int p1), .val (.int (1 : Int32)), .val (.int (2 : Int32)), .val (.ref w3), .val (.ref w4), .val (.int (0 : Int32))] [(.int (1 : Int32))]))
      refine own_via (fun _ k => XS.goto X39.here hx rfl (pc0 := 63) (pc' := 67) rfl (hb hby at_63) (by decide) (by decide) k) ?_
      show own_Go p e below s _ _ _ (T39.setTop (mkF m 67 #[.val (.int p0), .val (.int p1), .val (.int (1 : Int32)), .val (.int (2 : Int32)), .val (.ref w3), .val (.ref w4), .val (.int (0 : Int32))] [(.int (1 : Int32))]))
      exact own_retZ X39 hx hlk (t := .boolean) Bd.returns (by simp) (hb hby at_67) (z' := (1 : Int32)) (by first | rfl | decide) ⟨rfl, (Fr.nil n0)⟩ (by decide) (by decide)
    · rw [hk29]
      show own_Go p e below s _ _ _ (s₁.setTop (mkF m 13 #[.val (.int p0), .val (.int p1), .val (.int (1 : Int32)), .unset, .unset, .unset, .unset] [(.int (3 : Int32))]))
      refine own_via (fun _ k => XS.istoreN X0.here hx rfl (hb hby at_13) rfl (l' := #[.val (.int p0), .val (.int p1), .val (.int (1 : Int32)), .val (.int (3 : Int32)), .unset, .unset, .unset]) rfl k) ?_
      show own_Go p e below s _ _ _ (s₁.setTop (mkF m 14 #[.val (.int p0), .val (.int p1), .val (.int (1 : Int32)), .val (.int (3 : Int32)), .unset, .unset, .unset] []))
      refine own_via (fun _ k => XS.iloadN X0.here hx rfl (hb hby at_14) rfl k) ?_
      show own_Go p e below s _ _ _ (s₁.setTop (mkF m 15 #[.val (.int p0), .val (.int p1), .val (.int (1 : Int32)), .val (.int (3 : Int32)), .unset, .unset, .unset] [(.int (1 : Int32))]))
      obtain ⟨_, _, ⟨T40, L40, k40, n40⟩, -, X40, ⟨Lc40, hQ40, l40, y40, z40⟩, st40⟩ := Jvm.LawKit.callS X0 hx (y := (⟨"com/example/grantfall/grantfall/model/RoleIncludesPinLaw", "pick", "(I)Lcom/example/grantfall/grantfall/model/Role;"⟩ : MethodName)) hown (mvT hZ (hw _ (List.mem_of_getElem? (i := 1) rfl))) (mvT hZ (hw _ (List.mem_of_getElem? (i := 2) rfl))) (mvT hZ (hw _ (List.mem_of_getElem? (i := 3) rfl))) (mvT hZ (hw _ (List.mem_of_getElem? (i := 4) rfl))) (by decide) (backOf (W := 0) (rm1_1 l Z a0 hw [] w0 w1 w2 w3 w4 h0 n0 Z0 K0) hZ (hw _ (List.mem_of_getElem? (i := 4) rfl)) (hw _ (List.mem_of_getElem? (i := 3) rfl)) (by decide) (by decide)) (g := (mkF m 15 #[.val (.int p0), .val (.int p1), .val (.int (1 : Int32)), .val (.int (3 : Int32)), .unset, .unset, .unset] [(.int (1 : Int32))])) rfl (by rw [hml]; rfl) (argsL := [(.int (1 : Int32))]) (rest := []) (lenOf pd0 rfl) rfl (by show 2 * 0 + _ ≤ _; exact Nat.le_of_eq rfl) (hb hby at_15) (fun _ _ => ⟨rfl, e0, (by decide : 0 + 0 ≤ _), (by decide : 0 + 0 ≤ _)⟩)
      dsimp only [Pt.U, Pt.locs, Pt.cells, Pt.slots] at X40 l40 y40 z40 st40 hQ40
      subst l40 y40 z40
      obtain ⟨rfl, e40, hO40⟩ := hQ40
      obtain rfl := hO40
      refine own_via st40 ?_
      show own_Go p e below s _ _ _ (T40.setTop (mkF m 18 #[.val (.int p0), .val (.int p1), .val (.int (1 : Int32)), .val (.int (3 : Int32)), .unset, .unset, .unset] [(.ref w3)]))
      refine own_via (fun _ k => XS.astore X40.here hx rfl (hb hby at_18) rfl rfl (l' := #[.val (.int p0), .val (.int p1), .val (.int (1 : Int32)), .val (.int (3 : Int32)), .val (.ref w3), .unset, .unset]) rfl k) ?_
      show own_Go p e below s _ _ _ (T40.setTop (mkF m 20 #[.val (.int p0), .val (.int p1), .val (.int (1 : Int32)), .val (.int (3 : Int32)), .val (.ref w3), .unset, .unset] []))
      refine own_via (fun _ k => XS.iloadN X40.here hx rfl (hb hby at_20) rfl k) ?_
      show own_Go p e below s _ _ _ (T40.setTop (mkF m 21 #[.val (.int p0), .val (.int p1), .val (.int (1 : Int32)), .val (.int (3 : Int32)), .val (.ref w3), .unset, .unset] [(.int (3 : Int32))]))
      obtain ⟨_, _, ⟨T41, L41, k41, n41⟩, -, X41, ⟨Lc41, hQ41, l41, y41, z41⟩, st41⟩ := Jvm.LawKit.callS X40 hx (y := (⟨"com/example/grantfall/grantfall/model/RoleIncludesPinLaw", "pick", "(I)Lcom/example/grantfall/grantfall/model/Role;"⟩ : MethodName)) hown (mvT hZ (hw _ (List.mem_of_getElem? (i := 1) rfl))) (mvT hZ (hw _ (List.mem_of_getElem? (i := 2) rfl))) (mvT hZ (hw _ (List.mem_of_getElem? (i := 3) rfl))) (mvT hZ (hw _ (List.mem_of_getElem? (i := 4) rfl))) (by decide) (backOf (W := 0) (rm1_3 l Z a0 hw [] w0 w1 w2 w3 w4 h0 n0 Z0 K0) hZ (hw _ (List.mem_of_getElem? (i := 4) rfl)) (hw _ (List.mem_of_getElem? (i := 3) rfl)) (by decide) (by decide)) (g := (mkF m 21 #[.val (.int p0), .val (.int p1), .val (.int (1 : Int32)), .val (.int (3 : Int32)), .val (.ref w3), .unset, .unset] [(.int (3 : Int32))])) rfl (by rw [hml]; rfl) (argsL := [(.int (3 : Int32))]) (rest := []) (lenOf pd0 rfl) rfl (by show 2 * 0 + _ ≤ _; exact Nat.le_of_eq rfl) (hb hby at_21) (fun _ _ => ⟨rfl, e40, (by decide : 0 + 0 ≤ _), (by decide : 0 + 0 ≤ _)⟩)
      dsimp only [Pt.U, Pt.locs, Pt.cells, Pt.slots] at X41 l41 y41 z41 st41 hQ41
      subst l41 y41 z41
      obtain ⟨rfl, e41, hO41⟩ := hQ41
      obtain rfl := hO41
      refine own_via st41 ?_
      show own_Go p e below s _ _ _ (T41.setTop (mkF m 24 #[.val (.int p0), .val (.int p1), .val (.int (1 : Int32)), .val (.int (3 : Int32)), .val (.ref w3), .unset, .unset] [(.ref w1)]))
      refine own_via (fun _ k => XS.astore X41.here hx rfl (hb hby at_24) rfl rfl (l' := #[.val (.int p0), .val (.int p1), .val (.int (1 : Int32)), .val (.int (3 : Int32)), .val (.ref w3), .val (.ref w1), .unset]) rfl k) ?_
      show own_Go p e below s _ _ _ (T41.setTop (mkF m 26 #[.val (.int p0), .val (.int p1), .val (.int (1 : Int32)), .val (.int (3 : Int32)), .val (.ref w3), .val (.ref w1), .unset] []))
      refine own_via (fun _ k => XS.iloadN X41.here hx rfl (hb hby at_26) rfl k) ?_
      show own_Go p e below s _ _ _ (T41.setTop (mkF m 27 #[.val (.int p0), .val (.int p1), .val (.int (1 : Int32)), .val (.int (3 : Int32)), .val (.ref w3), .val (.ref w1), .unset] [(.int (1 : Int32))]))
      refine own_via (fun _ k => XS.ifYes X41.here hx rfl (pc0 := 27) (pc' := 36) rfl (hb hby at_27) rfl ((if0 _ _).trans (feq (by decide : ¬ ((1 : Int32) = (0 : Int32)))).2) (by decide) (by decide) k) ?_
      show own_Go p e below s _ _ _ (T41.setTop (mkF m 36 #[.val (.int p0), .val (.int p1), .val (.int (1 : Int32)), .val (.int (3 : Int32)), .val (.ref w3), .val (.ref w1), .unset] []))
      refine own_via (fun _ k => XS.iloadN X41.here hx rfl (hb hby at_36) rfl k) ?_
      show own_Go p e below s _ _ _ (T41.setTop (mkF m 37 #[.val (.int p0), .val (.int p1), .val (.int (1 : Int32)), .val (.int (3 : Int32)), .val (.ref w3), .val (.ref w1), .unset] [(.int (1 : Int32))]))
      refine own_via (fun _ k => XS.iloadN X41.here hx rfl (hb hby at_37) rfl k) ?_
      show own_Go p e below s _ _ _ (T41.setTop (mkF m 38 #[.val (.int p0), .val (.int p1), .val (.int (1 : Int32)), .val (.int (3 : Int32)), .val (.ref w3), .val (.ref w1), .unset] [(.int (3 : Int32)), (.int (1 : Int32))]))
      refine own_via (fun _ k => XS.icmpYes X41.here hx rfl (pc0 := 38) (pc' := 47) rfl (hb hby at_38) rfl (feq (by decide : ¬ ((1 : Int32) = (3 : Int32)))).2 (by decide) (by decide) k) ?_
      show own_Go p e below s _ _ _ (T41.setTop (mkF m 47 #[.val (.int p0), .val (.int p1), .val (.int (1 : Int32)), .val (.int (3 : Int32)), .val (.ref w3), .val (.ref w1), .unset] []))
      refine own_via (fun _ k => XS.iconst X41.here hx rfl (hb hby at_47) k) ?_
      show own_Go p e below s _ _ _ (T41.setTop (mkF m 48 #[.val (.int p0), .val (.int p1), .val (.int (1 : Int32)), .val (.int (3 : Int32)), .val (.ref w3), .val (.ref w1), .unset] [(.int (0 : Int32))]))
      refine own_via (fun _ k => XS.istore X41.here hx rfl (hb hby at_48) rfl (l' := #[.val (.int p0), .val (.int p1), .val (.int (1 : Int32)), .val (.int (3 : Int32)), .val (.ref w3), .val (.ref w1), .val (.int (0 : Int32))]) rfl k) ?_
      show own_Go p e below s _ _ _ (T41.setTop (mkF m 50 #[.val (.int p0), .val (.int p1), .val (.int (1 : Int32)), .val (.int (3 : Int32)), .val (.ref w3), .val (.ref w1), .val (.int (0 : Int32))] []))
      refine own_via (fun _ k => XS.aload X41.here hx rfl (hb hby at_50) rfl rfl k) ?_
      show own_Go p e below s _ _ _ (T41.setTop (mkF m 52 #[.val (.int p0), .val (.int p1), .val (.int (1 : Int32)), .val (.int (3 : Int32)), .val (.ref w3), .val (.ref w1), .val (.int (0 : Int32))] [(.ref w3)]))
      refine own_via (fun _ k => XS.aload X41.here hx rfl (hb hby at_52) rfl rfl k) ?_
      show own_Go p e below s _ _ _ (T41.setTop (mkF m 54 #[.val (.int p0), .val (.int p1), .val (.int (1 : Int32)), .val (.int (3 : Int32)), .val (.ref w3), .val (.ref w1), .val (.int (0 : Int32))] [(.ref w1), (.ref w3)]))
      obtain ⟨cq42, kq42, q42a, q42b, q42c⟩ := isOf hZ e41 E_w3
      obtain ⟨_, _, ⟨T42, L42, k42, n42⟩, -, X42, ⟨Lc42, hQ42, l42, y42, z42⟩, st42⟩ := X41.virtualBack hx (y := (⟨"com/example/grantfall/grantfall/model/Role", "includes", "(Lcom/example/grantfall/grantfall/model/Role;)Z"⟩ : MethodName)) (z := (⟨"com/example/grantfall/grantfall/model/Role", "includes", "(Lcom/example/grantfall/grantfall/model/Role;)Z"⟩ : MethodName)) hown (mvT hZ (hw _ (List.mem_of_getElem? (i := 10) rfl))) (mvT hZ (hw _ (List.mem_of_getElem? (i := 11) rfl))) (notFace_of_selects (args := #[]) (mvT hZ (hw _ (List.mem_of_getElem? (i := 13) rfl)))) (mvT hZ (hw _ (List.mem_of_getElem? (i := 13) rfl))) (mvT hZ (hw _ (List.mem_of_getElem? (i := 12) rfl))) (by decide) (backOf (W := 0) (rm2_8 l Z a0 hw [] w0 w1 w2 w3 w4 h0 n0 Z0 K0) hZ (hw _ (List.mem_of_getElem? (i := 14) rfl)) (hw _ (List.mem_of_getElem? (i := 6) rfl)) (by decide) (by decide)) q42a q42c (g := (mkF m 54 #[.val (.int p0), .val (.int p1), .val (.int (1 : Int32)), .val (.int (3 : Int32)), .val (.ref w3), .val (.ref w1), .val (.int (0 : Int32))] [(.ref w1), (.ref w3)])) rfl (by rw [hml]; rfl) (Steps.refl _) (argsL := [(.ref w1)]) (rest := []) (lenOf pd1 rfl) rfl (by show 2 * 0 + _ ≤ _; exact Nat.le_of_eq rfl) (hb hby at_54) (fun _ _ => ⟨rfl, e41, (by decide : 0 + 0 ≤ _), (by decide : 0 + 0 ≤ _)⟩)
      dsimp only [Pt.U, Pt.locs, Pt.cells, Pt.slots] at X42 l42 y42 z42 st42 hQ42
      subst l42 y42 z42
      obtain ⟨rfl, e42, hO42⟩ := hQ42
      obtain rfl := hO42
      refine own_tr st42 ?_
      show own_Go p e below s _ _ _ (T42.setTop (mkF m 57 #[.val (.int p0), .val (.int p1), .val (.int (1 : Int32)), .val (.int (3 : Int32)), .val (.ref w3), .val (.ref w1), .val (.int (0 : Int32))] [(.int (0 : Int32))]))
      refine own_via (fun _ k => XS.iload X42.here hx rfl (hb hby at_57) rfl k) ?_
      show own_Go p e below s _ _ _ (T42.setTop (mkF m 59 #[.val (.int p0), .val (.int p1), .val (.int (1 : Int32)), .val (.int (3 : Int32)), .val (.ref w3), .val (.ref w1), .val (.int (0 : Int32))] [(.int (0 : Int32)), (.int (0 : Int32))]))
      refine own_via (fun _ k => XS.icmpNo X42.here hx rfl (hb hby at_59) rfl (teq (by decide : (0 : Int32) = (0 : Int32))).2 k) ?_
      show own_Go p e below s _ _ _ (T42.setTop (mkF m 62 #[.val (.int p0), .val (.int p1), .val (.int (1 : Int32)), .val (.int (3 : Int32)), .val (.ref w3), .val (.ref w1), .val (.int (0 : Int32))] []))
      refine own_via (fun _ k => XS.iconst X42.here hx rfl (hb hby at_62) k) ?_
      show own_Go p e below s _ _ _ (T42.setTop (mkF m 63 #[.val (.int p0), .val (.int p1), .val (.int (1 : Int32)), .val (.int (3 : Int32)), .val (.ref w3), .val (.ref w1), .val (.int (0 : Int32))] [(.int (1 : Int32))]))
      refine own_via (fun _ k => XS.goto X42.here hx rfl (pc0 := 63) (pc' := 67) rfl (hb hby at_63) (by decide) (by decide) k) ?_
      show own_Go p e below s _ _ _ (T42.setTop (mkF m 67 #[.val (.int p0), .val (.int p1), .val (.int (1 : Int32)), .val (.int (3 : Int32)), .val (.ref w3), .val (.ref w1), .val (.int (0 : Int32))] [(.int (1 : Int32))]))
      exact own_retZ X42 hx hlk (t := .boolean) Bd.returns (by simp) (hb hby at_67) (z' := (1 : Int32)) (by first | rfl | decide) ⟨rfl, (Fr.nil n0)⟩ (by decide) (by decide)
    · rw [hk30]
      show own_Go p e below s _ _ _ (s₁.setTop (mkF m 13 #[.val (.int p0), .val (.int p1), .val (.int (1 : Int32)), .unset, .unset, .unset, .unset] [(.int (4 : Int32))]))
      refine own_via (fun _ k => XS.istoreN X0.here hx rfl (hb hby at_13) rfl (l' := #[.val (.int p0), .val (.int p1), .val (.int (1 : Int32)), .val (.int (4 : Int32)), .unset, .unset, .unset]) rfl k) ?_
      show own_Go p e below s _ _ _ (s₁.setTop (mkF m 14 #[.val (.int p0), .val (.int p1), .val (.int (1 : Int32)), .val (.int (4 : Int32)), .unset, .unset, .unset] []))
      refine own_via (fun _ k => XS.iloadN X0.here hx rfl (hb hby at_14) rfl k) ?_
      show own_Go p e below s _ _ _ (s₁.setTop (mkF m 15 #[.val (.int p0), .val (.int p1), .val (.int (1 : Int32)), .val (.int (4 : Int32)), .unset, .unset, .unset] [(.int (1 : Int32))]))
      obtain ⟨_, _, ⟨T43, L43, k43, n43⟩, -, X43, ⟨Lc43, hQ43, l43, y43, z43⟩, st43⟩ := Jvm.LawKit.callS X0 hx (y := (⟨"com/example/grantfall/grantfall/model/RoleIncludesPinLaw", "pick", "(I)Lcom/example/grantfall/grantfall/model/Role;"⟩ : MethodName)) hown (mvT hZ (hw _ (List.mem_of_getElem? (i := 1) rfl))) (mvT hZ (hw _ (List.mem_of_getElem? (i := 2) rfl))) (mvT hZ (hw _ (List.mem_of_getElem? (i := 3) rfl))) (mvT hZ (hw _ (List.mem_of_getElem? (i := 4) rfl))) (by decide) (backOf (W := 0) (rm1_1 l Z a0 hw [] w0 w1 w2 w3 w4 h0 n0 Z0 K0) hZ (hw _ (List.mem_of_getElem? (i := 4) rfl)) (hw _ (List.mem_of_getElem? (i := 3) rfl)) (by decide) (by decide)) (g := (mkF m 15 #[.val (.int p0), .val (.int p1), .val (.int (1 : Int32)), .val (.int (4 : Int32)), .unset, .unset, .unset] [(.int (1 : Int32))])) rfl (by rw [hml]; rfl) (argsL := [(.int (1 : Int32))]) (rest := []) (lenOf pd0 rfl) rfl (by show 2 * 0 + _ ≤ _; exact Nat.le_of_eq rfl) (hb hby at_15) (fun _ _ => ⟨rfl, e0, (by decide : 0 + 0 ≤ _), (by decide : 0 + 0 ≤ _)⟩)
      dsimp only [Pt.U, Pt.locs, Pt.cells, Pt.slots] at X43 l43 y43 z43 st43 hQ43
      subst l43 y43 z43
      obtain ⟨rfl, e43, hO43⟩ := hQ43
      obtain rfl := hO43
      refine own_via st43 ?_
      show own_Go p e below s _ _ _ (T43.setTop (mkF m 18 #[.val (.int p0), .val (.int p1), .val (.int (1 : Int32)), .val (.int (4 : Int32)), .unset, .unset, .unset] [(.ref w3)]))
      refine own_via (fun _ k => XS.astore X43.here hx rfl (hb hby at_18) rfl rfl (l' := #[.val (.int p0), .val (.int p1), .val (.int (1 : Int32)), .val (.int (4 : Int32)), .val (.ref w3), .unset, .unset]) rfl k) ?_
      show own_Go p e below s _ _ _ (T43.setTop (mkF m 20 #[.val (.int p0), .val (.int p1), .val (.int (1 : Int32)), .val (.int (4 : Int32)), .val (.ref w3), .unset, .unset] []))
      refine own_via (fun _ k => XS.iloadN X43.here hx rfl (hb hby at_20) rfl k) ?_
      show own_Go p e below s _ _ _ (T43.setTop (mkF m 21 #[.val (.int p0), .val (.int p1), .val (.int (1 : Int32)), .val (.int (4 : Int32)), .val (.ref w3), .unset, .unset] [(.int (4 : Int32))]))
      obtain ⟨_, _, ⟨T44, L44, k44, n44⟩, -, X44, ⟨Lc44, hQ44, l44, y44, z44⟩, st44⟩ := Jvm.LawKit.callS X43 hx (y := (⟨"com/example/grantfall/grantfall/model/RoleIncludesPinLaw", "pick", "(I)Lcom/example/grantfall/grantfall/model/Role;"⟩ : MethodName)) hown (mvT hZ (hw _ (List.mem_of_getElem? (i := 1) rfl))) (mvT hZ (hw _ (List.mem_of_getElem? (i := 2) rfl))) (mvT hZ (hw _ (List.mem_of_getElem? (i := 3) rfl))) (mvT hZ (hw _ (List.mem_of_getElem? (i := 4) rfl))) (by decide) (backOf (W := 0) (rm1_4 l Z a0 hw [] w0 w1 w2 w3 w4 h0 n0 Z0 K0) hZ (hw _ (List.mem_of_getElem? (i := 4) rfl)) (hw _ (List.mem_of_getElem? (i := 3) rfl)) (by decide) (by decide)) (g := (mkF m 21 #[.val (.int p0), .val (.int p1), .val (.int (1 : Int32)), .val (.int (4 : Int32)), .val (.ref w3), .unset, .unset] [(.int (4 : Int32))])) rfl (by rw [hml]; rfl) (argsL := [(.int (4 : Int32))]) (rest := []) (lenOf pd0 rfl) rfl (by show 2 * 0 + _ ≤ _; exact Nat.le_of_eq rfl) (hb hby at_21) (fun _ _ => ⟨rfl, e43, (by decide : 0 + 0 ≤ _), (by decide : 0 + 0 ≤ _)⟩)
      dsimp only [Pt.U, Pt.locs, Pt.cells, Pt.slots] at X44 l44 y44 z44 st44 hQ44
      subst l44 y44 z44
      obtain ⟨rfl, e44, hO44⟩ := hQ44
      obtain rfl := hO44
      refine own_via st44 ?_
      show own_Go p e below s _ _ _ (T44.setTop (mkF m 24 #[.val (.int p0), .val (.int p1), .val (.int (1 : Int32)), .val (.int (4 : Int32)), .val (.ref w3), .unset, .unset] [(.ref w2)]))
      refine own_via (fun _ k => XS.astore X44.here hx rfl (hb hby at_24) rfl rfl (l' := #[.val (.int p0), .val (.int p1), .val (.int (1 : Int32)), .val (.int (4 : Int32)), .val (.ref w3), .val (.ref w2), .unset]) rfl k) ?_
      show own_Go p e below s _ _ _ (T44.setTop (mkF m 26 #[.val (.int p0), .val (.int p1), .val (.int (1 : Int32)), .val (.int (4 : Int32)), .val (.ref w3), .val (.ref w2), .unset] []))
      refine own_via (fun _ k => XS.iloadN X44.here hx rfl (hb hby at_26) rfl k) ?_
      show own_Go p e below s _ _ _ (T44.setTop (mkF m 27 #[.val (.int p0), .val (.int p1), .val (.int (1 : Int32)), .val (.int (4 : Int32)), .val (.ref w3), .val (.ref w2), .unset] [(.int (1 : Int32))]))
      refine own_via (fun _ k => XS.ifYes X44.here hx rfl (pc0 := 27) (pc' := 36) rfl (hb hby at_27) rfl ((if0 _ _).trans (feq (by decide : ¬ ((1 : Int32) = (0 : Int32)))).2) (by decide) (by decide) k) ?_
      show own_Go p e below s _ _ _ (T44.setTop (mkF m 36 #[.val (.int p0), .val (.int p1), .val (.int (1 : Int32)), .val (.int (4 : Int32)), .val (.ref w3), .val (.ref w2), .unset] []))
      refine own_via (fun _ k => XS.iloadN X44.here hx rfl (hb hby at_36) rfl k) ?_
      show own_Go p e below s _ _ _ (T44.setTop (mkF m 37 #[.val (.int p0), .val (.int p1), .val (.int (1 : Int32)), .val (.int (4 : Int32)), .val (.ref w3), .val (.ref w2), .unset] [(.int (1 : Int32))]))
      refine own_via (fun _ k => XS.iloadN X44.here hx rfl (hb hby at_37) rfl k) ?_
      show own_Go p e below s _ _ _ (T44.setTop (mkF m 38 #[.val (.int p0), .val (.int p1), .val (.int (1 : Int32)), .val (.int (4 : Int32)), .val (.ref w3), .val (.ref w2), .unset] [(.int (4 : Int32)), (.int (1 : Int32))]))
      refine own_via (fun _ k => XS.icmpYes X44.here hx rfl (pc0 := 38) (pc' := 47) rfl (hb hby at_38) rfl (feq (by decide : ¬ ((1 : Int32) = (4 : Int32)))).2 (by decide) (by decide) k) ?_
      show own_Go p e below s _ _ _ (T44.setTop (mkF m 47 #[.val (.int p0), .val (.int p1), .val (.int (1 : Int32)), .val (.int (4 : Int32)), .val (.ref w3), .val (.ref w2), .unset] []))
      refine own_via (fun _ k => XS.iconst X44.here hx rfl (hb hby at_47) k) ?_
      show own_Go p e below s _ _ _ (T44.setTop (mkF m 48 #[.val (.int p0), .val (.int p1), .val (.int (1 : Int32)), .val (.int (4 : Int32)), .val (.ref w3), .val (.ref w2), .unset] [(.int (0 : Int32))]))
      refine own_via (fun _ k => XS.istore X44.here hx rfl (hb hby at_48) rfl (l' := #[.val (.int p0), .val (.int p1), .val (.int (1 : Int32)), .val (.int (4 : Int32)), .val (.ref w3), .val (.ref w2), .val (.int (0 : Int32))]) rfl k) ?_
      show own_Go p e below s _ _ _ (T44.setTop (mkF m 50 #[.val (.int p0), .val (.int p1), .val (.int (1 : Int32)), .val (.int (4 : Int32)), .val (.ref w3), .val (.ref w2), .val (.int (0 : Int32))] []))
      refine own_via (fun _ k => XS.aload X44.here hx rfl (hb hby at_50) rfl rfl k) ?_
      show own_Go p e below s _ _ _ (T44.setTop (mkF m 52 #[.val (.int p0), .val (.int p1), .val (.int (1 : Int32)), .val (.int (4 : Int32)), .val (.ref w3), .val (.ref w2), .val (.int (0 : Int32))] [(.ref w3)]))
      refine own_via (fun _ k => XS.aload X44.here hx rfl (hb hby at_52) rfl rfl k) ?_
      show own_Go p e below s _ _ _ (T44.setTop (mkF m 54 #[.val (.int p0), .val (.int p1), .val (.int (1 : Int32)), .val (.int (4 : Int32)), .val (.ref w3), .val (.ref w2), .val (.int (0 : Int32))] [(.ref w2), (.ref w3)]))
      obtain ⟨cq45, kq45, q45a, q45b, q45c⟩ := isOf hZ e44 E_w3
      obtain ⟨_, _, ⟨T45, L45, k45, n45⟩, -, X45, ⟨Lc45, hQ45, l45, y45, z45⟩, st45⟩ := X44.virtualBack hx (y := (⟨"com/example/grantfall/grantfall/model/Role", "includes", "(Lcom/example/grantfall/grantfall/model/Role;)Z"⟩ : MethodName)) (z := (⟨"com/example/grantfall/grantfall/model/Role", "includes", "(Lcom/example/grantfall/grantfall/model/Role;)Z"⟩ : MethodName)) hown (mvT hZ (hw _ (List.mem_of_getElem? (i := 10) rfl))) (mvT hZ (hw _ (List.mem_of_getElem? (i := 11) rfl))) (notFace_of_selects (args := #[]) (mvT hZ (hw _ (List.mem_of_getElem? (i := 13) rfl)))) (mvT hZ (hw _ (List.mem_of_getElem? (i := 13) rfl))) (mvT hZ (hw _ (List.mem_of_getElem? (i := 12) rfl))) (by decide) (backOf (W := 0) (rm2_9 l Z a0 hw [] w0 w1 w2 w3 w4 h0 n0 Z0 K0) hZ (hw _ (List.mem_of_getElem? (i := 14) rfl)) (hw _ (List.mem_of_getElem? (i := 6) rfl)) (by decide) (by decide)) q45a q45c (g := (mkF m 54 #[.val (.int p0), .val (.int p1), .val (.int (1 : Int32)), .val (.int (4 : Int32)), .val (.ref w3), .val (.ref w2), .val (.int (0 : Int32))] [(.ref w2), (.ref w3)])) rfl (by rw [hml]; rfl) (Steps.refl _) (argsL := [(.ref w2)]) (rest := []) (lenOf pd1 rfl) rfl (by show 2 * 0 + _ ≤ _; exact Nat.le_of_eq rfl) (hb hby at_54) (fun _ _ => ⟨rfl, e44, (by decide : 0 + 0 ≤ _), (by decide : 0 + 0 ≤ _)⟩)
      dsimp only [Pt.U, Pt.locs, Pt.cells, Pt.slots] at X45 l45 y45 z45 st45 hQ45
      subst l45 y45 z45
      obtain ⟨rfl, e45, hO45⟩ := hQ45
      obtain rfl := hO45
      refine own_tr st45 ?_
      show own_Go p e below s _ _ _ (T45.setTop (mkF m 57 #[.val (.int p0), .val (.int p1), .val (.int (1 : Int32)), .val (.int (4 : Int32)), .val (.ref w3), .val (.ref w2), .val (.int (0 : Int32))] [(.int (0 : Int32))]))
      refine own_via (fun _ k => XS.iload X45.here hx rfl (hb hby at_57) rfl k) ?_
      show own_Go p e below s _ _ _ (T45.setTop (mkF m 59 #[.val (.int p0), .val (.int p1), .val (.int (1 : Int32)), .val (.int (4 : Int32)), .val (.ref w3), .val (.ref w2), .val (.int (0 : Int32))] [(.int (0 : Int32)), (.int (0 : Int32))]))
      refine own_via (fun _ k => XS.icmpNo X45.here hx rfl (hb hby at_59) rfl (teq (by decide : (0 : Int32) = (0 : Int32))).2 k) ?_
      show own_Go p e below s _ _ _ (T45.setTop (mkF m 62 #[.val (.int p0), .val (.int p1), .val (.int (1 : Int32)), .val (.int (4 : Int32)), .val (.ref w3), .val (.ref w2), .val (.int (0 : Int32))] []))
      refine own_via (fun _ k => XS.iconst X45.here hx rfl (hb hby at_62) k) ?_
      show own_Go p e below s _ _ _ (T45.setTop (mkF m 63 #[.val (.int p0), .val (.int p1), .val (.int (1 : Int32)), .val (.int (4 : Int32)), .val (.ref w3), .val (.ref w2), .val (.int (0 : Int32))] [(.int (1 : Int32))]))
      refine own_via (fun _ k => XS.goto X45.here hx rfl (pc0 := 63) (pc' := 67) rfl (hb hby at_63) (by decide) (by decide) k) ?_
      show own_Go p e below s _ _ _ (T45.setTop (mkF m 67 #[.val (.int p0), .val (.int p1), .val (.int (1 : Int32)), .val (.int (4 : Int32)), .val (.ref w3), .val (.ref w2), .val (.int (0 : Int32))] [(.int (1 : Int32))]))
      exact own_retZ X45 hx hlk (t := .boolean) Bd.returns (by simp) (hb hby at_67) (z' := (1 : Int32)) (by first | rfl | decide) ⟨rfl, (Fr.nil n0)⟩ (by decide) (by decide)
  · rw [hk3]
    show own_Go p e below s _ _ _ (s₁.setTop (mkF m 6 #[.val (.int p0), .val (.int p1), .unset, .unset, .unset, .unset, .unset] [(.int (2 : Int32))]))
    refine own_via (fun _ k => XS.istoreN X0.here hx rfl (hb hby at_6) rfl (l' := #[.val (.int p0), .val (.int p1), .val (.int (2 : Int32)), .unset, .unset, .unset, .unset]) rfl k) ?_
    show own_Go p e below s _ _ _ (s₁.setTop (mkF m 7 #[.val (.int p0), .val (.int p1), .val (.int (2 : Int32)), .unset, .unset, .unset, .unset] []))
    refine own_via (fun _ k => XS.iloadN X0.here hx rfl (hb hby at_7) rfl k) ?_
    show own_Go p e below s _ _ _ (s₁.setTop (mkF m 8 #[.val (.int p0), .val (.int p1), .val (.int (2 : Int32)), .unset, .unset, .unset, .unset] [(.int p1)]))
    refine own_via (fun _ k => X0.ldcInt hx hown (mvT hZ (hw _ (List.mem_of_getElem? (i := 0) rfl))) (g := (mkF m 8 #[.val (.int p0), .val (.int p1), .val (.int (2 : Int32)), .unset, .unset, .unset, .unset] [(.int p1)])) rfl (hb hby at_8) _ k) ?_
    show own_Go p e below s _ _ _ (s₁.setTop (mkF m 10 #[.val (.int p0), .val (.int p1), .val (.int (2 : Int32)), .unset, .unset, .unset, .unset] [(.int (2147483647 : Int32)), (.int p1)]))
    refine own_via (fun _ k => XS.iand X0.here hx rfl (hb hby at_10) rfl k) ?_
    show own_Go p e below s _ _ _ (s₁.setTop (mkF m 11 #[.val (.int p0), .val (.int p1), .val (.int (2 : Int32)), .unset, .unset, .unset, .unset] [(.int (p1 &&& (2147483647 : Int32)))]))
    refine own_via (fun _ k => XS.iconst X0.here hx rfl (hb hby at_11) k) ?_
    show own_Go p e below s _ _ _ (s₁.setTop (mkF m 12 #[.val (.int p0), .val (.int p1), .val (.int (2 : Int32)), .unset, .unset, .unset, .unset] [(.int (5 : Int32)), (.int (p1 &&& (2147483647 : Int32)))]))
    refine own_via (fun _ k => iremM X0 hx rfl (hb hby at_12) rfl (by decide : ¬ ((5 : Int32) = (0 : Int32))) k) ?_
    rcases (own_mod5 _ : ((p1 &&& (2147483647 : Int32)) % (5 : Int32)) = (0 : Int32) ∨ ((p1 &&& (2147483647 : Int32)) % (5 : Int32)) = (1 : Int32) ∨ ((p1 &&& (2147483647 : Int32)) % (5 : Int32)) = (2 : Int32) ∨ ((p1 &&& (2147483647 : Int32)) % (5 : Int32)) = (3 : Int32) ∨ ((p1 &&& (2147483647 : Int32)) % (5 : Int32)) = (4 : Int32)) with hk46 | hk47 | hk48 | hk49 | hk50
    · rw [hk46]
      show own_Go p e below s _ _ _ (s₁.setTop (mkF m 13 #[.val (.int p0), .val (.int p1), .val (.int (2 : Int32)), .unset, .unset, .unset, .unset] [(.int (0 : Int32))]))
      refine own_via (fun _ k => XS.istoreN X0.here hx rfl (hb hby at_13) rfl (l' := #[.val (.int p0), .val (.int p1), .val (.int (2 : Int32)), .val (.int (0 : Int32)), .unset, .unset, .unset]) rfl k) ?_
      show own_Go p e below s _ _ _ (s₁.setTop (mkF m 14 #[.val (.int p0), .val (.int p1), .val (.int (2 : Int32)), .val (.int (0 : Int32)), .unset, .unset, .unset] []))
      refine own_via (fun _ k => XS.iloadN X0.here hx rfl (hb hby at_14) rfl k) ?_
      show own_Go p e below s _ _ _ (s₁.setTop (mkF m 15 #[.val (.int p0), .val (.int p1), .val (.int (2 : Int32)), .val (.int (0 : Int32)), .unset, .unset, .unset] [(.int (2 : Int32))]))
      obtain ⟨_, _, ⟨T51, L51, k51, n51⟩, -, X51, ⟨Lc51, hQ51, l51, y51, z51⟩, st51⟩ := Jvm.LawKit.callS X0 hx (y := (⟨"com/example/grantfall/grantfall/model/RoleIncludesPinLaw", "pick", "(I)Lcom/example/grantfall/grantfall/model/Role;"⟩ : MethodName)) hown (mvT hZ (hw _ (List.mem_of_getElem? (i := 1) rfl))) (mvT hZ (hw _ (List.mem_of_getElem? (i := 2) rfl))) (mvT hZ (hw _ (List.mem_of_getElem? (i := 3) rfl))) (mvT hZ (hw _ (List.mem_of_getElem? (i := 4) rfl))) (by decide) (backOf (W := 0) (rm1_2 l Z a0 hw [] w0 w1 w2 w3 w4 h0 n0 Z0 K0) hZ (hw _ (List.mem_of_getElem? (i := 4) rfl)) (hw _ (List.mem_of_getElem? (i := 3) rfl)) (by decide) (by decide)) (g := (mkF m 15 #[.val (.int p0), .val (.int p1), .val (.int (2 : Int32)), .val (.int (0 : Int32)), .unset, .unset, .unset] [(.int (2 : Int32))])) rfl (by rw [hml]; rfl) (argsL := [(.int (2 : Int32))]) (rest := []) (lenOf pd0 rfl) rfl (by show 2 * 0 + _ ≤ _; exact Nat.le_of_eq rfl) (hb hby at_15) (fun _ _ => ⟨rfl, e0, (by decide : 0 + 0 ≤ _), (by decide : 0 + 0 ≤ _)⟩)
      dsimp only [Pt.U, Pt.locs, Pt.cells, Pt.slots] at X51 l51 y51 z51 st51 hQ51
      subst l51 y51 z51
      obtain ⟨rfl, e51, hO51⟩ := hQ51
      obtain rfl := hO51
      refine own_via st51 ?_
      show own_Go p e below s _ _ _ (T51.setTop (mkF m 18 #[.val (.int p0), .val (.int p1), .val (.int (2 : Int32)), .val (.int (0 : Int32)), .unset, .unset, .unset] [(.ref w4)]))
      refine own_via (fun _ k => XS.astore X51.here hx rfl (hb hby at_18) rfl rfl (l' := #[.val (.int p0), .val (.int p1), .val (.int (2 : Int32)), .val (.int (0 : Int32)), .val (.ref w4), .unset, .unset]) rfl k) ?_
      show own_Go p e below s _ _ _ (T51.setTop (mkF m 20 #[.val (.int p0), .val (.int p1), .val (.int (2 : Int32)), .val (.int (0 : Int32)), .val (.ref w4), .unset, .unset] []))
      refine own_via (fun _ k => XS.iloadN X51.here hx rfl (hb hby at_20) rfl k) ?_
      show own_Go p e below s _ _ _ (T51.setTop (mkF m 21 #[.val (.int p0), .val (.int p1), .val (.int (2 : Int32)), .val (.int (0 : Int32)), .val (.ref w4), .unset, .unset] [(.int (0 : Int32))]))
      obtain ⟨_, _, ⟨T52, L52, k52, n52⟩, -, X52, ⟨Lc52, hQ52, l52, y52, z52⟩, st52⟩ := Jvm.LawKit.callS X51 hx (y := (⟨"com/example/grantfall/grantfall/model/RoleIncludesPinLaw", "pick", "(I)Lcom/example/grantfall/grantfall/model/Role;"⟩ : MethodName)) hown (mvT hZ (hw _ (List.mem_of_getElem? (i := 1) rfl))) (mvT hZ (hw _ (List.mem_of_getElem? (i := 2) rfl))) (mvT hZ (hw _ (List.mem_of_getElem? (i := 3) rfl))) (mvT hZ (hw _ (List.mem_of_getElem? (i := 4) rfl))) (by decide) (backOf (W := 0) (rm1_0 l Z a0 hw [] w0 w1 w2 w3 w4 h0 n0 Z0 K0) hZ (hw _ (List.mem_of_getElem? (i := 4) rfl)) (hw _ (List.mem_of_getElem? (i := 3) rfl)) (by decide) (by decide)) (g := (mkF m 21 #[.val (.int p0), .val (.int p1), .val (.int (2 : Int32)), .val (.int (0 : Int32)), .val (.ref w4), .unset, .unset] [(.int (0 : Int32))])) rfl (by rw [hml]; rfl) (argsL := [(.int (0 : Int32))]) (rest := []) (lenOf pd0 rfl) rfl (by show 2 * 0 + _ ≤ _; exact Nat.le_of_eq rfl) (hb hby at_21) (fun _ _ => ⟨rfl, e51, (by decide : 0 + 0 ≤ _), (by decide : 0 + 0 ≤ _)⟩)
      dsimp only [Pt.U, Pt.locs, Pt.cells, Pt.slots] at X52 l52 y52 z52 st52 hQ52
      subst l52 y52 z52
      obtain ⟨rfl, e52, hO52⟩ := hQ52
      obtain rfl := hO52
      refine own_via st52 ?_
      show own_Go p e below s _ _ _ (T52.setTop (mkF m 24 #[.val (.int p0), .val (.int p1), .val (.int (2 : Int32)), .val (.int (0 : Int32)), .val (.ref w4), .unset, .unset] [(.ref w0)]))
      refine own_via (fun _ k => XS.astore X52.here hx rfl (hb hby at_24) rfl rfl (l' := #[.val (.int p0), .val (.int p1), .val (.int (2 : Int32)), .val (.int (0 : Int32)), .val (.ref w4), .val (.ref w0), .unset]) rfl k) ?_
      show own_Go p e below s _ _ _ (T52.setTop (mkF m 26 #[.val (.int p0), .val (.int p1), .val (.int (2 : Int32)), .val (.int (0 : Int32)), .val (.ref w4), .val (.ref w0), .unset] []))
      refine own_via (fun _ k => XS.iloadN X52.here hx rfl (hb hby at_26) rfl k) ?_
      show own_Go p e below s _ _ _ (T52.setTop (mkF m 27 #[.val (.int p0), .val (.int p1), .val (.int (2 : Int32)), .val (.int (0 : Int32)), .val (.ref w4), .val (.ref w0), .unset] [(.int (2 : Int32))]))
      refine own_via (fun _ k => XS.ifYes X52.here hx rfl (pc0 := 27) (pc' := 36) rfl (hb hby at_27) rfl ((if0 _ _).trans (feq (by decide : ¬ ((2 : Int32) = (0 : Int32)))).2) (by decide) (by decide) k) ?_
      show own_Go p e below s _ _ _ (T52.setTop (mkF m 36 #[.val (.int p0), .val (.int p1), .val (.int (2 : Int32)), .val (.int (0 : Int32)), .val (.ref w4), .val (.ref w0), .unset] []))
      refine own_via (fun _ k => XS.iloadN X52.here hx rfl (hb hby at_36) rfl k) ?_
      show own_Go p e below s _ _ _ (T52.setTop (mkF m 37 #[.val (.int p0), .val (.int p1), .val (.int (2 : Int32)), .val (.int (0 : Int32)), .val (.ref w4), .val (.ref w0), .unset] [(.int (2 : Int32))]))
      refine own_via (fun _ k => XS.iloadN X52.here hx rfl (hb hby at_37) rfl k) ?_
      show own_Go p e below s _ _ _ (T52.setTop (mkF m 38 #[.val (.int p0), .val (.int p1), .val (.int (2 : Int32)), .val (.int (0 : Int32)), .val (.ref w4), .val (.ref w0), .unset] [(.int (0 : Int32)), (.int (2 : Int32))]))
      refine own_via (fun _ k => XS.icmpYes X52.here hx rfl (pc0 := 38) (pc' := 47) rfl (hb hby at_38) rfl (feq (by decide : ¬ ((2 : Int32) = (0 : Int32)))).2 (by decide) (by decide) k) ?_
      show own_Go p e below s _ _ _ (T52.setTop (mkF m 47 #[.val (.int p0), .val (.int p1), .val (.int (2 : Int32)), .val (.int (0 : Int32)), .val (.ref w4), .val (.ref w0), .unset] []))
      refine own_via (fun _ k => XS.iconst X52.here hx rfl (hb hby at_47) k) ?_
      show own_Go p e below s _ _ _ (T52.setTop (mkF m 48 #[.val (.int p0), .val (.int p1), .val (.int (2 : Int32)), .val (.int (0 : Int32)), .val (.ref w4), .val (.ref w0), .unset] [(.int (0 : Int32))]))
      refine own_via (fun _ k => XS.istore X52.here hx rfl (hb hby at_48) rfl (l' := #[.val (.int p0), .val (.int p1), .val (.int (2 : Int32)), .val (.int (0 : Int32)), .val (.ref w4), .val (.ref w0), .val (.int (0 : Int32))]) rfl k) ?_
      show own_Go p e below s _ _ _ (T52.setTop (mkF m 50 #[.val (.int p0), .val (.int p1), .val (.int (2 : Int32)), .val (.int (0 : Int32)), .val (.ref w4), .val (.ref w0), .val (.int (0 : Int32))] []))
      refine own_via (fun _ k => XS.aload X52.here hx rfl (hb hby at_50) rfl rfl k) ?_
      show own_Go p e below s _ _ _ (T52.setTop (mkF m 52 #[.val (.int p0), .val (.int p1), .val (.int (2 : Int32)), .val (.int (0 : Int32)), .val (.ref w4), .val (.ref w0), .val (.int (0 : Int32))] [(.ref w4)]))
      refine own_via (fun _ k => XS.aload X52.here hx rfl (hb hby at_52) rfl rfl k) ?_
      show own_Go p e below s _ _ _ (T52.setTop (mkF m 54 #[.val (.int p0), .val (.int p1), .val (.int (2 : Int32)), .val (.int (0 : Int32)), .val (.ref w4), .val (.ref w0), .val (.int (0 : Int32))] [(.ref w0), (.ref w4)]))
      obtain ⟨cq53, kq53, q53a, q53b, q53c⟩ := isOf hZ e52 E_w4
      obtain ⟨_, _, ⟨T53, L53, k53, n53⟩, -, X53, ⟨Lc53, hQ53, l53, y53, z53⟩, st53⟩ := X52.virtualBack hx (y := (⟨"com/example/grantfall/grantfall/model/Role", "includes", "(Lcom/example/grantfall/grantfall/model/Role;)Z"⟩ : MethodName)) (z := (⟨"com/example/grantfall/grantfall/model/Role", "includes", "(Lcom/example/grantfall/grantfall/model/Role;)Z"⟩ : MethodName)) hown (mvT hZ (hw _ (List.mem_of_getElem? (i := 10) rfl))) (mvT hZ (hw _ (List.mem_of_getElem? (i := 11) rfl))) (notFace_of_selects (args := #[]) (mvT hZ (hw _ (List.mem_of_getElem? (i := 13) rfl)))) (mvT hZ (hw _ (List.mem_of_getElem? (i := 13) rfl))) (mvT hZ (hw _ (List.mem_of_getElem? (i := 12) rfl))) (by decide) (backOf (W := 0) (rm2_10 l Z a0 hw [] w0 w1 w2 w3 w4 h0 n0 Z0 K0) hZ (hw _ (List.mem_of_getElem? (i := 14) rfl)) (hw _ (List.mem_of_getElem? (i := 6) rfl)) (by decide) (by decide)) q53a q53c (g := (mkF m 54 #[.val (.int p0), .val (.int p1), .val (.int (2 : Int32)), .val (.int (0 : Int32)), .val (.ref w4), .val (.ref w0), .val (.int (0 : Int32))] [(.ref w0), (.ref w4)])) rfl (by rw [hml]; rfl) (Steps.refl _) (argsL := [(.ref w0)]) (rest := []) (lenOf pd1 rfl) rfl (by show 2 * 0 + _ ≤ _; exact Nat.le_of_eq rfl) (hb hby at_54) (fun _ _ => ⟨rfl, e52, (by decide : 0 + 0 ≤ _), (by decide : 0 + 0 ≤ _)⟩)
      dsimp only [Pt.U, Pt.locs, Pt.cells, Pt.slots] at X53 l53 y53 z53 st53 hQ53
      subst l53 y53 z53
      obtain ⟨rfl, e53, hO53⟩ := hQ53
      obtain rfl := hO53
      refine own_tr st53 ?_
      show own_Go p e below s _ _ _ (T53.setTop (mkF m 57 #[.val (.int p0), .val (.int p1), .val (.int (2 : Int32)), .val (.int (0 : Int32)), .val (.ref w4), .val (.ref w0), .val (.int (0 : Int32))] [(.int (0 : Int32))]))
      refine own_via (fun _ k => XS.iload X53.here hx rfl (hb hby at_57) rfl k) ?_
      show own_Go p e below s _ _ _ (T53.setTop (mkF m 59 #[.val (.int p0), .val (.int p1), .val (.int (2 : Int32)), .val (.int (0 : Int32)), .val (.ref w4), .val (.ref w0), .val (.int (0 : Int32))] [(.int (0 : Int32)), (.int (0 : Int32))]))
      refine own_via (fun _ k => XS.icmpNo X53.here hx rfl (hb hby at_59) rfl (teq (by decide : (0 : Int32) = (0 : Int32))).2 k) ?_
      show own_Go p e below s _ _ _ (T53.setTop (mkF m 62 #[.val (.int p0), .val (.int p1), .val (.int (2 : Int32)), .val (.int (0 : Int32)), .val (.ref w4), .val (.ref w0), .val (.int (0 : Int32))] []))
      refine own_via (fun _ k => XS.iconst X53.here hx rfl (hb hby at_62) k) ?_
      show own_Go p e below s _ _ _ (T53.setTop (mkF m 63 #[.val (.int p0), .val (.int p1), .val (.int (2 : Int32)), .val (.int (0 : Int32)), .val (.ref w4), .val (.ref w0), .val (.int (0 : Int32))] [(.int (1 : Int32))]))
      refine own_via (fun _ k => XS.goto X53.here hx rfl (pc0 := 63) (pc' := 67) rfl (hb hby at_63) (by decide) (by decide) k) ?_
      show own_Go p e below s _ _ _ (T53.setTop (mkF m 67 #[.val (.int p0), .val (.int p1), .val (.int (2 : Int32)), .val (.int (0 : Int32)), .val (.ref w4), .val (.ref w0), .val (.int (0 : Int32))] [(.int (1 : Int32))]))
      exact own_retZ X53 hx hlk (t := .boolean) Bd.returns (by simp) (hb hby at_67) (z' := (1 : Int32)) (by first | rfl | decide) ⟨rfl, (Fr.nil n0)⟩ (by decide) (by decide)
    · rw [hk47]
      show own_Go p e below s _ _ _ (s₁.setTop (mkF m 13 #[.val (.int p0), .val (.int p1), .val (.int (2 : Int32)), .unset, .unset, .unset, .unset] [(.int (1 : Int32))]))
      refine own_via (fun _ k => XS.istoreN X0.here hx rfl (hb hby at_13) rfl (l' := #[.val (.int p0), .val (.int p1), .val (.int (2 : Int32)), .val (.int (1 : Int32)), .unset, .unset, .unset]) rfl k) ?_
      show own_Go p e below s _ _ _ (s₁.setTop (mkF m 14 #[.val (.int p0), .val (.int p1), .val (.int (2 : Int32)), .val (.int (1 : Int32)), .unset, .unset, .unset] []))
      refine own_via (fun _ k => XS.iloadN X0.here hx rfl (hb hby at_14) rfl k) ?_
      show own_Go p e below s _ _ _ (s₁.setTop (mkF m 15 #[.val (.int p0), .val (.int p1), .val (.int (2 : Int32)), .val (.int (1 : Int32)), .unset, .unset, .unset] [(.int (2 : Int32))]))
      obtain ⟨_, _, ⟨T54, L54, k54, n54⟩, -, X54, ⟨Lc54, hQ54, l54, y54, z54⟩, st54⟩ := Jvm.LawKit.callS X0 hx (y := (⟨"com/example/grantfall/grantfall/model/RoleIncludesPinLaw", "pick", "(I)Lcom/example/grantfall/grantfall/model/Role;"⟩ : MethodName)) hown (mvT hZ (hw _ (List.mem_of_getElem? (i := 1) rfl))) (mvT hZ (hw _ (List.mem_of_getElem? (i := 2) rfl))) (mvT hZ (hw _ (List.mem_of_getElem? (i := 3) rfl))) (mvT hZ (hw _ (List.mem_of_getElem? (i := 4) rfl))) (by decide) (backOf (W := 0) (rm1_2 l Z a0 hw [] w0 w1 w2 w3 w4 h0 n0 Z0 K0) hZ (hw _ (List.mem_of_getElem? (i := 4) rfl)) (hw _ (List.mem_of_getElem? (i := 3) rfl)) (by decide) (by decide)) (g := (mkF m 15 #[.val (.int p0), .val (.int p1), .val (.int (2 : Int32)), .val (.int (1 : Int32)), .unset, .unset, .unset] [(.int (2 : Int32))])) rfl (by rw [hml]; rfl) (argsL := [(.int (2 : Int32))]) (rest := []) (lenOf pd0 rfl) rfl (by show 2 * 0 + _ ≤ _; exact Nat.le_of_eq rfl) (hb hby at_15) (fun _ _ => ⟨rfl, e0, (by decide : 0 + 0 ≤ _), (by decide : 0 + 0 ≤ _)⟩)
      dsimp only [Pt.U, Pt.locs, Pt.cells, Pt.slots] at X54 l54 y54 z54 st54 hQ54
      subst l54 y54 z54
      obtain ⟨rfl, e54, hO54⟩ := hQ54
      obtain rfl := hO54
      refine own_via st54 ?_
      show own_Go p e below s _ _ _ (T54.setTop (mkF m 18 #[.val (.int p0), .val (.int p1), .val (.int (2 : Int32)), .val (.int (1 : Int32)), .unset, .unset, .unset] [(.ref w4)]))
      refine own_via (fun _ k => XS.astore X54.here hx rfl (hb hby at_18) rfl rfl (l' := #[.val (.int p0), .val (.int p1), .val (.int (2 : Int32)), .val (.int (1 : Int32)), .val (.ref w4), .unset, .unset]) rfl k) ?_
      show own_Go p e below s _ _ _ (T54.setTop (mkF m 20 #[.val (.int p0), .val (.int p1), .val (.int (2 : Int32)), .val (.int (1 : Int32)), .val (.ref w4), .unset, .unset] []))
      refine own_via (fun _ k => XS.iloadN X54.here hx rfl (hb hby at_20) rfl k) ?_
      show own_Go p e below s _ _ _ (T54.setTop (mkF m 21 #[.val (.int p0), .val (.int p1), .val (.int (2 : Int32)), .val (.int (1 : Int32)), .val (.ref w4), .unset, .unset] [(.int (1 : Int32))]))
      obtain ⟨_, _, ⟨T55, L55, k55, n55⟩, -, X55, ⟨Lc55, hQ55, l55, y55, z55⟩, st55⟩ := Jvm.LawKit.callS X54 hx (y := (⟨"com/example/grantfall/grantfall/model/RoleIncludesPinLaw", "pick", "(I)Lcom/example/grantfall/grantfall/model/Role;"⟩ : MethodName)) hown (mvT hZ (hw _ (List.mem_of_getElem? (i := 1) rfl))) (mvT hZ (hw _ (List.mem_of_getElem? (i := 2) rfl))) (mvT hZ (hw _ (List.mem_of_getElem? (i := 3) rfl))) (mvT hZ (hw _ (List.mem_of_getElem? (i := 4) rfl))) (by decide) (backOf (W := 0) (rm1_1 l Z a0 hw [] w0 w1 w2 w3 w4 h0 n0 Z0 K0) hZ (hw _ (List.mem_of_getElem? (i := 4) rfl)) (hw _ (List.mem_of_getElem? (i := 3) rfl)) (by decide) (by decide)) (g := (mkF m 21 #[.val (.int p0), .val (.int p1), .val (.int (2 : Int32)), .val (.int (1 : Int32)), .val (.ref w4), .unset, .unset] [(.int (1 : Int32))])) rfl (by rw [hml]; rfl) (argsL := [(.int (1 : Int32))]) (rest := []) (lenOf pd0 rfl) rfl (by show 2 * 0 + _ ≤ _; exact Nat.le_of_eq rfl) (hb hby at_21) (fun _ _ => ⟨rfl, e54, (by decide : 0 + 0 ≤ _), (by decide : 0 + 0 ≤ _)⟩)
      dsimp only [Pt.U, Pt.locs, Pt.cells, Pt.slots] at X55 l55 y55 z55 st55 hQ55
      subst l55 y55 z55
      obtain ⟨rfl, e55, hO55⟩ := hQ55
      obtain rfl := hO55
      refine own_via st55 ?_
      show own_Go p e below s _ _ _ (T55.setTop (mkF m 24 #[.val (.int p0), .val (.int p1), .val (.int (2 : Int32)), .val (.int (1 : Int32)), .val (.ref w4), .unset, .unset] [(.ref w3)]))
      refine own_via (fun _ k => XS.astore X55.here hx rfl (hb hby at_24) rfl rfl (l' := #[.val (.int p0), .val (.int p1), .val (.int (2 : Int32)), .val (.int (1 : Int32)), .val (.ref w4), .val (.ref w3), .unset]) rfl k) ?_
      show own_Go p e below s _ _ _ (T55.setTop (mkF m 26 #[.val (.int p0), .val (.int p1), .val (.int (2 : Int32)), .val (.int (1 : Int32)), .val (.ref w4), .val (.ref w3), .unset] []))
      refine own_via (fun _ k => XS.iloadN X55.here hx rfl (hb hby at_26) rfl k) ?_
      show own_Go p e below s _ _ _ (T55.setTop (mkF m 27 #[.val (.int p0), .val (.int p1), .val (.int (2 : Int32)), .val (.int (1 : Int32)), .val (.ref w4), .val (.ref w3), .unset] [(.int (2 : Int32))]))
      refine own_via (fun _ k => XS.ifYes X55.here hx rfl (pc0 := 27) (pc' := 36) rfl (hb hby at_27) rfl ((if0 _ _).trans (feq (by decide : ¬ ((2 : Int32) = (0 : Int32)))).2) (by decide) (by decide) k) ?_
      show own_Go p e below s _ _ _ (T55.setTop (mkF m 36 #[.val (.int p0), .val (.int p1), .val (.int (2 : Int32)), .val (.int (1 : Int32)), .val (.ref w4), .val (.ref w3), .unset] []))
      refine own_via (fun _ k => XS.iloadN X55.here hx rfl (hb hby at_36) rfl k) ?_
      show own_Go p e below s _ _ _ (T55.setTop (mkF m 37 #[.val (.int p0), .val (.int p1), .val (.int (2 : Int32)), .val (.int (1 : Int32)), .val (.ref w4), .val (.ref w3), .unset] [(.int (2 : Int32))]))
      refine own_via (fun _ k => XS.iloadN X55.here hx rfl (hb hby at_37) rfl k) ?_
      show own_Go p e below s _ _ _ (T55.setTop (mkF m 38 #[.val (.int p0), .val (.int p1), .val (.int (2 : Int32)), .val (.int (1 : Int32)), .val (.ref w4), .val (.ref w3), .unset] [(.int (1 : Int32)), (.int (2 : Int32))]))
      refine own_via (fun _ k => XS.icmpYes X55.here hx rfl (pc0 := 38) (pc' := 47) rfl (hb hby at_38) rfl (feq (by decide : ¬ ((2 : Int32) = (1 : Int32)))).2 (by decide) (by decide) k) ?_
      show own_Go p e below s _ _ _ (T55.setTop (mkF m 47 #[.val (.int p0), .val (.int p1), .val (.int (2 : Int32)), .val (.int (1 : Int32)), .val (.ref w4), .val (.ref w3), .unset] []))
      refine own_via (fun _ k => XS.iconst X55.here hx rfl (hb hby at_47) k) ?_
      show own_Go p e below s _ _ _ (T55.setTop (mkF m 48 #[.val (.int p0), .val (.int p1), .val (.int (2 : Int32)), .val (.int (1 : Int32)), .val (.ref w4), .val (.ref w3), .unset] [(.int (0 : Int32))]))
      refine own_via (fun _ k => XS.istore X55.here hx rfl (hb hby at_48) rfl (l' := #[.val (.int p0), .val (.int p1), .val (.int (2 : Int32)), .val (.int (1 : Int32)), .val (.ref w4), .val (.ref w3), .val (.int (0 : Int32))]) rfl k) ?_
      show own_Go p e below s _ _ _ (T55.setTop (mkF m 50 #[.val (.int p0), .val (.int p1), .val (.int (2 : Int32)), .val (.int (1 : Int32)), .val (.ref w4), .val (.ref w3), .val (.int (0 : Int32))] []))
      refine own_via (fun _ k => XS.aload X55.here hx rfl (hb hby at_50) rfl rfl k) ?_
      show own_Go p e below s _ _ _ (T55.setTop (mkF m 52 #[.val (.int p0), .val (.int p1), .val (.int (2 : Int32)), .val (.int (1 : Int32)), .val (.ref w4), .val (.ref w3), .val (.int (0 : Int32))] [(.ref w4)]))
      refine own_via (fun _ k => XS.aload X55.here hx rfl (hb hby at_52) rfl rfl k) ?_
      show own_Go p e below s _ _ _ (T55.setTop (mkF m 54 #[.val (.int p0), .val (.int p1), .val (.int (2 : Int32)), .val (.int (1 : Int32)), .val (.ref w4), .val (.ref w3), .val (.int (0 : Int32))] [(.ref w3), (.ref w4)]))
      obtain ⟨cq56, kq56, q56a, q56b, q56c⟩ := isOf hZ e55 E_w4
      obtain ⟨_, _, ⟨T56, L56, k56, n56⟩, -, X56, ⟨Lc56, hQ56, l56, y56, z56⟩, st56⟩ := X55.virtualBack hx (y := (⟨"com/example/grantfall/grantfall/model/Role", "includes", "(Lcom/example/grantfall/grantfall/model/Role;)Z"⟩ : MethodName)) (z := (⟨"com/example/grantfall/grantfall/model/Role", "includes", "(Lcom/example/grantfall/grantfall/model/Role;)Z"⟩ : MethodName)) hown (mvT hZ (hw _ (List.mem_of_getElem? (i := 10) rfl))) (mvT hZ (hw _ (List.mem_of_getElem? (i := 11) rfl))) (notFace_of_selects (args := #[]) (mvT hZ (hw _ (List.mem_of_getElem? (i := 13) rfl)))) (mvT hZ (hw _ (List.mem_of_getElem? (i := 13) rfl))) (mvT hZ (hw _ (List.mem_of_getElem? (i := 12) rfl))) (by decide) (backOf (W := 0) (rm2_11 l Z a0 hw [] w0 w1 w2 w3 w4 h0 n0 Z0 K0) hZ (hw _ (List.mem_of_getElem? (i := 14) rfl)) (hw _ (List.mem_of_getElem? (i := 6) rfl)) (by decide) (by decide)) q56a q56c (g := (mkF m 54 #[.val (.int p0), .val (.int p1), .val (.int (2 : Int32)), .val (.int (1 : Int32)), .val (.ref w4), .val (.ref w3), .val (.int (0 : Int32))] [(.ref w3), (.ref w4)])) rfl (by rw [hml]; rfl) (Steps.refl _) (argsL := [(.ref w3)]) (rest := []) (lenOf pd1 rfl) rfl (by show 2 * 0 + _ ≤ _; exact Nat.le_of_eq rfl) (hb hby at_54) (fun _ _ => ⟨rfl, e55, (by decide : 0 + 0 ≤ _), (by decide : 0 + 0 ≤ _)⟩)
      dsimp only [Pt.U, Pt.locs, Pt.cells, Pt.slots] at X56 l56 y56 z56 st56 hQ56
      subst l56 y56 z56
      obtain ⟨rfl, e56, hO56⟩ := hQ56
      obtain rfl := hO56
      refine own_tr st56 ?_
      show own_Go p e below s _ _ _ (T56.setTop (mkF m 57 #[.val (.int p0), .val (.int p1), .val (.int (2 : Int32)), .val (.int (1 : Int32)), .val (.ref w4), .val (.ref w3), .val (.int (0 : Int32))] [(.int (0 : Int32))]))
      refine own_via (fun _ k => XS.iload X56.here hx rfl (hb hby at_57) rfl k) ?_
      show own_Go p e below s _ _ _ (T56.setTop (mkF m 59 #[.val (.int p0), .val (.int p1), .val (.int (2 : Int32)), .val (.int (1 : Int32)), .val (.ref w4), .val (.ref w3), .val (.int (0 : Int32))] [(.int (0 : Int32)), (.int (0 : Int32))]))
      refine own_via (fun _ k => XS.icmpNo X56.here hx rfl (hb hby at_59) rfl (teq (by decide : (0 : Int32) = (0 : Int32))).2 k) ?_
      show own_Go p e below s _ _ _ (T56.setTop (mkF m 62 #[.val (.int p0), .val (.int p1), .val (.int (2 : Int32)), .val (.int (1 : Int32)), .val (.ref w4), .val (.ref w3), .val (.int (0 : Int32))] []))
      refine own_via (fun _ k => XS.iconst X56.here hx rfl (hb hby at_62) k) ?_
      show own_Go p e below s _ _ _ (T56.setTop (mkF m 63 #[.val (.int p0), .val (.int p1), .val (.int (2 : Int32)), .val (.int (1 : Int32)), .val (.ref w4), .val (.ref w3), .val (.int (0 : Int32))] [(.int (1 : Int32))]))
      refine own_via (fun _ k => XS.goto X56.here hx rfl (pc0 := 63) (pc' := 67) rfl (hb hby at_63) (by decide) (by decide) k) ?_
      show own_Go p e below s _ _ _ (T56.setTop (mkF m 67 #[.val (.int p0), .val (.int p1), .val (.int (2 : Int32)), .val (.int (1 : Int32)), .val (.ref w4), .val (.ref w3), .val (.int (0 : Int32))] [(.int (1 : Int32))]))
      exact own_retZ X56 hx hlk (t := .boolean) Bd.returns (by simp) (hb hby at_67) (z' := (1 : Int32)) (by first | rfl | decide) ⟨rfl, (Fr.nil n0)⟩ (by decide) (by decide)
    · rw [hk48]
      show own_Go p e below s _ _ _ (s₁.setTop (mkF m 13 #[.val (.int p0), .val (.int p1), .val (.int (2 : Int32)), .unset, .unset, .unset, .unset] [(.int (2 : Int32))]))
      refine own_via (fun _ k => XS.istoreN X0.here hx rfl (hb hby at_13) rfl (l' := #[.val (.int p0), .val (.int p1), .val (.int (2 : Int32)), .val (.int (2 : Int32)), .unset, .unset, .unset]) rfl k) ?_
      show own_Go p e below s _ _ _ (s₁.setTop (mkF m 14 #[.val (.int p0), .val (.int p1), .val (.int (2 : Int32)), .val (.int (2 : Int32)), .unset, .unset, .unset] []))
      refine own_via (fun _ k => XS.iloadN X0.here hx rfl (hb hby at_14) rfl k) ?_
      show own_Go p e below s _ _ _ (s₁.setTop (mkF m 15 #[.val (.int p0), .val (.int p1), .val (.int (2 : Int32)), .val (.int (2 : Int32)), .unset, .unset, .unset] [(.int (2 : Int32))]))
      obtain ⟨_, _, ⟨T57, L57, k57, n57⟩, -, X57, ⟨Lc57, hQ57, l57, y57, z57⟩, st57⟩ := Jvm.LawKit.callS X0 hx (y := (⟨"com/example/grantfall/grantfall/model/RoleIncludesPinLaw", "pick", "(I)Lcom/example/grantfall/grantfall/model/Role;"⟩ : MethodName)) hown (mvT hZ (hw _ (List.mem_of_getElem? (i := 1) rfl))) (mvT hZ (hw _ (List.mem_of_getElem? (i := 2) rfl))) (mvT hZ (hw _ (List.mem_of_getElem? (i := 3) rfl))) (mvT hZ (hw _ (List.mem_of_getElem? (i := 4) rfl))) (by decide) (backOf (W := 0) (rm1_2 l Z a0 hw [] w0 w1 w2 w3 w4 h0 n0 Z0 K0) hZ (hw _ (List.mem_of_getElem? (i := 4) rfl)) (hw _ (List.mem_of_getElem? (i := 3) rfl)) (by decide) (by decide)) (g := (mkF m 15 #[.val (.int p0), .val (.int p1), .val (.int (2 : Int32)), .val (.int (2 : Int32)), .unset, .unset, .unset] [(.int (2 : Int32))])) rfl (by rw [hml]; rfl) (argsL := [(.int (2 : Int32))]) (rest := []) (lenOf pd0 rfl) rfl (by show 2 * 0 + _ ≤ _; exact Nat.le_of_eq rfl) (hb hby at_15) (fun _ _ => ⟨rfl, e0, (by decide : 0 + 0 ≤ _), (by decide : 0 + 0 ≤ _)⟩)
      dsimp only [Pt.U, Pt.locs, Pt.cells, Pt.slots] at X57 l57 y57 z57 st57 hQ57
      subst l57 y57 z57
      obtain ⟨rfl, e57, hO57⟩ := hQ57
      obtain rfl := hO57
      refine own_via st57 ?_
      show own_Go p e below s _ _ _ (T57.setTop (mkF m 18 #[.val (.int p0), .val (.int p1), .val (.int (2 : Int32)), .val (.int (2 : Int32)), .unset, .unset, .unset] [(.ref w4)]))
      refine own_via (fun _ k => XS.astore X57.here hx rfl (hb hby at_18) rfl rfl (l' := #[.val (.int p0), .val (.int p1), .val (.int (2 : Int32)), .val (.int (2 : Int32)), .val (.ref w4), .unset, .unset]) rfl k) ?_
      show own_Go p e below s _ _ _ (T57.setTop (mkF m 20 #[.val (.int p0), .val (.int p1), .val (.int (2 : Int32)), .val (.int (2 : Int32)), .val (.ref w4), .unset, .unset] []))
      refine own_via (fun _ k => XS.iloadN X57.here hx rfl (hb hby at_20) rfl k) ?_
      show own_Go p e below s _ _ _ (T57.setTop (mkF m 21 #[.val (.int p0), .val (.int p1), .val (.int (2 : Int32)), .val (.int (2 : Int32)), .val (.ref w4), .unset, .unset] [(.int (2 : Int32))]))
      obtain ⟨_, _, ⟨T58, L58, k58, n58⟩, -, X58, ⟨Lc58, hQ58, l58, y58, z58⟩, st58⟩ := Jvm.LawKit.callS X57 hx (y := (⟨"com/example/grantfall/grantfall/model/RoleIncludesPinLaw", "pick", "(I)Lcom/example/grantfall/grantfall/model/Role;"⟩ : MethodName)) hown (mvT hZ (hw _ (List.mem_of_getElem? (i := 1) rfl))) (mvT hZ (hw _ (List.mem_of_getElem? (i := 2) rfl))) (mvT hZ (hw _ (List.mem_of_getElem? (i := 3) rfl))) (mvT hZ (hw _ (List.mem_of_getElem? (i := 4) rfl))) (by decide) (backOf (W := 0) (rm1_2 l Z a0 hw [] w0 w1 w2 w3 w4 h0 n0 Z0 K0) hZ (hw _ (List.mem_of_getElem? (i := 4) rfl)) (hw _ (List.mem_of_getElem? (i := 3) rfl)) (by decide) (by decide)) (g := (mkF m 21 #[.val (.int p0), .val (.int p1), .val (.int (2 : Int32)), .val (.int (2 : Int32)), .val (.ref w4), .unset, .unset] [(.int (2 : Int32))])) rfl (by rw [hml]; rfl) (argsL := [(.int (2 : Int32))]) (rest := []) (lenOf pd0 rfl) rfl (by show 2 * 0 + _ ≤ _; exact Nat.le_of_eq rfl) (hb hby at_21) (fun _ _ => ⟨rfl, e57, (by decide : 0 + 0 ≤ _), (by decide : 0 + 0 ≤ _)⟩)
      dsimp only [Pt.U, Pt.locs, Pt.cells, Pt.slots] at X58 l58 y58 z58 st58 hQ58
      subst l58 y58 z58
      obtain ⟨rfl, e58, hO58⟩ := hQ58
      obtain rfl := hO58
      refine own_via st58 ?_
      show own_Go p e below s _ _ _ (T58.setTop (mkF m 24 #[.val (.int p0), .val (.int p1), .val (.int (2 : Int32)), .val (.int (2 : Int32)), .val (.ref w4), .unset, .unset] [(.ref w4)]))
      refine own_via (fun _ k => XS.astore X58.here hx rfl (hb hby at_24) rfl rfl (l' := #[.val (.int p0), .val (.int p1), .val (.int (2 : Int32)), .val (.int (2 : Int32)), .val (.ref w4), .val (.ref w4), .unset]) rfl k) ?_
      show own_Go p e below s _ _ _ (T58.setTop (mkF m 26 #[.val (.int p0), .val (.int p1), .val (.int (2 : Int32)), .val (.int (2 : Int32)), .val (.ref w4), .val (.ref w4), .unset] []))
      refine own_via (fun _ k => XS.iloadN X58.here hx rfl (hb hby at_26) rfl k) ?_
      show own_Go p e below s _ _ _ (T58.setTop (mkF m 27 #[.val (.int p0), .val (.int p1), .val (.int (2 : Int32)), .val (.int (2 : Int32)), .val (.ref w4), .val (.ref w4), .unset] [(.int (2 : Int32))]))
      refine own_via (fun _ k => XS.ifYes X58.here hx rfl (pc0 := 27) (pc' := 36) rfl (hb hby at_27) rfl ((if0 _ _).trans (feq (by decide : ¬ ((2 : Int32) = (0 : Int32)))).2) (by decide) (by decide) k) ?_
      show own_Go p e below s _ _ _ (T58.setTop (mkF m 36 #[.val (.int p0), .val (.int p1), .val (.int (2 : Int32)), .val (.int (2 : Int32)), .val (.ref w4), .val (.ref w4), .unset] []))
      refine own_via (fun _ k => XS.iloadN X58.here hx rfl (hb hby at_36) rfl k) ?_
      show own_Go p e below s _ _ _ (T58.setTop (mkF m 37 #[.val (.int p0), .val (.int p1), .val (.int (2 : Int32)), .val (.int (2 : Int32)), .val (.ref w4), .val (.ref w4), .unset] [(.int (2 : Int32))]))
      refine own_via (fun _ k => XS.iloadN X58.here hx rfl (hb hby at_37) rfl k) ?_
      show own_Go p e below s _ _ _ (T58.setTop (mkF m 38 #[.val (.int p0), .val (.int p1), .val (.int (2 : Int32)), .val (.int (2 : Int32)), .val (.ref w4), .val (.ref w4), .unset] [(.int (2 : Int32)), (.int (2 : Int32))]))
      refine own_via (fun _ k => XS.icmpNo X58.here hx rfl (hb hby at_38) rfl (teq (by decide : (2 : Int32) = (2 : Int32))).2 k) ?_
      show own_Go p e below s _ _ _ (T58.setTop (mkF m 41 #[.val (.int p0), .val (.int p1), .val (.int (2 : Int32)), .val (.int (2 : Int32)), .val (.ref w4), .val (.ref w4), .unset] []))
      refine own_via (fun _ k => XS.iconst X58.here hx rfl (hb hby at_41) k) ?_
      show own_Go p e below s _ _ _ (T58.setTop (mkF m 42 #[.val (.int p0), .val (.int p1), .val (.int (2 : Int32)), .val (.int (2 : Int32)), .val (.ref w4), .val (.ref w4), .unset] [(.int (1 : Int32))]))
      refine own_via (fun _ k => XS.istore X58.here hx rfl (hb hby at_42) rfl (l' := #[.val (.int p0), .val (.int p1), .val (.int (2 : Int32)), .val (.int (2 : Int32)), .val (.ref w4), .val (.ref w4), .val (.int (1 : Int32))]) rfl k) ?_
      show own_Go p e below s _ _ _ (T58.setTop (mkF m 44 #[.val (.int p0), .val (.int p1), .val (.int (2 : Int32)), .val (.int (2 : Int32)), .val (.ref w4), .val (.ref w4), .val (.int (1 : Int32))] []))
      refine own_via (fun _ k => XS.goto X58.here hx rfl (pc0 := 44) (pc' := 50) rfl (hb hby at_44) (by decide) (by decide) k) ?_
      show own_Go p e below s _ _ _ (T58.setTop (mkF m 50 #[.val (.int p0), .val (.int p1), .val (.int (2 : Int32)), .val (.int (2 : Int32)), .val (.ref w4), .val (.ref w4), .val (.int (1 : Int32))] []))
      refine own_via (fun _ k => XS.aload X58.here hx rfl (hb hby at_50) rfl rfl k) ?_
      show own_Go p e below s _ _ _ (T58.setTop (mkF m 52 #[.val (.int p0), .val (.int p1), .val (.int (2 : Int32)), .val (.int (2 : Int32)), .val (.ref w4), .val (.ref w4), .val (.int (1 : Int32))] [(.ref w4)]))
      refine own_via (fun _ k => XS.aload X58.here hx rfl (hb hby at_52) rfl rfl k) ?_
      show own_Go p e below s _ _ _ (T58.setTop (mkF m 54 #[.val (.int p0), .val (.int p1), .val (.int (2 : Int32)), .val (.int (2 : Int32)), .val (.ref w4), .val (.ref w4), .val (.int (1 : Int32))] [(.ref w4), (.ref w4)]))
      obtain ⟨cq59, kq59, q59a, q59b, q59c⟩ := isOf hZ e58 E_w4
      obtain ⟨_, _, ⟨T59, L59, k59, n59⟩, -, X59, ⟨Lc59, hQ59, l59, y59, z59⟩, st59⟩ := X58.virtualBack hx (y := (⟨"com/example/grantfall/grantfall/model/Role", "includes", "(Lcom/example/grantfall/grantfall/model/Role;)Z"⟩ : MethodName)) (z := (⟨"com/example/grantfall/grantfall/model/Role", "includes", "(Lcom/example/grantfall/grantfall/model/Role;)Z"⟩ : MethodName)) hown (mvT hZ (hw _ (List.mem_of_getElem? (i := 10) rfl))) (mvT hZ (hw _ (List.mem_of_getElem? (i := 11) rfl))) (notFace_of_selects (args := #[]) (mvT hZ (hw _ (List.mem_of_getElem? (i := 13) rfl)))) (mvT hZ (hw _ (List.mem_of_getElem? (i := 13) rfl))) (mvT hZ (hw _ (List.mem_of_getElem? (i := 12) rfl))) (by decide) (backOf (W := 0) (rm2_12 l Z a0 hw [] w0 w1 w2 w3 w4 h0 n0 Z0 K0) hZ (hw _ (List.mem_of_getElem? (i := 14) rfl)) (hw _ (List.mem_of_getElem? (i := 6) rfl)) (by decide) (by decide)) q59a q59c (g := (mkF m 54 #[.val (.int p0), .val (.int p1), .val (.int (2 : Int32)), .val (.int (2 : Int32)), .val (.ref w4), .val (.ref w4), .val (.int (1 : Int32))] [(.ref w4), (.ref w4)])) rfl (by rw [hml]; rfl) (Steps.refl _) (argsL := [(.ref w4)]) (rest := []) (lenOf pd1 rfl) rfl (by show 2 * 0 + _ ≤ _; exact Nat.le_of_eq rfl) (hb hby at_54) (fun _ _ => ⟨rfl, e58, (by decide : 0 + 0 ≤ _), (by decide : 0 + 0 ≤ _)⟩)
      dsimp only [Pt.U, Pt.locs, Pt.cells, Pt.slots] at X59 l59 y59 z59 st59 hQ59
      subst l59 y59 z59
      obtain ⟨rfl, e59, hO59⟩ := hQ59
      obtain rfl := hO59
      refine own_tr st59 ?_
      show own_Go p e below s _ _ _ (T59.setTop (mkF m 57 #[.val (.int p0), .val (.int p1), .val (.int (2 : Int32)), .val (.int (2 : Int32)), .val (.ref w4), .val (.ref w4), .val (.int (1 : Int32))] [(.int (1 : Int32))]))
      refine own_via (fun _ k => XS.iload X59.here hx rfl (hb hby at_57) rfl k) ?_
      show own_Go p e below s _ _ _ (T59.setTop (mkF m 59 #[.val (.int p0), .val (.int p1), .val (.int (2 : Int32)), .val (.int (2 : Int32)), .val (.ref w4), .val (.ref w4), .val (.int (1 : Int32))] [(.int (1 : Int32)), (.int (1 : Int32))]))
      refine own_via (fun _ k => XS.icmpNo X59.here hx rfl (hb hby at_59) rfl (teq (by decide : (1 : Int32) = (1 : Int32))).2 k) ?_
      show own_Go p e below s _ _ _ (T59.setTop (mkF m 62 #[.val (.int p0), .val (.int p1), .val (.int (2 : Int32)), .val (.int (2 : Int32)), .val (.ref w4), .val (.ref w4), .val (.int (1 : Int32))] []))
      refine own_via (fun _ k => XS.iconst X59.here hx rfl (hb hby at_62) k) ?_
      show own_Go p e below s _ _ _ (T59.setTop (mkF m 63 #[.val (.int p0), .val (.int p1), .val (.int (2 : Int32)), .val (.int (2 : Int32)), .val (.ref w4), .val (.ref w4), .val (.int (1 : Int32))] [(.int (1 : Int32))]))
      refine own_via (fun _ k => XS.goto X59.here hx rfl (pc0 := 63) (pc' := 67) rfl (hb hby at_63) (by decide) (by decide) k) ?_
      show own_Go p e below s _ _ _ (T59.setTop (mkF m 67 #[.val (.int p0), .val (.int p1), .val (.int (2 : Int32)), .val (.int (2 : Int32)), .val (.ref w4), .val (.ref w4), .val (.int (1 : Int32))] [(.int (1 : Int32))]))
      exact own_retZ X59 hx hlk (t := .boolean) Bd.returns (by simp) (hb hby at_67) (z' := (1 : Int32)) (by first | rfl | decide) ⟨rfl, (Fr.nil n0)⟩ (by decide) (by decide)
    · rw [hk49]
      show own_Go p e below s _ _ _ (s₁.setTop (mkF m 13 #[.val (.int p0), .val (.int p1), .val (.int (2 : Int32)), .unset, .unset, .unset, .unset] [(.int (3 : Int32))]))
      refine own_via (fun _ k => XS.istoreN X0.here hx rfl (hb hby at_13) rfl (l' := #[.val (.int p0), .val (.int p1), .val (.int (2 : Int32)), .val (.int (3 : Int32)), .unset, .unset, .unset]) rfl k) ?_
      show own_Go p e below s _ _ _ (s₁.setTop (mkF m 14 #[.val (.int p0), .val (.int p1), .val (.int (2 : Int32)), .val (.int (3 : Int32)), .unset, .unset, .unset] []))
      refine own_via (fun _ k => XS.iloadN X0.here hx rfl (hb hby at_14) rfl k) ?_
      show own_Go p e below s _ _ _ (s₁.setTop (mkF m 15 #[.val (.int p0), .val (.int p1), .val (.int (2 : Int32)), .val (.int (3 : Int32)), .unset, .unset, .unset] [(.int (2 : Int32))]))
      obtain ⟨_, _, ⟨T60, L60, k60, n60⟩, -, X60, ⟨Lc60, hQ60, l60, y60, z60⟩, st60⟩ := Jvm.LawKit.callS X0 hx (y := (⟨"com/example/grantfall/grantfall/model/RoleIncludesPinLaw", "pick", "(I)Lcom/example/grantfall/grantfall/model/Role;"⟩ : MethodName)) hown (mvT hZ (hw _ (List.mem_of_getElem? (i := 1) rfl))) (mvT hZ (hw _ (List.mem_of_getElem? (i := 2) rfl))) (mvT hZ (hw _ (List.mem_of_getElem? (i := 3) rfl))) (mvT hZ (hw _ (List.mem_of_getElem? (i := 4) rfl))) (by decide) (backOf (W := 0) (rm1_2 l Z a0 hw [] w0 w1 w2 w3 w4 h0 n0 Z0 K0) hZ (hw _ (List.mem_of_getElem? (i := 4) rfl)) (hw _ (List.mem_of_getElem? (i := 3) rfl)) (by decide) (by decide)) (g := (mkF m 15 #[.val (.int p0), .val (.int p1), .val (.int (2 : Int32)), .val (.int (3 : Int32)), .unset, .unset, .unset] [(.int (2 : Int32))])) rfl (by rw [hml]; rfl) (argsL := [(.int (2 : Int32))]) (rest := []) (lenOf pd0 rfl) rfl (by show 2 * 0 + _ ≤ _; exact Nat.le_of_eq rfl) (hb hby at_15) (fun _ _ => ⟨rfl, e0, (by decide : 0 + 0 ≤ _), (by decide : 0 + 0 ≤ _)⟩)
      dsimp only [Pt.U, Pt.locs, Pt.cells, Pt.slots] at X60 l60 y60 z60 st60 hQ60
      subst l60 y60 z60
      obtain ⟨rfl, e60, hO60⟩ := hQ60
      obtain rfl := hO60
      refine own_via st60 ?_
      show own_Go p e below s _ _ _ (T60.setTop (mkF m 18 #[.val (.int p0), .val (.int p1), .val (.int (2 : Int32)), .val (.int (3 : Int32)), .unset, .unset, .unset] [(.ref w4)]))
      refine own_via (fun _ k => XS.astore X60.here hx rfl (hb hby at_18) rfl rfl (l' := #[.val (.int p0), .val (.int p1), .val (.int (2 : Int32)), .val (.int (3 : Int32)), .val (.ref w4), .unset, .unset]) rfl k) ?_
      show own_Go p e below s _ _ _ (T60.setTop (mkF m 20 #[.val (.int p0), .val (.int p1), .val (.int (2 : Int32)), .val (.int (3 : Int32)), .val (.ref w4), .unset, .unset] []))
      refine own_via (fun _ k => XS.iloadN X60.here hx rfl (hb hby at_20) rfl k) ?_
      show own_Go p e below s _ _ _ (T60.setTop (mkF m 21 #[.val (.int p0), .val (.int p1), .val (.int (2 : Int32)), .val (.int (3 : Int32)), .val (.ref w4), .unset, .unset] [(.int (3 : Int32))]))
      obtain ⟨_, _, ⟨T61, L61, k61, n61⟩, -, X61, ⟨Lc61, hQ61, l61, y61, z61⟩, st61⟩ := Jvm.LawKit.callS X60 hx (y := (⟨"com/example/grantfall/grantfall/model/RoleIncludesPinLaw", "pick", "(I)Lcom/example/grantfall/grantfall/model/Role;"⟩ : MethodName)) hown (mvT hZ (hw _ (List.mem_of_getElem? (i := 1) rfl))) (mvT hZ (hw _ (List.mem_of_getElem? (i := 2) rfl))) (mvT hZ (hw _ (List.mem_of_getElem? (i := 3) rfl))) (mvT hZ (hw _ (List.mem_of_getElem? (i := 4) rfl))) (by decide) (backOf (W := 0) (rm1_3 l Z a0 hw [] w0 w1 w2 w3 w4 h0 n0 Z0 K0) hZ (hw _ (List.mem_of_getElem? (i := 4) rfl)) (hw _ (List.mem_of_getElem? (i := 3) rfl)) (by decide) (by decide)) (g := (mkF m 21 #[.val (.int p0), .val (.int p1), .val (.int (2 : Int32)), .val (.int (3 : Int32)), .val (.ref w4), .unset, .unset] [(.int (3 : Int32))])) rfl (by rw [hml]; rfl) (argsL := [(.int (3 : Int32))]) (rest := []) (lenOf pd0 rfl) rfl (by show 2 * 0 + _ ≤ _; exact Nat.le_of_eq rfl) (hb hby at_21) (fun _ _ => ⟨rfl, e60, (by decide : 0 + 0 ≤ _), (by decide : 0 + 0 ≤ _)⟩)
      dsimp only [Pt.U, Pt.locs, Pt.cells, Pt.slots] at X61 l61 y61 z61 st61 hQ61
      subst l61 y61 z61
      obtain ⟨rfl, e61, hO61⟩ := hQ61
      obtain rfl := hO61
      refine own_via st61 ?_
      show own_Go p e below s _ _ _ (T61.setTop (mkF m 24 #[.val (.int p0), .val (.int p1), .val (.int (2 : Int32)), .val (.int (3 : Int32)), .val (.ref w4), .unset, .unset] [(.ref w1)]))
      refine own_via (fun _ k => XS.astore X61.here hx rfl (hb hby at_24) rfl rfl (l' := #[.val (.int p0), .val (.int p1), .val (.int (2 : Int32)), .val (.int (3 : Int32)), .val (.ref w4), .val (.ref w1), .unset]) rfl k) ?_
      show own_Go p e below s _ _ _ (T61.setTop (mkF m 26 #[.val (.int p0), .val (.int p1), .val (.int (2 : Int32)), .val (.int (3 : Int32)), .val (.ref w4), .val (.ref w1), .unset] []))
      refine own_via (fun _ k => XS.iloadN X61.here hx rfl (hb hby at_26) rfl k) ?_
      show own_Go p e below s _ _ _ (T61.setTop (mkF m 27 #[.val (.int p0), .val (.int p1), .val (.int (2 : Int32)), .val (.int (3 : Int32)), .val (.ref w4), .val (.ref w1), .unset] [(.int (2 : Int32))]))
      refine own_via (fun _ k => XS.ifYes X61.here hx rfl (pc0 := 27) (pc' := 36) rfl (hb hby at_27) rfl ((if0 _ _).trans (feq (by decide : ¬ ((2 : Int32) = (0 : Int32)))).2) (by decide) (by decide) k) ?_
      show own_Go p e below s _ _ _ (T61.setTop (mkF m 36 #[.val (.int p0), .val (.int p1), .val (.int (2 : Int32)), .val (.int (3 : Int32)), .val (.ref w4), .val (.ref w1), .unset] []))
      refine own_via (fun _ k => XS.iloadN X61.here hx rfl (hb hby at_36) rfl k) ?_
      show own_Go p e below s _ _ _ (T61.setTop (mkF m 37 #[.val (.int p0), .val (.int p1), .val (.int (2 : Int32)), .val (.int (3 : Int32)), .val (.ref w4), .val (.ref w1), .unset] [(.int (2 : Int32))]))
      refine own_via (fun _ k => XS.iloadN X61.here hx rfl (hb hby at_37) rfl k) ?_
      show own_Go p e below s _ _ _ (T61.setTop (mkF m 38 #[.val (.int p0), .val (.int p1), .val (.int (2 : Int32)), .val (.int (3 : Int32)), .val (.ref w4), .val (.ref w1), .unset] [(.int (3 : Int32)), (.int (2 : Int32))]))
      refine own_via (fun _ k => XS.icmpYes X61.here hx rfl (pc0 := 38) (pc' := 47) rfl (hb hby at_38) rfl (feq (by decide : ¬ ((2 : Int32) = (3 : Int32)))).2 (by decide) (by decide) k) ?_
      show own_Go p e below s _ _ _ (T61.setTop (mkF m 47 #[.val (.int p0), .val (.int p1), .val (.int (2 : Int32)), .val (.int (3 : Int32)), .val (.ref w4), .val (.ref w1), .unset] []))
      refine own_via (fun _ k => XS.iconst X61.here hx rfl (hb hby at_47) k) ?_
      show own_Go p e below s _ _ _ (T61.setTop (mkF m 48 #[.val (.int p0), .val (.int p1), .val (.int (2 : Int32)), .val (.int (3 : Int32)), .val (.ref w4), .val (.ref w1), .unset] [(.int (0 : Int32))]))
      refine own_via (fun _ k => XS.istore X61.here hx rfl (hb hby at_48) rfl (l' := #[.val (.int p0), .val (.int p1), .val (.int (2 : Int32)), .val (.int (3 : Int32)), .val (.ref w4), .val (.ref w1), .val (.int (0 : Int32))]) rfl k) ?_
      show own_Go p e below s _ _ _ (T61.setTop (mkF m 50 #[.val (.int p0), .val (.int p1), .val (.int (2 : Int32)), .val (.int (3 : Int32)), .val (.ref w4), .val (.ref w1), .val (.int (0 : Int32))] []))
      refine own_via (fun _ k => XS.aload X61.here hx rfl (hb hby at_50) rfl rfl k) ?_
      show own_Go p e below s _ _ _ (T61.setTop (mkF m 52 #[.val (.int p0), .val (.int p1), .val (.int (2 : Int32)), .val (.int (3 : Int32)), .val (.ref w4), .val (.ref w1), .val (.int (0 : Int32))] [(.ref w4)]))
      refine own_via (fun _ k => XS.aload X61.here hx rfl (hb hby at_52) rfl rfl k) ?_
      show own_Go p e below s _ _ _ (T61.setTop (mkF m 54 #[.val (.int p0), .val (.int p1), .val (.int (2 : Int32)), .val (.int (3 : Int32)), .val (.ref w4), .val (.ref w1), .val (.int (0 : Int32))] [(.ref w1), (.ref w4)]))
      obtain ⟨cq62, kq62, q62a, q62b, q62c⟩ := isOf hZ e61 E_w4
      obtain ⟨_, _, ⟨T62, L62, k62, n62⟩, -, X62, ⟨Lc62, hQ62, l62, y62, z62⟩, st62⟩ := X61.virtualBack hx (y := (⟨"com/example/grantfall/grantfall/model/Role", "includes", "(Lcom/example/grantfall/grantfall/model/Role;)Z"⟩ : MethodName)) (z := (⟨"com/example/grantfall/grantfall/model/Role", "includes", "(Lcom/example/grantfall/grantfall/model/Role;)Z"⟩ : MethodName)) hown (mvT hZ (hw _ (List.mem_of_getElem? (i := 10) rfl))) (mvT hZ (hw _ (List.mem_of_getElem? (i := 11) rfl))) (notFace_of_selects (args := #[]) (mvT hZ (hw _ (List.mem_of_getElem? (i := 13) rfl)))) (mvT hZ (hw _ (List.mem_of_getElem? (i := 13) rfl))) (mvT hZ (hw _ (List.mem_of_getElem? (i := 12) rfl))) (by decide) (backOf (W := 0) (rm2_13 l Z a0 hw [] w0 w1 w2 w3 w4 h0 n0 Z0 K0) hZ (hw _ (List.mem_of_getElem? (i := 14) rfl)) (hw _ (List.mem_of_getElem? (i := 6) rfl)) (by decide) (by decide)) q62a q62c (g := (mkF m 54 #[.val (.int p0), .val (.int p1), .val (.int (2 : Int32)), .val (.int (3 : Int32)), .val (.ref w4), .val (.ref w1), .val (.int (0 : Int32))] [(.ref w1), (.ref w4)])) rfl (by rw [hml]; rfl) (Steps.refl _) (argsL := [(.ref w1)]) (rest := []) (lenOf pd1 rfl) rfl (by show 2 * 0 + _ ≤ _; exact Nat.le_of_eq rfl) (hb hby at_54) (fun _ _ => ⟨rfl, e61, (by decide : 0 + 0 ≤ _), (by decide : 0 + 0 ≤ _)⟩)
      dsimp only [Pt.U, Pt.locs, Pt.cells, Pt.slots] at X62 l62 y62 z62 st62 hQ62
      subst l62 y62 z62
      obtain ⟨rfl, e62, hO62⟩ := hQ62
      obtain rfl := hO62
      refine own_tr st62 ?_
      show own_Go p e below s _ _ _ (T62.setTop (mkF m 57 #[.val (.int p0), .val (.int p1), .val (.int (2 : Int32)), .val (.int (3 : Int32)), .val (.ref w4), .val (.ref w1), .val (.int (0 : Int32))] [(.int (0 : Int32))]))
      refine own_via (fun _ k => XS.iload X62.here hx rfl (hb hby at_57) rfl k) ?_
      show own_Go p e below s _ _ _ (T62.setTop (mkF m 59 #[.val (.int p0), .val (.int p1), .val (.int (2 : Int32)), .val (.int (3 : Int32)), .val (.ref w4), .val (.ref w1), .val (.int (0 : Int32))] [(.int (0 : Int32)), (.int (0 : Int32))]))
      refine own_via (fun _ k => XS.icmpNo X62.here hx rfl (hb hby at_59) rfl (teq (by decide : (0 : Int32) = (0 : Int32))).2 k) ?_
      show own_Go p e below s _ _ _ (T62.setTop (mkF m 62 #[.val (.int p0), .val (.int p1), .val (.int (2 : Int32)), .val (.int (3 : Int32)), .val (.ref w4), .val (.ref w1), .val (.int (0 : Int32))] []))
      refine own_via (fun _ k => XS.iconst X62.here hx rfl (hb hby at_62) k) ?_
      show own_Go p e below s _ _ _ (T62.setTop (mkF m 63 #[.val (.int p0), .val (.int p1), .val (.int (2 : Int32)), .val (.int (3 : Int32)), .val (.ref w4), .val (.ref w1), .val (.int (0 : Int32))] [(.int (1 : Int32))]))
      refine own_via (fun _ k => XS.goto X62.here hx rfl (pc0 := 63) (pc' := 67) rfl (hb hby at_63) (by decide) (by decide) k) ?_
      show own_Go p e below s _ _ _ (T62.setTop (mkF m 67 #[.val (.int p0), .val (.int p1), .val (.int (2 : Int32)), .val (.int (3 : Int32)), .val (.ref w4), .val (.ref w1), .val (.int (0 : Int32))] [(.int (1 : Int32))]))
      exact own_retZ X62 hx hlk (t := .boolean) Bd.returns (by simp) (hb hby at_67) (z' := (1 : Int32)) (by first | rfl | decide) ⟨rfl, (Fr.nil n0)⟩ (by decide) (by decide)
    · rw [hk50]
      show own_Go p e below s _ _ _ (s₁.setTop (mkF m 13 #[.val (.int p0), .val (.int p1), .val (.int (2 : Int32)), .unset, .unset, .unset, .unset] [(.int (4 : Int32))]))
      refine own_via (fun _ k => XS.istoreN X0.here hx rfl (hb hby at_13) rfl (l' := #[.val (.int p0), .val (.int p1), .val (.int (2 : Int32)), .val (.int (4 : Int32)), .unset, .unset, .unset]) rfl k) ?_
      show own_Go p e below s _ _ _ (s₁.setTop (mkF m 14 #[.val (.int p0), .val (.int p1), .val (.int (2 : Int32)), .val (.int (4 : Int32)), .unset, .unset, .unset] []))
      refine own_via (fun _ k => XS.iloadN X0.here hx rfl (hb hby at_14) rfl k) ?_
      show own_Go p e below s _ _ _ (s₁.setTop (mkF m 15 #[.val (.int p0), .val (.int p1), .val (.int (2 : Int32)), .val (.int (4 : Int32)), .unset, .unset, .unset] [(.int (2 : Int32))]))
      obtain ⟨_, _, ⟨T63, L63, k63, n63⟩, -, X63, ⟨Lc63, hQ63, l63, y63, z63⟩, st63⟩ := Jvm.LawKit.callS X0 hx (y := (⟨"com/example/grantfall/grantfall/model/RoleIncludesPinLaw", "pick", "(I)Lcom/example/grantfall/grantfall/model/Role;"⟩ : MethodName)) hown (mvT hZ (hw _ (List.mem_of_getElem? (i := 1) rfl))) (mvT hZ (hw _ (List.mem_of_getElem? (i := 2) rfl))) (mvT hZ (hw _ (List.mem_of_getElem? (i := 3) rfl))) (mvT hZ (hw _ (List.mem_of_getElem? (i := 4) rfl))) (by decide) (backOf (W := 0) (rm1_2 l Z a0 hw [] w0 w1 w2 w3 w4 h0 n0 Z0 K0) hZ (hw _ (List.mem_of_getElem? (i := 4) rfl)) (hw _ (List.mem_of_getElem? (i := 3) rfl)) (by decide) (by decide)) (g := (mkF m 15 #[.val (.int p0), .val (.int p1), .val (.int (2 : Int32)), .val (.int (4 : Int32)), .unset, .unset, .unset] [(.int (2 : Int32))])) rfl (by rw [hml]; rfl) (argsL := [(.int (2 : Int32))]) (rest := []) (lenOf pd0 rfl) rfl (by show 2 * 0 + _ ≤ _; exact Nat.le_of_eq rfl) (hb hby at_15) (fun _ _ => ⟨rfl, e0, (by decide : 0 + 0 ≤ _), (by decide : 0 + 0 ≤ _)⟩)
      dsimp only [Pt.U, Pt.locs, Pt.cells, Pt.slots] at X63 l63 y63 z63 st63 hQ63
      subst l63 y63 z63
      obtain ⟨rfl, e63, hO63⟩ := hQ63
      obtain rfl := hO63
      refine own_via st63 ?_
      show own_Go p e below s _ _ _ (T63.setTop (mkF m 18 #[.val (.int p0), .val (.int p1), .val (.int (2 : Int32)), .val (.int (4 : Int32)), .unset, .unset, .unset] [(.ref w4)]))
      refine own_via (fun _ k => XS.astore X63.here hx rfl (hb hby at_18) rfl rfl (l' := #[.val (.int p0), .val (.int p1), .val (.int (2 : Int32)), .val (.int (4 : Int32)), .val (.ref w4), .unset, .unset]) rfl k) ?_
      show own_Go p e below s _ _ _ (T63.setTop (mkF m 20 #[.val (.int p0), .val (.int p1), .val (.int (2 : Int32)), .val (.int (4 : Int32)), .val (.ref w4), .unset, .unset] []))
      refine own_via (fun _ k => XS.iloadN X63.here hx rfl (hb hby at_20) rfl k) ?_
      show own_Go p e below s _ _ _ (T63.setTop (mkF m 21 #[.val (.int p0), .val (.int p1), .val (.int (2 : Int32)), .val (.int (4 : Int32)), .val (.ref w4), .unset, .unset] [(.int (4 : Int32))]))
      obtain ⟨_, _, ⟨T64, L64, k64, n64⟩, -, X64, ⟨Lc64, hQ64, l64, y64, z64⟩, st64⟩ := Jvm.LawKit.callS X63 hx (y := (⟨"com/example/grantfall/grantfall/model/RoleIncludesPinLaw", "pick", "(I)Lcom/example/grantfall/grantfall/model/Role;"⟩ : MethodName)) hown (mvT hZ (hw _ (List.mem_of_getElem? (i := 1) rfl))) (mvT hZ (hw _ (List.mem_of_getElem? (i := 2) rfl))) (mvT hZ (hw _ (List.mem_of_getElem? (i := 3) rfl))) (mvT hZ (hw _ (List.mem_of_getElem? (i := 4) rfl))) (by decide) (backOf (W := 0) (rm1_4 l Z a0 hw [] w0 w1 w2 w3 w4 h0 n0 Z0 K0) hZ (hw _ (List.mem_of_getElem? (i := 4) rfl)) (hw _ (List.mem_of_getElem? (i := 3) rfl)) (by decide) (by decide)) (g := (mkF m 21 #[.val (.int p0), .val (.int p1), .val (.int (2 : Int32)), .val (.int (4 : Int32)), .val (.ref w4), .unset, .unset] [(.int (4 : Int32))])) rfl (by rw [hml]; rfl) (argsL := [(.int (4 : Int32))]) (rest := []) (lenOf pd0 rfl) rfl (by show 2 * 0 + _ ≤ _; exact Nat.le_of_eq rfl) (hb hby at_21) (fun _ _ => ⟨rfl, e63, (by decide : 0 + 0 ≤ _), (by decide : 0 + 0 ≤ _)⟩)
      dsimp only [Pt.U, Pt.locs, Pt.cells, Pt.slots] at X64 l64 y64 z64 st64 hQ64
      subst l64 y64 z64
      obtain ⟨rfl, e64, hO64⟩ := hQ64
      obtain rfl := hO64
      refine own_via st64 ?_
      show own_Go p e below s _ _ _ (T64.setTop (mkF m 24 #[.val (.int p0), .val (.int p1), .val (.int (2 : Int32)), .val (.int (4 : Int32)), .val (.ref w4), .unset, .unset] [(.ref w2)]))
      refine own_via (fun _ k => XS.astore X64.here hx rfl (hb hby at_24) rfl rfl (l' := #[.val (.int p0), .val (.int p1), .val (.int (2 : Int32)), .val (.int (4 : Int32)), .val (.ref w4), .val (.ref w2), .unset]) rfl k) ?_
      show own_Go p e below s _ _ _ (T64.setTop (mkF m 26 #[.val (.int p0), .val (.int p1), .val (.int (2 : Int32)), .val (.int (4 : Int32)), .val (.ref w4), .val (.ref w2), .unset] []))
      refine own_via (fun _ k => XS.iloadN X64.here hx rfl (hb hby at_26) rfl k) ?_
      show own_Go p e below s _ _ _ (T64.setTop (mkF m 27 #[.val (.int p0), .val (.int p1), .val (.int (2 : Int32)), .val (.int (4 : Int32)), .val (.ref w4), .val (.ref w2), .unset] [(.int (2 : Int32))]))
      refine own_via (fun _ k => XS.ifYes X64.here hx rfl (pc0 := 27) (pc' := 36) rfl (hb hby at_27) rfl ((if0 _ _).trans (feq (by decide : ¬ ((2 : Int32) = (0 : Int32)))).2) (by decide) (by decide) k) ?_
      show own_Go p e below s _ _ _ (T64.setTop (mkF m 36 #[.val (.int p0), .val (.int p1), .val (.int (2 : Int32)), .val (.int (4 : Int32)), .val (.ref w4), .val (.ref w2), .unset] []))
      refine own_via (fun _ k => XS.iloadN X64.here hx rfl (hb hby at_36) rfl k) ?_
      show own_Go p e below s _ _ _ (T64.setTop (mkF m 37 #[.val (.int p0), .val (.int p1), .val (.int (2 : Int32)), .val (.int (4 : Int32)), .val (.ref w4), .val (.ref w2), .unset] [(.int (2 : Int32))]))
      refine own_via (fun _ k => XS.iloadN X64.here hx rfl (hb hby at_37) rfl k) ?_
      show own_Go p e below s _ _ _ (T64.setTop (mkF m 38 #[.val (.int p0), .val (.int p1), .val (.int (2 : Int32)), .val (.int (4 : Int32)), .val (.ref w4), .val (.ref w2), .unset] [(.int (4 : Int32)), (.int (2 : Int32))]))
      refine own_via (fun _ k => XS.icmpYes X64.here hx rfl (pc0 := 38) (pc' := 47) rfl (hb hby at_38) rfl (feq (by decide : ¬ ((2 : Int32) = (4 : Int32)))).2 (by decide) (by decide) k) ?_
      show own_Go p e below s _ _ _ (T64.setTop (mkF m 47 #[.val (.int p0), .val (.int p1), .val (.int (2 : Int32)), .val (.int (4 : Int32)), .val (.ref w4), .val (.ref w2), .unset] []))
      refine own_via (fun _ k => XS.iconst X64.here hx rfl (hb hby at_47) k) ?_
      show own_Go p e below s _ _ _ (T64.setTop (mkF m 48 #[.val (.int p0), .val (.int p1), .val (.int (2 : Int32)), .val (.int (4 : Int32)), .val (.ref w4), .val (.ref w2), .unset] [(.int (0 : Int32))]))
      refine own_via (fun _ k => XS.istore X64.here hx rfl (hb hby at_48) rfl (l' := #[.val (.int p0), .val (.int p1), .val (.int (2 : Int32)), .val (.int (4 : Int32)), .val (.ref w4), .val (.ref w2), .val (.int (0 : Int32))]) rfl k) ?_
      show own_Go p e below s _ _ _ (T64.setTop (mkF m 50 #[.val (.int p0), .val (.int p1), .val (.int (2 : Int32)), .val (.int (4 : Int32)), .val (.ref w4), .val (.ref w2), .val (.int (0 : Int32))] []))
      refine own_via (fun _ k => XS.aload X64.here hx rfl (hb hby at_50) rfl rfl k) ?_
      show own_Go p e below s _ _ _ (T64.setTop (mkF m 52 #[.val (.int p0), .val (.int p1), .val (.int (2 : Int32)), .val (.int (4 : Int32)), .val (.ref w4), .val (.ref w2), .val (.int (0 : Int32))] [(.ref w4)]))
      refine own_via (fun _ k => XS.aload X64.here hx rfl (hb hby at_52) rfl rfl k) ?_
      show own_Go p e below s _ _ _ (T64.setTop (mkF m 54 #[.val (.int p0), .val (.int p1), .val (.int (2 : Int32)), .val (.int (4 : Int32)), .val (.ref w4), .val (.ref w2), .val (.int (0 : Int32))] [(.ref w2), (.ref w4)]))
      obtain ⟨cq65, kq65, q65a, q65b, q65c⟩ := isOf hZ e64 E_w4
      obtain ⟨_, _, ⟨T65, L65, k65, n65⟩, -, X65, ⟨Lc65, hQ65, l65, y65, z65⟩, st65⟩ := X64.virtualBack hx (y := (⟨"com/example/grantfall/grantfall/model/Role", "includes", "(Lcom/example/grantfall/grantfall/model/Role;)Z"⟩ : MethodName)) (z := (⟨"com/example/grantfall/grantfall/model/Role", "includes", "(Lcom/example/grantfall/grantfall/model/Role;)Z"⟩ : MethodName)) hown (mvT hZ (hw _ (List.mem_of_getElem? (i := 10) rfl))) (mvT hZ (hw _ (List.mem_of_getElem? (i := 11) rfl))) (notFace_of_selects (args := #[]) (mvT hZ (hw _ (List.mem_of_getElem? (i := 13) rfl)))) (mvT hZ (hw _ (List.mem_of_getElem? (i := 13) rfl))) (mvT hZ (hw _ (List.mem_of_getElem? (i := 12) rfl))) (by decide) (backOf (W := 0) (rm2_14 l Z a0 hw [] w0 w1 w2 w3 w4 h0 n0 Z0 K0) hZ (hw _ (List.mem_of_getElem? (i := 14) rfl)) (hw _ (List.mem_of_getElem? (i := 6) rfl)) (by decide) (by decide)) q65a q65c (g := (mkF m 54 #[.val (.int p0), .val (.int p1), .val (.int (2 : Int32)), .val (.int (4 : Int32)), .val (.ref w4), .val (.ref w2), .val (.int (0 : Int32))] [(.ref w2), (.ref w4)])) rfl (by rw [hml]; rfl) (Steps.refl _) (argsL := [(.ref w2)]) (rest := []) (lenOf pd1 rfl) rfl (by show 2 * 0 + _ ≤ _; exact Nat.le_of_eq rfl) (hb hby at_54) (fun _ _ => ⟨rfl, e64, (by decide : 0 + 0 ≤ _), (by decide : 0 + 0 ≤ _)⟩)
      dsimp only [Pt.U, Pt.locs, Pt.cells, Pt.slots] at X65 l65 y65 z65 st65 hQ65
      subst l65 y65 z65
      obtain ⟨rfl, e65, hO65⟩ := hQ65
      obtain rfl := hO65
      refine own_tr st65 ?_
      show own_Go p e below s _ _ _ (T65.setTop (mkF m 57 #[.val (.int p0), .val (.int p1), .val (.int (2 : Int32)), .val (.int (4 : Int32)), .val (.ref w4), .val (.ref w2), .val (.int (0 : Int32))] [(.int (0 : Int32))]))
      refine own_via (fun _ k => XS.iload X65.here hx rfl (hb hby at_57) rfl k) ?_
      show own_Go p e below s _ _ _ (T65.setTop (mkF m 59 #[.val (.int p0), .val (.int p1), .val (.int (2 : Int32)), .val (.int (4 : Int32)), .val (.ref w4), .val (.ref w2), .val (.int (0 : Int32))] [(.int (0 : Int32)), (.int (0 : Int32))]))
      refine own_via (fun _ k => XS.icmpNo X65.here hx rfl (hb hby at_59) rfl (teq (by decide : (0 : Int32) = (0 : Int32))).2 k) ?_
      show own_Go p e below s _ _ _ (T65.setTop (mkF m 62 #[.val (.int p0), .val (.int p1), .val (.int (2 : Int32)), .val (.int (4 : Int32)), .val (.ref w4), .val (.ref w2), .val (.int (0 : Int32))] []))
      refine own_via (fun _ k => XS.iconst X65.here hx rfl (hb hby at_62) k) ?_
      show own_Go p e below s _ _ _ (T65.setTop (mkF m 63 #[.val (.int p0), .val (.int p1), .val (.int (2 : Int32)), .val (.int (4 : Int32)), .val (.ref w4), .val (.ref w2), .val (.int (0 : Int32))] [(.int (1 : Int32))]))
      refine own_via (fun _ k => XS.goto X65.here hx rfl (pc0 := 63) (pc' := 67) rfl (hb hby at_63) (by decide) (by decide) k) ?_
      show own_Go p e below s _ _ _ (T65.setTop (mkF m 67 #[.val (.int p0), .val (.int p1), .val (.int (2 : Int32)), .val (.int (4 : Int32)), .val (.ref w4), .val (.ref w2), .val (.int (0 : Int32))] [(.int (1 : Int32))]))
      exact own_retZ X65 hx hlk (t := .boolean) Bd.returns (by simp) (hb hby at_67) (z' := (1 : Int32)) (by first | rfl | decide) ⟨rfl, (Fr.nil n0)⟩ (by decide) (by decide)
  · rw [hk4]
    show own_Go p e below s _ _ _ (s₁.setTop (mkF m 6 #[.val (.int p0), .val (.int p1), .unset, .unset, .unset, .unset, .unset] [(.int (3 : Int32))]))
    refine own_via (fun _ k => XS.istoreN X0.here hx rfl (hb hby at_6) rfl (l' := #[.val (.int p0), .val (.int p1), .val (.int (3 : Int32)), .unset, .unset, .unset, .unset]) rfl k) ?_
    show own_Go p e below s _ _ _ (s₁.setTop (mkF m 7 #[.val (.int p0), .val (.int p1), .val (.int (3 : Int32)), .unset, .unset, .unset, .unset] []))
    refine own_via (fun _ k => XS.iloadN X0.here hx rfl (hb hby at_7) rfl k) ?_
    show own_Go p e below s _ _ _ (s₁.setTop (mkF m 8 #[.val (.int p0), .val (.int p1), .val (.int (3 : Int32)), .unset, .unset, .unset, .unset] [(.int p1)]))
    refine own_via (fun _ k => X0.ldcInt hx hown (mvT hZ (hw _ (List.mem_of_getElem? (i := 0) rfl))) (g := (mkF m 8 #[.val (.int p0), .val (.int p1), .val (.int (3 : Int32)), .unset, .unset, .unset, .unset] [(.int p1)])) rfl (hb hby at_8) _ k) ?_
    show own_Go p e below s _ _ _ (s₁.setTop (mkF m 10 #[.val (.int p0), .val (.int p1), .val (.int (3 : Int32)), .unset, .unset, .unset, .unset] [(.int (2147483647 : Int32)), (.int p1)]))
    refine own_via (fun _ k => XS.iand X0.here hx rfl (hb hby at_10) rfl k) ?_
    show own_Go p e below s _ _ _ (s₁.setTop (mkF m 11 #[.val (.int p0), .val (.int p1), .val (.int (3 : Int32)), .unset, .unset, .unset, .unset] [(.int (p1 &&& (2147483647 : Int32)))]))
    refine own_via (fun _ k => XS.iconst X0.here hx rfl (hb hby at_11) k) ?_
    show own_Go p e below s _ _ _ (s₁.setTop (mkF m 12 #[.val (.int p0), .val (.int p1), .val (.int (3 : Int32)), .unset, .unset, .unset, .unset] [(.int (5 : Int32)), (.int (p1 &&& (2147483647 : Int32)))]))
    refine own_via (fun _ k => iremM X0 hx rfl (hb hby at_12) rfl (by decide : ¬ ((5 : Int32) = (0 : Int32))) k) ?_
    rcases (own_mod5 _ : ((p1 &&& (2147483647 : Int32)) % (5 : Int32)) = (0 : Int32) ∨ ((p1 &&& (2147483647 : Int32)) % (5 : Int32)) = (1 : Int32) ∨ ((p1 &&& (2147483647 : Int32)) % (5 : Int32)) = (2 : Int32) ∨ ((p1 &&& (2147483647 : Int32)) % (5 : Int32)) = (3 : Int32) ∨ ((p1 &&& (2147483647 : Int32)) % (5 : Int32)) = (4 : Int32)) with hk66 | hk67 | hk68 | hk69 | hk70
    · rw [hk66]
      show own_Go p e below s _ _ _ (s₁.setTop (mkF m 13 #[.val (.int p0), .val (.int p1), .val (.int (3 : Int32)), .unset, .unset, .unset, .unset] [(.int (0 : Int32))]))
      refine own_via (fun _ k => XS.istoreN X0.here hx rfl (hb hby at_13) rfl (l' := #[.val (.int p0), .val (.int p1), .val (.int (3 : Int32)), .val (.int (0 : Int32)), .unset, .unset, .unset]) rfl k) ?_
      show own_Go p e below s _ _ _ (s₁.setTop (mkF m 14 #[.val (.int p0), .val (.int p1), .val (.int (3 : Int32)), .val (.int (0 : Int32)), .unset, .unset, .unset] []))
      refine own_via (fun _ k => XS.iloadN X0.here hx rfl (hb hby at_14) rfl k) ?_
      show own_Go p e below s _ _ _ (s₁.setTop (mkF m 15 #[.val (.int p0), .val (.int p1), .val (.int (3 : Int32)), .val (.int (0 : Int32)), .unset, .unset, .unset] [(.int (3 : Int32))]))
      obtain ⟨_, _, ⟨T71, L71, k71, n71⟩, -, X71, ⟨Lc71, hQ71, l71, y71, z71⟩, st71⟩ := Jvm.LawKit.callS X0 hx (y := (⟨"com/example/grantfall/grantfall/model/RoleIncludesPinLaw", "pick", "(I)Lcom/example/grantfall/grantfall/model/Role;"⟩ : MethodName)) hown (mvT hZ (hw _ (List.mem_of_getElem? (i := 1) rfl))) (mvT hZ (hw _ (List.mem_of_getElem? (i := 2) rfl))) (mvT hZ (hw _ (List.mem_of_getElem? (i := 3) rfl))) (mvT hZ (hw _ (List.mem_of_getElem? (i := 4) rfl))) (by decide) (backOf (W := 0) (rm1_3 l Z a0 hw [] w0 w1 w2 w3 w4 h0 n0 Z0 K0) hZ (hw _ (List.mem_of_getElem? (i := 4) rfl)) (hw _ (List.mem_of_getElem? (i := 3) rfl)) (by decide) (by decide)) (g := (mkF m 15 #[.val (.int p0), .val (.int p1), .val (.int (3 : Int32)), .val (.int (0 : Int32)), .unset, .unset, .unset] [(.int (3 : Int32))])) rfl (by rw [hml]; rfl) (argsL := [(.int (3 : Int32))]) (rest := []) (lenOf pd0 rfl) rfl (by show 2 * 0 + _ ≤ _; exact Nat.le_of_eq rfl) (hb hby at_15) (fun _ _ => ⟨rfl, e0, (by decide : 0 + 0 ≤ _), (by decide : 0 + 0 ≤ _)⟩)
      dsimp only [Pt.U, Pt.locs, Pt.cells, Pt.slots] at X71 l71 y71 z71 st71 hQ71
      subst l71 y71 z71
      obtain ⟨rfl, e71, hO71⟩ := hQ71
      obtain rfl := hO71
      refine own_via st71 ?_
      show own_Go p e below s _ _ _ (T71.setTop (mkF m 18 #[.val (.int p0), .val (.int p1), .val (.int (3 : Int32)), .val (.int (0 : Int32)), .unset, .unset, .unset] [(.ref w1)]))
      refine own_via (fun _ k => XS.astore X71.here hx rfl (hb hby at_18) rfl rfl (l' := #[.val (.int p0), .val (.int p1), .val (.int (3 : Int32)), .val (.int (0 : Int32)), .val (.ref w1), .unset, .unset]) rfl k) ?_
      show own_Go p e below s _ _ _ (T71.setTop (mkF m 20 #[.val (.int p0), .val (.int p1), .val (.int (3 : Int32)), .val (.int (0 : Int32)), .val (.ref w1), .unset, .unset] []))
      refine own_via (fun _ k => XS.iloadN X71.here hx rfl (hb hby at_20) rfl k) ?_
      show own_Go p e below s _ _ _ (T71.setTop (mkF m 21 #[.val (.int p0), .val (.int p1), .val (.int (3 : Int32)), .val (.int (0 : Int32)), .val (.ref w1), .unset, .unset] [(.int (0 : Int32))]))
      obtain ⟨_, _, ⟨T72, L72, k72, n72⟩, -, X72, ⟨Lc72, hQ72, l72, y72, z72⟩, st72⟩ := Jvm.LawKit.callS X71 hx (y := (⟨"com/example/grantfall/grantfall/model/RoleIncludesPinLaw", "pick", "(I)Lcom/example/grantfall/grantfall/model/Role;"⟩ : MethodName)) hown (mvT hZ (hw _ (List.mem_of_getElem? (i := 1) rfl))) (mvT hZ (hw _ (List.mem_of_getElem? (i := 2) rfl))) (mvT hZ (hw _ (List.mem_of_getElem? (i := 3) rfl))) (mvT hZ (hw _ (List.mem_of_getElem? (i := 4) rfl))) (by decide) (backOf (W := 0) (rm1_0 l Z a0 hw [] w0 w1 w2 w3 w4 h0 n0 Z0 K0) hZ (hw _ (List.mem_of_getElem? (i := 4) rfl)) (hw _ (List.mem_of_getElem? (i := 3) rfl)) (by decide) (by decide)) (g := (mkF m 21 #[.val (.int p0), .val (.int p1), .val (.int (3 : Int32)), .val (.int (0 : Int32)), .val (.ref w1), .unset, .unset] [(.int (0 : Int32))])) rfl (by rw [hml]; rfl) (argsL := [(.int (0 : Int32))]) (rest := []) (lenOf pd0 rfl) rfl (by show 2 * 0 + _ ≤ _; exact Nat.le_of_eq rfl) (hb hby at_21) (fun _ _ => ⟨rfl, e71, (by decide : 0 + 0 ≤ _), (by decide : 0 + 0 ≤ _)⟩)
      dsimp only [Pt.U, Pt.locs, Pt.cells, Pt.slots] at X72 l72 y72 z72 st72 hQ72
      subst l72 y72 z72
      obtain ⟨rfl, e72, hO72⟩ := hQ72
      obtain rfl := hO72
      refine own_via st72 ?_
      show own_Go p e below s _ _ _ (T72.setTop (mkF m 24 #[.val (.int p0), .val (.int p1), .val (.int (3 : Int32)), .val (.int (0 : Int32)), .val (.ref w1), .unset, .unset] [(.ref w0)]))
      refine own_via (fun _ k => XS.astore X72.here hx rfl (hb hby at_24) rfl rfl (l' := #[.val (.int p0), .val (.int p1), .val (.int (3 : Int32)), .val (.int (0 : Int32)), .val (.ref w1), .val (.ref w0), .unset]) rfl k) ?_
      show own_Go p e below s _ _ _ (T72.setTop (mkF m 26 #[.val (.int p0), .val (.int p1), .val (.int (3 : Int32)), .val (.int (0 : Int32)), .val (.ref w1), .val (.ref w0), .unset] []))
      refine own_via (fun _ k => XS.iloadN X72.here hx rfl (hb hby at_26) rfl k) ?_
      show own_Go p e below s _ _ _ (T72.setTop (mkF m 27 #[.val (.int p0), .val (.int p1), .val (.int (3 : Int32)), .val (.int (0 : Int32)), .val (.ref w1), .val (.ref w0), .unset] [(.int (3 : Int32))]))
      refine own_via (fun _ k => XS.ifYes X72.here hx rfl (pc0 := 27) (pc' := 36) rfl (hb hby at_27) rfl ((if0 _ _).trans (feq (by decide : ¬ ((3 : Int32) = (0 : Int32)))).2) (by decide) (by decide) k) ?_
      show own_Go p e below s _ _ _ (T72.setTop (mkF m 36 #[.val (.int p0), .val (.int p1), .val (.int (3 : Int32)), .val (.int (0 : Int32)), .val (.ref w1), .val (.ref w0), .unset] []))
      refine own_via (fun _ k => XS.iloadN X72.here hx rfl (hb hby at_36) rfl k) ?_
      show own_Go p e below s _ _ _ (T72.setTop (mkF m 37 #[.val (.int p0), .val (.int p1), .val (.int (3 : Int32)), .val (.int (0 : Int32)), .val (.ref w1), .val (.ref w0), .unset] [(.int (3 : Int32))]))
      refine own_via (fun _ k => XS.iloadN X72.here hx rfl (hb hby at_37) rfl k) ?_
      show own_Go p e below s _ _ _ (T72.setTop (mkF m 38 #[.val (.int p0), .val (.int p1), .val (.int (3 : Int32)), .val (.int (0 : Int32)), .val (.ref w1), .val (.ref w0), .unset] [(.int (0 : Int32)), (.int (3 : Int32))]))
      refine own_via (fun _ k => XS.icmpYes X72.here hx rfl (pc0 := 38) (pc' := 47) rfl (hb hby at_38) rfl (feq (by decide : ¬ ((3 : Int32) = (0 : Int32)))).2 (by decide) (by decide) k) ?_
      show own_Go p e below s _ _ _ (T72.setTop (mkF m 47 #[.val (.int p0), .val (.int p1), .val (.int (3 : Int32)), .val (.int (0 : Int32)), .val (.ref w1), .val (.ref w0), .unset] []))
      refine own_via (fun _ k => XS.iconst X72.here hx rfl (hb hby at_47) k) ?_
      show own_Go p e below s _ _ _ (T72.setTop (mkF m 48 #[.val (.int p0), .val (.int p1), .val (.int (3 : Int32)), .val (.int (0 : Int32)), .val (.ref w1), .val (.ref w0), .unset] [(.int (0 : Int32))]))
      refine own_via (fun _ k => XS.istore X72.here hx rfl (hb hby at_48) rfl (l' := #[.val (.int p0), .val (.int p1), .val (.int (3 : Int32)), .val (.int (0 : Int32)), .val (.ref w1), .val (.ref w0), .val (.int (0 : Int32))]) rfl k) ?_
      show own_Go p e below s _ _ _ (T72.setTop (mkF m 50 #[.val (.int p0), .val (.int p1), .val (.int (3 : Int32)), .val (.int (0 : Int32)), .val (.ref w1), .val (.ref w0), .val (.int (0 : Int32))] []))
      refine own_via (fun _ k => XS.aload X72.here hx rfl (hb hby at_50) rfl rfl k) ?_
      show own_Go p e below s _ _ _ (T72.setTop (mkF m 52 #[.val (.int p0), .val (.int p1), .val (.int (3 : Int32)), .val (.int (0 : Int32)), .val (.ref w1), .val (.ref w0), .val (.int (0 : Int32))] [(.ref w1)]))
      refine own_via (fun _ k => XS.aload X72.here hx rfl (hb hby at_52) rfl rfl k) ?_
      show own_Go p e below s _ _ _ (T72.setTop (mkF m 54 #[.val (.int p0), .val (.int p1), .val (.int (3 : Int32)), .val (.int (0 : Int32)), .val (.ref w1), .val (.ref w0), .val (.int (0 : Int32))] [(.ref w0), (.ref w1)]))
      obtain ⟨cq73, kq73, q73a, q73b, q73c⟩ := isOf hZ e72 E_w1
      obtain ⟨_, _, ⟨T73, L73, k73, n73⟩, -, X73, ⟨Lc73, hQ73, l73, y73, z73⟩, st73⟩ := X72.virtualBack hx (y := (⟨"com/example/grantfall/grantfall/model/Role", "includes", "(Lcom/example/grantfall/grantfall/model/Role;)Z"⟩ : MethodName)) (z := (⟨"com/example/grantfall/grantfall/model/Role", "includes", "(Lcom/example/grantfall/grantfall/model/Role;)Z"⟩ : MethodName)) hown (mvT hZ (hw _ (List.mem_of_getElem? (i := 10) rfl))) (mvT hZ (hw _ (List.mem_of_getElem? (i := 11) rfl))) (notFace_of_selects (args := #[]) (mvT hZ (hw _ (List.mem_of_getElem? (i := 13) rfl)))) (mvT hZ (hw _ (List.mem_of_getElem? (i := 13) rfl))) (mvT hZ (hw _ (List.mem_of_getElem? (i := 12) rfl))) (by decide) (backOf (W := 0) (rm2_15 l Z a0 hw [] w0 w1 w2 w3 w4 h0 n0 Z0 K0) hZ (hw _ (List.mem_of_getElem? (i := 14) rfl)) (hw _ (List.mem_of_getElem? (i := 6) rfl)) (by decide) (by decide)) q73a q73c (g := (mkF m 54 #[.val (.int p0), .val (.int p1), .val (.int (3 : Int32)), .val (.int (0 : Int32)), .val (.ref w1), .val (.ref w0), .val (.int (0 : Int32))] [(.ref w0), (.ref w1)])) rfl (by rw [hml]; rfl) (Steps.refl _) (argsL := [(.ref w0)]) (rest := []) (lenOf pd1 rfl) rfl (by show 2 * 0 + _ ≤ _; exact Nat.le_of_eq rfl) (hb hby at_54) (fun _ _ => ⟨rfl, e72, (by decide : 0 + 0 ≤ _), (by decide : 0 + 0 ≤ _)⟩)
      dsimp only [Pt.U, Pt.locs, Pt.cells, Pt.slots] at X73 l73 y73 z73 st73 hQ73
      subst l73 y73 z73
      obtain ⟨rfl, e73, hO73⟩ := hQ73
      obtain rfl := hO73
      refine own_tr st73 ?_
      show own_Go p e below s _ _ _ (T73.setTop (mkF m 57 #[.val (.int p0), .val (.int p1), .val (.int (3 : Int32)), .val (.int (0 : Int32)), .val (.ref w1), .val (.ref w0), .val (.int (0 : Int32))] [(.int (0 : Int32))]))
      refine own_via (fun _ k => XS.iload X73.here hx rfl (hb hby at_57) rfl k) ?_
      show own_Go p e below s _ _ _ (T73.setTop (mkF m 59 #[.val (.int p0), .val (.int p1), .val (.int (3 : Int32)), .val (.int (0 : Int32)), .val (.ref w1), .val (.ref w0), .val (.int (0 : Int32))] [(.int (0 : Int32)), (.int (0 : Int32))]))
      refine own_via (fun _ k => XS.icmpNo X73.here hx rfl (hb hby at_59) rfl (teq (by decide : (0 : Int32) = (0 : Int32))).2 k) ?_
      show own_Go p e below s _ _ _ (T73.setTop (mkF m 62 #[.val (.int p0), .val (.int p1), .val (.int (3 : Int32)), .val (.int (0 : Int32)), .val (.ref w1), .val (.ref w0), .val (.int (0 : Int32))] []))
      refine own_via (fun _ k => XS.iconst X73.here hx rfl (hb hby at_62) k) ?_
      show own_Go p e below s _ _ _ (T73.setTop (mkF m 63 #[.val (.int p0), .val (.int p1), .val (.int (3 : Int32)), .val (.int (0 : Int32)), .val (.ref w1), .val (.ref w0), .val (.int (0 : Int32))] [(.int (1 : Int32))]))
      refine own_via (fun _ k => XS.goto X73.here hx rfl (pc0 := 63) (pc' := 67) rfl (hb hby at_63) (by decide) (by decide) k) ?_
      show own_Go p e below s _ _ _ (T73.setTop (mkF m 67 #[.val (.int p0), .val (.int p1), .val (.int (3 : Int32)), .val (.int (0 : Int32)), .val (.ref w1), .val (.ref w0), .val (.int (0 : Int32))] [(.int (1 : Int32))]))
      exact own_retZ X73 hx hlk (t := .boolean) Bd.returns (by simp) (hb hby at_67) (z' := (1 : Int32)) (by first | rfl | decide) ⟨rfl, (Fr.nil n0)⟩ (by decide) (by decide)
    · rw [hk67]
      show own_Go p e below s _ _ _ (s₁.setTop (mkF m 13 #[.val (.int p0), .val (.int p1), .val (.int (3 : Int32)), .unset, .unset, .unset, .unset] [(.int (1 : Int32))]))
      refine own_via (fun _ k => XS.istoreN X0.here hx rfl (hb hby at_13) rfl (l' := #[.val (.int p0), .val (.int p1), .val (.int (3 : Int32)), .val (.int (1 : Int32)), .unset, .unset, .unset]) rfl k) ?_
      show own_Go p e below s _ _ _ (s₁.setTop (mkF m 14 #[.val (.int p0), .val (.int p1), .val (.int (3 : Int32)), .val (.int (1 : Int32)), .unset, .unset, .unset] []))
      refine own_via (fun _ k => XS.iloadN X0.here hx rfl (hb hby at_14) rfl k) ?_
      show own_Go p e below s _ _ _ (s₁.setTop (mkF m 15 #[.val (.int p0), .val (.int p1), .val (.int (3 : Int32)), .val (.int (1 : Int32)), .unset, .unset, .unset] [(.int (3 : Int32))]))
      obtain ⟨_, _, ⟨T74, L74, k74, n74⟩, -, X74, ⟨Lc74, hQ74, l74, y74, z74⟩, st74⟩ := Jvm.LawKit.callS X0 hx (y := (⟨"com/example/grantfall/grantfall/model/RoleIncludesPinLaw", "pick", "(I)Lcom/example/grantfall/grantfall/model/Role;"⟩ : MethodName)) hown (mvT hZ (hw _ (List.mem_of_getElem? (i := 1) rfl))) (mvT hZ (hw _ (List.mem_of_getElem? (i := 2) rfl))) (mvT hZ (hw _ (List.mem_of_getElem? (i := 3) rfl))) (mvT hZ (hw _ (List.mem_of_getElem? (i := 4) rfl))) (by decide) (backOf (W := 0) (rm1_3 l Z a0 hw [] w0 w1 w2 w3 w4 h0 n0 Z0 K0) hZ (hw _ (List.mem_of_getElem? (i := 4) rfl)) (hw _ (List.mem_of_getElem? (i := 3) rfl)) (by decide) (by decide)) (g := (mkF m 15 #[.val (.int p0), .val (.int p1), .val (.int (3 : Int32)), .val (.int (1 : Int32)), .unset, .unset, .unset] [(.int (3 : Int32))])) rfl (by rw [hml]; rfl) (argsL := [(.int (3 : Int32))]) (rest := []) (lenOf pd0 rfl) rfl (by show 2 * 0 + _ ≤ _; exact Nat.le_of_eq rfl) (hb hby at_15) (fun _ _ => ⟨rfl, e0, (by decide : 0 + 0 ≤ _), (by decide : 0 + 0 ≤ _)⟩)
      dsimp only [Pt.U, Pt.locs, Pt.cells, Pt.slots] at X74 l74 y74 z74 st74 hQ74
      subst l74 y74 z74
      obtain ⟨rfl, e74, hO74⟩ := hQ74
      obtain rfl := hO74
      refine own_via st74 ?_
      show own_Go p e below s _ _ _ (T74.setTop (mkF m 18 #[.val (.int p0), .val (.int p1), .val (.int (3 : Int32)), .val (.int (1 : Int32)), .unset, .unset, .unset] [(.ref w1)]))
      refine own_via (fun _ k => XS.astore X74.here hx rfl (hb hby at_18) rfl rfl (l' := #[.val (.int p0), .val (.int p1), .val (.int (3 : Int32)), .val (.int (1 : Int32)), .val (.ref w1), .unset, .unset]) rfl k) ?_
      show own_Go p e below s _ _ _ (T74.setTop (mkF m 20 #[.val (.int p0), .val (.int p1), .val (.int (3 : Int32)), .val (.int (1 : Int32)), .val (.ref w1), .unset, .unset] []))
      refine own_via (fun _ k => XS.iloadN X74.here hx rfl (hb hby at_20) rfl k) ?_
      show own_Go p e below s _ _ _ (T74.setTop (mkF m 21 #[.val (.int p0), .val (.int p1), .val (.int (3 : Int32)), .val (.int (1 : Int32)), .val (.ref w1), .unset, .unset] [(.int (1 : Int32))]))
      obtain ⟨_, _, ⟨T75, L75, k75, n75⟩, -, X75, ⟨Lc75, hQ75, l75, y75, z75⟩, st75⟩ := Jvm.LawKit.callS X74 hx (y := (⟨"com/example/grantfall/grantfall/model/RoleIncludesPinLaw", "pick", "(I)Lcom/example/grantfall/grantfall/model/Role;"⟩ : MethodName)) hown (mvT hZ (hw _ (List.mem_of_getElem? (i := 1) rfl))) (mvT hZ (hw _ (List.mem_of_getElem? (i := 2) rfl))) (mvT hZ (hw _ (List.mem_of_getElem? (i := 3) rfl))) (mvT hZ (hw _ (List.mem_of_getElem? (i := 4) rfl))) (by decide) (backOf (W := 0) (rm1_1 l Z a0 hw [] w0 w1 w2 w3 w4 h0 n0 Z0 K0) hZ (hw _ (List.mem_of_getElem? (i := 4) rfl)) (hw _ (List.mem_of_getElem? (i := 3) rfl)) (by decide) (by decide)) (g := (mkF m 21 #[.val (.int p0), .val (.int p1), .val (.int (3 : Int32)), .val (.int (1 : Int32)), .val (.ref w1), .unset, .unset] [(.int (1 : Int32))])) rfl (by rw [hml]; rfl) (argsL := [(.int (1 : Int32))]) (rest := []) (lenOf pd0 rfl) rfl (by show 2 * 0 + _ ≤ _; exact Nat.le_of_eq rfl) (hb hby at_21) (fun _ _ => ⟨rfl, e74, (by decide : 0 + 0 ≤ _), (by decide : 0 + 0 ≤ _)⟩)
      dsimp only [Pt.U, Pt.locs, Pt.cells, Pt.slots] at X75 l75 y75 z75 st75 hQ75
      subst l75 y75 z75
      obtain ⟨rfl, e75, hO75⟩ := hQ75
      obtain rfl := hO75
      refine own_via st75 ?_
      show own_Go p e below s _ _ _ (T75.setTop (mkF m 24 #[.val (.int p0), .val (.int p1), .val (.int (3 : Int32)), .val (.int (1 : Int32)), .val (.ref w1), .unset, .unset] [(.ref w3)]))
      refine own_via (fun _ k => XS.astore X75.here hx rfl (hb hby at_24) rfl rfl (l' := #[.val (.int p0), .val (.int p1), .val (.int (3 : Int32)), .val (.int (1 : Int32)), .val (.ref w1), .val (.ref w3), .unset]) rfl k) ?_
      show own_Go p e below s _ _ _ (T75.setTop (mkF m 26 #[.val (.int p0), .val (.int p1), .val (.int (3 : Int32)), .val (.int (1 : Int32)), .val (.ref w1), .val (.ref w3), .unset] []))
      refine own_via (fun _ k => XS.iloadN X75.here hx rfl (hb hby at_26) rfl k) ?_
      show own_Go p e below s _ _ _ (T75.setTop (mkF m 27 #[.val (.int p0), .val (.int p1), .val (.int (3 : Int32)), .val (.int (1 : Int32)), .val (.ref w1), .val (.ref w3), .unset] [(.int (3 : Int32))]))
      refine own_via (fun _ k => XS.ifYes X75.here hx rfl (pc0 := 27) (pc' := 36) rfl (hb hby at_27) rfl ((if0 _ _).trans (feq (by decide : ¬ ((3 : Int32) = (0 : Int32)))).2) (by decide) (by decide) k) ?_
      show own_Go p e below s _ _ _ (T75.setTop (mkF m 36 #[.val (.int p0), .val (.int p1), .val (.int (3 : Int32)), .val (.int (1 : Int32)), .val (.ref w1), .val (.ref w3), .unset] []))
      refine own_via (fun _ k => XS.iloadN X75.here hx rfl (hb hby at_36) rfl k) ?_
      show own_Go p e below s _ _ _ (T75.setTop (mkF m 37 #[.val (.int p0), .val (.int p1), .val (.int (3 : Int32)), .val (.int (1 : Int32)), .val (.ref w1), .val (.ref w3), .unset] [(.int (3 : Int32))]))
      refine own_via (fun _ k => XS.iloadN X75.here hx rfl (hb hby at_37) rfl k) ?_
      show own_Go p e below s _ _ _ (T75.setTop (mkF m 38 #[.val (.int p0), .val (.int p1), .val (.int (3 : Int32)), .val (.int (1 : Int32)), .val (.ref w1), .val (.ref w3), .unset] [(.int (1 : Int32)), (.int (3 : Int32))]))
      refine own_via (fun _ k => XS.icmpYes X75.here hx rfl (pc0 := 38) (pc' := 47) rfl (hb hby at_38) rfl (feq (by decide : ¬ ((3 : Int32) = (1 : Int32)))).2 (by decide) (by decide) k) ?_
      show own_Go p e below s _ _ _ (T75.setTop (mkF m 47 #[.val (.int p0), .val (.int p1), .val (.int (3 : Int32)), .val (.int (1 : Int32)), .val (.ref w1), .val (.ref w3), .unset] []))
      refine own_via (fun _ k => XS.iconst X75.here hx rfl (hb hby at_47) k) ?_
      show own_Go p e below s _ _ _ (T75.setTop (mkF m 48 #[.val (.int p0), .val (.int p1), .val (.int (3 : Int32)), .val (.int (1 : Int32)), .val (.ref w1), .val (.ref w3), .unset] [(.int (0 : Int32))]))
      refine own_via (fun _ k => XS.istore X75.here hx rfl (hb hby at_48) rfl (l' := #[.val (.int p0), .val (.int p1), .val (.int (3 : Int32)), .val (.int (1 : Int32)), .val (.ref w1), .val (.ref w3), .val (.int (0 : Int32))]) rfl k) ?_
      show own_Go p e below s _ _ _ (T75.setTop (mkF m 50 #[.val (.int p0), .val (.int p1), .val (.int (3 : Int32)), .val (.int (1 : Int32)), .val (.ref w1), .val (.ref w3), .val (.int (0 : Int32))] []))
      refine own_via (fun _ k => XS.aload X75.here hx rfl (hb hby at_50) rfl rfl k) ?_
      show own_Go p e below s _ _ _ (T75.setTop (mkF m 52 #[.val (.int p0), .val (.int p1), .val (.int (3 : Int32)), .val (.int (1 : Int32)), .val (.ref w1), .val (.ref w3), .val (.int (0 : Int32))] [(.ref w1)]))
      refine own_via (fun _ k => XS.aload X75.here hx rfl (hb hby at_52) rfl rfl k) ?_
      show own_Go p e below s _ _ _ (T75.setTop (mkF m 54 #[.val (.int p0), .val (.int p1), .val (.int (3 : Int32)), .val (.int (1 : Int32)), .val (.ref w1), .val (.ref w3), .val (.int (0 : Int32))] [(.ref w3), (.ref w1)]))
      obtain ⟨cq76, kq76, q76a, q76b, q76c⟩ := isOf hZ e75 E_w1
      obtain ⟨_, _, ⟨T76, L76, k76, n76⟩, -, X76, ⟨Lc76, hQ76, l76, y76, z76⟩, st76⟩ := X75.virtualBack hx (y := (⟨"com/example/grantfall/grantfall/model/Role", "includes", "(Lcom/example/grantfall/grantfall/model/Role;)Z"⟩ : MethodName)) (z := (⟨"com/example/grantfall/grantfall/model/Role", "includes", "(Lcom/example/grantfall/grantfall/model/Role;)Z"⟩ : MethodName)) hown (mvT hZ (hw _ (List.mem_of_getElem? (i := 10) rfl))) (mvT hZ (hw _ (List.mem_of_getElem? (i := 11) rfl))) (notFace_of_selects (args := #[]) (mvT hZ (hw _ (List.mem_of_getElem? (i := 13) rfl)))) (mvT hZ (hw _ (List.mem_of_getElem? (i := 13) rfl))) (mvT hZ (hw _ (List.mem_of_getElem? (i := 12) rfl))) (by decide) (backOf (W := 0) (rm2_16 l Z a0 hw [] w0 w1 w2 w3 w4 h0 n0 Z0 K0) hZ (hw _ (List.mem_of_getElem? (i := 14) rfl)) (hw _ (List.mem_of_getElem? (i := 6) rfl)) (by decide) (by decide)) q76a q76c (g := (mkF m 54 #[.val (.int p0), .val (.int p1), .val (.int (3 : Int32)), .val (.int (1 : Int32)), .val (.ref w1), .val (.ref w3), .val (.int (0 : Int32))] [(.ref w3), (.ref w1)])) rfl (by rw [hml]; rfl) (Steps.refl _) (argsL := [(.ref w3)]) (rest := []) (lenOf pd1 rfl) rfl (by show 2 * 0 + _ ≤ _; exact Nat.le_of_eq rfl) (hb hby at_54) (fun _ _ => ⟨rfl, e75, (by decide : 0 + 0 ≤ _), (by decide : 0 + 0 ≤ _)⟩)
      dsimp only [Pt.U, Pt.locs, Pt.cells, Pt.slots] at X76 l76 y76 z76 st76 hQ76
      subst l76 y76 z76
      obtain ⟨rfl, e76, hO76⟩ := hQ76
      obtain rfl := hO76
      refine own_tr st76 ?_
      show own_Go p e below s _ _ _ (T76.setTop (mkF m 57 #[.val (.int p0), .val (.int p1), .val (.int (3 : Int32)), .val (.int (1 : Int32)), .val (.ref w1), .val (.ref w3), .val (.int (0 : Int32))] [(.int (0 : Int32))]))
      refine own_via (fun _ k => XS.iload X76.here hx rfl (hb hby at_57) rfl k) ?_
      show own_Go p e below s _ _ _ (T76.setTop (mkF m 59 #[.val (.int p0), .val (.int p1), .val (.int (3 : Int32)), .val (.int (1 : Int32)), .val (.ref w1), .val (.ref w3), .val (.int (0 : Int32))] [(.int (0 : Int32)), (.int (0 : Int32))]))
      refine own_via (fun _ k => XS.icmpNo X76.here hx rfl (hb hby at_59) rfl (teq (by decide : (0 : Int32) = (0 : Int32))).2 k) ?_
      show own_Go p e below s _ _ _ (T76.setTop (mkF m 62 #[.val (.int p0), .val (.int p1), .val (.int (3 : Int32)), .val (.int (1 : Int32)), .val (.ref w1), .val (.ref w3), .val (.int (0 : Int32))] []))
      refine own_via (fun _ k => XS.iconst X76.here hx rfl (hb hby at_62) k) ?_
      show own_Go p e below s _ _ _ (T76.setTop (mkF m 63 #[.val (.int p0), .val (.int p1), .val (.int (3 : Int32)), .val (.int (1 : Int32)), .val (.ref w1), .val (.ref w3), .val (.int (0 : Int32))] [(.int (1 : Int32))]))
      refine own_via (fun _ k => XS.goto X76.here hx rfl (pc0 := 63) (pc' := 67) rfl (hb hby at_63) (by decide) (by decide) k) ?_
      show own_Go p e below s _ _ _ (T76.setTop (mkF m 67 #[.val (.int p0), .val (.int p1), .val (.int (3 : Int32)), .val (.int (1 : Int32)), .val (.ref w1), .val (.ref w3), .val (.int (0 : Int32))] [(.int (1 : Int32))]))
      exact own_retZ X76 hx hlk (t := .boolean) Bd.returns (by simp) (hb hby at_67) (z' := (1 : Int32)) (by first | rfl | decide) ⟨rfl, (Fr.nil n0)⟩ (by decide) (by decide)
    · rw [hk68]
      show own_Go p e below s _ _ _ (s₁.setTop (mkF m 13 #[.val (.int p0), .val (.int p1), .val (.int (3 : Int32)), .unset, .unset, .unset, .unset] [(.int (2 : Int32))]))
      refine own_via (fun _ k => XS.istoreN X0.here hx rfl (hb hby at_13) rfl (l' := #[.val (.int p0), .val (.int p1), .val (.int (3 : Int32)), .val (.int (2 : Int32)), .unset, .unset, .unset]) rfl k) ?_
      show own_Go p e below s _ _ _ (s₁.setTop (mkF m 14 #[.val (.int p0), .val (.int p1), .val (.int (3 : Int32)), .val (.int (2 : Int32)), .unset, .unset, .unset] []))
      refine own_via (fun _ k => XS.iloadN X0.here hx rfl (hb hby at_14) rfl k) ?_
      show own_Go p e below s _ _ _ (s₁.setTop (mkF m 15 #[.val (.int p0), .val (.int p1), .val (.int (3 : Int32)), .val (.int (2 : Int32)), .unset, .unset, .unset] [(.int (3 : Int32))]))
      obtain ⟨_, _, ⟨T77, L77, k77, n77⟩, -, X77, ⟨Lc77, hQ77, l77, y77, z77⟩, st77⟩ := Jvm.LawKit.callS X0 hx (y := (⟨"com/example/grantfall/grantfall/model/RoleIncludesPinLaw", "pick", "(I)Lcom/example/grantfall/grantfall/model/Role;"⟩ : MethodName)) hown (mvT hZ (hw _ (List.mem_of_getElem? (i := 1) rfl))) (mvT hZ (hw _ (List.mem_of_getElem? (i := 2) rfl))) (mvT hZ (hw _ (List.mem_of_getElem? (i := 3) rfl))) (mvT hZ (hw _ (List.mem_of_getElem? (i := 4) rfl))) (by decide) (backOf (W := 0) (rm1_3 l Z a0 hw [] w0 w1 w2 w3 w4 h0 n0 Z0 K0) hZ (hw _ (List.mem_of_getElem? (i := 4) rfl)) (hw _ (List.mem_of_getElem? (i := 3) rfl)) (by decide) (by decide)) (g := (mkF m 15 #[.val (.int p0), .val (.int p1), .val (.int (3 : Int32)), .val (.int (2 : Int32)), .unset, .unset, .unset] [(.int (3 : Int32))])) rfl (by rw [hml]; rfl) (argsL := [(.int (3 : Int32))]) (rest := []) (lenOf pd0 rfl) rfl (by show 2 * 0 + _ ≤ _; exact Nat.le_of_eq rfl) (hb hby at_15) (fun _ _ => ⟨rfl, e0, (by decide : 0 + 0 ≤ _), (by decide : 0 + 0 ≤ _)⟩)
      dsimp only [Pt.U, Pt.locs, Pt.cells, Pt.slots] at X77 l77 y77 z77 st77 hQ77
      subst l77 y77 z77
      obtain ⟨rfl, e77, hO77⟩ := hQ77
      obtain rfl := hO77
      refine own_via st77 ?_
      show own_Go p e below s _ _ _ (T77.setTop (mkF m 18 #[.val (.int p0), .val (.int p1), .val (.int (3 : Int32)), .val (.int (2 : Int32)), .unset, .unset, .unset] [(.ref w1)]))
      refine own_via (fun _ k => XS.astore X77.here hx rfl (hb hby at_18) rfl rfl (l' := #[.val (.int p0), .val (.int p1), .val (.int (3 : Int32)), .val (.int (2 : Int32)), .val (.ref w1), .unset, .unset]) rfl k) ?_
      show own_Go p e below s _ _ _ (T77.setTop (mkF m 20 #[.val (.int p0), .val (.int p1), .val (.int (3 : Int32)), .val (.int (2 : Int32)), .val (.ref w1), .unset, .unset] []))
      refine own_via (fun _ k => XS.iloadN X77.here hx rfl (hb hby at_20) rfl k) ?_
      show own_Go p e below s _ _ _ (T77.setTop (mkF m 21 #[.val (.int p0), .val (.int p1), .val (.int (3 : Int32)), .val (.int (2 : Int32)), .val (.ref w1), .unset, .unset] [(.int (2 : Int32))]))
      obtain ⟨_, _, ⟨T78, L78, k78, n78⟩, -, X78, ⟨Lc78, hQ78, l78, y78, z78⟩, st78⟩ := Jvm.LawKit.callS X77 hx (y := (⟨"com/example/grantfall/grantfall/model/RoleIncludesPinLaw", "pick", "(I)Lcom/example/grantfall/grantfall/model/Role;"⟩ : MethodName)) hown (mvT hZ (hw _ (List.mem_of_getElem? (i := 1) rfl))) (mvT hZ (hw _ (List.mem_of_getElem? (i := 2) rfl))) (mvT hZ (hw _ (List.mem_of_getElem? (i := 3) rfl))) (mvT hZ (hw _ (List.mem_of_getElem? (i := 4) rfl))) (by decide) (backOf (W := 0) (rm1_2 l Z a0 hw [] w0 w1 w2 w3 w4 h0 n0 Z0 K0) hZ (hw _ (List.mem_of_getElem? (i := 4) rfl)) (hw _ (List.mem_of_getElem? (i := 3) rfl)) (by decide) (by decide)) (g := (mkF m 21 #[.val (.int p0), .val (.int p1), .val (.int (3 : Int32)), .val (.int (2 : Int32)), .val (.ref w1), .unset, .unset] [(.int (2 : Int32))])) rfl (by rw [hml]; rfl) (argsL := [(.int (2 : Int32))]) (rest := []) (lenOf pd0 rfl) rfl (by show 2 * 0 + _ ≤ _; exact Nat.le_of_eq rfl) (hb hby at_21) (fun _ _ => ⟨rfl, e77, (by decide : 0 + 0 ≤ _), (by decide : 0 + 0 ≤ _)⟩)
      dsimp only [Pt.U, Pt.locs, Pt.cells, Pt.slots] at X78 l78 y78 z78 st78 hQ78
      subst l78 y78 z78
      obtain ⟨rfl, e78, hO78⟩ := hQ78
      obtain rfl := hO78
      refine own_via st78 ?_
      show own_Go p e below s _ _ _ (T78.setTop (mkF m 24 #[.val (.int p0), .val (.int p1), .val (.int (3 : Int32)), .val (.int (2 : Int32)), .val (.ref w1), .unset, .unset] [(.ref w4)]))
      refine own_via (fun _ k => XS.astore X78.here hx rfl (hb hby at_24) rfl rfl (l' := #[.val (.int p0), .val (.int p1), .val (.int (3 : Int32)), .val (.int (2 : Int32)), .val (.ref w1), .val (.ref w4), .unset]) rfl k) ?_
      show own_Go p e below s _ _ _ (T78.setTop (mkF m 26 #[.val (.int p0), .val (.int p1), .val (.int (3 : Int32)), .val (.int (2 : Int32)), .val (.ref w1), .val (.ref w4), .unset] []))
      refine own_via (fun _ k => XS.iloadN X78.here hx rfl (hb hby at_26) rfl k) ?_
      show own_Go p e below s _ _ _ (T78.setTop (mkF m 27 #[.val (.int p0), .val (.int p1), .val (.int (3 : Int32)), .val (.int (2 : Int32)), .val (.ref w1), .val (.ref w4), .unset] [(.int (3 : Int32))]))
      refine own_via (fun _ k => XS.ifYes X78.here hx rfl (pc0 := 27) (pc' := 36) rfl (hb hby at_27) rfl ((if0 _ _).trans (feq (by decide : ¬ ((3 : Int32) = (0 : Int32)))).2) (by decide) (by decide) k) ?_
      show own_Go p e below s _ _ _ (T78.setTop (mkF m 36 #[.val (.int p0), .val (.int p1), .val (.int (3 : Int32)), .val (.int (2 : Int32)), .val (.ref w1), .val (.ref w4), .unset] []))
      refine own_via (fun _ k => XS.iloadN X78.here hx rfl (hb hby at_36) rfl k) ?_
      show own_Go p e below s _ _ _ (T78.setTop (mkF m 37 #[.val (.int p0), .val (.int p1), .val (.int (3 : Int32)), .val (.int (2 : Int32)), .val (.ref w1), .val (.ref w4), .unset] [(.int (3 : Int32))]))
      refine own_via (fun _ k => XS.iloadN X78.here hx rfl (hb hby at_37) rfl k) ?_
      show own_Go p e below s _ _ _ (T78.setTop (mkF m 38 #[.val (.int p0), .val (.int p1), .val (.int (3 : Int32)), .val (.int (2 : Int32)), .val (.ref w1), .val (.ref w4), .unset] [(.int (2 : Int32)), (.int (3 : Int32))]))
      refine own_via (fun _ k => XS.icmpYes X78.here hx rfl (pc0 := 38) (pc' := 47) rfl (hb hby at_38) rfl (feq (by decide : ¬ ((3 : Int32) = (2 : Int32)))).2 (by decide) (by decide) k) ?_
      show own_Go p e below s _ _ _ (T78.setTop (mkF m 47 #[.val (.int p0), .val (.int p1), .val (.int (3 : Int32)), .val (.int (2 : Int32)), .val (.ref w1), .val (.ref w4), .unset] []))
      refine own_via (fun _ k => XS.iconst X78.here hx rfl (hb hby at_47) k) ?_
      show own_Go p e below s _ _ _ (T78.setTop (mkF m 48 #[.val (.int p0), .val (.int p1), .val (.int (3 : Int32)), .val (.int (2 : Int32)), .val (.ref w1), .val (.ref w4), .unset] [(.int (0 : Int32))]))
      refine own_via (fun _ k => XS.istore X78.here hx rfl (hb hby at_48) rfl (l' := #[.val (.int p0), .val (.int p1), .val (.int (3 : Int32)), .val (.int (2 : Int32)), .val (.ref w1), .val (.ref w4), .val (.int (0 : Int32))]) rfl k) ?_
      show own_Go p e below s _ _ _ (T78.setTop (mkF m 50 #[.val (.int p0), .val (.int p1), .val (.int (3 : Int32)), .val (.int (2 : Int32)), .val (.ref w1), .val (.ref w4), .val (.int (0 : Int32))] []))
      refine own_via (fun _ k => XS.aload X78.here hx rfl (hb hby at_50) rfl rfl k) ?_
      show own_Go p e below s _ _ _ (T78.setTop (mkF m 52 #[.val (.int p0), .val (.int p1), .val (.int (3 : Int32)), .val (.int (2 : Int32)), .val (.ref w1), .val (.ref w4), .val (.int (0 : Int32))] [(.ref w1)]))
      refine own_via (fun _ k => XS.aload X78.here hx rfl (hb hby at_52) rfl rfl k) ?_
      show own_Go p e below s _ _ _ (T78.setTop (mkF m 54 #[.val (.int p0), .val (.int p1), .val (.int (3 : Int32)), .val (.int (2 : Int32)), .val (.ref w1), .val (.ref w4), .val (.int (0 : Int32))] [(.ref w4), (.ref w1)]))
      obtain ⟨cq79, kq79, q79a, q79b, q79c⟩ := isOf hZ e78 E_w1
      obtain ⟨_, _, ⟨T79, L79, k79, n79⟩, -, X79, ⟨Lc79, hQ79, l79, y79, z79⟩, st79⟩ := X78.virtualBack hx (y := (⟨"com/example/grantfall/grantfall/model/Role", "includes", "(Lcom/example/grantfall/grantfall/model/Role;)Z"⟩ : MethodName)) (z := (⟨"com/example/grantfall/grantfall/model/Role", "includes", "(Lcom/example/grantfall/grantfall/model/Role;)Z"⟩ : MethodName)) hown (mvT hZ (hw _ (List.mem_of_getElem? (i := 10) rfl))) (mvT hZ (hw _ (List.mem_of_getElem? (i := 11) rfl))) (notFace_of_selects (args := #[]) (mvT hZ (hw _ (List.mem_of_getElem? (i := 13) rfl)))) (mvT hZ (hw _ (List.mem_of_getElem? (i := 13) rfl))) (mvT hZ (hw _ (List.mem_of_getElem? (i := 12) rfl))) (by decide) (backOf (W := 0) (rm2_17 l Z a0 hw [] w0 w1 w2 w3 w4 h0 n0 Z0 K0) hZ (hw _ (List.mem_of_getElem? (i := 14) rfl)) (hw _ (List.mem_of_getElem? (i := 6) rfl)) (by decide) (by decide)) q79a q79c (g := (mkF m 54 #[.val (.int p0), .val (.int p1), .val (.int (3 : Int32)), .val (.int (2 : Int32)), .val (.ref w1), .val (.ref w4), .val (.int (0 : Int32))] [(.ref w4), (.ref w1)])) rfl (by rw [hml]; rfl) (Steps.refl _) (argsL := [(.ref w4)]) (rest := []) (lenOf pd1 rfl) rfl (by show 2 * 0 + _ ≤ _; exact Nat.le_of_eq rfl) (hb hby at_54) (fun _ _ => ⟨rfl, e78, (by decide : 0 + 0 ≤ _), (by decide : 0 + 0 ≤ _)⟩)
      dsimp only [Pt.U, Pt.locs, Pt.cells, Pt.slots] at X79 l79 y79 z79 st79 hQ79
      subst l79 y79 z79
      obtain ⟨rfl, e79, hO79⟩ := hQ79
      obtain rfl := hO79
      refine own_tr st79 ?_
      show own_Go p e below s _ _ _ (T79.setTop (mkF m 57 #[.val (.int p0), .val (.int p1), .val (.int (3 : Int32)), .val (.int (2 : Int32)), .val (.ref w1), .val (.ref w4), .val (.int (0 : Int32))] [(.int (0 : Int32))]))
      refine own_via (fun _ k => XS.iload X79.here hx rfl (hb hby at_57) rfl k) ?_
      show own_Go p e below s _ _ _ (T79.setTop (mkF m 59 #[.val (.int p0), .val (.int p1), .val (.int (3 : Int32)), .val (.int (2 : Int32)), .val (.ref w1), .val (.ref w4), .val (.int (0 : Int32))] [(.int (0 : Int32)), (.int (0 : Int32))]))
      refine own_via (fun _ k => XS.icmpNo X79.here hx rfl (hb hby at_59) rfl (teq (by decide : (0 : Int32) = (0 : Int32))).2 k) ?_
      show own_Go p e below s _ _ _ (T79.setTop (mkF m 62 #[.val (.int p0), .val (.int p1), .val (.int (3 : Int32)), .val (.int (2 : Int32)), .val (.ref w1), .val (.ref w4), .val (.int (0 : Int32))] []))
      refine own_via (fun _ k => XS.iconst X79.here hx rfl (hb hby at_62) k) ?_
      show own_Go p e below s _ _ _ (T79.setTop (mkF m 63 #[.val (.int p0), .val (.int p1), .val (.int (3 : Int32)), .val (.int (2 : Int32)), .val (.ref w1), .val (.ref w4), .val (.int (0 : Int32))] [(.int (1 : Int32))]))
      refine own_via (fun _ k => XS.goto X79.here hx rfl (pc0 := 63) (pc' := 67) rfl (hb hby at_63) (by decide) (by decide) k) ?_
      show own_Go p e below s _ _ _ (T79.setTop (mkF m 67 #[.val (.int p0), .val (.int p1), .val (.int (3 : Int32)), .val (.int (2 : Int32)), .val (.ref w1), .val (.ref w4), .val (.int (0 : Int32))] [(.int (1 : Int32))]))
      exact own_retZ X79 hx hlk (t := .boolean) Bd.returns (by simp) (hb hby at_67) (z' := (1 : Int32)) (by first | rfl | decide) ⟨rfl, (Fr.nil n0)⟩ (by decide) (by decide)
    · rw [hk69]
      show own_Go p e below s _ _ _ (s₁.setTop (mkF m 13 #[.val (.int p0), .val (.int p1), .val (.int (3 : Int32)), .unset, .unset, .unset, .unset] [(.int (3 : Int32))]))
      refine own_via (fun _ k => XS.istoreN X0.here hx rfl (hb hby at_13) rfl (l' := #[.val (.int p0), .val (.int p1), .val (.int (3 : Int32)), .val (.int (3 : Int32)), .unset, .unset, .unset]) rfl k) ?_
      show own_Go p e below s _ _ _ (s₁.setTop (mkF m 14 #[.val (.int p0), .val (.int p1), .val (.int (3 : Int32)), .val (.int (3 : Int32)), .unset, .unset, .unset] []))
      refine own_via (fun _ k => XS.iloadN X0.here hx rfl (hb hby at_14) rfl k) ?_
      show own_Go p e below s _ _ _ (s₁.setTop (mkF m 15 #[.val (.int p0), .val (.int p1), .val (.int (3 : Int32)), .val (.int (3 : Int32)), .unset, .unset, .unset] [(.int (3 : Int32))]))
      obtain ⟨_, _, ⟨T80, L80, k80, n80⟩, -, X80, ⟨Lc80, hQ80, l80, y80, z80⟩, st80⟩ := Jvm.LawKit.callS X0 hx (y := (⟨"com/example/grantfall/grantfall/model/RoleIncludesPinLaw", "pick", "(I)Lcom/example/grantfall/grantfall/model/Role;"⟩ : MethodName)) hown (mvT hZ (hw _ (List.mem_of_getElem? (i := 1) rfl))) (mvT hZ (hw _ (List.mem_of_getElem? (i := 2) rfl))) (mvT hZ (hw _ (List.mem_of_getElem? (i := 3) rfl))) (mvT hZ (hw _ (List.mem_of_getElem? (i := 4) rfl))) (by decide) (backOf (W := 0) (rm1_3 l Z a0 hw [] w0 w1 w2 w3 w4 h0 n0 Z0 K0) hZ (hw _ (List.mem_of_getElem? (i := 4) rfl)) (hw _ (List.mem_of_getElem? (i := 3) rfl)) (by decide) (by decide)) (g := (mkF m 15 #[.val (.int p0), .val (.int p1), .val (.int (3 : Int32)), .val (.int (3 : Int32)), .unset, .unset, .unset] [(.int (3 : Int32))])) rfl (by rw [hml]; rfl) (argsL := [(.int (3 : Int32))]) (rest := []) (lenOf pd0 rfl) rfl (by show 2 * 0 + _ ≤ _; exact Nat.le_of_eq rfl) (hb hby at_15) (fun _ _ => ⟨rfl, e0, (by decide : 0 + 0 ≤ _), (by decide : 0 + 0 ≤ _)⟩)
      dsimp only [Pt.U, Pt.locs, Pt.cells, Pt.slots] at X80 l80 y80 z80 st80 hQ80
      subst l80 y80 z80
      obtain ⟨rfl, e80, hO80⟩ := hQ80
      obtain rfl := hO80
      refine own_via st80 ?_
      show own_Go p e below s _ _ _ (T80.setTop (mkF m 18 #[.val (.int p0), .val (.int p1), .val (.int (3 : Int32)), .val (.int (3 : Int32)), .unset, .unset, .unset] [(.ref w1)]))
      refine own_via (fun _ k => XS.astore X80.here hx rfl (hb hby at_18) rfl rfl (l' := #[.val (.int p0), .val (.int p1), .val (.int (3 : Int32)), .val (.int (3 : Int32)), .val (.ref w1), .unset, .unset]) rfl k) ?_
      show own_Go p e below s _ _ _ (T80.setTop (mkF m 20 #[.val (.int p0), .val (.int p1), .val (.int (3 : Int32)), .val (.int (3 : Int32)), .val (.ref w1), .unset, .unset] []))
      refine own_via (fun _ k => XS.iloadN X80.here hx rfl (hb hby at_20) rfl k) ?_
      show own_Go p e below s _ _ _ (T80.setTop (mkF m 21 #[.val (.int p0), .val (.int p1), .val (.int (3 : Int32)), .val (.int (3 : Int32)), .val (.ref w1), .unset, .unset] [(.int (3 : Int32))]))
      obtain ⟨_, _, ⟨T81, L81, k81, n81⟩, -, X81, ⟨Lc81, hQ81, l81, y81, z81⟩, st81⟩ := Jvm.LawKit.callS X80 hx (y := (⟨"com/example/grantfall/grantfall/model/RoleIncludesPinLaw", "pick", "(I)Lcom/example/grantfall/grantfall/model/Role;"⟩ : MethodName)) hown (mvT hZ (hw _ (List.mem_of_getElem? (i := 1) rfl))) (mvT hZ (hw _ (List.mem_of_getElem? (i := 2) rfl))) (mvT hZ (hw _ (List.mem_of_getElem? (i := 3) rfl))) (mvT hZ (hw _ (List.mem_of_getElem? (i := 4) rfl))) (by decide) (backOf (W := 0) (rm1_3 l Z a0 hw [] w0 w1 w2 w3 w4 h0 n0 Z0 K0) hZ (hw _ (List.mem_of_getElem? (i := 4) rfl)) (hw _ (List.mem_of_getElem? (i := 3) rfl)) (by decide) (by decide)) (g := (mkF m 21 #[.val (.int p0), .val (.int p1), .val (.int (3 : Int32)), .val (.int (3 : Int32)), .val (.ref w1), .unset, .unset] [(.int (3 : Int32))])) rfl (by rw [hml]; rfl) (argsL := [(.int (3 : Int32))]) (rest := []) (lenOf pd0 rfl) rfl (by show 2 * 0 + _ ≤ _; exact Nat.le_of_eq rfl) (hb hby at_21) (fun _ _ => ⟨rfl, e80, (by decide : 0 + 0 ≤ _), (by decide : 0 + 0 ≤ _)⟩)
      dsimp only [Pt.U, Pt.locs, Pt.cells, Pt.slots] at X81 l81 y81 z81 st81 hQ81
      subst l81 y81 z81
      obtain ⟨rfl, e81, hO81⟩ := hQ81
      obtain rfl := hO81
      refine own_via st81 ?_
      show own_Go p e below s _ _ _ (T81.setTop (mkF m 24 #[.val (.int p0), .val (.int p1), .val (.int (3 : Int32)), .val (.int (3 : Int32)), .val (.ref w1), .unset, .unset] [(.ref w1)]))
      refine own_via (fun _ k => XS.astore X81.here hx rfl (hb hby at_24) rfl rfl (l' := #[.val (.int p0), .val (.int p1), .val (.int (3 : Int32)), .val (.int (3 : Int32)), .val (.ref w1), .val (.ref w1), .unset]) rfl k) ?_
      show own_Go p e below s _ _ _ (T81.setTop (mkF m 26 #[.val (.int p0), .val (.int p1), .val (.int (3 : Int32)), .val (.int (3 : Int32)), .val (.ref w1), .val (.ref w1), .unset] []))
      refine own_via (fun _ k => XS.iloadN X81.here hx rfl (hb hby at_26) rfl k) ?_
      show own_Go p e below s _ _ _ (T81.setTop (mkF m 27 #[.val (.int p0), .val (.int p1), .val (.int (3 : Int32)), .val (.int (3 : Int32)), .val (.ref w1), .val (.ref w1), .unset] [(.int (3 : Int32))]))
      refine own_via (fun _ k => XS.ifYes X81.here hx rfl (pc0 := 27) (pc' := 36) rfl (hb hby at_27) rfl ((if0 _ _).trans (feq (by decide : ¬ ((3 : Int32) = (0 : Int32)))).2) (by decide) (by decide) k) ?_
      show own_Go p e below s _ _ _ (T81.setTop (mkF m 36 #[.val (.int p0), .val (.int p1), .val (.int (3 : Int32)), .val (.int (3 : Int32)), .val (.ref w1), .val (.ref w1), .unset] []))
      refine own_via (fun _ k => XS.iloadN X81.here hx rfl (hb hby at_36) rfl k) ?_
      show own_Go p e below s _ _ _ (T81.setTop (mkF m 37 #[.val (.int p0), .val (.int p1), .val (.int (3 : Int32)), .val (.int (3 : Int32)), .val (.ref w1), .val (.ref w1), .unset] [(.int (3 : Int32))]))
      refine own_via (fun _ k => XS.iloadN X81.here hx rfl (hb hby at_37) rfl k) ?_
      show own_Go p e below s _ _ _ (T81.setTop (mkF m 38 #[.val (.int p0), .val (.int p1), .val (.int (3 : Int32)), .val (.int (3 : Int32)), .val (.ref w1), .val (.ref w1), .unset] [(.int (3 : Int32)), (.int (3 : Int32))]))
      refine own_via (fun _ k => XS.icmpNo X81.here hx rfl (hb hby at_38) rfl (teq (by decide : (3 : Int32) = (3 : Int32))).2 k) ?_
      show own_Go p e below s _ _ _ (T81.setTop (mkF m 41 #[.val (.int p0), .val (.int p1), .val (.int (3 : Int32)), .val (.int (3 : Int32)), .val (.ref w1), .val (.ref w1), .unset] []))
      refine own_via (fun _ k => XS.iconst X81.here hx rfl (hb hby at_41) k) ?_
      show own_Go p e below s _ _ _ (T81.setTop (mkF m 42 #[.val (.int p0), .val (.int p1), .val (.int (3 : Int32)), .val (.int (3 : Int32)), .val (.ref w1), .val (.ref w1), .unset] [(.int (1 : Int32))]))
      refine own_via (fun _ k => XS.istore X81.here hx rfl (hb hby at_42) rfl (l' := #[.val (.int p0), .val (.int p1), .val (.int (3 : Int32)), .val (.int (3 : Int32)), .val (.ref w1), .val (.ref w1), .val (.int (1 : Int32))]) rfl k) ?_
      show own_Go p e below s _ _ _ (T81.setTop (mkF m 44 #[.val (.int p0), .val (.int p1), .val (.int (3 : Int32)), .val (.int (3 : Int32)), .val (.ref w1), .val (.ref w1), .val (.int (1 : Int32))] []))
      refine own_via (fun _ k => XS.goto X81.here hx rfl (pc0 := 44) (pc' := 50) rfl (hb hby at_44) (by decide) (by decide) k) ?_
      show own_Go p e below s _ _ _ (T81.setTop (mkF m 50 #[.val (.int p0), .val (.int p1), .val (.int (3 : Int32)), .val (.int (3 : Int32)), .val (.ref w1), .val (.ref w1), .val (.int (1 : Int32))] []))
      refine own_via (fun _ k => XS.aload X81.here hx rfl (hb hby at_50) rfl rfl k) ?_
      show own_Go p e below s _ _ _ (T81.setTop (mkF m 52 #[.val (.int p0), .val (.int p1), .val (.int (3 : Int32)), .val (.int (3 : Int32)), .val (.ref w1), .val (.ref w1), .val (.int (1 : Int32))] [(.ref w1)]))
      refine own_via (fun _ k => XS.aload X81.here hx rfl (hb hby at_52) rfl rfl k) ?_
      show own_Go p e below s _ _ _ (T81.setTop (mkF m 54 #[.val (.int p0), .val (.int p1), .val (.int (3 : Int32)), .val (.int (3 : Int32)), .val (.ref w1), .val (.ref w1), .val (.int (1 : Int32))] [(.ref w1), (.ref w1)]))
      obtain ⟨cq82, kq82, q82a, q82b, q82c⟩ := isOf hZ e81 E_w1
      obtain ⟨_, _, ⟨T82, L82, k82, n82⟩, -, X82, ⟨Lc82, hQ82, l82, y82, z82⟩, st82⟩ := X81.virtualBack hx (y := (⟨"com/example/grantfall/grantfall/model/Role", "includes", "(Lcom/example/grantfall/grantfall/model/Role;)Z"⟩ : MethodName)) (z := (⟨"com/example/grantfall/grantfall/model/Role", "includes", "(Lcom/example/grantfall/grantfall/model/Role;)Z"⟩ : MethodName)) hown (mvT hZ (hw _ (List.mem_of_getElem? (i := 10) rfl))) (mvT hZ (hw _ (List.mem_of_getElem? (i := 11) rfl))) (notFace_of_selects (args := #[]) (mvT hZ (hw _ (List.mem_of_getElem? (i := 13) rfl)))) (mvT hZ (hw _ (List.mem_of_getElem? (i := 13) rfl))) (mvT hZ (hw _ (List.mem_of_getElem? (i := 12) rfl))) (by decide) (backOf (W := 0) (rm2_18 l Z a0 hw [] w0 w1 w2 w3 w4 h0 n0 Z0 K0) hZ (hw _ (List.mem_of_getElem? (i := 14) rfl)) (hw _ (List.mem_of_getElem? (i := 6) rfl)) (by decide) (by decide)) q82a q82c (g := (mkF m 54 #[.val (.int p0), .val (.int p1), .val (.int (3 : Int32)), .val (.int (3 : Int32)), .val (.ref w1), .val (.ref w1), .val (.int (1 : Int32))] [(.ref w1), (.ref w1)])) rfl (by rw [hml]; rfl) (Steps.refl _) (argsL := [(.ref w1)]) (rest := []) (lenOf pd1 rfl) rfl (by show 2 * 0 + _ ≤ _; exact Nat.le_of_eq rfl) (hb hby at_54) (fun _ _ => ⟨rfl, e81, (by decide : 0 + 0 ≤ _), (by decide : 0 + 0 ≤ _)⟩)
      dsimp only [Pt.U, Pt.locs, Pt.cells, Pt.slots] at X82 l82 y82 z82 st82 hQ82
      subst l82 y82 z82
      obtain ⟨rfl, e82, hO82⟩ := hQ82
      obtain rfl := hO82
      refine own_tr st82 ?_
      show own_Go p e below s _ _ _ (T82.setTop (mkF m 57 #[.val (.int p0), .val (.int p1), .val (.int (3 : Int32)), .val (.int (3 : Int32)), .val (.ref w1), .val (.ref w1), .val (.int (1 : Int32))] [(.int (1 : Int32))]))
      refine own_via (fun _ k => XS.iload X82.here hx rfl (hb hby at_57) rfl k) ?_
      show own_Go p e below s _ _ _ (T82.setTop (mkF m 59 #[.val (.int p0), .val (.int p1), .val (.int (3 : Int32)), .val (.int (3 : Int32)), .val (.ref w1), .val (.ref w1), .val (.int (1 : Int32))] [(.int (1 : Int32)), (.int (1 : Int32))]))
      refine own_via (fun _ k => XS.icmpNo X82.here hx rfl (hb hby at_59) rfl (teq (by decide : (1 : Int32) = (1 : Int32))).2 k) ?_
      show own_Go p e below s _ _ _ (T82.setTop (mkF m 62 #[.val (.int p0), .val (.int p1), .val (.int (3 : Int32)), .val (.int (3 : Int32)), .val (.ref w1), .val (.ref w1), .val (.int (1 : Int32))] []))
      refine own_via (fun _ k => XS.iconst X82.here hx rfl (hb hby at_62) k) ?_
      show own_Go p e below s _ _ _ (T82.setTop (mkF m 63 #[.val (.int p0), .val (.int p1), .val (.int (3 : Int32)), .val (.int (3 : Int32)), .val (.ref w1), .val (.ref w1), .val (.int (1 : Int32))] [(.int (1 : Int32))]))
      refine own_via (fun _ k => XS.goto X82.here hx rfl (pc0 := 63) (pc' := 67) rfl (hb hby at_63) (by decide) (by decide) k) ?_
      show own_Go p e below s _ _ _ (T82.setTop (mkF m 67 #[.val (.int p0), .val (.int p1), .val (.int (3 : Int32)), .val (.int (3 : Int32)), .val (.ref w1), .val (.ref w1), .val (.int (1 : Int32))] [(.int (1 : Int32))]))
      exact own_retZ X82 hx hlk (t := .boolean) Bd.returns (by simp) (hb hby at_67) (z' := (1 : Int32)) (by first | rfl | decide) ⟨rfl, (Fr.nil n0)⟩ (by decide) (by decide)
    · rw [hk70]
      show own_Go p e below s _ _ _ (s₁.setTop (mkF m 13 #[.val (.int p0), .val (.int p1), .val (.int (3 : Int32)), .unset, .unset, .unset, .unset] [(.int (4 : Int32))]))
      refine own_via (fun _ k => XS.istoreN X0.here hx rfl (hb hby at_13) rfl (l' := #[.val (.int p0), .val (.int p1), .val (.int (3 : Int32)), .val (.int (4 : Int32)), .unset, .unset, .unset]) rfl k) ?_
      show own_Go p e below s _ _ _ (s₁.setTop (mkF m 14 #[.val (.int p0), .val (.int p1), .val (.int (3 : Int32)), .val (.int (4 : Int32)), .unset, .unset, .unset] []))
      refine own_via (fun _ k => XS.iloadN X0.here hx rfl (hb hby at_14) rfl k) ?_
      show own_Go p e below s _ _ _ (s₁.setTop (mkF m 15 #[.val (.int p0), .val (.int p1), .val (.int (3 : Int32)), .val (.int (4 : Int32)), .unset, .unset, .unset] [(.int (3 : Int32))]))
      obtain ⟨_, _, ⟨T83, L83, k83, n83⟩, -, X83, ⟨Lc83, hQ83, l83, y83, z83⟩, st83⟩ := Jvm.LawKit.callS X0 hx (y := (⟨"com/example/grantfall/grantfall/model/RoleIncludesPinLaw", "pick", "(I)Lcom/example/grantfall/grantfall/model/Role;"⟩ : MethodName)) hown (mvT hZ (hw _ (List.mem_of_getElem? (i := 1) rfl))) (mvT hZ (hw _ (List.mem_of_getElem? (i := 2) rfl))) (mvT hZ (hw _ (List.mem_of_getElem? (i := 3) rfl))) (mvT hZ (hw _ (List.mem_of_getElem? (i := 4) rfl))) (by decide) (backOf (W := 0) (rm1_3 l Z a0 hw [] w0 w1 w2 w3 w4 h0 n0 Z0 K0) hZ (hw _ (List.mem_of_getElem? (i := 4) rfl)) (hw _ (List.mem_of_getElem? (i := 3) rfl)) (by decide) (by decide)) (g := (mkF m 15 #[.val (.int p0), .val (.int p1), .val (.int (3 : Int32)), .val (.int (4 : Int32)), .unset, .unset, .unset] [(.int (3 : Int32))])) rfl (by rw [hml]; rfl) (argsL := [(.int (3 : Int32))]) (rest := []) (lenOf pd0 rfl) rfl (by show 2 * 0 + _ ≤ _; exact Nat.le_of_eq rfl) (hb hby at_15) (fun _ _ => ⟨rfl, e0, (by decide : 0 + 0 ≤ _), (by decide : 0 + 0 ≤ _)⟩)
      dsimp only [Pt.U, Pt.locs, Pt.cells, Pt.slots] at X83 l83 y83 z83 st83 hQ83
      subst l83 y83 z83
      obtain ⟨rfl, e83, hO83⟩ := hQ83
      obtain rfl := hO83
      refine own_via st83 ?_
      show own_Go p e below s _ _ _ (T83.setTop (mkF m 18 #[.val (.int p0), .val (.int p1), .val (.int (3 : Int32)), .val (.int (4 : Int32)), .unset, .unset, .unset] [(.ref w1)]))
      refine own_via (fun _ k => XS.astore X83.here hx rfl (hb hby at_18) rfl rfl (l' := #[.val (.int p0), .val (.int p1), .val (.int (3 : Int32)), .val (.int (4 : Int32)), .val (.ref w1), .unset, .unset]) rfl k) ?_
      show own_Go p e below s _ _ _ (T83.setTop (mkF m 20 #[.val (.int p0), .val (.int p1), .val (.int (3 : Int32)), .val (.int (4 : Int32)), .val (.ref w1), .unset, .unset] []))
      refine own_via (fun _ k => XS.iloadN X83.here hx rfl (hb hby at_20) rfl k) ?_
      show own_Go p e below s _ _ _ (T83.setTop (mkF m 21 #[.val (.int p0), .val (.int p1), .val (.int (3 : Int32)), .val (.int (4 : Int32)), .val (.ref w1), .unset, .unset] [(.int (4 : Int32))]))
      obtain ⟨_, _, ⟨T84, L84, k84, n84⟩, -, X84, ⟨Lc84, hQ84, l84, y84, z84⟩, st84⟩ := Jvm.LawKit.callS X83 hx (y := (⟨"com/example/grantfall/grantfall/model/RoleIncludesPinLaw", "pick", "(I)Lcom/example/grantfall/grantfall/model/Role;"⟩ : MethodName)) hown (mvT hZ (hw _ (List.mem_of_getElem? (i := 1) rfl))) (mvT hZ (hw _ (List.mem_of_getElem? (i := 2) rfl))) (mvT hZ (hw _ (List.mem_of_getElem? (i := 3) rfl))) (mvT hZ (hw _ (List.mem_of_getElem? (i := 4) rfl))) (by decide) (backOf (W := 0) (rm1_4 l Z a0 hw [] w0 w1 w2 w3 w4 h0 n0 Z0 K0) hZ (hw _ (List.mem_of_getElem? (i := 4) rfl)) (hw _ (List.mem_of_getElem? (i := 3) rfl)) (by decide) (by decide)) (g := (mkF m 21 #[.val (.int p0), .val (.int p1), .val (.int (3 : Int32)), .val (.int (4 : Int32)), .val (.ref w1), .unset, .unset] [(.int (4 : Int32))])) rfl (by rw [hml]; rfl) (argsL := [(.int (4 : Int32))]) (rest := []) (lenOf pd0 rfl) rfl (by show 2 * 0 + _ ≤ _; exact Nat.le_of_eq rfl) (hb hby at_21) (fun _ _ => ⟨rfl, e83, (by decide : 0 + 0 ≤ _), (by decide : 0 + 0 ≤ _)⟩)
      dsimp only [Pt.U, Pt.locs, Pt.cells, Pt.slots] at X84 l84 y84 z84 st84 hQ84
      subst l84 y84 z84
      obtain ⟨rfl, e84, hO84⟩ := hQ84
      obtain rfl := hO84
      refine own_via st84 ?_
      show own_Go p e below s _ _ _ (T84.setTop (mkF m 24 #[.val (.int p0), .val (.int p1), .val (.int (3 : Int32)), .val (.int (4 : Int32)), .val (.ref w1), .unset, .unset] [(.ref w2)]))
      refine own_via (fun _ k => XS.astore X84.here hx rfl (hb hby at_24) rfl rfl (l' := #[.val (.int p0), .val (.int p1), .val (.int (3 : Int32)), .val (.int (4 : Int32)), .val (.ref w1), .val (.ref w2), .unset]) rfl k) ?_
      show own_Go p e below s _ _ _ (T84.setTop (mkF m 26 #[.val (.int p0), .val (.int p1), .val (.int (3 : Int32)), .val (.int (4 : Int32)), .val (.ref w1), .val (.ref w2), .unset] []))
      refine own_via (fun _ k => XS.iloadN X84.here hx rfl (hb hby at_26) rfl k) ?_
      show own_Go p e below s _ _ _ (T84.setTop (mkF m 27 #[.val (.int p0), .val (.int p1), .val (.int (3 : Int32)), .val (.int (4 : Int32)), .val (.ref w1), .val (.ref w2), .unset] [(.int (3 : Int32))]))
      refine own_via (fun _ k => XS.ifYes X84.here hx rfl (pc0 := 27) (pc' := 36) rfl (hb hby at_27) rfl ((if0 _ _).trans (feq (by decide : ¬ ((3 : Int32) = (0 : Int32)))).2) (by decide) (by decide) k) ?_
      show own_Go p e below s _ _ _ (T84.setTop (mkF m 36 #[.val (.int p0), .val (.int p1), .val (.int (3 : Int32)), .val (.int (4 : Int32)), .val (.ref w1), .val (.ref w2), .unset] []))
      refine own_via (fun _ k => XS.iloadN X84.here hx rfl (hb hby at_36) rfl k) ?_
      show own_Go p e below s _ _ _ (T84.setTop (mkF m 37 #[.val (.int p0), .val (.int p1), .val (.int (3 : Int32)), .val (.int (4 : Int32)), .val (.ref w1), .val (.ref w2), .unset] [(.int (3 : Int32))]))
      refine own_via (fun _ k => XS.iloadN X84.here hx rfl (hb hby at_37) rfl k) ?_
      show own_Go p e below s _ _ _ (T84.setTop (mkF m 38 #[.val (.int p0), .val (.int p1), .val (.int (3 : Int32)), .val (.int (4 : Int32)), .val (.ref w1), .val (.ref w2), .unset] [(.int (4 : Int32)), (.int (3 : Int32))]))
      refine own_via (fun _ k => XS.icmpYes X84.here hx rfl (pc0 := 38) (pc' := 47) rfl (hb hby at_38) rfl (feq (by decide : ¬ ((3 : Int32) = (4 : Int32)))).2 (by decide) (by decide) k) ?_
      show own_Go p e below s _ _ _ (T84.setTop (mkF m 47 #[.val (.int p0), .val (.int p1), .val (.int (3 : Int32)), .val (.int (4 : Int32)), .val (.ref w1), .val (.ref w2), .unset] []))
      refine own_via (fun _ k => XS.iconst X84.here hx rfl (hb hby at_47) k) ?_
      show own_Go p e below s _ _ _ (T84.setTop (mkF m 48 #[.val (.int p0), .val (.int p1), .val (.int (3 : Int32)), .val (.int (4 : Int32)), .val (.ref w1), .val (.ref w2), .unset] [(.int (0 : Int32))]))
      refine own_via (fun _ k => XS.istore X84.here hx rfl (hb hby at_48) rfl (l' := #[.val (.int p0), .val (.int p1), .val (.int (3 : Int32)), .val (.int (4 : Int32)), .val (.ref w1), .val (.ref w2), .val (.int (0 : Int32))]) rfl k) ?_
      show own_Go p e below s _ _ _ (T84.setTop (mkF m 50 #[.val (.int p0), .val (.int p1), .val (.int (3 : Int32)), .val (.int (4 : Int32)), .val (.ref w1), .val (.ref w2), .val (.int (0 : Int32))] []))
      refine own_via (fun _ k => XS.aload X84.here hx rfl (hb hby at_50) rfl rfl k) ?_
      show own_Go p e below s _ _ _ (T84.setTop (mkF m 52 #[.val (.int p0), .val (.int p1), .val (.int (3 : Int32)), .val (.int (4 : Int32)), .val (.ref w1), .val (.ref w2), .val (.int (0 : Int32))] [(.ref w1)]))
      refine own_via (fun _ k => XS.aload X84.here hx rfl (hb hby at_52) rfl rfl k) ?_
      show own_Go p e below s _ _ _ (T84.setTop (mkF m 54 #[.val (.int p0), .val (.int p1), .val (.int (3 : Int32)), .val (.int (4 : Int32)), .val (.ref w1), .val (.ref w2), .val (.int (0 : Int32))] [(.ref w2), (.ref w1)]))
      obtain ⟨cq85, kq85, q85a, q85b, q85c⟩ := isOf hZ e84 E_w1
      obtain ⟨_, _, ⟨T85, L85, k85, n85⟩, -, X85, ⟨Lc85, hQ85, l85, y85, z85⟩, st85⟩ := X84.virtualBack hx (y := (⟨"com/example/grantfall/grantfall/model/Role", "includes", "(Lcom/example/grantfall/grantfall/model/Role;)Z"⟩ : MethodName)) (z := (⟨"com/example/grantfall/grantfall/model/Role", "includes", "(Lcom/example/grantfall/grantfall/model/Role;)Z"⟩ : MethodName)) hown (mvT hZ (hw _ (List.mem_of_getElem? (i := 10) rfl))) (mvT hZ (hw _ (List.mem_of_getElem? (i := 11) rfl))) (notFace_of_selects (args := #[]) (mvT hZ (hw _ (List.mem_of_getElem? (i := 13) rfl)))) (mvT hZ (hw _ (List.mem_of_getElem? (i := 13) rfl))) (mvT hZ (hw _ (List.mem_of_getElem? (i := 12) rfl))) (by decide) (backOf (W := 0) (rm2_19 l Z a0 hw [] w0 w1 w2 w3 w4 h0 n0 Z0 K0) hZ (hw _ (List.mem_of_getElem? (i := 14) rfl)) (hw _ (List.mem_of_getElem? (i := 6) rfl)) (by decide) (by decide)) q85a q85c (g := (mkF m 54 #[.val (.int p0), .val (.int p1), .val (.int (3 : Int32)), .val (.int (4 : Int32)), .val (.ref w1), .val (.ref w2), .val (.int (0 : Int32))] [(.ref w2), (.ref w1)])) rfl (by rw [hml]; rfl) (Steps.refl _) (argsL := [(.ref w2)]) (rest := []) (lenOf pd1 rfl) rfl (by show 2 * 0 + _ ≤ _; exact Nat.le_of_eq rfl) (hb hby at_54) (fun _ _ => ⟨rfl, e84, (by decide : 0 + 0 ≤ _), (by decide : 0 + 0 ≤ _)⟩)
      dsimp only [Pt.U, Pt.locs, Pt.cells, Pt.slots] at X85 l85 y85 z85 st85 hQ85
      subst l85 y85 z85
      obtain ⟨rfl, e85, hO85⟩ := hQ85
      obtain rfl := hO85
      refine own_tr st85 ?_
      show own_Go p e below s _ _ _ (T85.setTop (mkF m 57 #[.val (.int p0), .val (.int p1), .val (.int (3 : Int32)), .val (.int (4 : Int32)), .val (.ref w1), .val (.ref w2), .val (.int (0 : Int32))] [(.int (0 : Int32))]))
      refine own_via (fun _ k => XS.iload X85.here hx rfl (hb hby at_57) rfl k) ?_
      show own_Go p e below s _ _ _ (T85.setTop (mkF m 59 #[.val (.int p0), .val (.int p1), .val (.int (3 : Int32)), .val (.int (4 : Int32)), .val (.ref w1), .val (.ref w2), .val (.int (0 : Int32))] [(.int (0 : Int32)), (.int (0 : Int32))]))
      refine own_via (fun _ k => XS.icmpNo X85.here hx rfl (hb hby at_59) rfl (teq (by decide : (0 : Int32) = (0 : Int32))).2 k) ?_
      show own_Go p e below s _ _ _ (T85.setTop (mkF m 62 #[.val (.int p0), .val (.int p1), .val (.int (3 : Int32)), .val (.int (4 : Int32)), .val (.ref w1), .val (.ref w2), .val (.int (0 : Int32))] []))
      refine own_via (fun _ k => XS.iconst X85.here hx rfl (hb hby at_62) k) ?_
      show own_Go p e below s _ _ _ (T85.setTop (mkF m 63 #[.val (.int p0), .val (.int p1), .val (.int (3 : Int32)), .val (.int (4 : Int32)), .val (.ref w1), .val (.ref w2), .val (.int (0 : Int32))] [(.int (1 : Int32))]))
      refine own_via (fun _ k => XS.goto X85.here hx rfl (pc0 := 63) (pc' := 67) rfl (hb hby at_63) (by decide) (by decide) k) ?_
      show own_Go p e below s _ _ _ (T85.setTop (mkF m 67 #[.val (.int p0), .val (.int p1), .val (.int (3 : Int32)), .val (.int (4 : Int32)), .val (.ref w1), .val (.ref w2), .val (.int (0 : Int32))] [(.int (1 : Int32))]))
      exact own_retZ X85 hx hlk (t := .boolean) Bd.returns (by simp) (hb hby at_67) (z' := (1 : Int32)) (by first | rfl | decide) ⟨rfl, (Fr.nil n0)⟩ (by decide) (by decide)
  · rw [hk5]
    show own_Go p e below s _ _ _ (s₁.setTop (mkF m 6 #[.val (.int p0), .val (.int p1), .unset, .unset, .unset, .unset, .unset] [(.int (4 : Int32))]))
    refine own_via (fun _ k => XS.istoreN X0.here hx rfl (hb hby at_6) rfl (l' := #[.val (.int p0), .val (.int p1), .val (.int (4 : Int32)), .unset, .unset, .unset, .unset]) rfl k) ?_
    show own_Go p e below s _ _ _ (s₁.setTop (mkF m 7 #[.val (.int p0), .val (.int p1), .val (.int (4 : Int32)), .unset, .unset, .unset, .unset] []))
    refine own_via (fun _ k => XS.iloadN X0.here hx rfl (hb hby at_7) rfl k) ?_
    show own_Go p e below s _ _ _ (s₁.setTop (mkF m 8 #[.val (.int p0), .val (.int p1), .val (.int (4 : Int32)), .unset, .unset, .unset, .unset] [(.int p1)]))
    refine own_via (fun _ k => X0.ldcInt hx hown (mvT hZ (hw _ (List.mem_of_getElem? (i := 0) rfl))) (g := (mkF m 8 #[.val (.int p0), .val (.int p1), .val (.int (4 : Int32)), .unset, .unset, .unset, .unset] [(.int p1)])) rfl (hb hby at_8) _ k) ?_
    show own_Go p e below s _ _ _ (s₁.setTop (mkF m 10 #[.val (.int p0), .val (.int p1), .val (.int (4 : Int32)), .unset, .unset, .unset, .unset] [(.int (2147483647 : Int32)), (.int p1)]))
    refine own_via (fun _ k => XS.iand X0.here hx rfl (hb hby at_10) rfl k) ?_
    show own_Go p e below s _ _ _ (s₁.setTop (mkF m 11 #[.val (.int p0), .val (.int p1), .val (.int (4 : Int32)), .unset, .unset, .unset, .unset] [(.int (p1 &&& (2147483647 : Int32)))]))
    refine own_via (fun _ k => XS.iconst X0.here hx rfl (hb hby at_11) k) ?_
    show own_Go p e below s _ _ _ (s₁.setTop (mkF m 12 #[.val (.int p0), .val (.int p1), .val (.int (4 : Int32)), .unset, .unset, .unset, .unset] [(.int (5 : Int32)), (.int (p1 &&& (2147483647 : Int32)))]))
    refine own_via (fun _ k => iremM X0 hx rfl (hb hby at_12) rfl (by decide : ¬ ((5 : Int32) = (0 : Int32))) k) ?_
    rcases (own_mod5 _ : ((p1 &&& (2147483647 : Int32)) % (5 : Int32)) = (0 : Int32) ∨ ((p1 &&& (2147483647 : Int32)) % (5 : Int32)) = (1 : Int32) ∨ ((p1 &&& (2147483647 : Int32)) % (5 : Int32)) = (2 : Int32) ∨ ((p1 &&& (2147483647 : Int32)) % (5 : Int32)) = (3 : Int32) ∨ ((p1 &&& (2147483647 : Int32)) % (5 : Int32)) = (4 : Int32)) with hk86 | hk87 | hk88 | hk89 | hk90
    · rw [hk86]
      show own_Go p e below s _ _ _ (s₁.setTop (mkF m 13 #[.val (.int p0), .val (.int p1), .val (.int (4 : Int32)), .unset, .unset, .unset, .unset] [(.int (0 : Int32))]))
      refine own_via (fun _ k => XS.istoreN X0.here hx rfl (hb hby at_13) rfl (l' := #[.val (.int p0), .val (.int p1), .val (.int (4 : Int32)), .val (.int (0 : Int32)), .unset, .unset, .unset]) rfl k) ?_
      show own_Go p e below s _ _ _ (s₁.setTop (mkF m 14 #[.val (.int p0), .val (.int p1), .val (.int (4 : Int32)), .val (.int (0 : Int32)), .unset, .unset, .unset] []))
      refine own_via (fun _ k => XS.iloadN X0.here hx rfl (hb hby at_14) rfl k) ?_
      show own_Go p e below s _ _ _ (s₁.setTop (mkF m 15 #[.val (.int p0), .val (.int p1), .val (.int (4 : Int32)), .val (.int (0 : Int32)), .unset, .unset, .unset] [(.int (4 : Int32))]))
      obtain ⟨_, _, ⟨T91, L91, k91, n91⟩, -, X91, ⟨Lc91, hQ91, l91, y91, z91⟩, st91⟩ := Jvm.LawKit.callS X0 hx (y := (⟨"com/example/grantfall/grantfall/model/RoleIncludesPinLaw", "pick", "(I)Lcom/example/grantfall/grantfall/model/Role;"⟩ : MethodName)) hown (mvT hZ (hw _ (List.mem_of_getElem? (i := 1) rfl))) (mvT hZ (hw _ (List.mem_of_getElem? (i := 2) rfl))) (mvT hZ (hw _ (List.mem_of_getElem? (i := 3) rfl))) (mvT hZ (hw _ (List.mem_of_getElem? (i := 4) rfl))) (by decide) (backOf (W := 0) (rm1_4 l Z a0 hw [] w0 w1 w2 w3 w4 h0 n0 Z0 K0) hZ (hw _ (List.mem_of_getElem? (i := 4) rfl)) (hw _ (List.mem_of_getElem? (i := 3) rfl)) (by decide) (by decide)) (g := (mkF m 15 #[.val (.int p0), .val (.int p1), .val (.int (4 : Int32)), .val (.int (0 : Int32)), .unset, .unset, .unset] [(.int (4 : Int32))])) rfl (by rw [hml]; rfl) (argsL := [(.int (4 : Int32))]) (rest := []) (lenOf pd0 rfl) rfl (by show 2 * 0 + _ ≤ _; exact Nat.le_of_eq rfl) (hb hby at_15) (fun _ _ => ⟨rfl, e0, (by decide : 0 + 0 ≤ _), (by decide : 0 + 0 ≤ _)⟩)
      dsimp only [Pt.U, Pt.locs, Pt.cells, Pt.slots] at X91 l91 y91 z91 st91 hQ91
      subst l91 y91 z91
      obtain ⟨rfl, e91, hO91⟩ := hQ91
      obtain rfl := hO91
      refine own_via st91 ?_
      show own_Go p e below s _ _ _ (T91.setTop (mkF m 18 #[.val (.int p0), .val (.int p1), .val (.int (4 : Int32)), .val (.int (0 : Int32)), .unset, .unset, .unset] [(.ref w2)]))
      refine own_via (fun _ k => XS.astore X91.here hx rfl (hb hby at_18) rfl rfl (l' := #[.val (.int p0), .val (.int p1), .val (.int (4 : Int32)), .val (.int (0 : Int32)), .val (.ref w2), .unset, .unset]) rfl k) ?_
      show own_Go p e below s _ _ _ (T91.setTop (mkF m 20 #[.val (.int p0), .val (.int p1), .val (.int (4 : Int32)), .val (.int (0 : Int32)), .val (.ref w2), .unset, .unset] []))
      refine own_via (fun _ k => XS.iloadN X91.here hx rfl (hb hby at_20) rfl k) ?_
      show own_Go p e below s _ _ _ (T91.setTop (mkF m 21 #[.val (.int p0), .val (.int p1), .val (.int (4 : Int32)), .val (.int (0 : Int32)), .val (.ref w2), .unset, .unset] [(.int (0 : Int32))]))
      obtain ⟨_, _, ⟨T92, L92, k92, n92⟩, -, X92, ⟨Lc92, hQ92, l92, y92, z92⟩, st92⟩ := Jvm.LawKit.callS X91 hx (y := (⟨"com/example/grantfall/grantfall/model/RoleIncludesPinLaw", "pick", "(I)Lcom/example/grantfall/grantfall/model/Role;"⟩ : MethodName)) hown (mvT hZ (hw _ (List.mem_of_getElem? (i := 1) rfl))) (mvT hZ (hw _ (List.mem_of_getElem? (i := 2) rfl))) (mvT hZ (hw _ (List.mem_of_getElem? (i := 3) rfl))) (mvT hZ (hw _ (List.mem_of_getElem? (i := 4) rfl))) (by decide) (backOf (W := 0) (rm1_0 l Z a0 hw [] w0 w1 w2 w3 w4 h0 n0 Z0 K0) hZ (hw _ (List.mem_of_getElem? (i := 4) rfl)) (hw _ (List.mem_of_getElem? (i := 3) rfl)) (by decide) (by decide)) (g := (mkF m 21 #[.val (.int p0), .val (.int p1), .val (.int (4 : Int32)), .val (.int (0 : Int32)), .val (.ref w2), .unset, .unset] [(.int (0 : Int32))])) rfl (by rw [hml]; rfl) (argsL := [(.int (0 : Int32))]) (rest := []) (lenOf pd0 rfl) rfl (by show 2 * 0 + _ ≤ _; exact Nat.le_of_eq rfl) (hb hby at_21) (fun _ _ => ⟨rfl, e91, (by decide : 0 + 0 ≤ _), (by decide : 0 + 0 ≤ _)⟩)
      dsimp only [Pt.U, Pt.locs, Pt.cells, Pt.slots] at X92 l92 y92 z92 st92 hQ92
      subst l92 y92 z92
      obtain ⟨rfl, e92, hO92⟩ := hQ92
      obtain rfl := hO92
      refine own_via st92 ?_
      show own_Go p e below s _ _ _ (T92.setTop (mkF m 24 #[.val (.int p0), .val (.int p1), .val (.int (4 : Int32)), .val (.int (0 : Int32)), .val (.ref w2), .unset, .unset] [(.ref w0)]))
      refine own_via (fun _ k => XS.astore X92.here hx rfl (hb hby at_24) rfl rfl (l' := #[.val (.int p0), .val (.int p1), .val (.int (4 : Int32)), .val (.int (0 : Int32)), .val (.ref w2), .val (.ref w0), .unset]) rfl k) ?_
      show own_Go p e below s _ _ _ (T92.setTop (mkF m 26 #[.val (.int p0), .val (.int p1), .val (.int (4 : Int32)), .val (.int (0 : Int32)), .val (.ref w2), .val (.ref w0), .unset] []))
      refine own_via (fun _ k => XS.iloadN X92.here hx rfl (hb hby at_26) rfl k) ?_
      show own_Go p e below s _ _ _ (T92.setTop (mkF m 27 #[.val (.int p0), .val (.int p1), .val (.int (4 : Int32)), .val (.int (0 : Int32)), .val (.ref w2), .val (.ref w0), .unset] [(.int (4 : Int32))]))
      refine own_via (fun _ k => XS.ifYes X92.here hx rfl (pc0 := 27) (pc' := 36) rfl (hb hby at_27) rfl ((if0 _ _).trans (feq (by decide : ¬ ((4 : Int32) = (0 : Int32)))).2) (by decide) (by decide) k) ?_
      show own_Go p e below s _ _ _ (T92.setTop (mkF m 36 #[.val (.int p0), .val (.int p1), .val (.int (4 : Int32)), .val (.int (0 : Int32)), .val (.ref w2), .val (.ref w0), .unset] []))
      refine own_via (fun _ k => XS.iloadN X92.here hx rfl (hb hby at_36) rfl k) ?_
      show own_Go p e below s _ _ _ (T92.setTop (mkF m 37 #[.val (.int p0), .val (.int p1), .val (.int (4 : Int32)), .val (.int (0 : Int32)), .val (.ref w2), .val (.ref w0), .unset] [(.int (4 : Int32))]))
      refine own_via (fun _ k => XS.iloadN X92.here hx rfl (hb hby at_37) rfl k) ?_
      show own_Go p e below s _ _ _ (T92.setTop (mkF m 38 #[.val (.int p0), .val (.int p1), .val (.int (4 : Int32)), .val (.int (0 : Int32)), .val (.ref w2), .val (.ref w0), .unset] [(.int (0 : Int32)), (.int (4 : Int32))]))
      refine own_via (fun _ k => XS.icmpYes X92.here hx rfl (pc0 := 38) (pc' := 47) rfl (hb hby at_38) rfl (feq (by decide : ¬ ((4 : Int32) = (0 : Int32)))).2 (by decide) (by decide) k) ?_
      show own_Go p e below s _ _ _ (T92.setTop (mkF m 47 #[.val (.int p0), .val (.int p1), .val (.int (4 : Int32)), .val (.int (0 : Int32)), .val (.ref w2), .val (.ref w0), .unset] []))
      refine own_via (fun _ k => XS.iconst X92.here hx rfl (hb hby at_47) k) ?_
      show own_Go p e below s _ _ _ (T92.setTop (mkF m 48 #[.val (.int p0), .val (.int p1), .val (.int (4 : Int32)), .val (.int (0 : Int32)), .val (.ref w2), .val (.ref w0), .unset] [(.int (0 : Int32))]))
      refine own_via (fun _ k => XS.istore X92.here hx rfl (hb hby at_48) rfl (l' := #[.val (.int p0), .val (.int p1), .val (.int (4 : Int32)), .val (.int (0 : Int32)), .val (.ref w2), .val (.ref w0), .val (.int (0 : Int32))]) rfl k) ?_
      show own_Go p e below s _ _ _ (T92.setTop (mkF m 50 #[.val (.int p0), .val (.int p1), .val (.int (4 : Int32)), .val (.int (0 : Int32)), .val (.ref w2), .val (.ref w0), .val (.int (0 : Int32))] []))
      refine own_via (fun _ k => XS.aload X92.here hx rfl (hb hby at_50) rfl rfl k) ?_
      show own_Go p e below s _ _ _ (T92.setTop (mkF m 52 #[.val (.int p0), .val (.int p1), .val (.int (4 : Int32)), .val (.int (0 : Int32)), .val (.ref w2), .val (.ref w0), .val (.int (0 : Int32))] [(.ref w2)]))
      refine own_via (fun _ k => XS.aload X92.here hx rfl (hb hby at_52) rfl rfl k) ?_
      show own_Go p e below s _ _ _ (T92.setTop (mkF m 54 #[.val (.int p0), .val (.int p1), .val (.int (4 : Int32)), .val (.int (0 : Int32)), .val (.ref w2), .val (.ref w0), .val (.int (0 : Int32))] [(.ref w0), (.ref w2)]))
      obtain ⟨cq93, kq93, q93a, q93b, q93c⟩ := isOf hZ e92 E_w2
      obtain ⟨_, _, ⟨T93, L93, k93, n93⟩, -, X93, ⟨Lc93, hQ93, l93, y93, z93⟩, st93⟩ := X92.virtualBack hx (y := (⟨"com/example/grantfall/grantfall/model/Role", "includes", "(Lcom/example/grantfall/grantfall/model/Role;)Z"⟩ : MethodName)) (z := (⟨"com/example/grantfall/grantfall/model/Role", "includes", "(Lcom/example/grantfall/grantfall/model/Role;)Z"⟩ : MethodName)) hown (mvT hZ (hw _ (List.mem_of_getElem? (i := 10) rfl))) (mvT hZ (hw _ (List.mem_of_getElem? (i := 11) rfl))) (notFace_of_selects (args := #[]) (mvT hZ (hw _ (List.mem_of_getElem? (i := 13) rfl)))) (mvT hZ (hw _ (List.mem_of_getElem? (i := 13) rfl))) (mvT hZ (hw _ (List.mem_of_getElem? (i := 12) rfl))) (by decide) (backOf (W := 0) (rm2_20 l Z a0 hw [] w0 w1 w2 w3 w4 h0 n0 Z0 K0) hZ (hw _ (List.mem_of_getElem? (i := 14) rfl)) (hw _ (List.mem_of_getElem? (i := 6) rfl)) (by decide) (by decide)) q93a q93c (g := (mkF m 54 #[.val (.int p0), .val (.int p1), .val (.int (4 : Int32)), .val (.int (0 : Int32)), .val (.ref w2), .val (.ref w0), .val (.int (0 : Int32))] [(.ref w0), (.ref w2)])) rfl (by rw [hml]; rfl) (Steps.refl _) (argsL := [(.ref w0)]) (rest := []) (lenOf pd1 rfl) rfl (by show 2 * 0 + _ ≤ _; exact Nat.le_of_eq rfl) (hb hby at_54) (fun _ _ => ⟨rfl, e92, (by decide : 0 + 0 ≤ _), (by decide : 0 + 0 ≤ _)⟩)
      dsimp only [Pt.U, Pt.locs, Pt.cells, Pt.slots] at X93 l93 y93 z93 st93 hQ93
      subst l93 y93 z93
      obtain ⟨rfl, e93, hO93⟩ := hQ93
      obtain rfl := hO93
      refine own_tr st93 ?_
      show own_Go p e below s _ _ _ (T93.setTop (mkF m 57 #[.val (.int p0), .val (.int p1), .val (.int (4 : Int32)), .val (.int (0 : Int32)), .val (.ref w2), .val (.ref w0), .val (.int (0 : Int32))] [(.int (0 : Int32))]))
      refine own_via (fun _ k => XS.iload X93.here hx rfl (hb hby at_57) rfl k) ?_
      show own_Go p e below s _ _ _ (T93.setTop (mkF m 59 #[.val (.int p0), .val (.int p1), .val (.int (4 : Int32)), .val (.int (0 : Int32)), .val (.ref w2), .val (.ref w0), .val (.int (0 : Int32))] [(.int (0 : Int32)), (.int (0 : Int32))]))
      refine own_via (fun _ k => XS.icmpNo X93.here hx rfl (hb hby at_59) rfl (teq (by decide : (0 : Int32) = (0 : Int32))).2 k) ?_
      show own_Go p e below s _ _ _ (T93.setTop (mkF m 62 #[.val (.int p0), .val (.int p1), .val (.int (4 : Int32)), .val (.int (0 : Int32)), .val (.ref w2), .val (.ref w0), .val (.int (0 : Int32))] []))
      refine own_via (fun _ k => XS.iconst X93.here hx rfl (hb hby at_62) k) ?_
      show own_Go p e below s _ _ _ (T93.setTop (mkF m 63 #[.val (.int p0), .val (.int p1), .val (.int (4 : Int32)), .val (.int (0 : Int32)), .val (.ref w2), .val (.ref w0), .val (.int (0 : Int32))] [(.int (1 : Int32))]))
      refine own_via (fun _ k => XS.goto X93.here hx rfl (pc0 := 63) (pc' := 67) rfl (hb hby at_63) (by decide) (by decide) k) ?_
      show own_Go p e below s _ _ _ (T93.setTop (mkF m 67 #[.val (.int p0), .val (.int p1), .val (.int (4 : Int32)), .val (.int (0 : Int32)), .val (.ref w2), .val (.ref w0), .val (.int (0 : Int32))] [(.int (1 : Int32))]))
      exact own_retZ X93 hx hlk (t := .boolean) Bd.returns (by simp) (hb hby at_67) (z' := (1 : Int32)) (by first | rfl | decide) ⟨rfl, (Fr.nil n0)⟩ (by decide) (by decide)
    · rw [hk87]
      show own_Go p e below s _ _ _ (s₁.setTop (mkF m 13 #[.val (.int p0), .val (.int p1), .val (.int (4 : Int32)), .unset, .unset, .unset, .unset] [(.int (1 : Int32))]))
      refine own_via (fun _ k => XS.istoreN X0.here hx rfl (hb hby at_13) rfl (l' := #[.val (.int p0), .val (.int p1), .val (.int (4 : Int32)), .val (.int (1 : Int32)), .unset, .unset, .unset]) rfl k) ?_
      show own_Go p e below s _ _ _ (s₁.setTop (mkF m 14 #[.val (.int p0), .val (.int p1), .val (.int (4 : Int32)), .val (.int (1 : Int32)), .unset, .unset, .unset] []))
      refine own_via (fun _ k => XS.iloadN X0.here hx rfl (hb hby at_14) rfl k) ?_
      show own_Go p e below s _ _ _ (s₁.setTop (mkF m 15 #[.val (.int p0), .val (.int p1), .val (.int (4 : Int32)), .val (.int (1 : Int32)), .unset, .unset, .unset] [(.int (4 : Int32))]))
      obtain ⟨_, _, ⟨T94, L94, k94, n94⟩, -, X94, ⟨Lc94, hQ94, l94, y94, z94⟩, st94⟩ := Jvm.LawKit.callS X0 hx (y := (⟨"com/example/grantfall/grantfall/model/RoleIncludesPinLaw", "pick", "(I)Lcom/example/grantfall/grantfall/model/Role;"⟩ : MethodName)) hown (mvT hZ (hw _ (List.mem_of_getElem? (i := 1) rfl))) (mvT hZ (hw _ (List.mem_of_getElem? (i := 2) rfl))) (mvT hZ (hw _ (List.mem_of_getElem? (i := 3) rfl))) (mvT hZ (hw _ (List.mem_of_getElem? (i := 4) rfl))) (by decide) (backOf (W := 0) (rm1_4 l Z a0 hw [] w0 w1 w2 w3 w4 h0 n0 Z0 K0) hZ (hw _ (List.mem_of_getElem? (i := 4) rfl)) (hw _ (List.mem_of_getElem? (i := 3) rfl)) (by decide) (by decide)) (g := (mkF m 15 #[.val (.int p0), .val (.int p1), .val (.int (4 : Int32)), .val (.int (1 : Int32)), .unset, .unset, .unset] [(.int (4 : Int32))])) rfl (by rw [hml]; rfl) (argsL := [(.int (4 : Int32))]) (rest := []) (lenOf pd0 rfl) rfl (by show 2 * 0 + _ ≤ _; exact Nat.le_of_eq rfl) (hb hby at_15) (fun _ _ => ⟨rfl, e0, (by decide : 0 + 0 ≤ _), (by decide : 0 + 0 ≤ _)⟩)
      dsimp only [Pt.U, Pt.locs, Pt.cells, Pt.slots] at X94 l94 y94 z94 st94 hQ94
      subst l94 y94 z94
      obtain ⟨rfl, e94, hO94⟩ := hQ94
      obtain rfl := hO94
      refine own_via st94 ?_
      show own_Go p e below s _ _ _ (T94.setTop (mkF m 18 #[.val (.int p0), .val (.int p1), .val (.int (4 : Int32)), .val (.int (1 : Int32)), .unset, .unset, .unset] [(.ref w2)]))
      refine own_via (fun _ k => XS.astore X94.here hx rfl (hb hby at_18) rfl rfl (l' := #[.val (.int p0), .val (.int p1), .val (.int (4 : Int32)), .val (.int (1 : Int32)), .val (.ref w2), .unset, .unset]) rfl k) ?_
      show own_Go p e below s _ _ _ (T94.setTop (mkF m 20 #[.val (.int p0), .val (.int p1), .val (.int (4 : Int32)), .val (.int (1 : Int32)), .val (.ref w2), .unset, .unset] []))
      refine own_via (fun _ k => XS.iloadN X94.here hx rfl (hb hby at_20) rfl k) ?_
      show own_Go p e below s _ _ _ (T94.setTop (mkF m 21 #[.val (.int p0), .val (.int p1), .val (.int (4 : Int32)), .val (.int (1 : Int32)), .val (.ref w2), .unset, .unset] [(.int (1 : Int32))]))
      obtain ⟨_, _, ⟨T95, L95, k95, n95⟩, -, X95, ⟨Lc95, hQ95, l95, y95, z95⟩, st95⟩ := Jvm.LawKit.callS X94 hx (y := (⟨"com/example/grantfall/grantfall/model/RoleIncludesPinLaw", "pick", "(I)Lcom/example/grantfall/grantfall/model/Role;"⟩ : MethodName)) hown (mvT hZ (hw _ (List.mem_of_getElem? (i := 1) rfl))) (mvT hZ (hw _ (List.mem_of_getElem? (i := 2) rfl))) (mvT hZ (hw _ (List.mem_of_getElem? (i := 3) rfl))) (mvT hZ (hw _ (List.mem_of_getElem? (i := 4) rfl))) (by decide) (backOf (W := 0) (rm1_1 l Z a0 hw [] w0 w1 w2 w3 w4 h0 n0 Z0 K0) hZ (hw _ (List.mem_of_getElem? (i := 4) rfl)) (hw _ (List.mem_of_getElem? (i := 3) rfl)) (by decide) (by decide)) (g := (mkF m 21 #[.val (.int p0), .val (.int p1), .val (.int (4 : Int32)), .val (.int (1 : Int32)), .val (.ref w2), .unset, .unset] [(.int (1 : Int32))])) rfl (by rw [hml]; rfl) (argsL := [(.int (1 : Int32))]) (rest := []) (lenOf pd0 rfl) rfl (by show 2 * 0 + _ ≤ _; exact Nat.le_of_eq rfl) (hb hby at_21) (fun _ _ => ⟨rfl, e94, (by decide : 0 + 0 ≤ _), (by decide : 0 + 0 ≤ _)⟩)
      dsimp only [Pt.U, Pt.locs, Pt.cells, Pt.slots] at X95 l95 y95 z95 st95 hQ95
      subst l95 y95 z95
      obtain ⟨rfl, e95, hO95⟩ := hQ95
      obtain rfl := hO95
      refine own_via st95 ?_
      show own_Go p e below s _ _ _ (T95.setTop (mkF m 24 #[.val (.int p0), .val (.int p1), .val (.int (4 : Int32)), .val (.int (1 : Int32)), .val (.ref w2), .unset, .unset] [(.ref w3)]))
      refine own_via (fun _ k => XS.astore X95.here hx rfl (hb hby at_24) rfl rfl (l' := #[.val (.int p0), .val (.int p1), .val (.int (4 : Int32)), .val (.int (1 : Int32)), .val (.ref w2), .val (.ref w3), .unset]) rfl k) ?_
      show own_Go p e below s _ _ _ (T95.setTop (mkF m 26 #[.val (.int p0), .val (.int p1), .val (.int (4 : Int32)), .val (.int (1 : Int32)), .val (.ref w2), .val (.ref w3), .unset] []))
      refine own_via (fun _ k => XS.iloadN X95.here hx rfl (hb hby at_26) rfl k) ?_
      show own_Go p e below s _ _ _ (T95.setTop (mkF m 27 #[.val (.int p0), .val (.int p1), .val (.int (4 : Int32)), .val (.int (1 : Int32)), .val (.ref w2), .val (.ref w3), .unset] [(.int (4 : Int32))]))
      refine own_via (fun _ k => XS.ifYes X95.here hx rfl (pc0 := 27) (pc' := 36) rfl (hb hby at_27) rfl ((if0 _ _).trans (feq (by decide : ¬ ((4 : Int32) = (0 : Int32)))).2) (by decide) (by decide) k) ?_
      show own_Go p e below s _ _ _ (T95.setTop (mkF m 36 #[.val (.int p0), .val (.int p1), .val (.int (4 : Int32)), .val (.int (1 : Int32)), .val (.ref w2), .val (.ref w3), .unset] []))
      refine own_via (fun _ k => XS.iloadN X95.here hx rfl (hb hby at_36) rfl k) ?_
      show own_Go p e below s _ _ _ (T95.setTop (mkF m 37 #[.val (.int p0), .val (.int p1), .val (.int (4 : Int32)), .val (.int (1 : Int32)), .val (.ref w2), .val (.ref w3), .unset] [(.int (4 : Int32))]))
      refine own_via (fun _ k => XS.iloadN X95.here hx rfl (hb hby at_37) rfl k) ?_
      show own_Go p e below s _ _ _ (T95.setTop (mkF m 38 #[.val (.int p0), .val (.int p1), .val (.int (4 : Int32)), .val (.int (1 : Int32)), .val (.ref w2), .val (.ref w3), .unset] [(.int (1 : Int32)), (.int (4 : Int32))]))
      refine own_via (fun _ k => XS.icmpYes X95.here hx rfl (pc0 := 38) (pc' := 47) rfl (hb hby at_38) rfl (feq (by decide : ¬ ((4 : Int32) = (1 : Int32)))).2 (by decide) (by decide) k) ?_
      show own_Go p e below s _ _ _ (T95.setTop (mkF m 47 #[.val (.int p0), .val (.int p1), .val (.int (4 : Int32)), .val (.int (1 : Int32)), .val (.ref w2), .val (.ref w3), .unset] []))
      refine own_via (fun _ k => XS.iconst X95.here hx rfl (hb hby at_47) k) ?_
      show own_Go p e below s _ _ _ (T95.setTop (mkF m 48 #[.val (.int p0), .val (.int p1), .val (.int (4 : Int32)), .val (.int (1 : Int32)), .val (.ref w2), .val (.ref w3), .unset] [(.int (0 : Int32))]))
      refine own_via (fun _ k => XS.istore X95.here hx rfl (hb hby at_48) rfl (l' := #[.val (.int p0), .val (.int p1), .val (.int (4 : Int32)), .val (.int (1 : Int32)), .val (.ref w2), .val (.ref w3), .val (.int (0 : Int32))]) rfl k) ?_
      show own_Go p e below s _ _ _ (T95.setTop (mkF m 50 #[.val (.int p0), .val (.int p1), .val (.int (4 : Int32)), .val (.int (1 : Int32)), .val (.ref w2), .val (.ref w3), .val (.int (0 : Int32))] []))
      refine own_via (fun _ k => XS.aload X95.here hx rfl (hb hby at_50) rfl rfl k) ?_
      show own_Go p e below s _ _ _ (T95.setTop (mkF m 52 #[.val (.int p0), .val (.int p1), .val (.int (4 : Int32)), .val (.int (1 : Int32)), .val (.ref w2), .val (.ref w3), .val (.int (0 : Int32))] [(.ref w2)]))
      refine own_via (fun _ k => XS.aload X95.here hx rfl (hb hby at_52) rfl rfl k) ?_
      show own_Go p e below s _ _ _ (T95.setTop (mkF m 54 #[.val (.int p0), .val (.int p1), .val (.int (4 : Int32)), .val (.int (1 : Int32)), .val (.ref w2), .val (.ref w3), .val (.int (0 : Int32))] [(.ref w3), (.ref w2)]))
      obtain ⟨cq96, kq96, q96a, q96b, q96c⟩ := isOf hZ e95 E_w2
      obtain ⟨_, _, ⟨T96, L96, k96, n96⟩, -, X96, ⟨Lc96, hQ96, l96, y96, z96⟩, st96⟩ := X95.virtualBack hx (y := (⟨"com/example/grantfall/grantfall/model/Role", "includes", "(Lcom/example/grantfall/grantfall/model/Role;)Z"⟩ : MethodName)) (z := (⟨"com/example/grantfall/grantfall/model/Role", "includes", "(Lcom/example/grantfall/grantfall/model/Role;)Z"⟩ : MethodName)) hown (mvT hZ (hw _ (List.mem_of_getElem? (i := 10) rfl))) (mvT hZ (hw _ (List.mem_of_getElem? (i := 11) rfl))) (notFace_of_selects (args := #[]) (mvT hZ (hw _ (List.mem_of_getElem? (i := 13) rfl)))) (mvT hZ (hw _ (List.mem_of_getElem? (i := 13) rfl))) (mvT hZ (hw _ (List.mem_of_getElem? (i := 12) rfl))) (by decide) (backOf (W := 0) (rm2_21 l Z a0 hw [] w0 w1 w2 w3 w4 h0 n0 Z0 K0) hZ (hw _ (List.mem_of_getElem? (i := 14) rfl)) (hw _ (List.mem_of_getElem? (i := 6) rfl)) (by decide) (by decide)) q96a q96c (g := (mkF m 54 #[.val (.int p0), .val (.int p1), .val (.int (4 : Int32)), .val (.int (1 : Int32)), .val (.ref w2), .val (.ref w3), .val (.int (0 : Int32))] [(.ref w3), (.ref w2)])) rfl (by rw [hml]; rfl) (Steps.refl _) (argsL := [(.ref w3)]) (rest := []) (lenOf pd1 rfl) rfl (by show 2 * 0 + _ ≤ _; exact Nat.le_of_eq rfl) (hb hby at_54) (fun _ _ => ⟨rfl, e95, (by decide : 0 + 0 ≤ _), (by decide : 0 + 0 ≤ _)⟩)
      dsimp only [Pt.U, Pt.locs, Pt.cells, Pt.slots] at X96 l96 y96 z96 st96 hQ96
      subst l96 y96 z96
      obtain ⟨rfl, e96, hO96⟩ := hQ96
      obtain rfl := hO96
      refine own_tr st96 ?_
      show own_Go p e below s _ _ _ (T96.setTop (mkF m 57 #[.val (.int p0), .val (.int p1), .val (.int (4 : Int32)), .val (.int (1 : Int32)), .val (.ref w2), .val (.ref w3), .val (.int (0 : Int32))] [(.int (0 : Int32))]))
      refine own_via (fun _ k => XS.iload X96.here hx rfl (hb hby at_57) rfl k) ?_
      show own_Go p e below s _ _ _ (T96.setTop (mkF m 59 #[.val (.int p0), .val (.int p1), .val (.int (4 : Int32)), .val (.int (1 : Int32)), .val (.ref w2), .val (.ref w3), .val (.int (0 : Int32))] [(.int (0 : Int32)), (.int (0 : Int32))]))
      refine own_via (fun _ k => XS.icmpNo X96.here hx rfl (hb hby at_59) rfl (teq (by decide : (0 : Int32) = (0 : Int32))).2 k) ?_
      show own_Go p e below s _ _ _ (T96.setTop (mkF m 62 #[.val (.int p0), .val (.int p1), .val (.int (4 : Int32)), .val (.int (1 : Int32)), .val (.ref w2), .val (.ref w3), .val (.int (0 : Int32))] []))
      refine own_via (fun _ k => XS.iconst X96.here hx rfl (hb hby at_62) k) ?_
      show own_Go p e below s _ _ _ (T96.setTop (mkF m 63 #[.val (.int p0), .val (.int p1), .val (.int (4 : Int32)), .val (.int (1 : Int32)), .val (.ref w2), .val (.ref w3), .val (.int (0 : Int32))] [(.int (1 : Int32))]))
      refine own_via (fun _ k => XS.goto X96.here hx rfl (pc0 := 63) (pc' := 67) rfl (hb hby at_63) (by decide) (by decide) k) ?_
      show own_Go p e below s _ _ _ (T96.setTop (mkF m 67 #[.val (.int p0), .val (.int p1), .val (.int (4 : Int32)), .val (.int (1 : Int32)), .val (.ref w2), .val (.ref w3), .val (.int (0 : Int32))] [(.int (1 : Int32))]))
      exact own_retZ X96 hx hlk (t := .boolean) Bd.returns (by simp) (hb hby at_67) (z' := (1 : Int32)) (by first | rfl | decide) ⟨rfl, (Fr.nil n0)⟩ (by decide) (by decide)
    · rw [hk88]
      show own_Go p e below s _ _ _ (s₁.setTop (mkF m 13 #[.val (.int p0), .val (.int p1), .val (.int (4 : Int32)), .unset, .unset, .unset, .unset] [(.int (2 : Int32))]))
      refine own_via (fun _ k => XS.istoreN X0.here hx rfl (hb hby at_13) rfl (l' := #[.val (.int p0), .val (.int p1), .val (.int (4 : Int32)), .val (.int (2 : Int32)), .unset, .unset, .unset]) rfl k) ?_
      show own_Go p e below s _ _ _ (s₁.setTop (mkF m 14 #[.val (.int p0), .val (.int p1), .val (.int (4 : Int32)), .val (.int (2 : Int32)), .unset, .unset, .unset] []))
      refine own_via (fun _ k => XS.iloadN X0.here hx rfl (hb hby at_14) rfl k) ?_
      show own_Go p e below s _ _ _ (s₁.setTop (mkF m 15 #[.val (.int p0), .val (.int p1), .val (.int (4 : Int32)), .val (.int (2 : Int32)), .unset, .unset, .unset] [(.int (4 : Int32))]))
      obtain ⟨_, _, ⟨T97, L97, k97, n97⟩, -, X97, ⟨Lc97, hQ97, l97, y97, z97⟩, st97⟩ := Jvm.LawKit.callS X0 hx (y := (⟨"com/example/grantfall/grantfall/model/RoleIncludesPinLaw", "pick", "(I)Lcom/example/grantfall/grantfall/model/Role;"⟩ : MethodName)) hown (mvT hZ (hw _ (List.mem_of_getElem? (i := 1) rfl))) (mvT hZ (hw _ (List.mem_of_getElem? (i := 2) rfl))) (mvT hZ (hw _ (List.mem_of_getElem? (i := 3) rfl))) (mvT hZ (hw _ (List.mem_of_getElem? (i := 4) rfl))) (by decide) (backOf (W := 0) (rm1_4 l Z a0 hw [] w0 w1 w2 w3 w4 h0 n0 Z0 K0) hZ (hw _ (List.mem_of_getElem? (i := 4) rfl)) (hw _ (List.mem_of_getElem? (i := 3) rfl)) (by decide) (by decide)) (g := (mkF m 15 #[.val (.int p0), .val (.int p1), .val (.int (4 : Int32)), .val (.int (2 : Int32)), .unset, .unset, .unset] [(.int (4 : Int32))])) rfl (by rw [hml]; rfl) (argsL := [(.int (4 : Int32))]) (rest := []) (lenOf pd0 rfl) rfl (by show 2 * 0 + _ ≤ _; exact Nat.le_of_eq rfl) (hb hby at_15) (fun _ _ => ⟨rfl, e0, (by decide : 0 + 0 ≤ _), (by decide : 0 + 0 ≤ _)⟩)
      dsimp only [Pt.U, Pt.locs, Pt.cells, Pt.slots] at X97 l97 y97 z97 st97 hQ97
      subst l97 y97 z97
      obtain ⟨rfl, e97, hO97⟩ := hQ97
      obtain rfl := hO97
      refine own_via st97 ?_
      show own_Go p e below s _ _ _ (T97.setTop (mkF m 18 #[.val (.int p0), .val (.int p1), .val (.int (4 : Int32)), .val (.int (2 : Int32)), .unset, .unset, .unset] [(.ref w2)]))
      refine own_via (fun _ k => XS.astore X97.here hx rfl (hb hby at_18) rfl rfl (l' := #[.val (.int p0), .val (.int p1), .val (.int (4 : Int32)), .val (.int (2 : Int32)), .val (.ref w2), .unset, .unset]) rfl k) ?_
      show own_Go p e below s _ _ _ (T97.setTop (mkF m 20 #[.val (.int p0), .val (.int p1), .val (.int (4 : Int32)), .val (.int (2 : Int32)), .val (.ref w2), .unset, .unset] []))
      refine own_via (fun _ k => XS.iloadN X97.here hx rfl (hb hby at_20) rfl k) ?_
      show own_Go p e below s _ _ _ (T97.setTop (mkF m 21 #[.val (.int p0), .val (.int p1), .val (.int (4 : Int32)), .val (.int (2 : Int32)), .val (.ref w2), .unset, .unset] [(.int (2 : Int32))]))
      obtain ⟨_, _, ⟨T98, L98, k98, n98⟩, -, X98, ⟨Lc98, hQ98, l98, y98, z98⟩, st98⟩ := Jvm.LawKit.callS X97 hx (y := (⟨"com/example/grantfall/grantfall/model/RoleIncludesPinLaw", "pick", "(I)Lcom/example/grantfall/grantfall/model/Role;"⟩ : MethodName)) hown (mvT hZ (hw _ (List.mem_of_getElem? (i := 1) rfl))) (mvT hZ (hw _ (List.mem_of_getElem? (i := 2) rfl))) (mvT hZ (hw _ (List.mem_of_getElem? (i := 3) rfl))) (mvT hZ (hw _ (List.mem_of_getElem? (i := 4) rfl))) (by decide) (backOf (W := 0) (rm1_2 l Z a0 hw [] w0 w1 w2 w3 w4 h0 n0 Z0 K0) hZ (hw _ (List.mem_of_getElem? (i := 4) rfl)) (hw _ (List.mem_of_getElem? (i := 3) rfl)) (by decide) (by decide)) (g := (mkF m 21 #[.val (.int p0), .val (.int p1), .val (.int (4 : Int32)), .val (.int (2 : Int32)), .val (.ref w2), .unset, .unset] [(.int (2 : Int32))])) rfl (by rw [hml]; rfl) (argsL := [(.int (2 : Int32))]) (rest := []) (lenOf pd0 rfl) rfl (by show 2 * 0 + _ ≤ _; exact Nat.le_of_eq rfl) (hb hby at_21) (fun _ _ => ⟨rfl, e97, (by decide : 0 + 0 ≤ _), (by decide : 0 + 0 ≤ _)⟩)
      dsimp only [Pt.U, Pt.locs, Pt.cells, Pt.slots] at X98 l98 y98 z98 st98 hQ98
      subst l98 y98 z98
      obtain ⟨rfl, e98, hO98⟩ := hQ98
      obtain rfl := hO98
      refine own_via st98 ?_
      show own_Go p e below s _ _ _ (T98.setTop (mkF m 24 #[.val (.int p0), .val (.int p1), .val (.int (4 : Int32)), .val (.int (2 : Int32)), .val (.ref w2), .unset, .unset] [(.ref w4)]))
      refine own_via (fun _ k => XS.astore X98.here hx rfl (hb hby at_24) rfl rfl (l' := #[.val (.int p0), .val (.int p1), .val (.int (4 : Int32)), .val (.int (2 : Int32)), .val (.ref w2), .val (.ref w4), .unset]) rfl k) ?_
      show own_Go p e below s _ _ _ (T98.setTop (mkF m 26 #[.val (.int p0), .val (.int p1), .val (.int (4 : Int32)), .val (.int (2 : Int32)), .val (.ref w2), .val (.ref w4), .unset] []))
      refine own_via (fun _ k => XS.iloadN X98.here hx rfl (hb hby at_26) rfl k) ?_
      show own_Go p e below s _ _ _ (T98.setTop (mkF m 27 #[.val (.int p0), .val (.int p1), .val (.int (4 : Int32)), .val (.int (2 : Int32)), .val (.ref w2), .val (.ref w4), .unset] [(.int (4 : Int32))]))
      refine own_via (fun _ k => XS.ifYes X98.here hx rfl (pc0 := 27) (pc' := 36) rfl (hb hby at_27) rfl ((if0 _ _).trans (feq (by decide : ¬ ((4 : Int32) = (0 : Int32)))).2) (by decide) (by decide) k) ?_
      show own_Go p e below s _ _ _ (T98.setTop (mkF m 36 #[.val (.int p0), .val (.int p1), .val (.int (4 : Int32)), .val (.int (2 : Int32)), .val (.ref w2), .val (.ref w4), .unset] []))
      refine own_via (fun _ k => XS.iloadN X98.here hx rfl (hb hby at_36) rfl k) ?_
      show own_Go p e below s _ _ _ (T98.setTop (mkF m 37 #[.val (.int p0), .val (.int p1), .val (.int (4 : Int32)), .val (.int (2 : Int32)), .val (.ref w2), .val (.ref w4), .unset] [(.int (4 : Int32))]))
      refine own_via (fun _ k => XS.iloadN X98.here hx rfl (hb hby at_37) rfl k) ?_
      show own_Go p e below s _ _ _ (T98.setTop (mkF m 38 #[.val (.int p0), .val (.int p1), .val (.int (4 : Int32)), .val (.int (2 : Int32)), .val (.ref w2), .val (.ref w4), .unset] [(.int (2 : Int32)), (.int (4 : Int32))]))
      refine own_via (fun _ k => XS.icmpYes X98.here hx rfl (pc0 := 38) (pc' := 47) rfl (hb hby at_38) rfl (feq (by decide : ¬ ((4 : Int32) = (2 : Int32)))).2 (by decide) (by decide) k) ?_
      show own_Go p e below s _ _ _ (T98.setTop (mkF m 47 #[.val (.int p0), .val (.int p1), .val (.int (4 : Int32)), .val (.int (2 : Int32)), .val (.ref w2), .val (.ref w4), .unset] []))
      refine own_via (fun _ k => XS.iconst X98.here hx rfl (hb hby at_47) k) ?_
      show own_Go p e below s _ _ _ (T98.setTop (mkF m 48 #[.val (.int p0), .val (.int p1), .val (.int (4 : Int32)), .val (.int (2 : Int32)), .val (.ref w2), .val (.ref w4), .unset] [(.int (0 : Int32))]))
      refine own_via (fun _ k => XS.istore X98.here hx rfl (hb hby at_48) rfl (l' := #[.val (.int p0), .val (.int p1), .val (.int (4 : Int32)), .val (.int (2 : Int32)), .val (.ref w2), .val (.ref w4), .val (.int (0 : Int32))]) rfl k) ?_
      show own_Go p e below s _ _ _ (T98.setTop (mkF m 50 #[.val (.int p0), .val (.int p1), .val (.int (4 : Int32)), .val (.int (2 : Int32)), .val (.ref w2), .val (.ref w4), .val (.int (0 : Int32))] []))
      refine own_via (fun _ k => XS.aload X98.here hx rfl (hb hby at_50) rfl rfl k) ?_
      show own_Go p e below s _ _ _ (T98.setTop (mkF m 52 #[.val (.int p0), .val (.int p1), .val (.int (4 : Int32)), .val (.int (2 : Int32)), .val (.ref w2), .val (.ref w4), .val (.int (0 : Int32))] [(.ref w2)]))
      refine own_via (fun _ k => XS.aload X98.here hx rfl (hb hby at_52) rfl rfl k) ?_
      show own_Go p e below s _ _ _ (T98.setTop (mkF m 54 #[.val (.int p0), .val (.int p1), .val (.int (4 : Int32)), .val (.int (2 : Int32)), .val (.ref w2), .val (.ref w4), .val (.int (0 : Int32))] [(.ref w4), (.ref w2)]))
      obtain ⟨cq99, kq99, q99a, q99b, q99c⟩ := isOf hZ e98 E_w2
      obtain ⟨_, _, ⟨T99, L99, k99, n99⟩, -, X99, ⟨Lc99, hQ99, l99, y99, z99⟩, st99⟩ := X98.virtualBack hx (y := (⟨"com/example/grantfall/grantfall/model/Role", "includes", "(Lcom/example/grantfall/grantfall/model/Role;)Z"⟩ : MethodName)) (z := (⟨"com/example/grantfall/grantfall/model/Role", "includes", "(Lcom/example/grantfall/grantfall/model/Role;)Z"⟩ : MethodName)) hown (mvT hZ (hw _ (List.mem_of_getElem? (i := 10) rfl))) (mvT hZ (hw _ (List.mem_of_getElem? (i := 11) rfl))) (notFace_of_selects (args := #[]) (mvT hZ (hw _ (List.mem_of_getElem? (i := 13) rfl)))) (mvT hZ (hw _ (List.mem_of_getElem? (i := 13) rfl))) (mvT hZ (hw _ (List.mem_of_getElem? (i := 12) rfl))) (by decide) (backOf (W := 0) (rm2_22 l Z a0 hw [] w0 w1 w2 w3 w4 h0 n0 Z0 K0) hZ (hw _ (List.mem_of_getElem? (i := 14) rfl)) (hw _ (List.mem_of_getElem? (i := 6) rfl)) (by decide) (by decide)) q99a q99c (g := (mkF m 54 #[.val (.int p0), .val (.int p1), .val (.int (4 : Int32)), .val (.int (2 : Int32)), .val (.ref w2), .val (.ref w4), .val (.int (0 : Int32))] [(.ref w4), (.ref w2)])) rfl (by rw [hml]; rfl) (Steps.refl _) (argsL := [(.ref w4)]) (rest := []) (lenOf pd1 rfl) rfl (by show 2 * 0 + _ ≤ _; exact Nat.le_of_eq rfl) (hb hby at_54) (fun _ _ => ⟨rfl, e98, (by decide : 0 + 0 ≤ _), (by decide : 0 + 0 ≤ _)⟩)
      dsimp only [Pt.U, Pt.locs, Pt.cells, Pt.slots] at X99 l99 y99 z99 st99 hQ99
      subst l99 y99 z99
      obtain ⟨rfl, e99, hO99⟩ := hQ99
      obtain rfl := hO99
      refine own_tr st99 ?_
      show own_Go p e below s _ _ _ (T99.setTop (mkF m 57 #[.val (.int p0), .val (.int p1), .val (.int (4 : Int32)), .val (.int (2 : Int32)), .val (.ref w2), .val (.ref w4), .val (.int (0 : Int32))] [(.int (0 : Int32))]))
      refine own_via (fun _ k => XS.iload X99.here hx rfl (hb hby at_57) rfl k) ?_
      show own_Go p e below s _ _ _ (T99.setTop (mkF m 59 #[.val (.int p0), .val (.int p1), .val (.int (4 : Int32)), .val (.int (2 : Int32)), .val (.ref w2), .val (.ref w4), .val (.int (0 : Int32))] [(.int (0 : Int32)), (.int (0 : Int32))]))
      refine own_via (fun _ k => XS.icmpNo X99.here hx rfl (hb hby at_59) rfl (teq (by decide : (0 : Int32) = (0 : Int32))).2 k) ?_
      show own_Go p e below s _ _ _ (T99.setTop (mkF m 62 #[.val (.int p0), .val (.int p1), .val (.int (4 : Int32)), .val (.int (2 : Int32)), .val (.ref w2), .val (.ref w4), .val (.int (0 : Int32))] []))
      refine own_via (fun _ k => XS.iconst X99.here hx rfl (hb hby at_62) k) ?_
      show own_Go p e below s _ _ _ (T99.setTop (mkF m 63 #[.val (.int p0), .val (.int p1), .val (.int (4 : Int32)), .val (.int (2 : Int32)), .val (.ref w2), .val (.ref w4), .val (.int (0 : Int32))] [(.int (1 : Int32))]))
      refine own_via (fun _ k => XS.goto X99.here hx rfl (pc0 := 63) (pc' := 67) rfl (hb hby at_63) (by decide) (by decide) k) ?_
      show own_Go p e below s _ _ _ (T99.setTop (mkF m 67 #[.val (.int p0), .val (.int p1), .val (.int (4 : Int32)), .val (.int (2 : Int32)), .val (.ref w2), .val (.ref w4), .val (.int (0 : Int32))] [(.int (1 : Int32))]))
      exact own_retZ X99 hx hlk (t := .boolean) Bd.returns (by simp) (hb hby at_67) (z' := (1 : Int32)) (by first | rfl | decide) ⟨rfl, (Fr.nil n0)⟩ (by decide) (by decide)
    · rw [hk89]
      show own_Go p e below s _ _ _ (s₁.setTop (mkF m 13 #[.val (.int p0), .val (.int p1), .val (.int (4 : Int32)), .unset, .unset, .unset, .unset] [(.int (3 : Int32))]))
      refine own_via (fun _ k => XS.istoreN X0.here hx rfl (hb hby at_13) rfl (l' := #[.val (.int p0), .val (.int p1), .val (.int (4 : Int32)), .val (.int (3 : Int32)), .unset, .unset, .unset]) rfl k) ?_
      show own_Go p e below s _ _ _ (s₁.setTop (mkF m 14 #[.val (.int p0), .val (.int p1), .val (.int (4 : Int32)), .val (.int (3 : Int32)), .unset, .unset, .unset] []))
      refine own_via (fun _ k => XS.iloadN X0.here hx rfl (hb hby at_14) rfl k) ?_
      show own_Go p e below s _ _ _ (s₁.setTop (mkF m 15 #[.val (.int p0), .val (.int p1), .val (.int (4 : Int32)), .val (.int (3 : Int32)), .unset, .unset, .unset] [(.int (4 : Int32))]))
      obtain ⟨_, _, ⟨T100, L100, k100, n100⟩, -, X100, ⟨Lc100, hQ100, l100, y100, z100⟩, st100⟩ := Jvm.LawKit.callS X0 hx (y := (⟨"com/example/grantfall/grantfall/model/RoleIncludesPinLaw", "pick", "(I)Lcom/example/grantfall/grantfall/model/Role;"⟩ : MethodName)) hown (mvT hZ (hw _ (List.mem_of_getElem? (i := 1) rfl))) (mvT hZ (hw _ (List.mem_of_getElem? (i := 2) rfl))) (mvT hZ (hw _ (List.mem_of_getElem? (i := 3) rfl))) (mvT hZ (hw _ (List.mem_of_getElem? (i := 4) rfl))) (by decide) (backOf (W := 0) (rm1_4 l Z a0 hw [] w0 w1 w2 w3 w4 h0 n0 Z0 K0) hZ (hw _ (List.mem_of_getElem? (i := 4) rfl)) (hw _ (List.mem_of_getElem? (i := 3) rfl)) (by decide) (by decide)) (g := (mkF m 15 #[.val (.int p0), .val (.int p1), .val (.int (4 : Int32)), .val (.int (3 : Int32)), .unset, .unset, .unset] [(.int (4 : Int32))])) rfl (by rw [hml]; rfl) (argsL := [(.int (4 : Int32))]) (rest := []) (lenOf pd0 rfl) rfl (by show 2 * 0 + _ ≤ _; exact Nat.le_of_eq rfl) (hb hby at_15) (fun _ _ => ⟨rfl, e0, (by decide : 0 + 0 ≤ _), (by decide : 0 + 0 ≤ _)⟩)
      dsimp only [Pt.U, Pt.locs, Pt.cells, Pt.slots] at X100 l100 y100 z100 st100 hQ100
      subst l100 y100 z100
      obtain ⟨rfl, e100, hO100⟩ := hQ100
      obtain rfl := hO100
      refine own_via st100 ?_
      show own_Go p e below s _ _ _ (T100.setTop (mkF m 18 #[.val (.int p0), .val (.int p1), .val (.int (4 : Int32)), .val (.int (3 : Int32)), .unset, .unset, .unset] [(.ref w2)]))
      refine own_via (fun _ k => XS.astore X100.here hx rfl (hb hby at_18) rfl rfl (l' := #[.val (.int p0), .val (.int p1), .val (.int (4 : Int32)), .val (.int (3 : Int32)), .val (.ref w2), .unset, .unset]) rfl k) ?_
      show own_Go p e below s _ _ _ (T100.setTop (mkF m 20 #[.val (.int p0), .val (.int p1), .val (.int (4 : Int32)), .val (.int (3 : Int32)), .val (.ref w2), .unset, .unset] []))
      refine own_via (fun _ k => XS.iloadN X100.here hx rfl (hb hby at_20) rfl k) ?_
      show own_Go p e below s _ _ _ (T100.setTop (mkF m 21 #[.val (.int p0), .val (.int p1), .val (.int (4 : Int32)), .val (.int (3 : Int32)), .val (.ref w2), .unset, .unset] [(.int (3 : Int32))]))
      obtain ⟨_, _, ⟨T101, L101, k101, n101⟩, -, X101, ⟨Lc101, hQ101, l101, y101, z101⟩, st101⟩ := Jvm.LawKit.callS X100 hx (y := (⟨"com/example/grantfall/grantfall/model/RoleIncludesPinLaw", "pick", "(I)Lcom/example/grantfall/grantfall/model/Role;"⟩ : MethodName)) hown (mvT hZ (hw _ (List.mem_of_getElem? (i := 1) rfl))) (mvT hZ (hw _ (List.mem_of_getElem? (i := 2) rfl))) (mvT hZ (hw _ (List.mem_of_getElem? (i := 3) rfl))) (mvT hZ (hw _ (List.mem_of_getElem? (i := 4) rfl))) (by decide) (backOf (W := 0) (rm1_3 l Z a0 hw [] w0 w1 w2 w3 w4 h0 n0 Z0 K0) hZ (hw _ (List.mem_of_getElem? (i := 4) rfl)) (hw _ (List.mem_of_getElem? (i := 3) rfl)) (by decide) (by decide)) (g := (mkF m 21 #[.val (.int p0), .val (.int p1), .val (.int (4 : Int32)), .val (.int (3 : Int32)), .val (.ref w2), .unset, .unset] [(.int (3 : Int32))])) rfl (by rw [hml]; rfl) (argsL := [(.int (3 : Int32))]) (rest := []) (lenOf pd0 rfl) rfl (by show 2 * 0 + _ ≤ _; exact Nat.le_of_eq rfl) (hb hby at_21) (fun _ _ => ⟨rfl, e100, (by decide : 0 + 0 ≤ _), (by decide : 0 + 0 ≤ _)⟩)
      dsimp only [Pt.U, Pt.locs, Pt.cells, Pt.slots] at X101 l101 y101 z101 st101 hQ101
      subst l101 y101 z101
      obtain ⟨rfl, e101, hO101⟩ := hQ101
      obtain rfl := hO101
      refine own_via st101 ?_
      show own_Go p e below s _ _ _ (T101.setTop (mkF m 24 #[.val (.int p0), .val (.int p1), .val (.int (4 : Int32)), .val (.int (3 : Int32)), .val (.ref w2), .unset, .unset] [(.ref w1)]))
      refine own_via (fun _ k => XS.astore X101.here hx rfl (hb hby at_24) rfl rfl (l' := #[.val (.int p0), .val (.int p1), .val (.int (4 : Int32)), .val (.int (3 : Int32)), .val (.ref w2), .val (.ref w1), .unset]) rfl k) ?_
      show own_Go p e below s _ _ _ (T101.setTop (mkF m 26 #[.val (.int p0), .val (.int p1), .val (.int (4 : Int32)), .val (.int (3 : Int32)), .val (.ref w2), .val (.ref w1), .unset] []))
      refine own_via (fun _ k => XS.iloadN X101.here hx rfl (hb hby at_26) rfl k) ?_
      show own_Go p e below s _ _ _ (T101.setTop (mkF m 27 #[.val (.int p0), .val (.int p1), .val (.int (4 : Int32)), .val (.int (3 : Int32)), .val (.ref w2), .val (.ref w1), .unset] [(.int (4 : Int32))]))
      refine own_via (fun _ k => XS.ifYes X101.here hx rfl (pc0 := 27) (pc' := 36) rfl (hb hby at_27) rfl ((if0 _ _).trans (feq (by decide : ¬ ((4 : Int32) = (0 : Int32)))).2) (by decide) (by decide) k) ?_
      show own_Go p e below s _ _ _ (T101.setTop (mkF m 36 #[.val (.int p0), .val (.int p1), .val (.int (4 : Int32)), .val (.int (3 : Int32)), .val (.ref w2), .val (.ref w1), .unset] []))
      refine own_via (fun _ k => XS.iloadN X101.here hx rfl (hb hby at_36) rfl k) ?_
      show own_Go p e below s _ _ _ (T101.setTop (mkF m 37 #[.val (.int p0), .val (.int p1), .val (.int (4 : Int32)), .val (.int (3 : Int32)), .val (.ref w2), .val (.ref w1), .unset] [(.int (4 : Int32))]))
      refine own_via (fun _ k => XS.iloadN X101.here hx rfl (hb hby at_37) rfl k) ?_
      show own_Go p e below s _ _ _ (T101.setTop (mkF m 38 #[.val (.int p0), .val (.int p1), .val (.int (4 : Int32)), .val (.int (3 : Int32)), .val (.ref w2), .val (.ref w1), .unset] [(.int (3 : Int32)), (.int (4 : Int32))]))
      refine own_via (fun _ k => XS.icmpYes X101.here hx rfl (pc0 := 38) (pc' := 47) rfl (hb hby at_38) rfl (feq (by decide : ¬ ((4 : Int32) = (3 : Int32)))).2 (by decide) (by decide) k) ?_
      show own_Go p e below s _ _ _ (T101.setTop (mkF m 47 #[.val (.int p0), .val (.int p1), .val (.int (4 : Int32)), .val (.int (3 : Int32)), .val (.ref w2), .val (.ref w1), .unset] []))
      refine own_via (fun _ k => XS.iconst X101.here hx rfl (hb hby at_47) k) ?_
      show own_Go p e below s _ _ _ (T101.setTop (mkF m 48 #[.val (.int p0), .val (.int p1), .val (.int (4 : Int32)), .val (.int (3 : Int32)), .val (.ref w2), .val (.ref w1), .unset] [(.int (0 : Int32))]))
      refine own_via (fun _ k => XS.istore X101.here hx rfl (hb hby at_48) rfl (l' := #[.val (.int p0), .val (.int p1), .val (.int (4 : Int32)), .val (.int (3 : Int32)), .val (.ref w2), .val (.ref w1), .val (.int (0 : Int32))]) rfl k) ?_
      show own_Go p e below s _ _ _ (T101.setTop (mkF m 50 #[.val (.int p0), .val (.int p1), .val (.int (4 : Int32)), .val (.int (3 : Int32)), .val (.ref w2), .val (.ref w1), .val (.int (0 : Int32))] []))
      refine own_via (fun _ k => XS.aload X101.here hx rfl (hb hby at_50) rfl rfl k) ?_
      show own_Go p e below s _ _ _ (T101.setTop (mkF m 52 #[.val (.int p0), .val (.int p1), .val (.int (4 : Int32)), .val (.int (3 : Int32)), .val (.ref w2), .val (.ref w1), .val (.int (0 : Int32))] [(.ref w2)]))
      refine own_via (fun _ k => XS.aload X101.here hx rfl (hb hby at_52) rfl rfl k) ?_
      show own_Go p e below s _ _ _ (T101.setTop (mkF m 54 #[.val (.int p0), .val (.int p1), .val (.int (4 : Int32)), .val (.int (3 : Int32)), .val (.ref w2), .val (.ref w1), .val (.int (0 : Int32))] [(.ref w1), (.ref w2)]))
      obtain ⟨cq102, kq102, q102a, q102b, q102c⟩ := isOf hZ e101 E_w2
      obtain ⟨_, _, ⟨T102, L102, k102, n102⟩, -, X102, ⟨Lc102, hQ102, l102, y102, z102⟩, st102⟩ := X101.virtualBack hx (y := (⟨"com/example/grantfall/grantfall/model/Role", "includes", "(Lcom/example/grantfall/grantfall/model/Role;)Z"⟩ : MethodName)) (z := (⟨"com/example/grantfall/grantfall/model/Role", "includes", "(Lcom/example/grantfall/grantfall/model/Role;)Z"⟩ : MethodName)) hown (mvT hZ (hw _ (List.mem_of_getElem? (i := 10) rfl))) (mvT hZ (hw _ (List.mem_of_getElem? (i := 11) rfl))) (notFace_of_selects (args := #[]) (mvT hZ (hw _ (List.mem_of_getElem? (i := 13) rfl)))) (mvT hZ (hw _ (List.mem_of_getElem? (i := 13) rfl))) (mvT hZ (hw _ (List.mem_of_getElem? (i := 12) rfl))) (by decide) (backOf (W := 0) (rm2_23 l Z a0 hw [] w0 w1 w2 w3 w4 h0 n0 Z0 K0) hZ (hw _ (List.mem_of_getElem? (i := 14) rfl)) (hw _ (List.mem_of_getElem? (i := 6) rfl)) (by decide) (by decide)) q102a q102c (g := (mkF m 54 #[.val (.int p0), .val (.int p1), .val (.int (4 : Int32)), .val (.int (3 : Int32)), .val (.ref w2), .val (.ref w1), .val (.int (0 : Int32))] [(.ref w1), (.ref w2)])) rfl (by rw [hml]; rfl) (Steps.refl _) (argsL := [(.ref w1)]) (rest := []) (lenOf pd1 rfl) rfl (by show 2 * 0 + _ ≤ _; exact Nat.le_of_eq rfl) (hb hby at_54) (fun _ _ => ⟨rfl, e101, (by decide : 0 + 0 ≤ _), (by decide : 0 + 0 ≤ _)⟩)
      dsimp only [Pt.U, Pt.locs, Pt.cells, Pt.slots] at X102 l102 y102 z102 st102 hQ102
      subst l102 y102 z102
      obtain ⟨rfl, e102, hO102⟩ := hQ102
      obtain rfl := hO102
      refine own_tr st102 ?_
      show own_Go p e below s _ _ _ (T102.setTop (mkF m 57 #[.val (.int p0), .val (.int p1), .val (.int (4 : Int32)), .val (.int (3 : Int32)), .val (.ref w2), .val (.ref w1), .val (.int (0 : Int32))] [(.int (0 : Int32))]))
      refine own_via (fun _ k => XS.iload X102.here hx rfl (hb hby at_57) rfl k) ?_
      show own_Go p e below s _ _ _ (T102.setTop (mkF m 59 #[.val (.int p0), .val (.int p1), .val (.int (4 : Int32)), .val (.int (3 : Int32)), .val (.ref w2), .val (.ref w1), .val (.int (0 : Int32))] [(.int (0 : Int32)), (.int (0 : Int32))]))
      refine own_via (fun _ k => XS.icmpNo X102.here hx rfl (hb hby at_59) rfl (teq (by decide : (0 : Int32) = (0 : Int32))).2 k) ?_
      show own_Go p e below s _ _ _ (T102.setTop (mkF m 62 #[.val (.int p0), .val (.int p1), .val (.int (4 : Int32)), .val (.int (3 : Int32)), .val (.ref w2), .val (.ref w1), .val (.int (0 : Int32))] []))
      refine own_via (fun _ k => XS.iconst X102.here hx rfl (hb hby at_62) k) ?_
      show own_Go p e below s _ _ _ (T102.setTop (mkF m 63 #[.val (.int p0), .val (.int p1), .val (.int (4 : Int32)), .val (.int (3 : Int32)), .val (.ref w2), .val (.ref w1), .val (.int (0 : Int32))] [(.int (1 : Int32))]))
      refine own_via (fun _ k => XS.goto X102.here hx rfl (pc0 := 63) (pc' := 67) rfl (hb hby at_63) (by decide) (by decide) k) ?_
      show own_Go p e below s _ _ _ (T102.setTop (mkF m 67 #[.val (.int p0), .val (.int p1), .val (.int (4 : Int32)), .val (.int (3 : Int32)), .val (.ref w2), .val (.ref w1), .val (.int (0 : Int32))] [(.int (1 : Int32))]))
      exact own_retZ X102 hx hlk (t := .boolean) Bd.returns (by simp) (hb hby at_67) (z' := (1 : Int32)) (by first | rfl | decide) ⟨rfl, (Fr.nil n0)⟩ (by decide) (by decide)
    · rw [hk90]
      show own_Go p e below s _ _ _ (s₁.setTop (mkF m 13 #[.val (.int p0), .val (.int p1), .val (.int (4 : Int32)), .unset, .unset, .unset, .unset] [(.int (4 : Int32))]))
      refine own_via (fun _ k => XS.istoreN X0.here hx rfl (hb hby at_13) rfl (l' := #[.val (.int p0), .val (.int p1), .val (.int (4 : Int32)), .val (.int (4 : Int32)), .unset, .unset, .unset]) rfl k) ?_
      show own_Go p e below s _ _ _ (s₁.setTop (mkF m 14 #[.val (.int p0), .val (.int p1), .val (.int (4 : Int32)), .val (.int (4 : Int32)), .unset, .unset, .unset] []))
      refine own_via (fun _ k => XS.iloadN X0.here hx rfl (hb hby at_14) rfl k) ?_
      show own_Go p e below s _ _ _ (s₁.setTop (mkF m 15 #[.val (.int p0), .val (.int p1), .val (.int (4 : Int32)), .val (.int (4 : Int32)), .unset, .unset, .unset] [(.int (4 : Int32))]))
      obtain ⟨_, _, ⟨T103, L103, k103, n103⟩, -, X103, ⟨Lc103, hQ103, l103, y103, z103⟩, st103⟩ := Jvm.LawKit.callS X0 hx (y := (⟨"com/example/grantfall/grantfall/model/RoleIncludesPinLaw", "pick", "(I)Lcom/example/grantfall/grantfall/model/Role;"⟩ : MethodName)) hown (mvT hZ (hw _ (List.mem_of_getElem? (i := 1) rfl))) (mvT hZ (hw _ (List.mem_of_getElem? (i := 2) rfl))) (mvT hZ (hw _ (List.mem_of_getElem? (i := 3) rfl))) (mvT hZ (hw _ (List.mem_of_getElem? (i := 4) rfl))) (by decide) (backOf (W := 0) (rm1_4 l Z a0 hw [] w0 w1 w2 w3 w4 h0 n0 Z0 K0) hZ (hw _ (List.mem_of_getElem? (i := 4) rfl)) (hw _ (List.mem_of_getElem? (i := 3) rfl)) (by decide) (by decide)) (g := (mkF m 15 #[.val (.int p0), .val (.int p1), .val (.int (4 : Int32)), .val (.int (4 : Int32)), .unset, .unset, .unset] [(.int (4 : Int32))])) rfl (by rw [hml]; rfl) (argsL := [(.int (4 : Int32))]) (rest := []) (lenOf pd0 rfl) rfl (by show 2 * 0 + _ ≤ _; exact Nat.le_of_eq rfl) (hb hby at_15) (fun _ _ => ⟨rfl, e0, (by decide : 0 + 0 ≤ _), (by decide : 0 + 0 ≤ _)⟩)
      dsimp only [Pt.U, Pt.locs, Pt.cells, Pt.slots] at X103 l103 y103 z103 st103 hQ103
      subst l103 y103 z103
      obtain ⟨rfl, e103, hO103⟩ := hQ103
      obtain rfl := hO103
      refine own_via st103 ?_
      show own_Go p e below s _ _ _ (T103.setTop (mkF m 18 #[.val (.int p0), .val (.int p1), .val (.int (4 : Int32)), .val (.int (4 : Int32)), .unset, .unset, .unset] [(.ref w2)]))
      refine own_via (fun _ k => XS.astore X103.here hx rfl (hb hby at_18) rfl rfl (l' := #[.val (.int p0), .val (.int p1), .val (.int (4 : Int32)), .val (.int (4 : Int32)), .val (.ref w2), .unset, .unset]) rfl k) ?_
      show own_Go p e below s _ _ _ (T103.setTop (mkF m 20 #[.val (.int p0), .val (.int p1), .val (.int (4 : Int32)), .val (.int (4 : Int32)), .val (.ref w2), .unset, .unset] []))
      refine own_via (fun _ k => XS.iloadN X103.here hx rfl (hb hby at_20) rfl k) ?_
      show own_Go p e below s _ _ _ (T103.setTop (mkF m 21 #[.val (.int p0), .val (.int p1), .val (.int (4 : Int32)), .val (.int (4 : Int32)), .val (.ref w2), .unset, .unset] [(.int (4 : Int32))]))
      obtain ⟨_, _, ⟨T104, L104, k104, n104⟩, -, X104, ⟨Lc104, hQ104, l104, y104, z104⟩, st104⟩ := Jvm.LawKit.callS X103 hx (y := (⟨"com/example/grantfall/grantfall/model/RoleIncludesPinLaw", "pick", "(I)Lcom/example/grantfall/grantfall/model/Role;"⟩ : MethodName)) hown (mvT hZ (hw _ (List.mem_of_getElem? (i := 1) rfl))) (mvT hZ (hw _ (List.mem_of_getElem? (i := 2) rfl))) (mvT hZ (hw _ (List.mem_of_getElem? (i := 3) rfl))) (mvT hZ (hw _ (List.mem_of_getElem? (i := 4) rfl))) (by decide) (backOf (W := 0) (rm1_4 l Z a0 hw [] w0 w1 w2 w3 w4 h0 n0 Z0 K0) hZ (hw _ (List.mem_of_getElem? (i := 4) rfl)) (hw _ (List.mem_of_getElem? (i := 3) rfl)) (by decide) (by decide)) (g := (mkF m 21 #[.val (.int p0), .val (.int p1), .val (.int (4 : Int32)), .val (.int (4 : Int32)), .val (.ref w2), .unset, .unset] [(.int (4 : Int32))])) rfl (by rw [hml]; rfl) (argsL := [(.int (4 : Int32))]) (rest := []) (lenOf pd0 rfl) rfl (by show 2 * 0 + _ ≤ _; exact Nat.le_of_eq rfl) (hb hby at_21) (fun _ _ => ⟨rfl, e103, (by decide : 0 + 0 ≤ _), (by decide : 0 + 0 ≤ _)⟩)
      dsimp only [Pt.U, Pt.locs, Pt.cells, Pt.slots] at X104 l104 y104 z104 st104 hQ104
      subst l104 y104 z104
      obtain ⟨rfl, e104, hO104⟩ := hQ104
      obtain rfl := hO104
      refine own_via st104 ?_
      show own_Go p e below s _ _ _ (T104.setTop (mkF m 24 #[.val (.int p0), .val (.int p1), .val (.int (4 : Int32)), .val (.int (4 : Int32)), .val (.ref w2), .unset, .unset] [(.ref w2)]))
      refine own_via (fun _ k => XS.astore X104.here hx rfl (hb hby at_24) rfl rfl (l' := #[.val (.int p0), .val (.int p1), .val (.int (4 : Int32)), .val (.int (4 : Int32)), .val (.ref w2), .val (.ref w2), .unset]) rfl k) ?_
      show own_Go p e below s _ _ _ (T104.setTop (mkF m 26 #[.val (.int p0), .val (.int p1), .val (.int (4 : Int32)), .val (.int (4 : Int32)), .val (.ref w2), .val (.ref w2), .unset] []))
      refine own_via (fun _ k => XS.iloadN X104.here hx rfl (hb hby at_26) rfl k) ?_
      show own_Go p e below s _ _ _ (T104.setTop (mkF m 27 #[.val (.int p0), .val (.int p1), .val (.int (4 : Int32)), .val (.int (4 : Int32)), .val (.ref w2), .val (.ref w2), .unset] [(.int (4 : Int32))]))
      refine own_via (fun _ k => XS.ifYes X104.here hx rfl (pc0 := 27) (pc' := 36) rfl (hb hby at_27) rfl ((if0 _ _).trans (feq (by decide : ¬ ((4 : Int32) = (0 : Int32)))).2) (by decide) (by decide) k) ?_
      show own_Go p e below s _ _ _ (T104.setTop (mkF m 36 #[.val (.int p0), .val (.int p1), .val (.int (4 : Int32)), .val (.int (4 : Int32)), .val (.ref w2), .val (.ref w2), .unset] []))
      refine own_via (fun _ k => XS.iloadN X104.here hx rfl (hb hby at_36) rfl k) ?_
      show own_Go p e below s _ _ _ (T104.setTop (mkF m 37 #[.val (.int p0), .val (.int p1), .val (.int (4 : Int32)), .val (.int (4 : Int32)), .val (.ref w2), .val (.ref w2), .unset] [(.int (4 : Int32))]))
      refine own_via (fun _ k => XS.iloadN X104.here hx rfl (hb hby at_37) rfl k) ?_
      show own_Go p e below s _ _ _ (T104.setTop (mkF m 38 #[.val (.int p0), .val (.int p1), .val (.int (4 : Int32)), .val (.int (4 : Int32)), .val (.ref w2), .val (.ref w2), .unset] [(.int (4 : Int32)), (.int (4 : Int32))]))
      refine own_via (fun _ k => XS.icmpNo X104.here hx rfl (hb hby at_38) rfl (teq (by decide : (4 : Int32) = (4 : Int32))).2 k) ?_
      show own_Go p e below s _ _ _ (T104.setTop (mkF m 41 #[.val (.int p0), .val (.int p1), .val (.int (4 : Int32)), .val (.int (4 : Int32)), .val (.ref w2), .val (.ref w2), .unset] []))
      refine own_via (fun _ k => XS.iconst X104.here hx rfl (hb hby at_41) k) ?_
      show own_Go p e below s _ _ _ (T104.setTop (mkF m 42 #[.val (.int p0), .val (.int p1), .val (.int (4 : Int32)), .val (.int (4 : Int32)), .val (.ref w2), .val (.ref w2), .unset] [(.int (1 : Int32))]))
      refine own_via (fun _ k => XS.istore X104.here hx rfl (hb hby at_42) rfl (l' := #[.val (.int p0), .val (.int p1), .val (.int (4 : Int32)), .val (.int (4 : Int32)), .val (.ref w2), .val (.ref w2), .val (.int (1 : Int32))]) rfl k) ?_
      show own_Go p e below s _ _ _ (T104.setTop (mkF m 44 #[.val (.int p0), .val (.int p1), .val (.int (4 : Int32)), .val (.int (4 : Int32)), .val (.ref w2), .val (.ref w2), .val (.int (1 : Int32))] []))
      refine own_via (fun _ k => XS.goto X104.here hx rfl (pc0 := 44) (pc' := 50) rfl (hb hby at_44) (by decide) (by decide) k) ?_
      show own_Go p e below s _ _ _ (T104.setTop (mkF m 50 #[.val (.int p0), .val (.int p1), .val (.int (4 : Int32)), .val (.int (4 : Int32)), .val (.ref w2), .val (.ref w2), .val (.int (1 : Int32))] []))
      refine own_via (fun _ k => XS.aload X104.here hx rfl (hb hby at_50) rfl rfl k) ?_
      show own_Go p e below s _ _ _ (T104.setTop (mkF m 52 #[.val (.int p0), .val (.int p1), .val (.int (4 : Int32)), .val (.int (4 : Int32)), .val (.ref w2), .val (.ref w2), .val (.int (1 : Int32))] [(.ref w2)]))
      refine own_via (fun _ k => XS.aload X104.here hx rfl (hb hby at_52) rfl rfl k) ?_
      show own_Go p e below s _ _ _ (T104.setTop (mkF m 54 #[.val (.int p0), .val (.int p1), .val (.int (4 : Int32)), .val (.int (4 : Int32)), .val (.ref w2), .val (.ref w2), .val (.int (1 : Int32))] [(.ref w2), (.ref w2)]))
      obtain ⟨cq105, kq105, q105a, q105b, q105c⟩ := isOf hZ e104 E_w2
      obtain ⟨_, _, ⟨T105, L105, k105, n105⟩, -, X105, ⟨Lc105, hQ105, l105, y105, z105⟩, st105⟩ := X104.virtualBack hx (y := (⟨"com/example/grantfall/grantfall/model/Role", "includes", "(Lcom/example/grantfall/grantfall/model/Role;)Z"⟩ : MethodName)) (z := (⟨"com/example/grantfall/grantfall/model/Role", "includes", "(Lcom/example/grantfall/grantfall/model/Role;)Z"⟩ : MethodName)) hown (mvT hZ (hw _ (List.mem_of_getElem? (i := 10) rfl))) (mvT hZ (hw _ (List.mem_of_getElem? (i := 11) rfl))) (notFace_of_selects (args := #[]) (mvT hZ (hw _ (List.mem_of_getElem? (i := 13) rfl)))) (mvT hZ (hw _ (List.mem_of_getElem? (i := 13) rfl))) (mvT hZ (hw _ (List.mem_of_getElem? (i := 12) rfl))) (by decide) (backOf (W := 0) (rm2_24 l Z a0 hw [] w0 w1 w2 w3 w4 h0 n0 Z0 K0) hZ (hw _ (List.mem_of_getElem? (i := 14) rfl)) (hw _ (List.mem_of_getElem? (i := 6) rfl)) (by decide) (by decide)) q105a q105c (g := (mkF m 54 #[.val (.int p0), .val (.int p1), .val (.int (4 : Int32)), .val (.int (4 : Int32)), .val (.ref w2), .val (.ref w2), .val (.int (1 : Int32))] [(.ref w2), (.ref w2)])) rfl (by rw [hml]; rfl) (Steps.refl _) (argsL := [(.ref w2)]) (rest := []) (lenOf pd1 rfl) rfl (by show 2 * 0 + _ ≤ _; exact Nat.le_of_eq rfl) (hb hby at_54) (fun _ _ => ⟨rfl, e104, (by decide : 0 + 0 ≤ _), (by decide : 0 + 0 ≤ _)⟩)
      dsimp only [Pt.U, Pt.locs, Pt.cells, Pt.slots] at X105 l105 y105 z105 st105 hQ105
      subst l105 y105 z105
      obtain ⟨rfl, e105, hO105⟩ := hQ105
      obtain rfl := hO105
      refine own_tr st105 ?_
      show own_Go p e below s _ _ _ (T105.setTop (mkF m 57 #[.val (.int p0), .val (.int p1), .val (.int (4 : Int32)), .val (.int (4 : Int32)), .val (.ref w2), .val (.ref w2), .val (.int (1 : Int32))] [(.int (1 : Int32))]))
      refine own_via (fun _ k => XS.iload X105.here hx rfl (hb hby at_57) rfl k) ?_
      show own_Go p e below s _ _ _ (T105.setTop (mkF m 59 #[.val (.int p0), .val (.int p1), .val (.int (4 : Int32)), .val (.int (4 : Int32)), .val (.ref w2), .val (.ref w2), .val (.int (1 : Int32))] [(.int (1 : Int32)), (.int (1 : Int32))]))
      refine own_via (fun _ k => XS.icmpNo X105.here hx rfl (hb hby at_59) rfl (teq (by decide : (1 : Int32) = (1 : Int32))).2 k) ?_
      show own_Go p e below s _ _ _ (T105.setTop (mkF m 62 #[.val (.int p0), .val (.int p1), .val (.int (4 : Int32)), .val (.int (4 : Int32)), .val (.ref w2), .val (.ref w2), .val (.int (1 : Int32))] []))
      refine own_via (fun _ k => XS.iconst X105.here hx rfl (hb hby at_62) k) ?_
      show own_Go p e below s _ _ _ (T105.setTop (mkF m 63 #[.val (.int p0), .val (.int p1), .val (.int (4 : Int32)), .val (.int (4 : Int32)), .val (.ref w2), .val (.ref w2), .val (.int (1 : Int32))] [(.int (1 : Int32))]))
      refine own_via (fun _ k => XS.goto X105.here hx rfl (pc0 := 63) (pc' := 67) rfl (hb hby at_63) (by decide) (by decide) k) ?_
      show own_Go p e below s _ _ _ (T105.setTop (mkF m 67 #[.val (.int p0), .val (.int p1), .val (.int (4 : Int32)), .val (.int (4 : Int32)), .val (.ref w2), .val (.ref w2), .val (.int (1 : Int32))] [(.int (1 : Int32))]))
      exact own_retZ X105 hx hlk (t := .boolean) Bd.returns (by simp) (hb hby at_67) (z' := (1 : Int32)) (by first | rfl | decide) ⟨rfl, (Fr.nil n0)⟩ (by decide) (by decide)
set_option maxRecDepth 65536 in
set_option maxHeartbeats 40000000 in
theorem comes_1 {Post : Tables → Env → Array Value → State → Outcome → State → Prop} (hpost : ∀ tb e args s v u, (limb_1_1.after args s (.returned v) u = true ∧ limb_1_2.after args s (.returned v) u = true ∧ True) → FrameEnd s (.returned v) u (Jvm.fieldLocs frame_1_writes args s ++ Jvm.arrayLocs frame_1_arrays args s ++ Jvm.staticLocs frame_1_statics s) 0 0 → Post tb e args s (.returned v) u) :
    ArmFor flags0 classFile x code maxLocals ret World_1 tables_1 room_1 Calls_1 rest_1 Pre_1 Post := by
  intro l hfl _ _ p e ha hc hk s m args below hf hA hF happ hP
  obtain ⟨hcalls, hrest, hpre⟩ := hP
  obtain ⟨-, -, -, hnamed, -, -, -, hat⟩ := (Spec.applies_iff hf).mp happ
  obtain ⟨hg, hn⟩ := and_e (Cond.before_iff.mp (show (Jvm.Cond.and given_1 narrow_1).before args s = true from hpre))
  obtain ⟨g0, hg0⟩ := and_e hg
  obtain ⟨g1, hg1⟩ := and_e hg0
  obtain ⟨u0, u1, rfl⟩ : ∃ u0 u1 : Value, args = #[u0, u1] := by
    have hs : args.size = 2 := by simpa [Cond.value, given_1] using g0
    obtain ⟨L⟩ := args
    match L, hs with
    | [u0, u1], _ => exact ⟨u0, u1, rfl⟩
  have hw := fun d (hd : d ∈ tables_1) => atoms_spec (ws := Jvm.Cond.code x code maxLocals ret :: tables_1) hat d (List.mem_cons_of_mem _ hd)
  obtain ⟨i0, ei0⟩ := is_v g1
  obtain rfl : u0 = (.int i0) := Option.some.inj ei0
  obtain ⟨i1, ei1⟩ := is_v hg1
  obtain rfl : u1 = (.int i1) := Option.some.inj ei1
  obtain ⟨t0, hn0⟩ := and_e hn
  obtain ⟨t1, hn1⟩ := and_e hn0
  obtain ⟨t2, hn2⟩ := and_e hn1
  obtain ⟨t3, hn3⟩ := and_e hn2
  obtain ⟨t4, hn4⟩ := and_e hn3
  obtain ⟨t5, hn5⟩ := and_e hn4
  obtain ⟨t6, hn6⟩ := and_e hn5
  obtain ⟨t7, hn7⟩ := and_e hn6
  obtain ⟨t8, hn8⟩ := and_e hn7
  obtain ⟨w0, v_w0⟩ := exa_v t0
  have E_w0 := Exa.start v_w0 t0
  have S_w0 := Sta.start v_w0 (Or.inr ⟨(hw _ (List.mem_of_getElem? (i := 6) rfl)), (hw _ (List.mem_of_getElem? (i := 7) rfl))⟩)
  obtain ⟨w1, v_w1⟩ := exa_v t1
  have E_w1 := Exa.start v_w1 t1
  have S_w1 := Sta.start v_w1 (Or.inr ⟨(hw _ (List.mem_of_getElem? (i := 6) rfl)), (hw _ (List.mem_of_getElem? (i := 9) rfl))⟩)
  obtain ⟨w2, v_w2⟩ := exa_v t2
  have E_w2 := Exa.start v_w2 t2
  have S_w2 := Sta.start v_w2 (Or.inr ⟨(hw _ (List.mem_of_getElem? (i := 6) rfl)), (hw _ (List.mem_of_getElem? (i := 17) rfl))⟩)
  obtain ⟨w3, v_w3⟩ := exa_v t3
  have E_w3 := Exa.start v_w3 t3
  have S_w3 := Sta.start v_w3 (Or.inr ⟨(hw _ (List.mem_of_getElem? (i := 6) rfl)), (hw _ (List.mem_of_getElem? (i := 19) rfl))⟩)
  obtain ⟨w4, v_w4⟩ := exa_v t8
  have E_w4 := Exa.start v_w4 t8
  have S_w4 := Sta.start v_w4 (Or.inr ⟨(hw _ (List.mem_of_getElem? (i := 6) rfl)), (hw _ (List.mem_of_getElem? (i := 21) rfl))⟩)
  have F_w2_ordinal := own_fld v_w2 t4
  have F_w0_ordinal := own_fld v_w0 t5
  have F_w3_ordinal := own_fld v_w3 t6
  have F_w1_ordinal := own_fld v_w1 t7
  have F_w4_ordinal := own_fld v_w4 hn8
  have n_w0_w1 : ¬ (w0 = w1) := Fld.ne F_w0_ordinal F_w1_ordinal (by decide)
  have n_w0_w2 : ¬ (w0 = w2) := Fld.ne F_w0_ordinal F_w2_ordinal (by decide)
  have n_w0_w3 : ¬ (w0 = w3) := Fld.ne F_w0_ordinal F_w3_ordinal (by decide)
  have n_w0_w4 : ¬ (w0 = w4) := Fld.ne F_w0_ordinal F_w4_ordinal (by decide)
  have n_w1_w2 : ¬ (w1 = w2) := Fld.ne F_w1_ordinal F_w2_ordinal (by decide)
  have n_w1_w3 : ¬ (w1 = w3) := Fld.ne F_w1_ordinal F_w3_ordinal (by decide)
  have n_w1_w4 : ¬ (w1 = w4) := Fld.ne F_w1_ordinal F_w4_ordinal (by decide)
  have n_w2_w3 : ¬ (w2 = w3) := Fld.ne F_w2_ordinal F_w3_ordinal (by decide)
  have n_w2_w4 : ¬ (w2 = w4) := Fld.ne F_w2_ordinal F_w4_ordinal (by decide)
  have n_w3_w4 : ¬ (w3 = w4) := Fld.ne F_w3_ordinal F_w4_ordinal (by decide)
  obtain ⟨n, o, h1, h2, h3, _, L, rfl, ⟨rfl, N⟩, hq⟩ := rm0 l s _ hw tables_1 i0 i1 w0 w1 w2 w3 w4 s.heap s.heap.size (Nat.le_refl _) ⟨S_w0, S_w1, S_w2, S_w3, S_w4, E_w0, E_w1, E_w2, E_w3, E_w4, F_w2_ordinal, F_w0_ordinal, F_w3_ordinal, F_w1_ordinal, F_w4_ordinal, n_w0_w1, n_w0_w2, n_w0_w3, n_w0_w4, n_w1_w2, n_w1_w3, n_w1_w4, n_w2_w3, n_w2_w4, n_w3_w4⟩ p e ha hc hk s m _ below hf ((Spec.applies_iff_loose hf).mp happ).1 ⟨rfl, State.Warmed39.refl s, rfl⟩ trivial
  refine ⟨n, _, h1, h2, h3, hpost _ _ _ _ _ _ ⟨Cond.after_iff.mpr rfl, Cond.after_iff.mpr (eq_i res_at (Term.int_eval (1)) rfl), trivial⟩ ⟨hq.1, hq.2.1, (hq.2.2.sift fun y hy => Or.inr (N y hy)).mono (by decide) (by decide)⟩⟩
theorem main_1_1 : Claimed_1_1 := comes_1 fun _ _ _ _ _ _ h hF => ⟨h.1, hF⟩
theorem main_1_2 : Claimed_1_2 := comes_1 fun _ _ _ _ _ _ h hF => ⟨h.2.1, hF⟩
end Jvm.Pilot.@@N@@
namespace Jvm.Pilot.@@N@@
open Jvm Jvm.ClassFile Sem Op Lib Jvm.Free Jvm.Stand Jvm.Pilot.@@N@@.Jvm.D
/-! MADE BY PROGRAM (witnessworld.py) out of the Statement's table words and the real class files: 12 classes; the members and pool entries that the words name. The judged class is class 1, her method 2. -/
namespace start1
open Jvm.ClassFile
def u (s : String) : CpInfo := .utf8 (stringToUtf16 s)
/-- a pool by its gaps: so many unusable entries, then the entry; so many at the end -/
def gap : Nat → List CpInfo → List CpInfo
  | 0, r => r
  | n + 1, r => .unusable :: gap n r
def poolList (es : List (Nat × CpInfo)) (last : Nat) : List CpInfo := es.foldr (fun e r => gap e.1 (e.2 :: r)) (gap last [])
def pool (es : List (Nat × CpInfo)) (last : Nat) : Array CpInfo := ⟨poolList es last⟩
def fileOf (pool : Array CpInfo) (this : Nat) (attrs : Array Attribute := #[]) (ms : Array MethodInfo := #[]) (fl : Nat := 33) (sup : Nat := 0) (ifs : Array Nat := #[]) (fds : Array FieldInfo := #[]) : ClassFile where
  minorVersion := 0
  majorVersion := 65
  constantPool := pool
  accessFlags := fl
  thisClass := this
  superClass := sup
  interfaces := ifs
  fields := fds
  methods := ms
  attributes := attrs
def plain (name : String) (sup : Option ClassId) : Class where
  name := name
  kind := .ordinary
  loader := none
  accessFlags := 33
  super := sup
  interfaces := #[]
  cf := none
  fields := #[]
  methods := #[]
  instanceTypes := #[]
  staticTypes := #[]
  resolved := #[]
  callSites := []
  init := .initialized
  statics := none
  mirror := none

def pool0 : Array CpInfo := pool [(5, u "<init>"), (0, u "()V"), (1, .class_ 10), (1, u "java/lang/Object")] 113

def k0m0 : Method := { name := "<init>", desc := "()V", sig := { parameters := [], returnType := none }, accessFlags := 1, code := none }
/-- java/lang/Object -/
def k0 : Class := { plain "java/lang/Object" none with
  accessFlags := 33
  interfaces := #[]
  cf := some (fileOf pool0 8 #[] #[{ accessFlags := 1, nameIndex := 5, descriptorIndex := 6, attributes := #[] }] 33 0 #[] #[])
  fields := #[]
  methods := #[k0m0]
  instanceTypes := #[]
  staticTypes := #[]
  resolved := Array.replicate 124 none
  statics := none }

def pool1 : Array CpInfo := pool [(2, .class_ 4), (1, u "java/lang/Object"), (0, u "<init>"), (0, u "()V"), (0, .fieldref 8 9), (0, .class_ 10), (0, .nameAndType 11 12), (0, u "com/example/grantfall/grantfall/model/Role"), (0, u "OWNER"), (0, u "Lcom/example/grantfall/grantfall/model/Role;"), (0, .fieldref 8 14), (0, .nameAndType 15 12), (0, u "CONTENT_ADMIN"), (0, .fieldref 8 17), (0, .nameAndType 18 12), (0, u "MEMBER"), (0, .fieldref 8 20), (0, .nameAndType 21 12), (0, u "GUEST"), (0, .fieldref 8 23), (0, .nameAndType 24 12), (0, u "REVIEWER"), (0, .integer 2147483647), (0, .methodref 27 28), (0, .class_ 29), (0, .nameAndType 30 31), (0, u "com/example/grantfall/grantfall/model/RoleIncludesPinLaw"), (0, u "pick"), (0, u "(I)Lcom/example/grantfall/grantfall/model/Role;"), (0, .methodref 8 33), (0, .nameAndType 34 35), (0, u "includes"), (0, u "(Lcom/example/grantfall/grantfall/model/Role;)Z"), (3, u "law"), (0, u "(II)Z")] 2

def k1m0 : Method := { name := "<init>", desc := "()V", sig := { parameters := [], returnType := none }, accessFlags := 2, code := none }
def k1c1 : Code := { maxStack := 2, maxLocals := 1, code := method_2_code, exceptionTable := #[], attributes := #[] }
def k1m1 : Method := { name := "pick", desc := "(I)Lcom/example/grantfall/grantfall/model/Role;", sig := { parameters := [.int], returnType := some (.object "com/example/grantfall/grantfall/model/Role") }, accessFlags := 10, code := some k1c1 }
def k1c2 : Code := { maxStack := 2, maxLocals := 7, code := code, exceptionTable := #[], attributes := #[] }
def k1m2 : Method := { name := "law", desc := "(II)Z", sig := { parameters := [.int, .int], returnType := some .boolean }, accessFlags := 9, code := some k1c2 }
/-- com/example/grantfall/grantfall/model/RoleIncludesPinLaw -/
def k1 : Class := { plain "com/example/grantfall/grantfall/model/RoleIncludesPinLaw" (some 0) with
  accessFlags := 49
  interfaces := #[]
  cf := some (fileOf pool1 27 #[] #[{ accessFlags := 2, nameIndex := 5, descriptorIndex := 6, attributes := #[] }, { accessFlags := 10, nameIndex := 30, descriptorIndex := 31, attributes := #[] }, { accessFlags := 9, nameIndex := 39, descriptorIndex := 40, attributes := #[] }] 49 2 #[] #[])
  fields := #[]
  methods := #[k1m0, k1m1, k1m2]
  instanceTypes := #[]
  staticTypes := #[]
  resolved := Array.replicate 43 none
  statics := none }

def pool2 : Array CpInfo := pool [(1, .class_ 2), (0, u "java/lang/constant/Constable"), (0, .class_ 4), (0, u "java/lang/Object")] 6

/-- java/lang/constant/Constable -/
def k2 : Class := { plain "java/lang/constant/Constable" (some 0) with
  accessFlags := 1537
  interfaces := #[]
  cf := some (fileOf pool2 1 #[] #[] 1537 3 #[] #[])
  fields := #[]
  methods := #[]
  instanceTypes := #[]
  staticTypes := #[]
  resolved := Array.replicate 11 none
  statics := none }

def pool3 : Array CpInfo := pool [(1, .class_ 2), (0, u "java/lang/Comparable"), (0, .class_ 4), (0, u "java/lang/Object")] 7

/-- java/lang/Comparable -/
def k3 : Class := { plain "java/lang/Comparable" (some 0) with
  accessFlags := 1537
  interfaces := #[]
  cf := some (fileOf pool3 1 #[] #[] 1537 3 #[] #[])
  fields := #[]
  methods := #[]
  instanceTypes := #[]
  staticTypes := #[]
  resolved := Array.replicate 12 none
  statics := none }

def pool4 : Array CpInfo := pool [(1, .class_ 2), (0, u "java/io/Serializable"), (0, .class_ 4), (0, u "java/lang/Object")] 2

/-- java/io/Serializable -/
def k4 : Class := { plain "java/io/Serializable" (some 0) with
  accessFlags := 1537
  interfaces := #[]
  cf := some (fileOf pool4 1 #[] #[] 1537 3 #[] #[])
  fields := #[]
  methods := #[]
  instanceTypes := #[]
  staticTypes := #[]
  resolved := Array.replicate 7 none
  statics := none }

def pool5 : Array CpInfo := pool [(2, .class_ 4), (1, u "java/lang/Enum"), (0, u "name"), (0, u "Ljava/lang/String;"), (2, u "ordinal"), (0, u "I"), (1, .class_ 14), (1, u "java/lang/Object"), (4, u "hash"), (86, .class_ 108), (1, u "java/lang/Enum$EnumDesc"), (2, .class_ 112), (0, u "java/lang/constant/Constable"), (0, .class_ 114), (0, u "java/lang/Comparable"), (0, .class_ 116), (0, u "java/io/Serializable")] 87

/-- java/lang/Enum -/
def k5 : Class := { plain "java/lang/Enum" (some 0) with
  accessFlags := 1057
  interfaces := #[2, 3, 4]
  cf := some (fileOf pool5 2 #[.nestMembers #[106]] #[] 1057 12 #[111, 113, 115] #[{ accessFlags := 18, nameIndex := 5, descriptorIndex := 6, attributes := #[] }, { accessFlags := 18, nameIndex := 9, descriptorIndex := 10, attributes := #[] }, { accessFlags := 2, nameIndex := 19, descriptorIndex := 10, attributes := #[] }])
  fields := #[{ name := "name", type := (.object "java/lang/String"), accessFlags := 18, slot := 0, constantValue := 0 }, { name := "ordinal", type := .int, accessFlags := 18, slot := 1, constantValue := 0 }, { name := "hash", type := .int, accessFlags := 2, slot := 2, constantValue := 0 }]
  methods := #[]
  instanceTypes := #[(.object "java/lang/String"), .int, .int]
  staticTypes := #[]
  resolved := Array.replicate 204 none
  statics := none }

def pool6 : Array CpInfo := pool [(1, .class_ 2), (0, u "com/example/grantfall/grantfall/model/Role"), (0, .fieldref 1 4), (0, .nameAndType 5 6), (0, u "OWNER"), (0, u "Lcom/example/grantfall/grantfall/model/Role;"), (2, u "CONTENT_ADMIN"), (2, u "MEMBER"), (2, u "GUEST"), (2, u "REVIEWER"), (2, u "$VALUES"), (0, u "[Lcom/example/grantfall/grantfall/model/Role;"), (6, .class_ 31), (1, u "java/lang/Enum"), (8, u "BY_NAME"), (0, u "Ljava/util/Map;"), (45, u "includes"), (0, u "(Lcom/example/grantfall/grantfall/model/Role;)Z")] 10

def k6c0 : Code := { maxStack := 2, maxLocals := 2, code := prog_19_method_5_code, exceptionTable := #[], attributes := #[] }
def k6m0 : Method := { name := "includes", desc := "(Lcom/example/grantfall/grantfall/model/Role;)Z", sig := { parameters := [(.object "com/example/grantfall/grantfall/model/Role")], returnType := some .boolean }, accessFlags := 1, code := some k6c0 }
/-- com/example/grantfall/grantfall/model/Role -/
def k6 : Class := { plain "com/example/grantfall/grantfall/model/Role" (some 5) with
  accessFlags := 16433
  interfaces := #[]
  cf := some (fileOf pool6 1 #[] #[{ accessFlags := 1, nameIndex := 87, descriptorIndex := 88, attributes := #[] }] 16433 29 #[] #[{ accessFlags := 16409, nameIndex := 5, descriptorIndex := 6, attributes := #[] }, { accessFlags := 16409, nameIndex := 9, descriptorIndex := 6, attributes := #[] }, { accessFlags := 16409, nameIndex := 12, descriptorIndex := 6, attributes := #[] }, { accessFlags := 16409, nameIndex := 15, descriptorIndex := 6, attributes := #[] }, { accessFlags := 16409, nameIndex := 18, descriptorIndex := 6, attributes := #[] }, { accessFlags := 26, nameIndex := 40, descriptorIndex := 41, attributes := #[] }, { accessFlags := 4122, nameIndex := 21, descriptorIndex := 22, attributes := #[] }])
  fields := #[{ name := "OWNER", type := (.object "com/example/grantfall/grantfall/model/Role"), accessFlags := 16409, slot := 0, constantValue := 0 }, { name := "CONTENT_ADMIN", type := (.object "com/example/grantfall/grantfall/model/Role"), accessFlags := 16409, slot := 1, constantValue := 0 }, { name := "MEMBER", type := (.object "com/example/grantfall/grantfall/model/Role"), accessFlags := 16409, slot := 2, constantValue := 0 }, { name := "GUEST", type := (.object "com/example/grantfall/grantfall/model/Role"), accessFlags := 16409, slot := 3, constantValue := 0 }, { name := "REVIEWER", type := (.object "com/example/grantfall/grantfall/model/Role"), accessFlags := 16409, slot := 4, constantValue := 0 }, { name := "BY_NAME", type := (.object "java/util/Map"), accessFlags := 26, slot := 5, constantValue := 0 }, { name := "$VALUES", type := (.array (.object "com/example/grantfall/grantfall/model/Role")), accessFlags := 4122, slot := 6, constantValue := 0 }]
  methods := #[k6m0]
  instanceTypes := #[(.object "java/lang/String"), .int, .int]
  staticTypes := #[(.object "com/example/grantfall/grantfall/model/Role"), (.object "com/example/grantfall/grantfall/model/Role"), (.object "com/example/grantfall/grantfall/model/Role"), (.object "com/example/grantfall/grantfall/model/Role"), (.object "com/example/grantfall/grantfall/model/Role"), (.object "java/util/Map"), (.array (.object "com/example/grantfall/grantfall/model/Role"))]
  resolved := Array.replicate 99 none
  statics := some 0 }

def pool7 : Array CpInfo := pool [(1, u "java/lang/Cloneable"), (0, .class_ 1), (0, u "java/lang/Object"), (0, .class_ 3)] 3

/-- java/lang/Cloneable -/
def k7 : Class := { plain "java/lang/Cloneable" (some 0) with
  accessFlags := 1537
  interfaces := #[]
  cf := some (fileOf pool7 2 #[] #[] 1537 4 #[] #[])
  fields := #[]
  methods := #[]
  instanceTypes := #[]
  staticTypes := #[]
  resolved := Array.replicate 8 none
  statics := none }

/-- the primitive byte -/
def k8 : Class := { plain "byte" none with kind := .primitive 'B', accessFlags := 0x411 }
/-- [B -/
def k9 : Class := { plain "[B" (some 0) with kind := .array 8 .byte, interfaces := #[7, 4], accessFlags := 1041 }

/-- the primitive int -/
def k10 : Class := { plain "int" none with kind := .primitive 'I', accessFlags := 0x411 }
/-- [I -/
def k11 : Class := { plain "[I" (some 0) with kind := .array 10 .int, interfaces := #[7, 4], accessFlags := 1041 }

def heap : Heap := #[{ cls := 6, slots := #[.ref 1, .ref 4, .ref 5, .ref 2, .ref 3, .null, .null], vm := .statics 6 },
  { cls := 6, slots := #[.null, .int 0, .int 0], vm := .none },
  { cls := 6, slots := #[.null, .int 3, .int 0], vm := .none },
  { cls := 6, slots := #[.null, .int 4, .int 0], vm := .none },
  { cls := 6, slots := #[.null, .int 1, .int 0], vm := .none },
  { cls := 6, slots := #[.null, .int 2, .int 0], vm := .none }]
def classes : Array Class := #[k0, k1, k2, k3, k4, k5, k6, k7, k8, k9, k10, k11]
def interned : List (Array UInt16 × Addr) := []
def slotsUsed : Nat := 22
def theMethod : MethodId := ⟨1, 2⟩
def args0 : Array Value := #[.int 5, .int 5]
def aboutOver (below : List Frame) : State where
  vm := { classes := classes, interned := interned.toArray }
  heap := heap
  slotsUsed := slotsUsed
  threads := #[{ frames := .invoking theMethod args0 :: below }]
def below0 : List Frame := [.native { method := ⟨0, 0⟩, args := #[] }]
def about1 : State := aboutOver below0
def p0 : Program := .bare "" "" ""
def e0 : Env := launch0.env 0 0 0
theorem w_frames : about1.frames = Frame.invoking theMethod args0 :: below0 := rfl
set_option maxRecDepth 65536 in
theorem w_args : argsFit about1.vm theMethod args0 = true := by decide +kernel
set_option maxRecDepth 65536 in
theorem w_heap : heapFits about1 = true := by decide +kernel
set_option maxRecDepth 65536 in
theorem w_runnable : about1.curStatus? = some .runnable := by decide +kernel
set_option maxRecDepth 65536 in
theorem w_alone : about1.alone = true := by decide +kernel
set_option maxRecDepth 65536 in
theorem w_named : about1.methodNamed? x = some theMethod := by decide +kernel
set_option maxRecDepth 65536 in
theorem w_hears : about1.hears theMethod below0 = true := by decide +kernel
set_option maxRecDepth 65536 in
theorem w_ripe : about1.ripe theMethod args0 below0 = true := by decide +kernel
theorem w_running : about1.status = .running := rfl
set_option maxRecDepth 65536 in
theorem w_room : about1.hasRoom e0.platform room_1 = true :=
  launch0.hasRoom_least _ room_1 (by decide +kernel) (by decide +kernel) (by decide +kernel) (by decide +kernel) (by decide +kernel) (by decide +kernel)
theorem allAtoms_all (ts : List Jvm.Cond) (a : Array Jvm.Value) (st : Jvm.State) : (allAtoms ts).before a st = ts.all (fun c => c.before a st) := by
  induction ts with
  | nil => rfl
  | cons c t ih =>
    show (Jvm.Cond.and c (allAtoms t)).before a st = _
    rw [Jvm.Cond.before_and, ih, List.all_cons]
def words1 : List Jvm.Cond := Jvm.Cond.code x code maxLocals ret :: tables_1
/-- a 'code' word, met by the world's own term for the bytes: nothing is compared byte by byte -/
theorem code_word {y : MethodName} {bytes : ByteArray} {mx : Nat} {rt : Option FieldType} {a : Array Value} {s : State} {m : MethodId} {meth : Method} {c : Code} (h1 : s.methodNamed? y = some m) (h2 : s.vm.method? m = some meth) (h3 : meth.code = some c) (h4 : c.code = bytes)
    (h5 : (c.maxLocals == mx && c.exceptionTable.isEmpty && decide (c.maxStack ≤ mostOperands) && decide (meth.sig.returnType = rt) && !meth.locks && decide (parseMethodDescriptor y.desc = some meth.sig)) = true) : (Jvm.Cond.code y bytes mx rt).before a s = true := by
  simp only [Bool.and_eq_true, beq_iff_eq, Bool.not_eq_true', decide_eq_true_eq] at h5
  obtain ⟨⟨⟨⟨⟨g1, g2⟩, g3⟩, g4⟩, g5⟩, g6⟩ := h5
  simp [Cond.before, Cond.holds, Cond.value, h1, h2, h3, h4, g1, g2, g3, g4, g5, g6]
def isCode : Jvm.Cond → Bool
  | .code _ _ _ _ => true
  | _ => false
theorem all_split {L : List Jvm.Cond} {P : Jvm.Cond → Bool} (h1 : L.all (fun c => isCode c || P c) = true) (h2 : ∀ c ∈ L.filter isCode, P c = true) : L.all P = true := by
  refine List.all_eq_true.mpr fun c hc => ?_
  have h := List.all_eq_true.mp h1 c hc
  rcases Bool.eq_false_or_eq_true (isCode c) with hi | hi
  · exact h2 c (List.mem_filter.mpr ⟨hc, hi⟩)
  · simpa [hi] using h
set_option maxRecDepth 65536 in
theorem w_c0 : (Jvm.Cond.code x code maxLocals ret).before args0 about1 = true := code_word (m := ⟨1, 2⟩) (meth := k1m2) (c := k1c2) (by decide +kernel) rfl rfl rfl (by decide +kernel)
set_option maxRecDepth 65536 in
theorem w_c1 : (Jvm.Cond.code ({ cls := "com/example/grantfall/grantfall/model/RoleIncludesPinLaw", name := "pick", desc := "(I)Lcom/example/grantfall/grantfall/model/Role;" } : Jvm.MethodName) method_2_code (1 : Nat) (Option.some (Jvm.ClassFile.FieldType.object "com/example/grantfall/grantfall/model/Role"))).before args0 about1 = true := code_word (m := ⟨1, 1⟩) (meth := k1m1) (c := k1c1) (by decide +kernel) rfl rfl rfl (by decide +kernel)
set_option maxRecDepth 65536 in
theorem w_c2 : (Jvm.Cond.code ({ cls := "com/example/grantfall/grantfall/model/Role", name := "includes", desc := "(Lcom/example/grantfall/grantfall/model/Role;)Z" } : Jvm.MethodName) prog_19_method_5_code (2 : Nat) (Option.some Jvm.ClassFile.FieldType.boolean)).before args0 about1 = true := code_word (m := ⟨6, 0⟩) (meth := k6m0) (c := k6c0) (by decide +kernel) rfl rfl rfl (by decide +kernel)
def codes1 : List Jvm.Cond := [Jvm.Cond.code x code maxLocals ret, Jvm.Cond.code ({ cls := "com/example/grantfall/grantfall/model/RoleIncludesPinLaw", name := "pick", desc := "(I)Lcom/example/grantfall/grantfall/model/Role;" } : Jvm.MethodName) method_2_code (1 : Nat) (Option.some (Jvm.ClassFile.FieldType.object "com/example/grantfall/grantfall/model/Role")), Jvm.Cond.code ({ cls := "com/example/grantfall/grantfall/model/Role", name := "includes", desc := "(Lcom/example/grantfall/grantfall/model/Role;)Z" } : Jvm.MethodName) prog_19_method_5_code (2 : Nat) (Option.some Jvm.ClassFile.FieldType.boolean)]
set_option maxRecDepth 65536 in
theorem codes_eq : words1.filter isCode = codes1 := rfl
theorem w_codes : ∀ c ∈ words1.filter isCode, c.before args0 about1 = true := by
  rw [codes_eq]
  intro c hc
  simp only [codes1, List.mem_cons, List.not_mem_nil, or_false] at hc
  rcases hc with rfl | rfl | rfl
  · exact w_c0
  · exact w_c1
  · exact w_c2
set_option maxRecDepth 65536 in
theorem w_t1 : words1.all (fun c => isCode c || c.before args0 about1) = true := by decide +kernel
theorem w_tables : (allAtoms (Jvm.Cond.code x code maxLocals ret :: tables_1)).before args0 about1 = true := by
  rw [allAtoms_all]
  show words1.all (fun c => c.before args0 about1) = true
  refine all_split ?_ w_codes
  rw [w_t1]
set_option maxRecDepth 65536 in
theorem w_case : (Jvm.Cond.and given_1 narrow_1).before args0 about1 = true := by decide +kernel
theorem w_applies : (headSpec (Jvm.Cond.code x code maxLocals ret :: tables_1) room_1).applies x e0.platform about1 = true :=
  (Spec.applies_iff w_frames).mpr ⟨w_running, w_runnable, w_alone, w_named, w_hears, w_ripe, w_room, w_tables⟩
theorem atStart : AtStart classFile x code maxLocals ret World_1 tables_1 room_1 Calls_1 rest_1 Pre_1 launch0 p0 e0 about1 theMethod args0 below0 :=
  ⟨lists_1, trivial, launch0.admits_env _ _ _, launch0.least_env, fairChoices_fair.cas, fairChoices_fair.clock, w_frames, w_args, w_heap, w_applies, trivial, trivial, w_case⟩
end start1
theorem witness_1 : WitnessClaimed_1 := ⟨start1.p0, start1.e0, start1.about1, start1.theMethod, start1.args0, start1.below0, start1.atStart⟩
end Jvm.Pilot.@@N@@
