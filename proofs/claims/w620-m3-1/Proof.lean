import JvmDerived
import JvmDerived.Pilot.@@N@@Statement
import JvmDerived.Pilot.@@N@@Code
set_option linter.unusedVariables false
set_option linter.unusedSimpArgs false
namespace Jvm.Pilot.@@N@@
open Jvm Jvm.ClassFile Sem Op Lib Jvm.Free Jvm.Stand Jvm.LawKit Jvm.RoadKit Bundle Jvm.Pilot.@@N@@.Jvm.D
def own_Go (p : Program) (e : Env) (below : List Frame) (s : State) (Q : Option Value → Heap → List Loc → Prop) (kc ks : Nat) (A : State) : Prop :=
  ∃ s₂ o, Steps p.tables e below A s₂ ∧ s₂.status = .running ∧ Ended s₂ below o ∧ ∃ v L, o = .returned v ∧ Q v s₂.heap L ∧ FrameEnd s o s₂ L kc ks
section OwnLayer
variable {p : Program} {l : Launch} {e : Env} {R : Room} {s : State} {m : MethodId} {args : Array Value} {below : List Frame} {meth : Method} {c : Code} {T : State} {locs : List Loc} {cells slots : Nat}
variable {Q : Option Value → Heap → List Loc → Prop} {kc ks : Nat} {A B : State}
theorem own_via (h : ∀ t, Steps p.tables e below B t → Steps p.tables e below A t) (g : own_Go p e below s Q kc ks B) : own_Go p e below s Q kc ks A := by
  obtain ⟨t, o, h1, r⟩ := g
  exact ⟨t, o, h _ h1, r⟩
theorem own_tr (h : Steps p.tables e below A B) (g : own_Go p e below s Q kc ks B) : own_Go p e below s Q kc ks A := by
  obtain ⟨t, o, h1, r⟩ := g
  exact ⟨t, o, h.trans h1, r⟩
theorem own_end (X : Stand p l e R s m args below meth c T locs cells slots) (hlk : meth.locks = false) {v : Option Value} (hv : meth.sig.returnType = none → v = none) {A : State}
    (hstep : ∀ fs, (∀ (f : JFrame) (acts : List Action), f.method = m → f.locked = none → f.entered = [] → (doReturn e (T.setTop f) acts v).1 = T.setFrames fs) → Steps p.tables e below A (T.setFrames fs))
    (hQ : Q v T.heap locs) (hc : cells ≤ kc) (hs : slots ≤ ks) : own_Go p e below s Q kc ks A := by
  obtain ⟨fs, hr, hrun, hended, hW, hsame⟩ := X.leave (v := v) hv hlk
  exact ⟨_, _, hstep fs hr, hrun, hended, _, _, rfl, hQ, ⟨_, rfl⟩, hW, hsame.mono hc hs⟩
theorem own_retZ (X : Stand p l e R s m args below meth c T locs cells slots) (hx : p.tables.exec = Jvm.exec) (hlk : meth.locks = false) {pc : Nat} {Ls : Array Slot} {z z' : Int32} {t : FieldType} {rest : List Value} (hret : meth.sig.returnType = some t) (ht : t = .boolean ∨ t = .byte ∨ t = .char ∨ t = .short)
    (hd : decode c.code pc = .ok (.ireturn, 1)) (hz : nar t z = z') (hQ : Q (some (.int z')) T.heap locs) (hc : cells ≤ kc) (hs : slots ≤ ks) : own_Go p e below s Q kc ks (T.setTop (mkF m pc Ls (.int z :: rest))) := by
  subst hz
  exact own_end X hlk (fun h => by rw [hret] at h; cases h) (fun fs hr => retN X hx hret ht hd hr) hQ hc hs
theorem own_retO (X : Stand p l e R s m args below meth c T locs cells slots) (hx : p.tables.exec = Jvm.exec) (hlk : meth.locks = false) {pc : Nat} {Ls : Array Slot} {w : Value} {t : FieldType} {i : Instr} {rest : List Value} (hret : meth.sig.returnType = some t) (hn : narrow t w = w)
    (hi : (i = .ireturn ∧ (t = .int ∨ t = .boolean ∨ t = .byte ∨ t = .char ∨ t = .short) ∧ ∃ z, w = .int z) ∨ (i = .lreturn ∧ t = .long ∧ ∃ z, w = .long z) ∨ (i = .dreturn ∧ t = .double ∧ ∃ z, w = .double z) ∨ (i = .freturn ∧ t = .float ∧ ∃ z, w = .float z) ∨ (i = .areturn ∧ t.isReference = true ∧ w.isRef = true))
    (hd : decode c.code pc = .ok (i, 1)) (hQ : Q (some w) T.heap locs) (hc : cells ≤ kc) (hs : slots ≤ ks) : own_Go p e below s Q kc ks (T.setTop (mkF m pc Ls (w :: rest))) :=
  own_end X hlk (fun h => by rw [hret] at h; cases h) (fun fs hr => retOut X hx hret hn hi hd hr) hQ hc hs
theorem own_retI (X : Stand p l e R s m args below meth c T locs cells slots) (hx : p.tables.exec = Jvm.exec) (hlk : meth.locks = false) {pc : Nat} {Ls : Array Slot} {z : Int32} {rest : List Value} (hret : meth.sig.returnType = some .int)
    (hd : decode c.code pc = .ok (.ireturn, 1)) (hQ : Q (some (.int z)) T.heap locs) (hc : cells ≤ kc) (hs : slots ≤ ks) : own_Go p e below s Q kc ks (T.setTop (mkF m pc Ls (.int z :: rest))) :=
  own_retO X hx hlk hret rfl (Or.inl ⟨rfl, Or.inl rfl, _, rfl⟩) hd hQ hc hs
theorem own_retJ (X : Stand p l e R s m args below meth c T locs cells slots) (hx : p.tables.exec = Jvm.exec) (hlk : meth.locks = false) {pc : Nat} {Ls : Array Slot} {z : Int64} {rest : List Value} (hret : meth.sig.returnType = some .long)
    (hd : decode c.code pc = .ok (.lreturn, 1)) (hQ : Q (some (.long z)) T.heap locs) (hc : cells ≤ kc) (hs : slots ≤ ks) : own_Go p e below s Q kc ks (T.setTop (mkF m pc Ls (.long z :: rest))) :=
  own_retO X hx hlk hret rfl (Or.inr (Or.inl ⟨rfl, rfl, _, rfl⟩)) hd hQ hc hs
theorem own_retR (X : Stand p l e R s m args below meth c T locs cells slots) (hx : p.tables.exec = Jvm.exec) (hlk : meth.locks = false) {pc : Nat} {Ls : Array Slot} {w : Value} {t : FieldType} {rest : List Value} (hret : meth.sig.returnType = some t) (ht : t.isReference = true) (hw : w.isRef = true)
    (hd : decode c.code pc = .ok (.areturn, 1)) (hQ : Q (some w) T.heap locs) (hc : cells ≤ kc) (hs : slots ≤ ks) : own_Go p e below s Q kc ks (T.setTop (mkF m pc Ls (w :: rest))) :=
  own_retO X hx hlk hret (by cases t <;> first | (cases ht; done) | rfl) (Or.inr (Or.inr (Or.inr (Or.inr ⟨rfl, ht, hw⟩)))) hd hQ hc hs
theorem own_retV (X : Stand p l e R s m args below meth c T locs cells slots) (hx : p.tables.exec = Jvm.exec) (hlk : meth.locks = false) {pc : Nat} {Ls : Array Slot} (hret : meth.sig.returnType = none)
    (hd : decode c.code pc = .ok (.return_, 1)) (hQ : Q none T.heap locs) (hc : cells ≤ kc) (hs : slots ≤ ks) : own_Go p e below s Q kc ks (T.setTop (mkF m pc Ls [])) :=
  own_end X hlk (fun _ => rfl) (fun fs hr => X.returnOut hx hret hd hr) hQ hc hs
end OwnLayer
theorem own_eqv {args : Array Value} {Z : State} {t : Term} {k : Int32} (h : (Jvm.Cond.eq t (Term.int k)).value args Z none Z [] = some true) : t.eval args Z none [] Z = some (.int k) := by
  simp only [Jvm.Cond.value, Term.eval] at h
  cases ht : t.eval args Z none [] Z with
  | none => simp [ht] at h
  | some x => cases x <;> simp [ht] at h ⊢; exact h
theorem own_eqvL {args : Array Value} {Z : State} {t : Term} {k : Int64} (h : (Jvm.Cond.eq t (Term.long k)).value args Z none Z [] = some true) : t.eval args Z none [] Z = some (.long k) := by
  simp only [Jvm.Cond.value, Term.eval] at h
  cases ht : t.eval args Z none [] Z with
  | none => simp [ht] at h
  | some x => cases x <;> simp [ht] at h ⊢; exact h
theorem own_fld {args : Array Value} {Z : State} {t : Term} {C n d : String} {a : Addr} {k : Int32} (ev : t.eval args Z none [] Z = some (.ref a)) (h : (Jvm.Cond.eq (Term.field t C n d) (Term.int k)).value args Z none Z [] = some true) : Fld Z Z.heap a C n d (.int k) :=
  Fld.start ((fld_at ev).symm.trans (own_eqv h))
theorem own_fldL {args : Array Value} {Z : State} {t : Term} {C n d : String} {a : Addr} {k : Int64} (ev : t.eval args Z none [] Z = some (.ref a)) (h : (Jvm.Cond.eq (Term.field t C n d) (Term.long k)).value args Z none Z [] = some true) : Fld Z Z.heap a C n d (.long k) :=
  Fld.start ((fld_at ev).symm.trans (own_eqvL h))
theorem own_mod (x : Int32) (n : Int32) (k : Int) (hn : n.toInt = k) (hk : 0 < k) : 0 ≤ ((x &&& 2147483647) % n).toInt ∧ ((x &&& 2147483647) % n).toInt < k := by
  have h := (c_and x 2147483647 (by decide)).1
  rw [Int32.toInt_mod, hn, Int.tmod_eq_emod_of_nonneg h]
  exact ⟨Int.emod_nonneg _ (by omega), Int.emod_lt_of_pos _ hk⟩
theorem own_z {x y : Int32} (h : x.toInt = y.toInt) : x = y := Int32.toInt_inj.mp h
theorem own_mod3 (x : Int32) : (x &&& 2147483647) % 3 = 0 ∨ (x &&& 2147483647) % 3 = 1 ∨ (x &&& 2147483647) % 3 = 2 := by
  have h := own_mod x 3 3 rfl (by decide)
  simp only [← Int32.toInt_inj, show (0 : Int32).toInt = 0 from rfl, show (1 : Int32).toInt = 1 from rfl, show (2 : Int32).toInt = 2 from rfl]
  omega
theorem own_mod5 (x : Int32) : (x &&& 2147483647) % 5 = 0 ∨ (x &&& 2147483647) % 5 = 1 ∨ (x &&& 2147483647) % 5 = 2 ∨ (x &&& 2147483647) % 5 = 3 ∨ (x &&& 2147483647) % 5 = 4 := by
  have h := own_mod x 5 5 rfl (by decide)
  simp only [← Int32.toInt_inj, show (0 : Int32).toInt = 0 from rfl, show (1 : Int32).toInt = 1 from rfl, show (2 : Int32).toInt = 2 from rfl, show (3 : Int32).toInt = 3 from rfl, show (4 : Int32).toInt = 4 from rfl]
  omega
theorem own_mod6 (x : Int32) : (x &&& 2147483647) % 6 = 0 ∨ (x &&& 2147483647) % 6 = 1 ∨ (x &&& 2147483647) % 6 = 2 ∨ (x &&& 2147483647) % 6 = 3 ∨ (x &&& 2147483647) % 6 = 4 ∨ (x &&& 2147483647) % 6 = 5 := by
  have h := own_mod x 6 6 rfl (by decide)
  simp only [← Int32.toInt_inj, show (0 : Int32).toInt = 0 from rfl, show (1 : Int32).toInt = 1 from rfl, show (2 : Int32).toInt = 2 from rfl, show (3 : Int32).toInt = 3 from rfl, show (4 : Int32).toInt = 4 from rfl, show (5 : Int32).toInt = 5 from rfl]
  omega
theorem own_and1 (x : Int32) : x &&& 1 = 0 ∨ x &&& 1 = 1 := by
  have h := c_and x 1 (by decide)
  simp only [← Int32.toInt_inj, show (0 : Int32).toInt = 0 from rfl, show (1 : Int32).toInt = 1 from rfl] at *
  omega
theorem own_and3 (x : Int32) : x &&& 3 = 0 ∨ x &&& 3 = 1 ∨ x &&& 3 = 2 ∨ x &&& 3 = 3 := by
  have h := c_and x 3 (by decide)
  simp only [← Int32.toInt_inj, show (0 : Int32).toInt = 0 from rfl, show (1 : Int32).toInt = 1 from rfl, show (2 : Int32).toInt = 2 from rfl, show (3 : Int32).toInt = 3 from rfl] at *
  omega
theorem own_rem1 (x : Int64) : x - (x / 1) * 1 = 0 := by
  have h := c_lrem x 1 1 rfl
  rw [← Int64.toInt_inj]
  have e0 : (0 : Int64).toInt = 0 := rfl
  rw [e0]
  omega
theorem own_c79 (x : Int64) : 0 ≤ ((280 : Int64) + (x &&& (63 : Int64))).toInt ∧ ((280 : Int64) + (x &&& (63 : Int64))).toInt ≤ 4611686018427387903 := by
  have h1 := c_ladd 280 (x &&& 63)
  have h2 := c_maskL x 63 6 (by decide) (by decide)
  have h3 := rng64 ((280 : Int64) + (x &&& (63 : Int64)))
  have e0 : (280 : Int64).toInt = 280 := rfl
  omega
theorem own_c89 (x : Int64) : 0 ≤ (x &&& (4611686018427387903 : Int64)).toInt ∧ (x &&& (4611686018427387903 : Int64)).toInt ≤ 4611686018427387903 := by
  have h2 := c_maskL x 4611686018427387903 62 (by decide) (by decide)
  omega
theorem own_above1 (c : Int64) (h : 0 ≤ c.toInt ∧ c.toInt ≤ 4611686018427387903) : ((c / 1 + 1) * 1).toInt = (c.toInt / 1 + 1) * 1 := by
  have h1 := c_ldiv c 1 1 rfl (by decide)
  have h2 := c_ladd (c / 1) 1
  have h3 := c_lmul (c / 1 + 1) 1
  have h4 := rng64 (c / 1 + 1)
  have h5 := rng64 ((c / 1 + 1) * 1)
  have e0 : (1 : Int64).toInt = 1 := rfl
  rw [e0] at h2 h3
  omega
theorem own_above5 (c : Int64) (h : 0 ≤ c.toInt ∧ c.toInt ≤ 4611686018427387903) : ((c / 5 + 1) * 5).toInt = (c.toInt / 5 + 1) * 5 := by
  have h1 := c_ldiv c 5 5 rfl (by decide)
  have h2 := c_ladd (c / 5) 1
  have h3 := c_lmul (c / 5 + 1) 5
  have h4 := rng64 (c / 5 + 1)
  have h5 := rng64 ((c / 5 + 1) * 5)
  have e0 : (1 : Int64).toInt = 1 := rfl
  have e1 : (5 : Int64).toInt = 5 := rfl
  rw [e0] at h2
  rw [e1] at h3
  omega
theorem own_above10 (c : Int64) (h : 0 ≤ c.toInt ∧ c.toInt ≤ 4611686018427387903) : ((c / 10 + 1) * 10).toInt = (c.toInt / 10 + 1) * 10 := by
  have h1 := c_ldiv c 10 10 rfl (by decide)
  have h2 := c_ladd (c / 10) 1
  have h3 := c_lmul (c / 10 + 1) 10
  have h4 := rng64 (c / 10 + 1)
  have h5 := rng64 ((c / 10 + 1) * 10)
  have e0 : (1 : Int64).toInt = 1 := rfl
  have e1 : (10 : Int64).toInt = 10 := rfl
  rw [e0] at h2
  rw [e1] at h3
  omega
theorem own_c86 (x : Int64) : 1 ≤ ((1 : Int64) + (x &&& (1023 : Int64))).toInt := by
  have h1 := c_ladd 1 (x &&& 1023)
  have h2 := c_maskL x 1023 10 (by decide) (by decide)
  have h3 := rng64 ((1 : Int64) + (x &&& (1023 : Int64)))
  have e0 : (1 : Int64).toInt = 1 := rfl
  omega
theorem own_lt1 {e : Int64} (h : (1 : Int64) < e) : 1 ≤ e.toInt := by
  rw [Int64.lt_iff_toInt_lt] at h
  have e0 : (1 : Int64).toInt = 1 := rfl
  omega
theorem own_below1 (c : Int64) (h : 1 ≤ c.toInt) : (((c - 1) / 1) * 1).toInt = ((c.toInt - 1) / 1) * 1 := by
  have h0 := c_lsub c 1
  have h1 := c_ldiv (c - 1) 1 1 rfl (by decide)
  have h3 := c_lmul ((c - 1) / 1) 1
  have h4 := rng64 (c - 1)
  have h5 := rng64 (((c - 1) / 1) * 1)
  have h6 := rng64 c
  have e0 : (1 : Int64).toInt = 1 := rfl
  rw [e0] at h0 h3
  have h7 : (c - 1).toInt = c.toInt - 1 := by omega
  rw [h7] at h1 h4
  omega
theorem own_below5 (c : Int64) (h : 1 ≤ c.toInt) : (((c - 1) / 5) * 5).toInt = ((c.toInt - 1) / 5) * 5 := by
  have h0 := c_lsub c 1
  have h1 := c_ldiv (c - 1) 5 5 rfl (by decide)
  have h3 := c_lmul ((c - 1) / 5) 5
  have h4 := rng64 (c - 1)
  have h5 := rng64 (((c - 1) / 5) * 5)
  have h6 := rng64 c
  have e0 : (1 : Int64).toInt = 1 := rfl
  have e1 : (5 : Int64).toInt = 5 := rfl
  rw [e0] at h0
  rw [e1] at h3
  have h7 : (c - 1).toInt = c.toInt - 1 := by omega
  rw [h7] at h1 h4
  omega
theorem own_below10 (c : Int64) (h : 1 ≤ c.toInt) : (((c - 1) / 10) * 10).toInt = ((c.toInt - 1) / 10) * 10 := by
  have h0 := c_lsub c 1
  have h1 := c_ldiv (c - 1) 10 10 rfl (by decide)
  have h3 := c_lmul ((c - 1) / 10) 10
  have h4 := rng64 (c - 1)
  have h5 := rng64 (((c - 1) / 10) * 10)
  have h6 := rng64 c
  have e0 : (1 : Int64).toInt = 1 := rfl
  have e1 : (10 : Int64).toInt = 10 := rfl
  rw [e0] at h0
  rw [e1] at h3
  have h7 : (c - 1).toInt = c.toInt - 1 := by omega
  rw [h7] at h1 h4
  omega
theorem own_ltL {x y : Int64} (h : x < y) : x.toInt < y.toInt := Int64.lt_iff_toInt_lt.mp h
theorem own_geL {x y : Int64} (h : ¬ (x < y)) : y.toInt ≤ x.toInt := Int.not_lt.mp (mt Int64.lt_iff_toInt_lt.mpr h)
def own_K (Z : State) (h0 : Heap) (w0 : Addr) (w1 : Addr) (w2 : Addr) : Prop :=
  Sta Z h0 "com/example/strikeline/strikeline/PennyProgram" "ALL" "Lcom/example/strikeline/strikeline/PennyProgram;" (.ref w0) ∧
  Sta Z h0 "com/example/strikeline/strikeline/PennyProgram" "YES" "Lcom/example/strikeline/strikeline/PennyProgram;" (.ref w1) ∧
  Sta Z h0 "com/example/strikeline/strikeline/PennyProgram" "NO" "Lcom/example/strikeline/strikeline/PennyProgram;" (.ref w2) ∧
  Exa Z h0 w0 "com/example/strikeline/strikeline/PennyProgram" ∧
  Exa Z h0 w1 "com/example/strikeline/strikeline/PennyProgram" ∧
  Exa Z h0 w2 "com/example/strikeline/strikeline/PennyProgram" ∧
  Fld Z h0 w0 "com/example/strikeline/strikeline/PennyProgram" "below" "J" (.long (1 : Int64)) ∧
  Fld Z h0 w1 "com/example/strikeline/strikeline/PennyProgram" "below" "J" (.long (1 : Int64)) ∧
  Fld Z h0 w0 "com/example/strikeline/strikeline/PennyProgram" "from" "J" (.long (1 : Int64)) ∧
  Fld Z h0 w2 "com/example/strikeline/strikeline/PennyProgram" "below" "J" (.long (5 : Int64)) ∧
  Fld Z h0 w2 "com/example/strikeline/strikeline/PennyProgram" "from" "J" (.long (10 : Int64)) ∧
  Fld Z h0 w1 "com/example/strikeline/strikeline/PennyProgram" "from" "J" (.long (5 : Int64)) ∧
  ¬ (w0 = w1) ∧
  ¬ (w0 = w2) ∧
  ¬ (w1 = w2)
theorem pn0 : plainName "com/example/strikeline/strikeline/PennyProgram" = true := by first | (simp [plainName, overriddenIn]; done) | decide +kernel
theorem pn1 : plainFor (⟨"java/lang/Math", "max", "(JJ)J"⟩ : MethodName) = true := by decide +kernel
theorem pn2 : plainName "com/example/strikeline/strikeline/PennyProgramPriceBelowPinLaw" = true := by first | (simp [plainName, overriddenIn]; done) | decide +kernel
theorem pd0 : parseMethodDescriptor "(J)J" = some ⟨[.long], some .long⟩ := by decide +kernel
theorem pd1 : parseMethodDescriptor "(JJ)J" = some ⟨[.long, .long], some .long⟩ := by decide +kernel
theorem d1_0 : decode jdk_29_method_66_code 0 = .ok (.lload_n 0, 1) := by decide +kernel
theorem d1_1 : decode jdk_29_method_66_code 1 = .ok (.lload_n 2, 1) := by decide +kernel
theorem d1_2 : decode jdk_29_method_66_code 2 = .ok (.lcmp, 1) := by decide +kernel
theorem d1_3 : decode jdk_29_method_66_code 3 = .ok (.ifCond .lt 7, 3) := by decide +kernel
theorem d1_6 : decode jdk_29_method_66_code 6 = .ok (.lload_n 0, 1) := by decide +kernel
theorem d1_7 : decode jdk_29_method_66_code 7 = .ok (.goto 4, 3) := by decide +kernel
theorem d1_10 : decode jdk_29_method_66_code 10 = .ok (.lload_n 2, 1) := by decide +kernel
theorem d1_11 : decode jdk_29_method_66_code 11 = .ok (.lreturn, 1) := by decide +kernel
theorem d2_0 : decode prog_68_method_6_code 0 = .ok (.lload_n 1, 1) := by decide +kernel
theorem d2_1 : decode prog_68_method_6_code 1 = .ok (.ldc2_w 43, 3) := by decide +kernel
theorem d2_4 : decode prog_68_method_6_code 4 = .ok (.lcmp, 1) := by decide +kernel
theorem d2_5 : decode prog_68_method_6_code 5 = .ok (.ifCond .le 10, 3) := by decide +kernel
theorem d2_8 : decode prog_68_method_6_code 8 = .ok (.aload_n 0, 1) := by decide +kernel
theorem d2_9 : decode prog_68_method_6_code 9 = .ok (.getfield 40, 3) := by decide +kernel
theorem d2_12 : decode prog_68_method_6_code 12 = .ok (.goto 7, 3) := by decide +kernel
theorem d2_15 : decode prog_68_method_6_code 15 = .ok (.aload_n 0, 1) := by decide +kernel
theorem d2_16 : decode prog_68_method_6_code 16 = .ok (.getfield 36, 3) := by decide +kernel
theorem d2_19 : decode prog_68_method_6_code 19 = .ok (.lstore_n 3, 1) := by decide +kernel
theorem d2_20 : decode prog_68_method_6_code 20 = .ok (.lload_n 1, 1) := by decide +kernel
theorem d2_21 : decode prog_68_method_6_code 21 = .ok (.lconst 1, 1) := by decide +kernel
theorem d2_22 : decode prog_68_method_6_code 22 = .ok (.lsub, 1) := by decide +kernel
theorem d2_23 : decode prog_68_method_6_code 23 = .ok (.lload_n 3, 1) := by decide +kernel
theorem d2_24 : decode prog_68_method_6_code 24 = .ok (.ldiv, 1) := by decide +kernel
theorem d2_25 : decode prog_68_method_6_code 25 = .ok (.lload_n 3, 1) := by decide +kernel
theorem d2_26 : decode prog_68_method_6_code 26 = .ok (.lmul, 1) := by decide +kernel
theorem d2_27 : decode prog_68_method_6_code 27 = .ok (.lreturn, 1) := by decide +kernel
def Q2_0 (x1 : Int64) (w0 : Addr) (w1 : Addr) (w2 : Addr) (h0 : Heap) (v : Option Value) (h : Heap) (L : List Loc) : Prop := L = [] ∧ h = h0 ∧ (((300 : Int64) < x1 ∧ v = some (.long (((x1 - (1 : Int64)) / (10 : Int64)) * (10 : Int64)))) ∨ (¬ ((300 : Int64) < x1) ∧ v = some (.long (((x1 - (1 : Int64)) / (5 : Int64)) * (5 : Int64)))))
set_option maxRecDepth 65536 in
set_option maxHeartbeats 40000000 in
theorem rm2_0 (l : Launch) (Z : State) (a0 : Array Value) (hw : ∀ d ∈ tables_1, d.before a0 Z = true) (ws : List Jvm.Cond) (x1 : Int64) (w0 : Addr) (w1 : Addr) (w2 : Addr) (h0 : Heap) (n0 : Nat) (Z0 : n0 ≤ h0.size) (K : own_K Z h0 w0 w1 w2) :
    MetFree l (⟨"com/example/strikeline/strikeline/PennyProgram", "priceBelow", "(J)J"⟩ : MethodName) (head1 (Jvm.Cond.code (⟨"com/example/strikeline/strikeline/PennyProgram", "priceBelow", "(J)J"⟩ : MethodName) prog_68_method_6_code 5 (some .long) :: ws) ({ frames := 0, cells := 0, slots := 0, locals := 0 } : Room)) (fun a U => a = #[(.ref w2), (.long x1)] ∧ Z.Warmed39 U.vm ∧ U.heap = h0) (fun _ _ _ _ _ => True) (fun _ U o U' => ∃ v L, o = .returned v ∧ Q2_0 x1 w0 w1 w2 h0 v U'.heap L ∧ FrameEnd U o U' L ({ frames := 0, cells := 0, slots := 0, locals := 0 } : Room).cells ({ frames := 0, cells := 0, slots := 0, locals := 0 } : Room).slots) := by
  refine MetFree.of_bodySF (plainFor_of_name pn0) hisR ?_
  intro p e s m args below meth c s₁ Bd hml0 hP hK
  obtain ⟨rfl, hZ, hh⟩ := hP
  have hx := Bd.exec
  have hby := Bd.bytes
  have hml : c.maxLocals = 5 := hml0
  have hown : s.vm.findClass "com/example/strikeline/strikeline/PennyProgram" = some m.cls := findClass_of_methodNamed Bd.named
  have hnm := (name_of_methodNamed Bd.named Bd.method).1
  have hlk := Bd.notSynchronized
  have X0 : Stand p l e ({ frames := 0, cells := 0, slots := 0, locals := 0 } : Room) s m #[(.ref w2), (.long x1)] below meth c s₁ [] 0 0 := Stand.of_body Bd
  have e0 : s₁.heap = h0 := by rw [← hh, Bd.state]; rfl
  have K0 := K
  obtain ⟨S_w0, S_w1, S_w2, E_w0, E_w1, E_w2, F_w0_below, F_w1_below, F_w0_from, F_w2_below, F_w2_from, F_w1_from, n_w0_w1, n_w0_w2, n_w1_w2⟩ := K
  show own_Go p e below s (Q2_0 x1 w0 w1 w2 h0) 0 0 (s₁.setTop (entryFrame m #[(.ref w2), (.long x1)] 5))
  rw [show entryFrame m #[(.ref w2), (.long x1)] 5 = mkF m 0 #[.val (.ref w2), .val (.long x1), .second, .unset, .unset] [] from by first | (simp [entryFrame, mkF, argsToLocals, Value.category]; done) | rfl]
  show own_Go p e below s _ _ _ (s₁.setTop (mkF m 0 #[.val (.ref w2), .val (.long x1), .second, .unset, .unset] []))
  refine own_via (fun _ k => XS.lloadN X0.here hx rfl (hb hby d2_0) rfl k) ?_
  show own_Go p e below s _ _ _ (s₁.setTop (mkF m 1 #[.val (.ref w2), .val (.long x1), .second, .unset, .unset] [(.long x1)]))
  refine own_via (fun _ k => X0.ldc2Long hx hown (mvT hZ (hw _ (List.mem_of_getElem? (i := 14) rfl))) (g := (mkF m 1 #[.val (.ref w2), .val (.long x1), .second, .unset, .unset] [(.long x1)])) rfl (hb hby d2_1) _ k) ?_
  show own_Go p e below s _ _ _ (s₁.setTop (mkF m 4 #[.val (.ref w2), .val (.long x1), .second, .unset, .unset] [(.long (300 : Int64)), (.long x1)]))
  refine own_via (fun _ k => XS.lcmp X0.here hx rfl (hb hby d2_4) rfl k) ?_
  show own_Go p e below s _ _ _ (s₁.setTop (mkF m 5 #[.val (.ref w2), .val (.long x1), .second, .unset, .unset] [(.int (lcmpW x1 (300 : Int64)))]))
  by_cases hc1 : (300 : Int64) < x1
  · refine own_via (fun _ k => XS.ifNo X0.here hx rfl (hb hby d2_5) rfl ((if0 _ _).trans (tlt ((lw_gt x1 (300 : Int64)).mpr hc1)).2.2.2) k) ?_
    show own_Go p e below s _ _ _ (s₁.setTop (mkF m 8 #[.val (.ref w2), .val (.long x1), .second, .unset, .unset] []))
    refine own_via (fun _ k => XS.aloadN X0.here hx rfl (hb hby d2_8) rfl rfl k) ?_
    show own_Go p e below s _ _ _ (s₁.setTop (mkF m 9 #[.val (.ref w2), .val (.long x1), .second, .unset, .unset] [(.ref w2)]))
    obtain ⟨T2, X2, e2, st2⟩ := getF X0 hx hZ hown (host := "") (Or.inl (hw _ (List.mem_of_getElem? (i := 22) rfl))) Via.refl e0 F_w2_from (g := (mkF m 9 #[.val (.ref w2), .val (.long x1), .second, .unset, .unset] [(.ref w2)])) rfl rfl (hb hby d2_9)
    refine own_via st2 ?_
    show own_Go p e below s _ _ _ (T2.setTop (mkF m 12 #[.val (.ref w2), .val (.long x1), .second, .unset, .unset] [(.long (10 : Int64))]))
    refine own_via (fun _ k => XS.goto X2.here hx rfl (pc0 := 12) (pc' := 19) rfl (hb hby d2_12) (by decide) (by decide) k) ?_
    show own_Go p e below s _ _ _ (T2.setTop (mkF m 19 #[.val (.ref w2), .val (.long x1), .second, .unset, .unset] [(.long (10 : Int64))]))
    refine own_via (fun _ k => XS.lstoreN X2.here hx rfl (hb hby d2_19) rfl (l' := #[.val (.ref w2), .val (.long x1), .second, .val (.long (10 : Int64)), .second]) rfl k) ?_
    show own_Go p e below s _ _ _ (T2.setTop (mkF m 20 #[.val (.ref w2), .val (.long x1), .second, .val (.long (10 : Int64)), .second] []))
    refine own_via (fun _ k => XS.lloadN X2.here hx rfl (hb hby d2_20) rfl k) ?_
    show own_Go p e below s _ _ _ (T2.setTop (mkF m 21 #[.val (.ref w2), .val (.long x1), .second, .val (.long (10 : Int64)), .second] [(.long x1)]))
    refine own_via (fun _ k => XS.lconst X2.here hx rfl (hb hby d2_21) k) ?_
    show own_Go p e below s _ _ _ (T2.setTop (mkF m 22 #[.val (.ref w2), .val (.long x1), .second, .val (.long (10 : Int64)), .second] [(.long (1 : Int64)), (.long x1)]))
    refine own_via (fun _ k => XS.lsub X2.here hx rfl (hb hby d2_22) rfl k) ?_
    show own_Go p e below s _ _ _ (T2.setTop (mkF m 23 #[.val (.ref w2), .val (.long x1), .second, .val (.long (10 : Int64)), .second] [(.long (x1 - (1 : Int64)))]))
    refine own_via (fun _ k => XS.lloadN X2.here hx rfl (hb hby d2_23) rfl k) ?_
    show own_Go p e below s _ _ _ (T2.setTop (mkF m 24 #[.val (.ref w2), .val (.long x1), .second, .val (.long (10 : Int64)), .second] [(.long (10 : Int64)), (.long (x1 - (1 : Int64)))]))
    refine own_via (fun _ k => XS.ldiv X2.here hx rfl (hb hby d2_24) rfl (by decide : ¬ ((10 : Int64) = (0 : Int64))) k) ?_
    show own_Go p e below s _ _ _ (T2.setTop (mkF m 25 #[.val (.ref w2), .val (.long x1), .second, .val (.long (10 : Int64)), .second] [(.long ((x1 - (1 : Int64)) / (10 : Int64)))]))
    refine own_via (fun _ k => XS.lloadN X2.here hx rfl (hb hby d2_25) rfl k) ?_
    show own_Go p e below s _ _ _ (T2.setTop (mkF m 26 #[.val (.ref w2), .val (.long x1), .second, .val (.long (10 : Int64)), .second] [(.long (10 : Int64)), (.long ((x1 - (1 : Int64)) / (10 : Int64)))]))
    refine own_via (fun _ k => XS.lmul X2.here hx rfl (hb hby d2_26) rfl k) ?_
    show own_Go p e below s _ _ _ (T2.setTop (mkF m 27 #[.val (.ref w2), .val (.long x1), .second, .val (.long (10 : Int64)), .second] [(.long (((x1 - (1 : Int64)) / (10 : Int64)) * (10 : Int64)))]))
    exact own_retJ X2 hx hlk Bd.returns (hb hby d2_27) ⟨rfl, e2, Or.inl ⟨hc1, rfl⟩⟩ (by decide) (by decide)
  · refine own_via (fun _ k => XS.ifYes X0.here hx rfl (pc0 := 5) (pc' := 15) rfl (hb hby d2_5) rfl ((if0 _ _).trans (flt (mt (lw_gt x1 (300 : Int64)).mp hc1)).2.2.2) (by decide) (by decide) k) ?_
    show own_Go p e below s _ _ _ (s₁.setTop (mkF m 15 #[.val (.ref w2), .val (.long x1), .second, .unset, .unset] []))
    refine own_via (fun _ k => XS.aloadN X0.here hx rfl (hb hby d2_15) rfl rfl k) ?_
    show own_Go p e below s _ _ _ (s₁.setTop (mkF m 16 #[.val (.ref w2), .val (.long x1), .second, .unset, .unset] [(.ref w2)]))
    obtain ⟨T3, X3, e3, st3⟩ := getF X0 hx hZ hown (host := "") (Or.inl (hw _ (List.mem_of_getElem? (i := 15) rfl))) Via.refl e0 F_w2_below (g := (mkF m 16 #[.val (.ref w2), .val (.long x1), .second, .unset, .unset] [(.ref w2)])) rfl rfl (hb hby d2_16)
    refine own_via st3 ?_
    show own_Go p e below s _ _ _ (T3.setTop (mkF m 19 #[.val (.ref w2), .val (.long x1), .second, .unset, .unset] [(.long (5 : Int64))]))
    refine own_via (fun _ k => XS.lstoreN X3.here hx rfl (hb hby d2_19) rfl (l' := #[.val (.ref w2), .val (.long x1), .second, .val (.long (5 : Int64)), .second]) rfl k) ?_
    show own_Go p e below s _ _ _ (T3.setTop (mkF m 20 #[.val (.ref w2), .val (.long x1), .second, .val (.long (5 : Int64)), .second] []))
    refine own_via (fun _ k => XS.lloadN X3.here hx rfl (hb hby d2_20) rfl k) ?_
    show own_Go p e below s _ _ _ (T3.setTop (mkF m 21 #[.val (.ref w2), .val (.long x1), .second, .val (.long (5 : Int64)), .second] [(.long x1)]))
    refine own_via (fun _ k => XS.lconst X3.here hx rfl (hb hby d2_21) k) ?_
    show own_Go p e below s _ _ _ (T3.setTop (mkF m 22 #[.val (.ref w2), .val (.long x1), .second, .val (.long (5 : Int64)), .second] [(.long (1 : Int64)), (.long x1)]))
    refine own_via (fun _ k => XS.lsub X3.here hx rfl (hb hby d2_22) rfl k) ?_
    show own_Go p e below s _ _ _ (T3.setTop (mkF m 23 #[.val (.ref w2), .val (.long x1), .second, .val (.long (5 : Int64)), .second] [(.long (x1 - (1 : Int64)))]))
    refine own_via (fun _ k => XS.lloadN X3.here hx rfl (hb hby d2_23) rfl k) ?_
    show own_Go p e below s _ _ _ (T3.setTop (mkF m 24 #[.val (.ref w2), .val (.long x1), .second, .val (.long (5 : Int64)), .second] [(.long (5 : Int64)), (.long (x1 - (1 : Int64)))]))
    refine own_via (fun _ k => XS.ldiv X3.here hx rfl (hb hby d2_24) rfl (by decide : ¬ ((5 : Int64) = (0 : Int64))) k) ?_
    show own_Go p e below s _ _ _ (T3.setTop (mkF m 25 #[.val (.ref w2), .val (.long x1), .second, .val (.long (5 : Int64)), .second] [(.long ((x1 - (1 : Int64)) / (5 : Int64)))]))
    refine own_via (fun _ k => XS.lloadN X3.here hx rfl (hb hby d2_25) rfl k) ?_
    show own_Go p e below s _ _ _ (T3.setTop (mkF m 26 #[.val (.ref w2), .val (.long x1), .second, .val (.long (5 : Int64)), .second] [(.long (5 : Int64)), (.long ((x1 - (1 : Int64)) / (5 : Int64)))]))
    refine own_via (fun _ k => XS.lmul X3.here hx rfl (hb hby d2_26) rfl k) ?_
    show own_Go p e below s _ _ _ (T3.setTop (mkF m 27 #[.val (.ref w2), .val (.long x1), .second, .val (.long (5 : Int64)), .second] [(.long (((x1 - (1 : Int64)) / (5 : Int64)) * (5 : Int64)))]))
    exact own_retJ X3 hx hlk Bd.returns (hb hby d2_27) ⟨rfl, e3, Or.inr (⟨hc1, rfl⟩)⟩ (by decide) (by decide)
def Q1_0 (x1 : Int64) (w0 : Addr) (w1 : Addr) (w2 : Addr) (h0 : Heap) (v : Option Value) (h : Heap) (L : List Loc) : Prop := L = [] ∧ h = h0 ∧ (((1 : Int64) < x1 ∧ v = some (.long x1)) ∨ (¬ ((1 : Int64) < x1) ∧ v = some (.long (1 : Int64))))
set_option maxRecDepth 65536 in
set_option maxHeartbeats 40000000 in
theorem rm1_0 (l : Launch) (Z : State) (a0 : Array Value) (hw : ∀ d ∈ tables_1, d.before a0 Z = true) (ws : List Jvm.Cond) (x1 : Int64) (w0 : Addr) (w1 : Addr) (w2 : Addr) (h0 : Heap) (n0 : Nat) (Z0 : n0 ≤ h0.size) (K : own_K Z h0 w0 w1 w2) :
    MetFree l (⟨"java/lang/Math", "max", "(JJ)J"⟩ : MethodName) (head1 (Jvm.Cond.code (⟨"java/lang/Math", "max", "(JJ)J"⟩ : MethodName) jdk_29_method_66_code 4 (some .long) :: ws) ({ frames := 0, cells := 0, slots := 0, locals := 0 } : Room)) (fun a U => a = #[(.long (1 : Int64)), (.long x1)] ∧ Z.Warmed39 U.vm ∧ U.heap = h0) (fun _ _ _ _ _ => True) (fun _ U o U' => ∃ v L, o = .returned v ∧ Q1_0 x1 w0 w1 w2 h0 v U'.heap L ∧ FrameEnd U o U' L ({ frames := 0, cells := 0, slots := 0, locals := 0 } : Room).cells ({ frames := 0, cells := 0, slots := 0, locals := 0 } : Room).slots) := by
  refine MetFree.of_bodySF pn1 hisR ?_
  intro p e s m args below meth c s₁ Bd hml0 hP hK
  obtain ⟨rfl, hZ, hh⟩ := hP
  have hx := Bd.exec
  have hby := Bd.bytes
  have hml : c.maxLocals = 4 := hml0
  have hown : s.vm.findClass "java/lang/Math" = some m.cls := findClass_of_methodNamed Bd.named
  have hnm := (name_of_methodNamed Bd.named Bd.method).1
  have hlk := Bd.notSynchronized
  have X0 : Stand p l e ({ frames := 0, cells := 0, slots := 0, locals := 0 } : Room) s m #[(.long (1 : Int64)), (.long x1)] below meth c s₁ [] 0 0 := Stand.of_body Bd
  have e0 : s₁.heap = h0 := by rw [← hh, Bd.state]; rfl
  have K0 := K
  obtain ⟨S_w0, S_w1, S_w2, E_w0, E_w1, E_w2, F_w0_below, F_w1_below, F_w0_from, F_w2_below, F_w2_from, F_w1_from, n_w0_w1, n_w0_w2, n_w1_w2⟩ := K
  show own_Go p e below s (Q1_0 x1 w0 w1 w2 h0) 0 0 (s₁.setTop (entryFrame m #[(.long (1 : Int64)), (.long x1)] 4))
  rw [show entryFrame m #[(.long (1 : Int64)), (.long x1)] 4 = mkF m 0 #[.val (.long (1 : Int64)), .second, .val (.long x1), .second] [] from by first | (simp [entryFrame, mkF, argsToLocals, Value.category]; done) | rfl]
  show own_Go p e below s _ _ _ (s₁.setTop (mkF m 0 #[.val (.long (1 : Int64)), .second, .val (.long x1), .second] []))
  refine own_via (fun _ k => XS.lloadN X0.here hx rfl (hb hby d1_0) rfl k) ?_
  show own_Go p e below s _ _ _ (s₁.setTop (mkF m 1 #[.val (.long (1 : Int64)), .second, .val (.long x1), .second] [(.long (1 : Int64))]))
  refine own_via (fun _ k => XS.lloadN X0.here hx rfl (hb hby d1_1) rfl k) ?_
  show own_Go p e below s _ _ _ (s₁.setTop (mkF m 2 #[.val (.long (1 : Int64)), .second, .val (.long x1), .second] [(.long x1), (.long (1 : Int64))]))
  refine own_via (fun _ k => XS.lcmp X0.here hx rfl (hb hby d1_2) rfl k) ?_
  show own_Go p e below s _ _ _ (s₁.setTop (mkF m 3 #[.val (.long (1 : Int64)), .second, .val (.long x1), .second] [(.int (lcmpW (1 : Int64) x1))]))
  by_cases hc1 : (1 : Int64) < x1
  · refine own_via (fun _ k => XS.ifYes X0.here hx rfl (pc0 := 3) (pc' := 10) rfl (hb hby d1_3) rfl ((if0 _ _).trans (tlt ((lw_lt (1 : Int64) x1).mpr hc1)).1) (by decide) (by decide) k) ?_
    show own_Go p e below s _ _ _ (s₁.setTop (mkF m 10 #[.val (.long (1 : Int64)), .second, .val (.long x1), .second] []))
    refine own_via (fun _ k => XS.lloadN X0.here hx rfl (hb hby d1_10) rfl k) ?_
    show own_Go p e below s _ _ _ (s₁.setTop (mkF m 11 #[.val (.long (1 : Int64)), .second, .val (.long x1), .second] [(.long x1)]))
    exact own_retJ X0 hx hlk Bd.returns (hb hby d1_11) ⟨rfl, e0, Or.inl ⟨hc1, rfl⟩⟩ (by decide) (by decide)
  · refine own_via (fun _ k => XS.ifNo X0.here hx rfl (hb hby d1_3) rfl ((if0 _ _).trans (flt (mt (lw_lt (1 : Int64) x1).mp hc1)).1) k) ?_
    show own_Go p e below s _ _ _ (s₁.setTop (mkF m 6 #[.val (.long (1 : Int64)), .second, .val (.long x1), .second] []))
    refine own_via (fun _ k => XS.lloadN X0.here hx rfl (hb hby d1_6) rfl k) ?_
    show own_Go p e below s _ _ _ (s₁.setTop (mkF m 7 #[.val (.long (1 : Int64)), .second, .val (.long x1), .second] [(.long (1 : Int64))]))
    refine own_via (fun _ k => XS.goto X0.here hx rfl (pc0 := 7) (pc' := 11) rfl (hb hby d1_7) (by decide) (by decide) k) ?_
    show own_Go p e below s _ _ _ (s₁.setTop (mkF m 11 #[.val (.long (1 : Int64)), .second, .val (.long x1), .second] [(.long (1 : Int64))]))
    exact own_retJ X0 hx hlk Bd.returns (hb hby d1_11) ⟨rfl, e0, Or.inr (⟨hc1, rfl⟩)⟩ (by decide) (by decide)
def Q2_1 (x1 : Int64) (w0 : Addr) (w1 : Addr) (w2 : Addr) (h0 : Heap) (v : Option Value) (h : Heap) (L : List Loc) : Prop := L = [] ∧ h = h0 ∧ (((300 : Int64) < x1 ∧ v = some (.long (((x1 - (1 : Int64)) / (5 : Int64)) * (5 : Int64)))) ∨ (¬ ((300 : Int64) < x1) ∧ v = some (.long (((x1 - (1 : Int64)) / (1 : Int64)) * (1 : Int64)))))
set_option maxRecDepth 65536 in
set_option maxHeartbeats 40000000 in
theorem rm2_1 (l : Launch) (Z : State) (a0 : Array Value) (hw : ∀ d ∈ tables_1, d.before a0 Z = true) (ws : List Jvm.Cond) (x1 : Int64) (w0 : Addr) (w1 : Addr) (w2 : Addr) (h0 : Heap) (n0 : Nat) (Z0 : n0 ≤ h0.size) (K : own_K Z h0 w0 w1 w2) :
    MetFree l (⟨"com/example/strikeline/strikeline/PennyProgram", "priceBelow", "(J)J"⟩ : MethodName) (head1 (Jvm.Cond.code (⟨"com/example/strikeline/strikeline/PennyProgram", "priceBelow", "(J)J"⟩ : MethodName) prog_68_method_6_code 5 (some .long) :: ws) ({ frames := 0, cells := 0, slots := 0, locals := 0 } : Room)) (fun a U => a = #[(.ref w1), (.long x1)] ∧ Z.Warmed39 U.vm ∧ U.heap = h0) (fun _ _ _ _ _ => True) (fun _ U o U' => ∃ v L, o = .returned v ∧ Q2_1 x1 w0 w1 w2 h0 v U'.heap L ∧ FrameEnd U o U' L ({ frames := 0, cells := 0, slots := 0, locals := 0 } : Room).cells ({ frames := 0, cells := 0, slots := 0, locals := 0 } : Room).slots) := by
  refine MetFree.of_bodySF (plainFor_of_name pn0) hisR ?_
  intro p e s m args below meth c s₁ Bd hml0 hP hK
  obtain ⟨rfl, hZ, hh⟩ := hP
  have hx := Bd.exec
  have hby := Bd.bytes
  have hml : c.maxLocals = 5 := hml0
  have hown : s.vm.findClass "com/example/strikeline/strikeline/PennyProgram" = some m.cls := findClass_of_methodNamed Bd.named
  have hnm := (name_of_methodNamed Bd.named Bd.method).1
  have hlk := Bd.notSynchronized
  have X0 : Stand p l e ({ frames := 0, cells := 0, slots := 0, locals := 0 } : Room) s m #[(.ref w1), (.long x1)] below meth c s₁ [] 0 0 := Stand.of_body Bd
  have e0 : s₁.heap = h0 := by rw [← hh, Bd.state]; rfl
  have K0 := K
  obtain ⟨S_w0, S_w1, S_w2, E_w0, E_w1, E_w2, F_w0_below, F_w1_below, F_w0_from, F_w2_below, F_w2_from, F_w1_from, n_w0_w1, n_w0_w2, n_w1_w2⟩ := K
  show own_Go p e below s (Q2_1 x1 w0 w1 w2 h0) 0 0 (s₁.setTop (entryFrame m #[(.ref w1), (.long x1)] 5))
  rw [show entryFrame m #[(.ref w1), (.long x1)] 5 = mkF m 0 #[.val (.ref w1), .val (.long x1), .second, .unset, .unset] [] from by first | (simp [entryFrame, mkF, argsToLocals, Value.category]; done) | rfl]
  show own_Go p e below s _ _ _ (s₁.setTop (mkF m 0 #[.val (.ref w1), .val (.long x1), .second, .unset, .unset] []))
  refine own_via (fun _ k => XS.lloadN X0.here hx rfl (hb hby d2_0) rfl k) ?_
  show own_Go p e below s _ _ _ (s₁.setTop (mkF m 1 #[.val (.ref w1), .val (.long x1), .second, .unset, .unset] [(.long x1)]))
  refine own_via (fun _ k => X0.ldc2Long hx hown (mvT hZ (hw _ (List.mem_of_getElem? (i := 14) rfl))) (g := (mkF m 1 #[.val (.ref w1), .val (.long x1), .second, .unset, .unset] [(.long x1)])) rfl (hb hby d2_1) _ k) ?_
  show own_Go p e below s _ _ _ (s₁.setTop (mkF m 4 #[.val (.ref w1), .val (.long x1), .second, .unset, .unset] [(.long (300 : Int64)), (.long x1)]))
  refine own_via (fun _ k => XS.lcmp X0.here hx rfl (hb hby d2_4) rfl k) ?_
  show own_Go p e below s _ _ _ (s₁.setTop (mkF m 5 #[.val (.ref w1), .val (.long x1), .second, .unset, .unset] [(.int (lcmpW x1 (300 : Int64)))]))
  by_cases hc1 : (300 : Int64) < x1
  · refine own_via (fun _ k => XS.ifNo X0.here hx rfl (hb hby d2_5) rfl ((if0 _ _).trans (tlt ((lw_gt x1 (300 : Int64)).mpr hc1)).2.2.2) k) ?_
    show own_Go p e below s _ _ _ (s₁.setTop (mkF m 8 #[.val (.ref w1), .val (.long x1), .second, .unset, .unset] []))
    refine own_via (fun _ k => XS.aloadN X0.here hx rfl (hb hby d2_8) rfl rfl k) ?_
    show own_Go p e below s _ _ _ (s₁.setTop (mkF m 9 #[.val (.ref w1), .val (.long x1), .second, .unset, .unset] [(.ref w1)]))
    obtain ⟨T2, X2, e2, st2⟩ := getF X0 hx hZ hown (host := "") (Or.inl (hw _ (List.mem_of_getElem? (i := 22) rfl))) Via.refl e0 F_w1_from (g := (mkF m 9 #[.val (.ref w1), .val (.long x1), .second, .unset, .unset] [(.ref w1)])) rfl rfl (hb hby d2_9)
    refine own_via st2 ?_
    show own_Go p e below s _ _ _ (T2.setTop (mkF m 12 #[.val (.ref w1), .val (.long x1), .second, .unset, .unset] [(.long (5 : Int64))]))
    refine own_via (fun _ k => XS.goto X2.here hx rfl (pc0 := 12) (pc' := 19) rfl (hb hby d2_12) (by decide) (by decide) k) ?_
    show own_Go p e below s _ _ _ (T2.setTop (mkF m 19 #[.val (.ref w1), .val (.long x1), .second, .unset, .unset] [(.long (5 : Int64))]))
    refine own_via (fun _ k => XS.lstoreN X2.here hx rfl (hb hby d2_19) rfl (l' := #[.val (.ref w1), .val (.long x1), .second, .val (.long (5 : Int64)), .second]) rfl k) ?_
    show own_Go p e below s _ _ _ (T2.setTop (mkF m 20 #[.val (.ref w1), .val (.long x1), .second, .val (.long (5 : Int64)), .second] []))
    refine own_via (fun _ k => XS.lloadN X2.here hx rfl (hb hby d2_20) rfl k) ?_
    show own_Go p e below s _ _ _ (T2.setTop (mkF m 21 #[.val (.ref w1), .val (.long x1), .second, .val (.long (5 : Int64)), .second] [(.long x1)]))
    refine own_via (fun _ k => XS.lconst X2.here hx rfl (hb hby d2_21) k) ?_
    show own_Go p e below s _ _ _ (T2.setTop (mkF m 22 #[.val (.ref w1), .val (.long x1), .second, .val (.long (5 : Int64)), .second] [(.long (1 : Int64)), (.long x1)]))
    refine own_via (fun _ k => XS.lsub X2.here hx rfl (hb hby d2_22) rfl k) ?_
    show own_Go p e below s _ _ _ (T2.setTop (mkF m 23 #[.val (.ref w1), .val (.long x1), .second, .val (.long (5 : Int64)), .second] [(.long (x1 - (1 : Int64)))]))
    refine own_via (fun _ k => XS.lloadN X2.here hx rfl (hb hby d2_23) rfl k) ?_
    show own_Go p e below s _ _ _ (T2.setTop (mkF m 24 #[.val (.ref w1), .val (.long x1), .second, .val (.long (5 : Int64)), .second] [(.long (5 : Int64)), (.long (x1 - (1 : Int64)))]))
    refine own_via (fun _ k => XS.ldiv X2.here hx rfl (hb hby d2_24) rfl (by decide : ¬ ((5 : Int64) = (0 : Int64))) k) ?_
    show own_Go p e below s _ _ _ (T2.setTop (mkF m 25 #[.val (.ref w1), .val (.long x1), .second, .val (.long (5 : Int64)), .second] [(.long ((x1 - (1 : Int64)) / (5 : Int64)))]))
    refine own_via (fun _ k => XS.lloadN X2.here hx rfl (hb hby d2_25) rfl k) ?_
    show own_Go p e below s _ _ _ (T2.setTop (mkF m 26 #[.val (.ref w1), .val (.long x1), .second, .val (.long (5 : Int64)), .second] [(.long (5 : Int64)), (.long ((x1 - (1 : Int64)) / (5 : Int64)))]))
    refine own_via (fun _ k => XS.lmul X2.here hx rfl (hb hby d2_26) rfl k) ?_
    show own_Go p e below s _ _ _ (T2.setTop (mkF m 27 #[.val (.ref w1), .val (.long x1), .second, .val (.long (5 : Int64)), .second] [(.long (((x1 - (1 : Int64)) / (5 : Int64)) * (5 : Int64)))]))
    exact own_retJ X2 hx hlk Bd.returns (hb hby d2_27) ⟨rfl, e2, Or.inl ⟨hc1, rfl⟩⟩ (by decide) (by decide)
  · refine own_via (fun _ k => XS.ifYes X0.here hx rfl (pc0 := 5) (pc' := 15) rfl (hb hby d2_5) rfl ((if0 _ _).trans (flt (mt (lw_gt x1 (300 : Int64)).mp hc1)).2.2.2) (by decide) (by decide) k) ?_
    show own_Go p e below s _ _ _ (s₁.setTop (mkF m 15 #[.val (.ref w1), .val (.long x1), .second, .unset, .unset] []))
    refine own_via (fun _ k => XS.aloadN X0.here hx rfl (hb hby d2_15) rfl rfl k) ?_
    show own_Go p e below s _ _ _ (s₁.setTop (mkF m 16 #[.val (.ref w1), .val (.long x1), .second, .unset, .unset] [(.ref w1)]))
    obtain ⟨T3, X3, e3, st3⟩ := getF X0 hx hZ hown (host := "") (Or.inl (hw _ (List.mem_of_getElem? (i := 15) rfl))) Via.refl e0 F_w1_below (g := (mkF m 16 #[.val (.ref w1), .val (.long x1), .second, .unset, .unset] [(.ref w1)])) rfl rfl (hb hby d2_16)
    refine own_via st3 ?_
    show own_Go p e below s _ _ _ (T3.setTop (mkF m 19 #[.val (.ref w1), .val (.long x1), .second, .unset, .unset] [(.long (1 : Int64))]))
    refine own_via (fun _ k => XS.lstoreN X3.here hx rfl (hb hby d2_19) rfl (l' := #[.val (.ref w1), .val (.long x1), .second, .val (.long (1 : Int64)), .second]) rfl k) ?_
    show own_Go p e below s _ _ _ (T3.setTop (mkF m 20 #[.val (.ref w1), .val (.long x1), .second, .val (.long (1 : Int64)), .second] []))
    refine own_via (fun _ k => XS.lloadN X3.here hx rfl (hb hby d2_20) rfl k) ?_
    show own_Go p e below s _ _ _ (T3.setTop (mkF m 21 #[.val (.ref w1), .val (.long x1), .second, .val (.long (1 : Int64)), .second] [(.long x1)]))
    refine own_via (fun _ k => XS.lconst X3.here hx rfl (hb hby d2_21) k) ?_
    show own_Go p e below s _ _ _ (T3.setTop (mkF m 22 #[.val (.ref w1), .val (.long x1), .second, .val (.long (1 : Int64)), .second] [(.long (1 : Int64)), (.long x1)]))
    refine own_via (fun _ k => XS.lsub X3.here hx rfl (hb hby d2_22) rfl k) ?_
    show own_Go p e below s _ _ _ (T3.setTop (mkF m 23 #[.val (.ref w1), .val (.long x1), .second, .val (.long (1 : Int64)), .second] [(.long (x1 - (1 : Int64)))]))
    refine own_via (fun _ k => XS.lloadN X3.here hx rfl (hb hby d2_23) rfl k) ?_
    show own_Go p e below s _ _ _ (T3.setTop (mkF m 24 #[.val (.ref w1), .val (.long x1), .second, .val (.long (1 : Int64)), .second] [(.long (1 : Int64)), (.long (x1 - (1 : Int64)))]))
    refine own_via (fun _ k => XS.ldiv X3.here hx rfl (hb hby d2_24) rfl (by decide : ¬ ((1 : Int64) = (0 : Int64))) k) ?_
    show own_Go p e below s _ _ _ (T3.setTop (mkF m 25 #[.val (.ref w1), .val (.long x1), .second, .val (.long (1 : Int64)), .second] [(.long ((x1 - (1 : Int64)) / (1 : Int64)))]))
    refine own_via (fun _ k => XS.lloadN X3.here hx rfl (hb hby d2_25) rfl k) ?_
    show own_Go p e below s _ _ _ (T3.setTop (mkF m 26 #[.val (.ref w1), .val (.long x1), .second, .val (.long (1 : Int64)), .second] [(.long (1 : Int64)), (.long ((x1 - (1 : Int64)) / (1 : Int64)))]))
    refine own_via (fun _ k => XS.lmul X3.here hx rfl (hb hby d2_26) rfl k) ?_
    show own_Go p e below s _ _ _ (T3.setTop (mkF m 27 #[.val (.ref w1), .val (.long x1), .second, .val (.long (1 : Int64)), .second] [(.long (((x1 - (1 : Int64)) / (1 : Int64)) * (1 : Int64)))]))
    exact own_retJ X3 hx hlk Bd.returns (hb hby d2_27) ⟨rfl, e3, Or.inr (⟨hc1, rfl⟩)⟩ (by decide) (by decide)
def Q2_2 (x1 : Int64) (w0 : Addr) (w1 : Addr) (w2 : Addr) (h0 : Heap) (v : Option Value) (h : Heap) (L : List Loc) : Prop := L = [] ∧ h = h0 ∧ (((300 : Int64) < x1 ∧ v = some (.long (((x1 - (1 : Int64)) / (1 : Int64)) * (1 : Int64)))) ∨ (¬ ((300 : Int64) < x1) ∧ v = some (.long (((x1 - (1 : Int64)) / (1 : Int64)) * (1 : Int64)))))
set_option maxRecDepth 65536 in
set_option maxHeartbeats 40000000 in
theorem rm2_2 (l : Launch) (Z : State) (a0 : Array Value) (hw : ∀ d ∈ tables_1, d.before a0 Z = true) (ws : List Jvm.Cond) (x1 : Int64) (w0 : Addr) (w1 : Addr) (w2 : Addr) (h0 : Heap) (n0 : Nat) (Z0 : n0 ≤ h0.size) (K : own_K Z h0 w0 w1 w2) :
    MetFree l (⟨"com/example/strikeline/strikeline/PennyProgram", "priceBelow", "(J)J"⟩ : MethodName) (head1 (Jvm.Cond.code (⟨"com/example/strikeline/strikeline/PennyProgram", "priceBelow", "(J)J"⟩ : MethodName) prog_68_method_6_code 5 (some .long) :: ws) ({ frames := 0, cells := 0, slots := 0, locals := 0 } : Room)) (fun a U => a = #[(.ref w0), (.long x1)] ∧ Z.Warmed39 U.vm ∧ U.heap = h0) (fun _ _ _ _ _ => True) (fun _ U o U' => ∃ v L, o = .returned v ∧ Q2_2 x1 w0 w1 w2 h0 v U'.heap L ∧ FrameEnd U o U' L ({ frames := 0, cells := 0, slots := 0, locals := 0 } : Room).cells ({ frames := 0, cells := 0, slots := 0, locals := 0 } : Room).slots) := by
  refine MetFree.of_bodySF (plainFor_of_name pn0) hisR ?_
  intro p e s m args below meth c s₁ Bd hml0 hP hK
  obtain ⟨rfl, hZ, hh⟩ := hP
  have hx := Bd.exec
  have hby := Bd.bytes
  have hml : c.maxLocals = 5 := hml0
  have hown : s.vm.findClass "com/example/strikeline/strikeline/PennyProgram" = some m.cls := findClass_of_methodNamed Bd.named
  have hnm := (name_of_methodNamed Bd.named Bd.method).1
  have hlk := Bd.notSynchronized
  have X0 : Stand p l e ({ frames := 0, cells := 0, slots := 0, locals := 0 } : Room) s m #[(.ref w0), (.long x1)] below meth c s₁ [] 0 0 := Stand.of_body Bd
  have e0 : s₁.heap = h0 := by rw [← hh, Bd.state]; rfl
  have K0 := K
  obtain ⟨S_w0, S_w1, S_w2, E_w0, E_w1, E_w2, F_w0_below, F_w1_below, F_w0_from, F_w2_below, F_w2_from, F_w1_from, n_w0_w1, n_w0_w2, n_w1_w2⟩ := K
  show own_Go p e below s (Q2_2 x1 w0 w1 w2 h0) 0 0 (s₁.setTop (entryFrame m #[(.ref w0), (.long x1)] 5))
  rw [show entryFrame m #[(.ref w0), (.long x1)] 5 = mkF m 0 #[.val (.ref w0), .val (.long x1), .second, .unset, .unset] [] from by first | (simp [entryFrame, mkF, argsToLocals, Value.category]; done) | rfl]
  show own_Go p e below s _ _ _ (s₁.setTop (mkF m 0 #[.val (.ref w0), .val (.long x1), .second, .unset, .unset] []))
  refine own_via (fun _ k => XS.lloadN X0.here hx rfl (hb hby d2_0) rfl k) ?_
  show own_Go p e below s _ _ _ (s₁.setTop (mkF m 1 #[.val (.ref w0), .val (.long x1), .second, .unset, .unset] [(.long x1)]))
  refine own_via (fun _ k => X0.ldc2Long hx hown (mvT hZ (hw _ (List.mem_of_getElem? (i := 14) rfl))) (g := (mkF m 1 #[.val (.ref w0), .val (.long x1), .second, .unset, .unset] [(.long x1)])) rfl (hb hby d2_1) _ k) ?_
  show own_Go p e below s _ _ _ (s₁.setTop (mkF m 4 #[.val (.ref w0), .val (.long x1), .second, .unset, .unset] [(.long (300 : Int64)), (.long x1)]))
  refine own_via (fun _ k => XS.lcmp X0.here hx rfl (hb hby d2_4) rfl k) ?_
  show own_Go p e below s _ _ _ (s₁.setTop (mkF m 5 #[.val (.ref w0), .val (.long x1), .second, .unset, .unset] [(.int (lcmpW x1 (300 : Int64)))]))
  by_cases hc1 : (300 : Int64) < x1
  · refine own_via (fun _ k => XS.ifNo X0.here hx rfl (hb hby d2_5) rfl ((if0 _ _).trans (tlt ((lw_gt x1 (300 : Int64)).mpr hc1)).2.2.2) k) ?_
    show own_Go p e below s _ _ _ (s₁.setTop (mkF m 8 #[.val (.ref w0), .val (.long x1), .second, .unset, .unset] []))
    refine own_via (fun _ k => XS.aloadN X0.here hx rfl (hb hby d2_8) rfl rfl k) ?_
    show own_Go p e below s _ _ _ (s₁.setTop (mkF m 9 #[.val (.ref w0), .val (.long x1), .second, .unset, .unset] [(.ref w0)]))
    obtain ⟨T2, X2, e2, st2⟩ := getF X0 hx hZ hown (host := "") (Or.inl (hw _ (List.mem_of_getElem? (i := 22) rfl))) Via.refl e0 F_w0_from (g := (mkF m 9 #[.val (.ref w0), .val (.long x1), .second, .unset, .unset] [(.ref w0)])) rfl rfl (hb hby d2_9)
    refine own_via st2 ?_
    show own_Go p e below s _ _ _ (T2.setTop (mkF m 12 #[.val (.ref w0), .val (.long x1), .second, .unset, .unset] [(.long (1 : Int64))]))
    refine own_via (fun _ k => XS.goto X2.here hx rfl (pc0 := 12) (pc' := 19) rfl (hb hby d2_12) (by decide) (by decide) k) ?_
    show own_Go p e below s _ _ _ (T2.setTop (mkF m 19 #[.val (.ref w0), .val (.long x1), .second, .unset, .unset] [(.long (1 : Int64))]))
    refine own_via (fun _ k => XS.lstoreN X2.here hx rfl (hb hby d2_19) rfl (l' := #[.val (.ref w0), .val (.long x1), .second, .val (.long (1 : Int64)), .second]) rfl k) ?_
    show own_Go p e below s _ _ _ (T2.setTop (mkF m 20 #[.val (.ref w0), .val (.long x1), .second, .val (.long (1 : Int64)), .second] []))
    refine own_via (fun _ k => XS.lloadN X2.here hx rfl (hb hby d2_20) rfl k) ?_
    show own_Go p e below s _ _ _ (T2.setTop (mkF m 21 #[.val (.ref w0), .val (.long x1), .second, .val (.long (1 : Int64)), .second] [(.long x1)]))
    refine own_via (fun _ k => XS.lconst X2.here hx rfl (hb hby d2_21) k) ?_
    show own_Go p e below s _ _ _ (T2.setTop (mkF m 22 #[.val (.ref w0), .val (.long x1), .second, .val (.long (1 : Int64)), .second] [(.long (1 : Int64)), (.long x1)]))
    refine own_via (fun _ k => XS.lsub X2.here hx rfl (hb hby d2_22) rfl k) ?_
    show own_Go p e below s _ _ _ (T2.setTop (mkF m 23 #[.val (.ref w0), .val (.long x1), .second, .val (.long (1 : Int64)), .second] [(.long (x1 - (1 : Int64)))]))
    refine own_via (fun _ k => XS.lloadN X2.here hx rfl (hb hby d2_23) rfl k) ?_
    show own_Go p e below s _ _ _ (T2.setTop (mkF m 24 #[.val (.ref w0), .val (.long x1), .second, .val (.long (1 : Int64)), .second] [(.long (1 : Int64)), (.long (x1 - (1 : Int64)))]))
    refine own_via (fun _ k => XS.ldiv X2.here hx rfl (hb hby d2_24) rfl (by decide : ¬ ((1 : Int64) = (0 : Int64))) k) ?_
    show own_Go p e below s _ _ _ (T2.setTop (mkF m 25 #[.val (.ref w0), .val (.long x1), .second, .val (.long (1 : Int64)), .second] [(.long ((x1 - (1 : Int64)) / (1 : Int64)))]))
    refine own_via (fun _ k => XS.lloadN X2.here hx rfl (hb hby d2_25) rfl k) ?_
    show own_Go p e below s _ _ _ (T2.setTop (mkF m 26 #[.val (.ref w0), .val (.long x1), .second, .val (.long (1 : Int64)), .second] [(.long (1 : Int64)), (.long ((x1 - (1 : Int64)) / (1 : Int64)))]))
    refine own_via (fun _ k => XS.lmul X2.here hx rfl (hb hby d2_26) rfl k) ?_
    show own_Go p e below s _ _ _ (T2.setTop (mkF m 27 #[.val (.ref w0), .val (.long x1), .second, .val (.long (1 : Int64)), .second] [(.long (((x1 - (1 : Int64)) / (1 : Int64)) * (1 : Int64)))]))
    exact own_retJ X2 hx hlk Bd.returns (hb hby d2_27) ⟨rfl, e2, Or.inl ⟨hc1, rfl⟩⟩ (by decide) (by decide)
  · refine own_via (fun _ k => XS.ifYes X0.here hx rfl (pc0 := 5) (pc' := 15) rfl (hb hby d2_5) rfl ((if0 _ _).trans (flt (mt (lw_gt x1 (300 : Int64)).mp hc1)).2.2.2) (by decide) (by decide) k) ?_
    show own_Go p e below s _ _ _ (s₁.setTop (mkF m 15 #[.val (.ref w0), .val (.long x1), .second, .unset, .unset] []))
    refine own_via (fun _ k => XS.aloadN X0.here hx rfl (hb hby d2_15) rfl rfl k) ?_
    show own_Go p e below s _ _ _ (s₁.setTop (mkF m 16 #[.val (.ref w0), .val (.long x1), .second, .unset, .unset] [(.ref w0)]))
    obtain ⟨T3, X3, e3, st3⟩ := getF X0 hx hZ hown (host := "") (Or.inl (hw _ (List.mem_of_getElem? (i := 15) rfl))) Via.refl e0 F_w0_below (g := (mkF m 16 #[.val (.ref w0), .val (.long x1), .second, .unset, .unset] [(.ref w0)])) rfl rfl (hb hby d2_16)
    refine own_via st3 ?_
    show own_Go p e below s _ _ _ (T3.setTop (mkF m 19 #[.val (.ref w0), .val (.long x1), .second, .unset, .unset] [(.long (1 : Int64))]))
    refine own_via (fun _ k => XS.lstoreN X3.here hx rfl (hb hby d2_19) rfl (l' := #[.val (.ref w0), .val (.long x1), .second, .val (.long (1 : Int64)), .second]) rfl k) ?_
    show own_Go p e below s _ _ _ (T3.setTop (mkF m 20 #[.val (.ref w0), .val (.long x1), .second, .val (.long (1 : Int64)), .second] []))
    refine own_via (fun _ k => XS.lloadN X3.here hx rfl (hb hby d2_20) rfl k) ?_
    show own_Go p e below s _ _ _ (T3.setTop (mkF m 21 #[.val (.ref w0), .val (.long x1), .second, .val (.long (1 : Int64)), .second] [(.long x1)]))
    refine own_via (fun _ k => XS.lconst X3.here hx rfl (hb hby d2_21) k) ?_
    show own_Go p e below s _ _ _ (T3.setTop (mkF m 22 #[.val (.ref w0), .val (.long x1), .second, .val (.long (1 : Int64)), .second] [(.long (1 : Int64)), (.long x1)]))
    refine own_via (fun _ k => XS.lsub X3.here hx rfl (hb hby d2_22) rfl k) ?_
    show own_Go p e below s _ _ _ (T3.setTop (mkF m 23 #[.val (.ref w0), .val (.long x1), .second, .val (.long (1 : Int64)), .second] [(.long (x1 - (1 : Int64)))]))
    refine own_via (fun _ k => XS.lloadN X3.here hx rfl (hb hby d2_23) rfl k) ?_
    show own_Go p e below s _ _ _ (T3.setTop (mkF m 24 #[.val (.ref w0), .val (.long x1), .second, .val (.long (1 : Int64)), .second] [(.long (1 : Int64)), (.long (x1 - (1 : Int64)))]))
    refine own_via (fun _ k => XS.ldiv X3.here hx rfl (hb hby d2_24) rfl (by decide : ¬ ((1 : Int64) = (0 : Int64))) k) ?_
    show own_Go p e below s _ _ _ (T3.setTop (mkF m 25 #[.val (.ref w0), .val (.long x1), .second, .val (.long (1 : Int64)), .second] [(.long ((x1 - (1 : Int64)) / (1 : Int64)))]))
    refine own_via (fun _ k => XS.lloadN X3.here hx rfl (hb hby d2_25) rfl k) ?_
    show own_Go p e below s _ _ _ (T3.setTop (mkF m 26 #[.val (.ref w0), .val (.long x1), .second, .val (.long (1 : Int64)), .second] [(.long (1 : Int64)), (.long ((x1 - (1 : Int64)) / (1 : Int64)))]))
    refine own_via (fun _ k => XS.lmul X3.here hx rfl (hb hby d2_26) rfl k) ?_
    show own_Go p e below s _ _ _ (T3.setTop (mkF m 27 #[.val (.ref w0), .val (.long x1), .second, .val (.long (1 : Int64)), .second] [(.long (((x1 - (1 : Int64)) / (1 : Int64)) * (1 : Int64)))]))
    exact own_retJ X3 hx hlk Bd.returns (hb hby d2_27) ⟨rfl, e3, Or.inr (⟨hc1, rfl⟩)⟩ (by decide) (by decide)
def Q0 (n0 : Nat) (v : Option Value) (h : Heap) (L : List Loc) : Prop := v = some (.int 1) ∧ Fr n0 L
set_option maxRecDepth 65536 in
set_option maxHeartbeats 40000000 in
theorem rm0 (l : Launch) (Z : State) (a0 : Array Value) (hw : ∀ d ∈ tables_1, d.before a0 Z = true) (ws : List Jvm.Cond) (p0 : Int64) (p1 : Int32) (w0 : Addr) (w1 : Addr) (w2 : Addr) (h0 : Heap) (n0 : Nat) (Z0 : n0 ≤ h0.size) (K : own_K Z h0 w0 w1 w2) :
    MetFree l x (head1 (Jvm.Cond.code x code maxLocals ret :: ws) room_1) (fun a U => a = #[(.long p0), (.int p1)] ∧ Z.Warmed39 U.vm ∧ U.heap = h0) (fun _ _ _ _ _ => True) (fun _ U o U' => ∃ v L, o = .returned v ∧ Q0 n0 v U'.heap L ∧ FrameEnd U o U' L 0 0) := by
  refine MetFree.of_bodySF (plainFor_of_name pn2) hisR ?_
  intro p e s m args below meth c s₁ Bd hml0 hP hK
  obtain ⟨rfl, hZ, hh⟩ := hP
  have hx := Bd.exec
  have hby := Bd.bytes
  have hml : c.maxLocals = 15 := hml0
  have hown : s.vm.findClass "com/example/strikeline/strikeline/PennyProgramPriceBelowPinLaw" = some m.cls := findClass_of_methodNamed Bd.named
  have hnm := (name_of_methodNamed Bd.named Bd.method).1
  have hlk := Bd.notSynchronized
  have X0 : Stand p l e room_1 s m #[(.long p0), (.int p1)] below meth c s₁ [] 0 0 := Stand.of_body Bd
  have e0 : s₁.heap = h0 := by rw [← hh, Bd.state]; rfl
  have K0 := K
  obtain ⟨S_w0, S_w1, S_w2, E_w0, E_w1, E_w2, F_w0_below, F_w1_below, F_w0_from, F_w2_below, F_w2_from, F_w1_from, n_w0_w1, n_w0_w2, n_w1_w2⟩ := K
  show own_Go p e below s (Q0 n0) 0 0 (s₁.setTop (entryFrame m #[(.long p0), (.int p1)] maxLocals))
  rw [show entryFrame m #[(.long p0), (.int p1)] maxLocals = mkF m 0 #[.val (.long p0), .second, .val (.int p1), .unset, .unset, .unset, .unset, .unset, .unset, .unset, .unset, .unset, .unset, .unset, .unset] [] from by first | (simp [entryFrame, mkF, argsToLocals, Value.category, maxLocals]; done) | rfl]
  show own_Go p e below s _ _ _ (s₁.setTop (mkF m 0 #[.val (.long p0), .second, .val (.int p1), .unset, .unset, .unset, .unset, .unset, .unset, .unset, .unset, .unset, .unset, .unset, .unset] []))
  refine own_via (fun _ k => XS.iloadN X0.here hx rfl (hb hby at_0) rfl k) ?_
  show own_Go p e below s _ _ _ (s₁.setTop (mkF m 1 #[.val (.long p0), .second, .val (.int p1), .unset, .unset, .unset, .unset, .unset, .unset, .unset, .unset, .unset, .unset, .unset, .unset] [(.int p1)]))
  refine own_via (fun _ k => X0.ldcInt hx hown (mvT hZ (hw _ (List.mem_of_getElem? (i := 0) rfl))) (g := (mkF m 1 #[.val (.long p0), .second, .val (.int p1), .unset, .unset, .unset, .unset, .unset, .unset, .unset, .unset, .unset, .unset, .unset, .unset] [(.int p1)])) rfl (hb hby at_1) _ k) ?_
  show own_Go p e below s _ _ _ (s₁.setTop (mkF m 3 #[.val (.long p0), .second, .val (.int p1), .unset, .unset, .unset, .unset, .unset, .unset, .unset, .unset, .unset, .unset, .unset, .unset] [(.int (2147483647 : Int32)), (.int p1)]))
  refine own_via (fun _ k => XS.iand X0.here hx rfl (hb hby at_3) rfl k) ?_
  show own_Go p e below s _ _ _ (s₁.setTop (mkF m 4 #[.val (.long p0), .second, .val (.int p1), .unset, .unset, .unset, .unset, .unset, .unset, .unset, .unset, .unset, .unset, .unset, .unset] [(.int (p1 &&& (2147483647 : Int32)))]))
  refine own_via (fun _ k => XS.iconst X0.here hx rfl (hb hby at_4) k) ?_
  show own_Go p e below s _ _ _ (s₁.setTop (mkF m 5 #[.val (.long p0), .second, .val (.int p1), .unset, .unset, .unset, .unset, .unset, .unset, .unset, .unset, .unset, .unset, .unset, .unset] [(.int (3 : Int32)), (.int (p1 &&& (2147483647 : Int32)))]))
  refine own_via (fun _ k => iremM X0 hx rfl (hb hby at_5) rfl (by decide : ¬ ((3 : Int32) = (0 : Int32))) k) ?_
  rcases (own_mod3 _ : ((p1 &&& (2147483647 : Int32)) % (3 : Int32)) = (0 : Int32) ∨ ((p1 &&& (2147483647 : Int32)) % (3 : Int32)) = (1 : Int32) ∨ ((p1 &&& (2147483647 : Int32)) % (3 : Int32)) = (2 : Int32)) with hk1 | hk2 | hk3
  · rw [hk1]
    show own_Go p e below s _ _ _ (s₁.setTop (mkF m 6 #[.val (.long p0), .second, .val (.int p1), .unset, .unset, .unset, .unset, .unset, .unset, .unset, .unset, .unset, .unset, .unset, .unset] [(.int (0 : Int32))]))
    refine own_via (fun _ k => XS.istoreN X0.here hx rfl (hb hby at_6) rfl (l' := #[.val (.long p0), .second, .val (.int p1), .val (.int (0 : Int32)), .unset, .unset, .unset, .unset, .unset, .unset, .unset, .unset, .unset, .unset, .unset]) rfl k) ?_
    show own_Go p e below s _ _ _ (s₁.setTop (mkF m 7 #[.val (.long p0), .second, .val (.int p1), .val (.int (0 : Int32)), .unset, .unset, .unset, .unset, .unset, .unset, .unset, .unset, .unset, .unset, .unset] []))
    refine own_via (fun _ k => XS.iloadN X0.here hx rfl (hb hby at_7) rfl k) ?_
    show own_Go p e below s _ _ _ (s₁.setTop (mkF m 8 #[.val (.long p0), .second, .val (.int p1), .val (.int (0 : Int32)), .unset, .unset, .unset, .unset, .unset, .unset, .unset, .unset, .unset, .unset, .unset] [(.int (0 : Int32))]))
    refine own_via (fun _ k => XS.ifNo X0.here hx rfl (hb hby at_8) rfl ((if0 _ _).trans (teq (by decide : (0 : Int32) = (0 : Int32))).2) k) ?_
    show own_Go p e below s _ _ _ (s₁.setTop (mkF m 11 #[.val (.long p0), .second, .val (.int p1), .val (.int (0 : Int32)), .unset, .unset, .unset, .unset, .unset, .unset, .unset, .unset, .unset, .unset, .unset] []))
    obtain ⟨T4, X4, e4, st4⟩ := getS2 X0 hx hZ hown (host := "") (Or.inl (hw _ (List.mem_of_getElem? (i := 24) rfl))) Via.refl e0 S_w2 (g := (mkF m 11 #[.val (.long p0), .second, .val (.int p1), .val (.int (0 : Int32)), .unset, .unset, .unset, .unset, .unset, .unset, .unset, .unset, .unset, .unset, .unset] [])) rfl (hb hby at_11)
    refine own_via st4 ?_
    show own_Go p e below s _ _ _ (T4.setTop (mkF m 14 #[.val (.long p0), .second, .val (.int p1), .val (.int (0 : Int32)), .unset, .unset, .unset, .unset, .unset, .unset, .unset, .unset, .unset, .unset, .unset] [(.ref w2)]))
    refine own_via (fun _ k => XS.astore X4.here hx rfl (hb hby at_14) rfl rfl (l' := #[.val (.long p0), .second, .val (.int p1), .val (.int (0 : Int32)), .val (.ref w2), .unset, .unset, .unset, .unset, .unset, .unset, .unset, .unset, .unset, .unset]) rfl k) ?_
    show own_Go p e below s _ _ _ (T4.setTop (mkF m 16 #[.val (.long p0), .second, .val (.int p1), .val (.int (0 : Int32)), .val (.ref w2), .unset, .unset, .unset, .unset, .unset, .unset, .unset, .unset, .unset, .unset] []))
    refine own_via (fun _ k => X4.ldc2Long hx hown (mvT hZ (hw _ (List.mem_of_getElem? (i := 20) rfl))) (g := (mkF m 16 #[.val (.long p0), .second, .val (.int p1), .val (.int (0 : Int32)), .val (.ref w2), .unset, .unset, .unset, .unset, .unset, .unset, .unset, .unset, .unset, .unset] [])) rfl (hb hby at_16) _ k) ?_
    show own_Go p e below s _ _ _ (T4.setTop (mkF m 19 #[.val (.long p0), .second, .val (.int p1), .val (.int (0 : Int32)), .val (.ref w2), .unset, .unset, .unset, .unset, .unset, .unset, .unset, .unset, .unset, .unset] [(.long (5 : Int64))]))
    refine own_via (fun _ k => XS.lstore X4.here hx rfl (hb hby at_19) rfl (l' := #[.val (.long p0), .second, .val (.int p1), .val (.int (0 : Int32)), .val (.ref w2), .val (.long (5 : Int64)), .second, .unset, .unset, .unset, .unset, .unset, .unset, .unset, .unset]) rfl k) ?_
    show own_Go p e below s _ _ _ (T4.setTop (mkF m 21 #[.val (.long p0), .second, .val (.int p1), .val (.int (0 : Int32)), .val (.ref w2), .val (.long (5 : Int64)), .second, .unset, .unset, .unset, .unset, .unset, .unset, .unset, .unset] []))
    refine own_via (fun _ k => X4.ldc2Long hx hown (mvT hZ (hw _ (List.mem_of_getElem? (i := 26) rfl))) (g := (mkF m 21 #[.val (.long p0), .second, .val (.int p1), .val (.int (0 : Int32)), .val (.ref w2), .val (.long (5 : Int64)), .second, .unset, .unset, .unset, .unset, .unset, .unset, .unset, .unset] [])) rfl (hb hby at_21) _ k) ?_
    show own_Go p e below s _ _ _ (T4.setTop (mkF m 24 #[.val (.long p0), .second, .val (.int p1), .val (.int (0 : Int32)), .val (.ref w2), .val (.long (5 : Int64)), .second, .unset, .unset, .unset, .unset, .unset, .unset, .unset, .unset] [(.long (10 : Int64))]))
    refine own_via (fun _ k => XS.lstore X4.here hx rfl (hb hby at_24) rfl (l' := #[.val (.long p0), .second, .val (.int p1), .val (.int (0 : Int32)), .val (.ref w2), .val (.long (5 : Int64)), .second, .val (.long (10 : Int64)), .second, .unset, .unset, .unset, .unset, .unset, .unset]) rfl k) ?_
    show own_Go p e below s _ _ _ (T4.setTop (mkF m 26 #[.val (.long p0), .second, .val (.int p1), .val (.int (0 : Int32)), .val (.ref w2), .val (.long (5 : Int64)), .second, .val (.long (10 : Int64)), .second, .unset, .unset, .unset, .unset, .unset, .unset] []))
    refine own_via (fun _ k => XS.goto X4.here hx rfl (pc0 := 26) (pc' := 61) rfl (hb hby at_26) (by decide) (by decide) k) ?_
    have J5 : ∀ (T5 : State) (X5 : Stand p l e room_1 s m #[(.long p0), (.int p1)] below meth c T5 [] 0 0) (e5 : T5.heap = h0) (c5 : Int64) (hb5 : 1 ≤ c5.toInt), own_Go p e below s (Q0 n0) 0 0 (T5.setTop (mkF m 86 #[.val (.long p0), .second, .val (.int p1), .val (.int (0 : Int32)), .val (.ref w2), .val (.long (5 : Int64)), .second, .val (.long (10 : Int64)), .second, .unset, .unset, .unset, .unset, .unset, .unset] [(.long c5)])) := by
      intro T5 X5 e5 c5 hb5
      show own_Go p e below s _ _ _ (T5.setTop (mkF m 86 #[.val (.long p0), .second, .val (.int p1), .val (.int (0 : Int32)), .val (.ref w2), .val (.long (5 : Int64)), .second, .val (.long (10 : Int64)), .second, .unset, .unset, .unset, .unset, .unset, .unset] [(.long c5)]))
      refine own_via (fun _ k => XS.lstore X5.here hx rfl (hb hby at_86) rfl (l' := #[.val (.long p0), .second, .val (.int p1), .val (.int (0 : Int32)), .val (.ref w2), .val (.long (5 : Int64)), .second, .val (.long (10 : Int64)), .second, .val (.long c5), .second, .unset, .unset, .unset, .unset]) rfl k) ?_
      have J6 : ∀ (T6 : State) (X6 : Stand p l e room_1 s m #[(.long p0), (.int p1)] below meth c T6 [] 0 0) (e6 : T6.heap = h0) (r6 : Int64) (hb6 : (300 < c5.toInt ∧ r6.toInt = ((c5.toInt - 1) / 10) * 10) ∨ (c5.toInt ≤ 300 ∧ r6.toInt = ((c5.toInt - 1) / 5) * 5)), own_Go p e below s (Q0 n0) 0 0 (T6.setTop (mkF m 95 #[.val (.long p0), .second, .val (.int p1), .val (.int (0 : Int32)), .val (.ref w2), .val (.long (5 : Int64)), .second, .val (.long (10 : Int64)), .second, .val (.long c5), .second, .unset, .unset, .unset, .unset] [(.long r6)])) := by
        intro T6 X6 e6 r6 hb6
        show own_Go p e below s _ _ _ (T6.setTop (mkF m 95 #[.val (.long p0), .second, .val (.int p1), .val (.int (0 : Int32)), .val (.ref w2), .val (.long (5 : Int64)), .second, .val (.long (10 : Int64)), .second, .val (.long c5), .second, .unset, .unset, .unset, .unset] [(.long r6)]))
        refine own_via (fun _ k => XS.lstore X6.here hx rfl (hb hby at_95) rfl (l' := #[.val (.long p0), .second, .val (.int p1), .val (.int (0 : Int32)), .val (.ref w2), .val (.long (5 : Int64)), .second, .val (.long (10 : Int64)), .second, .val (.long c5), .second, .val (.long r6), .second, .unset, .unset]) rfl k) ?_
        show own_Go p e below s _ _ _ (T6.setTop (mkF m 97 #[.val (.long p0), .second, .val (.int p1), .val (.int (0 : Int32)), .val (.ref w2), .val (.long (5 : Int64)), .second, .val (.long (10 : Int64)), .second, .val (.long c5), .second, .val (.long r6), .second, .unset, .unset] []))
        refine own_via (fun _ k => XS.lload X6.here hx rfl (hb hby at_97) rfl k) ?_
        show own_Go p e below s _ _ _ (T6.setTop (mkF m 99 #[.val (.long p0), .second, .val (.int p1), .val (.int (0 : Int32)), .val (.ref w2), .val (.long (5 : Int64)), .second, .val (.long (10 : Int64)), .second, .val (.long c5), .second, .val (.long r6), .second, .unset, .unset] [(.long r6)]))
        refine own_via (fun _ k => XS.lconst X6.here hx rfl (hb hby at_99) k) ?_
        show own_Go p e below s _ _ _ (T6.setTop (mkF m 100 #[.val (.long p0), .second, .val (.int p1), .val (.int (0 : Int32)), .val (.ref w2), .val (.long (5 : Int64)), .second, .val (.long (10 : Int64)), .second, .val (.long c5), .second, .val (.long r6), .second, .unset, .unset] [(.long (0 : Int64)), (.long r6)]))
        refine own_via (fun _ k => XS.lcmp X6.here hx rfl (hb hby at_100) rfl k) ?_
        show own_Go p e below s _ _ _ (T6.setTop (mkF m 101 #[.val (.long p0), .second, .val (.int p1), .val (.int (0 : Int32)), .val (.ref w2), .val (.long (5 : Int64)), .second, .val (.long (10 : Int64)), .second, .val (.long c5), .second, .val (.long r6), .second, .unset, .unset] [(.int (lcmpW r6 (0 : Int64)))]))
        by_cases hc7 : r6 < (0 : Int64)
        · exfalso
          have ar0 := rng64 r6
          simp only [Int64.lt_iff_toInt_lt, ← Int64.toInt_inj, Int32.lt_iff_toInt_lt, ← Int32.toInt_inj, (show (0 : Int64).toInt = 0 from rfl)] at hc7 ar0
          omega
        · refine own_via (fun _ k => XS.ifNo X6.here hx rfl (hb hby at_101) rfl ((if0 _ _).trans (flt (mt (lw_lt r6 (0 : Int64)).mp hc7)).1) k) ?_
          show own_Go p e below s _ _ _ (T6.setTop (mkF m 104 #[.val (.long p0), .second, .val (.int p1), .val (.int (0 : Int32)), .val (.ref w2), .val (.long (5 : Int64)), .second, .val (.long (10 : Int64)), .second, .val (.long c5), .second, .val (.long r6), .second, .unset, .unset] []))
          refine own_via (fun _ k => XS.lload X6.here hx rfl (hb hby at_104) rfl k) ?_
          show own_Go p e below s _ _ _ (T6.setTop (mkF m 106 #[.val (.long p0), .second, .val (.int p1), .val (.int (0 : Int32)), .val (.ref w2), .val (.long (5 : Int64)), .second, .val (.long (10 : Int64)), .second, .val (.long c5), .second, .val (.long r6), .second, .unset, .unset] [(.long r6)]))
          refine own_via (fun _ k => XS.lload X6.here hx rfl (hb hby at_106) rfl k) ?_
          show own_Go p e below s _ _ _ (T6.setTop (mkF m 108 #[.val (.long p0), .second, .val (.int p1), .val (.int (0 : Int32)), .val (.ref w2), .val (.long (5 : Int64)), .second, .val (.long (10 : Int64)), .second, .val (.long c5), .second, .val (.long r6), .second, .unset, .unset] [(.long c5), (.long r6)]))
          refine own_via (fun _ k => XS.lcmp X6.here hx rfl (hb hby at_108) rfl k) ?_
          show own_Go p e below s _ _ _ (T6.setTop (mkF m 109 #[.val (.long p0), .second, .val (.int p1), .val (.int (0 : Int32)), .val (.ref w2), .val (.long (5 : Int64)), .second, .val (.long (10 : Int64)), .second, .val (.long c5), .second, .val (.long r6), .second, .unset, .unset] [(.int (lcmpW r6 c5))]))
          by_cases hc8 : r6 < c5
          · refine own_via (fun _ k => XS.ifYes X6.here hx rfl (pc0 := 109) (pc' := 114) rfl (hb hby at_109) rfl ((if0 _ _).trans (tlt ((lw_lt r6 c5).mpr hc8)).1) (by decide) (by decide) k) ?_
            show own_Go p e below s _ _ _ (T6.setTop (mkF m 114 #[.val (.long p0), .second, .val (.int p1), .val (.int (0 : Int32)), .val (.ref w2), .val (.long (5 : Int64)), .second, .val (.long (10 : Int64)), .second, .val (.long c5), .second, .val (.long r6), .second, .unset, .unset] []))
            refine own_via (fun _ k => XS.lload X6.here hx rfl (hb hby at_114) rfl k) ?_
            show own_Go p e below s _ _ _ (T6.setTop (mkF m 116 #[.val (.long p0), .second, .val (.int p1), .val (.int (0 : Int32)), .val (.ref w2), .val (.long (5 : Int64)), .second, .val (.long (10 : Int64)), .second, .val (.long c5), .second, .val (.long r6), .second, .unset, .unset] [(.long r6)]))
            refine own_via (fun _ k => X6.ldc2Long hx hown (mvT hZ (hw _ (List.mem_of_getElem? (i := 17) rfl))) (g := (mkF m 116 #[.val (.long p0), .second, .val (.int p1), .val (.int (0 : Int32)), .val (.ref w2), .val (.long (5 : Int64)), .second, .val (.long (10 : Int64)), .second, .val (.long c5), .second, .val (.long r6), .second, .unset, .unset] [(.long r6)])) rfl (hb hby at_116) _ k) ?_
            show own_Go p e below s _ _ _ (T6.setTop (mkF m 119 #[.val (.long p0), .second, .val (.int p1), .val (.int (0 : Int32)), .val (.ref w2), .val (.long (5 : Int64)), .second, .val (.long (10 : Int64)), .second, .val (.long c5), .second, .val (.long r6), .second, .unset, .unset] [(.long (300 : Int64)), (.long r6)]))
            refine own_via (fun _ k => XS.lcmp X6.here hx rfl (hb hby at_119) rfl k) ?_
            show own_Go p e below s _ _ _ (T6.setTop (mkF m 120 #[.val (.long p0), .second, .val (.int p1), .val (.int (0 : Int32)), .val (.ref w2), .val (.long (5 : Int64)), .second, .val (.long (10 : Int64)), .second, .val (.long c5), .second, .val (.long r6), .second, .unset, .unset] [(.int (lcmpW r6 (300 : Int64)))]))
            by_cases hc9 : r6 < (300 : Int64)
            · refine own_via (fun _ k => XS.ifNo X6.here hx rfl (hb hby at_120) rfl ((if0 _ _).trans (tlt ((lw_lt r6 (300 : Int64)).mpr hc9)).2.1) k) ?_
              show own_Go p e below s _ _ _ (T6.setTop (mkF m 123 #[.val (.long p0), .second, .val (.int p1), .val (.int (0 : Int32)), .val (.ref w2), .val (.long (5 : Int64)), .second, .val (.long (10 : Int64)), .second, .val (.long c5), .second, .val (.long r6), .second, .unset, .unset] []))
              refine own_via (fun _ k => XS.lload X6.here hx rfl (hb hby at_123) rfl k) ?_
              show own_Go p e below s _ _ _ (T6.setTop (mkF m 125 #[.val (.long p0), .second, .val (.int p1), .val (.int (0 : Int32)), .val (.ref w2), .val (.long (5 : Int64)), .second, .val (.long (10 : Int64)), .second, .val (.long c5), .second, .val (.long r6), .second, .unset, .unset] [(.long (5 : Int64))]))
              refine own_via (fun _ k => XS.goto X6.here hx rfl (pc0 := 125) (pc' := 130) rfl (hb hby at_125) (by decide) (by decide) k) ?_
              show own_Go p e below s _ _ _ (T6.setTop (mkF m 130 #[.val (.long p0), .second, .val (.int p1), .val (.int (0 : Int32)), .val (.ref w2), .val (.long (5 : Int64)), .second, .val (.long (10 : Int64)), .second, .val (.long c5), .second, .val (.long r6), .second, .unset, .unset] [(.long (5 : Int64))]))
              refine own_via (fun _ k => XS.lstore X6.here hx rfl (hb hby at_130) rfl (l' := #[.val (.long p0), .second, .val (.int p1), .val (.int (0 : Int32)), .val (.ref w2), .val (.long (5 : Int64)), .second, .val (.long (10 : Int64)), .second, .val (.long c5), .second, .val (.long r6), .second, .val (.long (5 : Int64)), .second]) rfl k) ?_
              show own_Go p e below s _ _ _ (T6.setTop (mkF m 132 #[.val (.long p0), .second, .val (.int p1), .val (.int (0 : Int32)), .val (.ref w2), .val (.long (5 : Int64)), .second, .val (.long (10 : Int64)), .second, .val (.long c5), .second, .val (.long r6), .second, .val (.long (5 : Int64)), .second] []))
              refine own_via (fun _ k => XS.lload X6.here hx rfl (hb hby at_132) rfl k) ?_
              show own_Go p e below s _ _ _ (T6.setTop (mkF m 134 #[.val (.long p0), .second, .val (.int p1), .val (.int (0 : Int32)), .val (.ref w2), .val (.long (5 : Int64)), .second, .val (.long (10 : Int64)), .second, .val (.long c5), .second, .val (.long r6), .second, .val (.long (5 : Int64)), .second] [(.long r6)]))
              refine own_via (fun _ k => XS.lload X6.here hx rfl (hb hby at_134) rfl k) ?_
              show own_Go p e below s _ _ _ (T6.setTop (mkF m 136 #[.val (.long p0), .second, .val (.int p1), .val (.int (0 : Int32)), .val (.ref w2), .val (.long (5 : Int64)), .second, .val (.long (10 : Int64)), .second, .val (.long c5), .second, .val (.long r6), .second, .val (.long (5 : Int64)), .second] [(.long (5 : Int64)), (.long r6)]))
              refine own_via (fun _ k => XS.lrem X6.here hx rfl (hb hby at_136) rfl (by decide : ¬ ((5 : Int64) = (0 : Int64))) k) ?_
              show own_Go p e below s _ _ _ (T6.setTop (mkF m 137 #[.val (.long p0), .second, .val (.int p1), .val (.int (0 : Int32)), .val (.ref w2), .val (.long (5 : Int64)), .second, .val (.long (10 : Int64)), .second, .val (.long c5), .second, .val (.long r6), .second, .val (.long (5 : Int64)), .second] [(.long (r6 - (r6 / (5 : Int64)) * (5 : Int64)))]))
              refine own_via (fun _ k => XS.lconst X6.here hx rfl (hb hby at_137) k) ?_
              show own_Go p e below s _ _ _ (T6.setTop (mkF m 138 #[.val (.long p0), .second, .val (.int p1), .val (.int (0 : Int32)), .val (.ref w2), .val (.long (5 : Int64)), .second, .val (.long (10 : Int64)), .second, .val (.long c5), .second, .val (.long r6), .second, .val (.long (5 : Int64)), .second] [(.long (0 : Int64)), (.long (r6 - (r6 / (5 : Int64)) * (5 : Int64)))]))
              refine own_via (fun _ k => XS.lcmp X6.here hx rfl (hb hby at_138) rfl k) ?_
              show own_Go p e below s _ _ _ (T6.setTop (mkF m 139 #[.val (.long p0), .second, .val (.int p1), .val (.int (0 : Int32)), .val (.ref w2), .val (.long (5 : Int64)), .second, .val (.long (10 : Int64)), .second, .val (.long c5), .second, .val (.long r6), .second, .val (.long (5 : Int64)), .second] [(.int (lcmpW (r6 - (r6 / (5 : Int64)) * (5 : Int64)) (0 : Int64)))]))
              by_cases hc10 : (r6 - (r6 / (5 : Int64)) * (5 : Int64)) = (0 : Int64)
              · refine own_via (fun _ k => XS.ifNo X6.here hx rfl (hb hby at_139) rfl ((if0 _ _).trans (teq ((lw_eq (r6 - (r6 / (5 : Int64)) * (5 : Int64)) (0 : Int64)).mpr hc10)).2) k) ?_
                show own_Go p e below s _ _ _ (T6.setTop (mkF m 142 #[.val (.long p0), .second, .val (.int p1), .val (.int (0 : Int32)), .val (.ref w2), .val (.long (5 : Int64)), .second, .val (.long (10 : Int64)), .second, .val (.long c5), .second, .val (.long r6), .second, .val (.long (5 : Int64)), .second] []))
                refine own_via (fun _ k => XS.lload X6.here hx rfl (hb hby at_142) rfl k) ?_
                show own_Go p e below s _ _ _ (T6.setTop (mkF m 144 #[.val (.long p0), .second, .val (.int p1), .val (.int (0 : Int32)), .val (.ref w2), .val (.long (5 : Int64)), .second, .val (.long (10 : Int64)), .second, .val (.long c5), .second, .val (.long r6), .second, .val (.long (5 : Int64)), .second] [(.long c5)]))
                refine own_via (fun _ k => XS.lload X6.here hx rfl (hb hby at_144) rfl k) ?_
                show own_Go p e below s _ _ _ (T6.setTop (mkF m 146 #[.val (.long p0), .second, .val (.int p1), .val (.int (0 : Int32)), .val (.ref w2), .val (.long (5 : Int64)), .second, .val (.long (10 : Int64)), .second, .val (.long c5), .second, .val (.long r6), .second, .val (.long (5 : Int64)), .second] [(.long r6), (.long c5)]))
                refine own_via (fun _ k => XS.lsub X6.here hx rfl (hb hby at_146) rfl k) ?_
                show own_Go p e below s _ _ _ (T6.setTop (mkF m 147 #[.val (.long p0), .second, .val (.int p1), .val (.int (0 : Int32)), .val (.ref w2), .val (.long (5 : Int64)), .second, .val (.long (10 : Int64)), .second, .val (.long c5), .second, .val (.long r6), .second, .val (.long (5 : Int64)), .second] [(.long (c5 - r6))]))
                refine own_via (fun _ k => XS.lload X6.here hx rfl (hb hby at_147) rfl k) ?_
                show own_Go p e below s _ _ _ (T6.setTop (mkF m 149 #[.val (.long p0), .second, .val (.int p1), .val (.int (0 : Int32)), .val (.ref w2), .val (.long (5 : Int64)), .second, .val (.long (10 : Int64)), .second, .val (.long c5), .second, .val (.long r6), .second, .val (.long (5 : Int64)), .second] [(.long (5 : Int64)), (.long (c5 - r6))]))
                refine own_via (fun _ k => XS.lcmp X6.here hx rfl (hb hby at_149) rfl k) ?_
                show own_Go p e below s _ _ _ (T6.setTop (mkF m 150 #[.val (.long p0), .second, .val (.int p1), .val (.int (0 : Int32)), .val (.ref w2), .val (.long (5 : Int64)), .second, .val (.long (10 : Int64)), .second, .val (.long c5), .second, .val (.long r6), .second, .val (.long (5 : Int64)), .second] [(.int (lcmpW (c5 - r6) (5 : Int64)))]))
                by_cases hc11 : (5 : Int64) < (c5 - r6)
                · exfalso
                  have ar0 := rng64 r6
                  have ar1 := rng64 c5
                  have ar2 := c_lrem r6 (5 : Int64) 5 rfl
                  have ar3 := rng64 (r6 - (r6 / (5 : Int64)) * (5 : Int64))
                  have ar4 := c_lsub c5 r6
                  have ar5 := rng64 (c5 - r6)
                  simp only [Int64.lt_iff_toInt_lt, ← Int64.toInt_inj, Int32.lt_iff_toInt_lt, ← Int32.toInt_inj, (show (0 : Int64).toInt = 0 from rfl), (show (5 : Int64).toInt = 5 from rfl), (show (300 : Int64).toInt = 300 from rfl)] at hc7 hc8 hc9 hc10 hc11 ar0 ar1 ar2 ar3 ar4 ar5
                  omega
                · refine own_via (fun _ k => XS.ifNo X6.here hx rfl (hb hby at_150) rfl ((if0 _ _).trans (flt (mt (lw_gt (c5 - r6) (5 : Int64)).mp hc11)).2.2.1) k) ?_
                  show own_Go p e below s _ _ _ (T6.setTop (mkF m 153 #[.val (.long p0), .second, .val (.int p1), .val (.int (0 : Int32)), .val (.ref w2), .val (.long (5 : Int64)), .second, .val (.long (10 : Int64)), .second, .val (.long c5), .second, .val (.long r6), .second, .val (.long (5 : Int64)), .second] []))
                  refine own_via (fun _ k => XS.iconst X6.here hx rfl (hb hby at_153) k) ?_
                  show own_Go p e below s _ _ _ (T6.setTop (mkF m 154 #[.val (.long p0), .second, .val (.int p1), .val (.int (0 : Int32)), .val (.ref w2), .val (.long (5 : Int64)), .second, .val (.long (10 : Int64)), .second, .val (.long c5), .second, .val (.long r6), .second, .val (.long (5 : Int64)), .second] [(.int (1 : Int32))]))
                  refine own_via (fun _ k => XS.goto X6.here hx rfl (pc0 := 154) (pc' := 158) rfl (hb hby at_154) (by decide) (by decide) k) ?_
                  show own_Go p e below s _ _ _ (T6.setTop (mkF m 158 #[.val (.long p0), .second, .val (.int p1), .val (.int (0 : Int32)), .val (.ref w2), .val (.long (5 : Int64)), .second, .val (.long (10 : Int64)), .second, .val (.long c5), .second, .val (.long r6), .second, .val (.long (5 : Int64)), .second] [(.int (1 : Int32))]))
                  exact own_retZ X6 hx hlk (t := .boolean) Bd.returns (by simp) (hb hby at_158) (z' := (1 : Int32)) (by first | rfl | decide) ⟨rfl, (Fr.nil n0)⟩ (by decide) (by decide)
              · exfalso
                have ar0 := rng64 r6
                have ar1 := rng64 c5
                have ar2 := c_lrem r6 (5 : Int64) 5 rfl
                have ar3 := rng64 (r6 - (r6 / (5 : Int64)) * (5 : Int64))
                simp only [Int64.lt_iff_toInt_lt, ← Int64.toInt_inj, Int32.lt_iff_toInt_lt, ← Int32.toInt_inj, (show (0 : Int64).toInt = 0 from rfl), (show (5 : Int64).toInt = 5 from rfl), (show (300 : Int64).toInt = 300 from rfl)] at hc7 hc8 hc9 hc10 ar0 ar1 ar2 ar3
                omega
            · refine own_via (fun _ k => XS.ifYes X6.here hx rfl (pc0 := 120) (pc' := 128) rfl (hb hby at_120) rfl ((if0 _ _).trans (flt (mt (lw_lt r6 (300 : Int64)).mp hc9)).2.1) (by decide) (by decide) k) ?_
              show own_Go p e below s _ _ _ (T6.setTop (mkF m 128 #[.val (.long p0), .second, .val (.int p1), .val (.int (0 : Int32)), .val (.ref w2), .val (.long (5 : Int64)), .second, .val (.long (10 : Int64)), .second, .val (.long c5), .second, .val (.long r6), .second, .unset, .unset] []))
              refine own_via (fun _ k => XS.lload X6.here hx rfl (hb hby at_128) rfl k) ?_
              show own_Go p e below s _ _ _ (T6.setTop (mkF m 130 #[.val (.long p0), .second, .val (.int p1), .val (.int (0 : Int32)), .val (.ref w2), .val (.long (5 : Int64)), .second, .val (.long (10 : Int64)), .second, .val (.long c5), .second, .val (.long r6), .second, .unset, .unset] [(.long (10 : Int64))]))
              refine own_via (fun _ k => XS.lstore X6.here hx rfl (hb hby at_130) rfl (l' := #[.val (.long p0), .second, .val (.int p1), .val (.int (0 : Int32)), .val (.ref w2), .val (.long (5 : Int64)), .second, .val (.long (10 : Int64)), .second, .val (.long c5), .second, .val (.long r6), .second, .val (.long (10 : Int64)), .second]) rfl k) ?_
              show own_Go p e below s _ _ _ (T6.setTop (mkF m 132 #[.val (.long p0), .second, .val (.int p1), .val (.int (0 : Int32)), .val (.ref w2), .val (.long (5 : Int64)), .second, .val (.long (10 : Int64)), .second, .val (.long c5), .second, .val (.long r6), .second, .val (.long (10 : Int64)), .second] []))
              refine own_via (fun _ k => XS.lload X6.here hx rfl (hb hby at_132) rfl k) ?_
              show own_Go p e below s _ _ _ (T6.setTop (mkF m 134 #[.val (.long p0), .second, .val (.int p1), .val (.int (0 : Int32)), .val (.ref w2), .val (.long (5 : Int64)), .second, .val (.long (10 : Int64)), .second, .val (.long c5), .second, .val (.long r6), .second, .val (.long (10 : Int64)), .second] [(.long r6)]))
              refine own_via (fun _ k => XS.lload X6.here hx rfl (hb hby at_134) rfl k) ?_
              show own_Go p e below s _ _ _ (T6.setTop (mkF m 136 #[.val (.long p0), .second, .val (.int p1), .val (.int (0 : Int32)), .val (.ref w2), .val (.long (5 : Int64)), .second, .val (.long (10 : Int64)), .second, .val (.long c5), .second, .val (.long r6), .second, .val (.long (10 : Int64)), .second] [(.long (10 : Int64)), (.long r6)]))
              refine own_via (fun _ k => XS.lrem X6.here hx rfl (hb hby at_136) rfl (by decide : ¬ ((10 : Int64) = (0 : Int64))) k) ?_
              show own_Go p e below s _ _ _ (T6.setTop (mkF m 137 #[.val (.long p0), .second, .val (.int p1), .val (.int (0 : Int32)), .val (.ref w2), .val (.long (5 : Int64)), .second, .val (.long (10 : Int64)), .second, .val (.long c5), .second, .val (.long r6), .second, .val (.long (10 : Int64)), .second] [(.long (r6 - (r6 / (10 : Int64)) * (10 : Int64)))]))
              refine own_via (fun _ k => XS.lconst X6.here hx rfl (hb hby at_137) k) ?_
              show own_Go p e below s _ _ _ (T6.setTop (mkF m 138 #[.val (.long p0), .second, .val (.int p1), .val (.int (0 : Int32)), .val (.ref w2), .val (.long (5 : Int64)), .second, .val (.long (10 : Int64)), .second, .val (.long c5), .second, .val (.long r6), .second, .val (.long (10 : Int64)), .second] [(.long (0 : Int64)), (.long (r6 - (r6 / (10 : Int64)) * (10 : Int64)))]))
              refine own_via (fun _ k => XS.lcmp X6.here hx rfl (hb hby at_138) rfl k) ?_
              show own_Go p e below s _ _ _ (T6.setTop (mkF m 139 #[.val (.long p0), .second, .val (.int p1), .val (.int (0 : Int32)), .val (.ref w2), .val (.long (5 : Int64)), .second, .val (.long (10 : Int64)), .second, .val (.long c5), .second, .val (.long r6), .second, .val (.long (10 : Int64)), .second] [(.int (lcmpW (r6 - (r6 / (10 : Int64)) * (10 : Int64)) (0 : Int64)))]))
              by_cases hc12 : (r6 - (r6 / (10 : Int64)) * (10 : Int64)) = (0 : Int64)
              · refine own_via (fun _ k => XS.ifNo X6.here hx rfl (hb hby at_139) rfl ((if0 _ _).trans (teq ((lw_eq (r6 - (r6 / (10 : Int64)) * (10 : Int64)) (0 : Int64)).mpr hc12)).2) k) ?_
                show own_Go p e below s _ _ _ (T6.setTop (mkF m 142 #[.val (.long p0), .second, .val (.int p1), .val (.int (0 : Int32)), .val (.ref w2), .val (.long (5 : Int64)), .second, .val (.long (10 : Int64)), .second, .val (.long c5), .second, .val (.long r6), .second, .val (.long (10 : Int64)), .second] []))
                refine own_via (fun _ k => XS.lload X6.here hx rfl (hb hby at_142) rfl k) ?_
                show own_Go p e below s _ _ _ (T6.setTop (mkF m 144 #[.val (.long p0), .second, .val (.int p1), .val (.int (0 : Int32)), .val (.ref w2), .val (.long (5 : Int64)), .second, .val (.long (10 : Int64)), .second, .val (.long c5), .second, .val (.long r6), .second, .val (.long (10 : Int64)), .second] [(.long c5)]))
                refine own_via (fun _ k => XS.lload X6.here hx rfl (hb hby at_144) rfl k) ?_
                show own_Go p e below s _ _ _ (T6.setTop (mkF m 146 #[.val (.long p0), .second, .val (.int p1), .val (.int (0 : Int32)), .val (.ref w2), .val (.long (5 : Int64)), .second, .val (.long (10 : Int64)), .second, .val (.long c5), .second, .val (.long r6), .second, .val (.long (10 : Int64)), .second] [(.long r6), (.long c5)]))
                refine own_via (fun _ k => XS.lsub X6.here hx rfl (hb hby at_146) rfl k) ?_
                show own_Go p e below s _ _ _ (T6.setTop (mkF m 147 #[.val (.long p0), .second, .val (.int p1), .val (.int (0 : Int32)), .val (.ref w2), .val (.long (5 : Int64)), .second, .val (.long (10 : Int64)), .second, .val (.long c5), .second, .val (.long r6), .second, .val (.long (10 : Int64)), .second] [(.long (c5 - r6))]))
                refine own_via (fun _ k => XS.lload X6.here hx rfl (hb hby at_147) rfl k) ?_
                show own_Go p e below s _ _ _ (T6.setTop (mkF m 149 #[.val (.long p0), .second, .val (.int p1), .val (.int (0 : Int32)), .val (.ref w2), .val (.long (5 : Int64)), .second, .val (.long (10 : Int64)), .second, .val (.long c5), .second, .val (.long r6), .second, .val (.long (10 : Int64)), .second] [(.long (10 : Int64)), (.long (c5 - r6))]))
                refine own_via (fun _ k => XS.lcmp X6.here hx rfl (hb hby at_149) rfl k) ?_
                show own_Go p e below s _ _ _ (T6.setTop (mkF m 150 #[.val (.long p0), .second, .val (.int p1), .val (.int (0 : Int32)), .val (.ref w2), .val (.long (5 : Int64)), .second, .val (.long (10 : Int64)), .second, .val (.long c5), .second, .val (.long r6), .second, .val (.long (10 : Int64)), .second] [(.int (lcmpW (c5 - r6) (10 : Int64)))]))
                by_cases hc13 : (10 : Int64) < (c5 - r6)
                · exfalso
                  have ar0 := rng64 r6
                  have ar1 := rng64 c5
                  have ar2 := c_lrem r6 (10 : Int64) 10 rfl
                  have ar3 := rng64 (r6 - (r6 / (10 : Int64)) * (10 : Int64))
                  have ar4 := c_lsub c5 r6
                  have ar5 := rng64 (c5 - r6)
                  simp only [Int64.lt_iff_toInt_lt, ← Int64.toInt_inj, Int32.lt_iff_toInt_lt, ← Int32.toInt_inj, (show (0 : Int64).toInt = 0 from rfl), (show (10 : Int64).toInt = 10 from rfl), (show (300 : Int64).toInt = 300 from rfl)] at hc7 hc8 hc9 hc12 hc13 ar0 ar1 ar2 ar3 ar4 ar5
                  omega
                · refine own_via (fun _ k => XS.ifNo X6.here hx rfl (hb hby at_150) rfl ((if0 _ _).trans (flt (mt (lw_gt (c5 - r6) (10 : Int64)).mp hc13)).2.2.1) k) ?_
                  show own_Go p e below s _ _ _ (T6.setTop (mkF m 153 #[.val (.long p0), .second, .val (.int p1), .val (.int (0 : Int32)), .val (.ref w2), .val (.long (5 : Int64)), .second, .val (.long (10 : Int64)), .second, .val (.long c5), .second, .val (.long r6), .second, .val (.long (10 : Int64)), .second] []))
                  refine own_via (fun _ k => XS.iconst X6.here hx rfl (hb hby at_153) k) ?_
                  show own_Go p e below s _ _ _ (T6.setTop (mkF m 154 #[.val (.long p0), .second, .val (.int p1), .val (.int (0 : Int32)), .val (.ref w2), .val (.long (5 : Int64)), .second, .val (.long (10 : Int64)), .second, .val (.long c5), .second, .val (.long r6), .second, .val (.long (10 : Int64)), .second] [(.int (1 : Int32))]))
                  refine own_via (fun _ k => XS.goto X6.here hx rfl (pc0 := 154) (pc' := 158) rfl (hb hby at_154) (by decide) (by decide) k) ?_
                  show own_Go p e below s _ _ _ (T6.setTop (mkF m 158 #[.val (.long p0), .second, .val (.int p1), .val (.int (0 : Int32)), .val (.ref w2), .val (.long (5 : Int64)), .second, .val (.long (10 : Int64)), .second, .val (.long c5), .second, .val (.long r6), .second, .val (.long (10 : Int64)), .second] [(.int (1 : Int32))]))
                  exact own_retZ X6 hx hlk (t := .boolean) Bd.returns (by simp) (hb hby at_158) (z' := (1 : Int32)) (by first | rfl | decide) ⟨rfl, (Fr.nil n0)⟩ (by decide) (by decide)
              · exfalso
                have ar0 := rng64 r6
                have ar1 := rng64 c5
                have ar2 := c_lrem r6 (10 : Int64) 10 rfl
                have ar3 := rng64 (r6 - (r6 / (10 : Int64)) * (10 : Int64))
                simp only [Int64.lt_iff_toInt_lt, ← Int64.toInt_inj, Int32.lt_iff_toInt_lt, ← Int32.toInt_inj, (show (0 : Int64).toInt = 0 from rfl), (show (10 : Int64).toInt = 10 from rfl), (show (300 : Int64).toInt = 300 from rfl)] at hc7 hc8 hc9 hc12 ar0 ar1 ar2 ar3
                omega
          · exfalso
            have ar0 := rng64 r6
            have ar1 := rng64 c5
            simp only [Int64.lt_iff_toInt_lt, ← Int64.toInt_inj, Int32.lt_iff_toInt_lt, ← Int32.toInt_inj, (show (0 : Int64).toInt = 0 from rfl)] at hc7 hc8 ar0 ar1
            omega
      show own_Go p e below s _ _ _ (T5.setTop (mkF m 88 #[.val (.long p0), .second, .val (.int p1), .val (.int (0 : Int32)), .val (.ref w2), .val (.long (5 : Int64)), .second, .val (.long (10 : Int64)), .second, .val (.long c5), .second, .unset, .unset, .unset, .unset] []))
      refine own_via (fun _ k => XS.aload X5.here hx rfl (hb hby at_88) rfl rfl k) ?_
      show own_Go p e below s _ _ _ (T5.setTop (mkF m 90 #[.val (.long p0), .second, .val (.int p1), .val (.int (0 : Int32)), .val (.ref w2), .val (.long (5 : Int64)), .second, .val (.long (10 : Int64)), .second, .val (.long c5), .second, .unset, .unset, .unset, .unset] [(.ref w2)]))
      refine own_via (fun _ k => XS.lload X5.here hx rfl (hb hby at_90) rfl k) ?_
      show own_Go p e below s _ _ _ (T5.setTop (mkF m 92 #[.val (.long p0), .second, .val (.int p1), .val (.int (0 : Int32)), .val (.ref w2), .val (.long (5 : Int64)), .second, .val (.long (10 : Int64)), .second, .val (.long c5), .second, .unset, .unset, .unset, .unset] [(.long c5), (.ref w2)]))
      obtain ⟨cq14, kq14, q14a, q14b, q14c⟩ := isOf hZ e5 E_w2
      obtain ⟨_, _, ⟨T14, L14, k14, n14⟩, -, X14, ⟨Lc14, hQ14, l14, y14, z14⟩, st14⟩ := X5.virtualBack hx (y := (⟨"com/example/strikeline/strikeline/PennyProgram", "priceBelow", "(J)J"⟩ : MethodName)) (z := (⟨"com/example/strikeline/strikeline/PennyProgram", "priceBelow", "(J)J"⟩ : MethodName)) hown (mvT hZ (hw _ (List.mem_of_getElem? (i := 9) rfl))) (mvT hZ (hw _ (List.mem_of_getElem? (i := 10) rfl))) (notFace_of_selects (args := #[]) (mvT hZ (hw _ (List.mem_of_getElem? (i := 12) rfl)))) (mvT hZ (hw _ (List.mem_of_getElem? (i := 12) rfl))) (mvT hZ (hw _ (List.mem_of_getElem? (i := 11) rfl))) (by decide) (backOf (W := 0) (rm2_0 l Z a0 hw [] c5 w0 w1 w2 h0 n0 Z0 K0) hZ (hw _ (List.mem_of_getElem? (i := 13) rfl)) (hw _ (List.mem_of_getElem? (i := 2) rfl)) (by decide) (by decide)) q14a q14c (g := (mkF m 92 #[.val (.long p0), .second, .val (.int p1), .val (.int (0 : Int32)), .val (.ref w2), .val (.long (5 : Int64)), .second, .val (.long (10 : Int64)), .second, .val (.long c5), .second, .unset, .unset, .unset, .unset] [(.long c5), (.ref w2)])) rfl (by rw [hml]; rfl) (Steps.refl _) (argsL := [(.long c5)]) (rest := []) (lenOf pd0 rfl) rfl (by show 2 * 0 + _ ≤ _; exact Nat.le_of_eq rfl) (hb hby at_92) (fun _ _ => ⟨rfl, e5, (by decide : 0 + 0 ≤ _), (by decide : 0 + 0 ≤ _)⟩)
      dsimp only [Pt.U, Pt.locs, Pt.cells, Pt.slots] at X14 l14 y14 z14 st14 hQ14
      subst l14 y14 z14
      obtain ⟨rfl, e14, hO14⟩ := hQ14
      rcases hO14 with ⟨hr14_0_0, rfl⟩ | ⟨hr14_1_0, rfl⟩
      · refine own_tr st14 ?_
        show own_Go p e below s _ _ _ (T14.setTop (mkF m 95 #[.val (.long p0), .second, .val (.int p1), .val (.int (0 : Int32)), .val (.ref w2), .val (.long (5 : Int64)), .second, .val (.long (10 : Int64)), .second, .val (.long c5), .second, .unset, .unset, .unset, .unset] [(.long (((c5 - (1 : Int64)) / (10 : Int64)) * (10 : Int64)))]))
        exact J6 T14 X14 e14 (((c5 - (1 : Int64)) / (10 : Int64)) * (10 : Int64)) (Or.inl ⟨own_ltL hr14_0_0, own_below10 _ hb5⟩)
      · refine own_tr st14 ?_
        show own_Go p e below s _ _ _ (T14.setTop (mkF m 95 #[.val (.long p0), .second, .val (.int p1), .val (.int (0 : Int32)), .val (.ref w2), .val (.long (5 : Int64)), .second, .val (.long (10 : Int64)), .second, .val (.long c5), .second, .unset, .unset, .unset, .unset] [(.long (((c5 - (1 : Int64)) / (5 : Int64)) * (5 : Int64)))]))
        exact J6 T14 X14 e14 (((c5 - (1 : Int64)) / (5 : Int64)) * (5 : Int64)) (Or.inr ⟨own_geL hr14_1_0, own_below5 _ hb5⟩)
    show own_Go p e below s _ _ _ (T4.setTop (mkF m 61 #[.val (.long p0), .second, .val (.int p1), .val (.int (0 : Int32)), .val (.ref w2), .val (.long (5 : Int64)), .second, .val (.long (10 : Int64)), .second, .unset, .unset, .unset, .unset, .unset, .unset] []))
    refine own_via (fun _ k => XS.iloadN X4.here hx rfl (hb hby at_61) rfl k) ?_
    show own_Go p e below s _ _ _ (T4.setTop (mkF m 62 #[.val (.long p0), .second, .val (.int p1), .val (.int (0 : Int32)), .val (.ref w2), .val (.long (5 : Int64)), .second, .val (.long (10 : Int64)), .second, .unset, .unset, .unset, .unset, .unset, .unset] [(.int p1)]))
    refine own_via (fun _ k => XS.iconst X4.here hx rfl (hb hby at_62) k) ?_
    show own_Go p e below s _ _ _ (T4.setTop (mkF m 63 #[.val (.long p0), .second, .val (.int p1), .val (.int (0 : Int32)), .val (.ref w2), .val (.long (5 : Int64)), .second, .val (.long (10 : Int64)), .second, .unset, .unset, .unset, .unset, .unset, .unset] [(.int (4 : Int32)), (.int p1)]))
    refine own_via (fun _ k => XS.iand X4.here hx rfl (hb hby at_63) rfl k) ?_
    show own_Go p e below s _ _ _ (T4.setTop (mkF m 64 #[.val (.long p0), .second, .val (.int p1), .val (.int (0 : Int32)), .val (.ref w2), .val (.long (5 : Int64)), .second, .val (.long (10 : Int64)), .second, .unset, .unset, .unset, .unset, .unset, .unset] [(.int (p1 &&& (4 : Int32)))]))
    by_cases hc15 : (p1 &&& (4 : Int32)) = (0 : Int32)
    · refine own_via (fun _ k => XS.ifYes X4.here hx rfl (pc0 := 64) (pc' := 77) rfl (hb hby at_64) rfl ((if0 _ _).trans (teq hc15).1) (by decide) (by decide) k) ?_
      show own_Go p e below s _ _ _ (T4.setTop (mkF m 77 #[.val (.long p0), .second, .val (.int p1), .val (.int (0 : Int32)), .val (.ref w2), .val (.long (5 : Int64)), .second, .val (.long (10 : Int64)), .second, .unset, .unset, .unset, .unset, .unset, .unset] []))
      refine own_via (fun _ k => XS.lconst X4.here hx rfl (hb hby at_77) k) ?_
      show own_Go p e below s _ _ _ (T4.setTop (mkF m 78 #[.val (.long p0), .second, .val (.int p1), .val (.int (0 : Int32)), .val (.ref w2), .val (.long (5 : Int64)), .second, .val (.long (10 : Int64)), .second, .unset, .unset, .unset, .unset, .unset, .unset] [(.long (1 : Int64))]))
      refine own_via (fun _ k => XS.lloadN X4.here hx rfl (hb hby at_78) rfl k) ?_
      show own_Go p e below s _ _ _ (T4.setTop (mkF m 79 #[.val (.long p0), .second, .val (.int p1), .val (.int (0 : Int32)), .val (.ref w2), .val (.long (5 : Int64)), .second, .val (.long (10 : Int64)), .second, .unset, .unset, .unset, .unset, .unset, .unset] [(.long p0), (.long (1 : Int64))]))
      refine own_via (fun _ k => X4.ldc2Long hx hown (mvT hZ (hw _ (List.mem_of_getElem? (i := 4) rfl))) (g := (mkF m 79 #[.val (.long p0), .second, .val (.int p1), .val (.int (0 : Int32)), .val (.ref w2), .val (.long (5 : Int64)), .second, .val (.long (10 : Int64)), .second, .unset, .unset, .unset, .unset, .unset, .unset] [(.long p0), (.long (1 : Int64))])) rfl (hb hby at_79) _ k) ?_
      show own_Go p e below s _ _ _ (T4.setTop (mkF m 82 #[.val (.long p0), .second, .val (.int p1), .val (.int (0 : Int32)), .val (.ref w2), .val (.long (5 : Int64)), .second, .val (.long (10 : Int64)), .second, .unset, .unset, .unset, .unset, .unset, .unset] [(.long (9223372036854775807 : Int64)), (.long p0), (.long (1 : Int64))]))
      refine own_via (fun _ k => XS.land X4.here hx rfl (hb hby at_82) rfl k) ?_
      show own_Go p e below s _ _ _ (T4.setTop (mkF m 83 #[.val (.long p0), .second, .val (.int p1), .val (.int (0 : Int32)), .val (.ref w2), .val (.long (5 : Int64)), .second, .val (.long (10 : Int64)), .second, .unset, .unset, .unset, .unset, .unset, .unset] [(.long (p0 &&& (9223372036854775807 : Int64))), (.long (1 : Int64))]))
      obtain ⟨_, _, ⟨T16, L16, k16, n16⟩, -, X16, ⟨Lc16, hQ16, l16, y16, z16⟩, st16⟩ := Jvm.LawKit.callS X4 hx (y := (⟨"java/lang/Math", "max", "(JJ)J"⟩ : MethodName)) hown (mvT hZ (hw _ (List.mem_of_getElem? (i := 5) rfl))) (mvT hZ (hw _ (List.mem_of_getElem? (i := 6) rfl))) (mvT hZ (hw _ (List.mem_of_getElem? (i := 7) rfl))) (mvT hZ (hw _ (List.mem_of_getElem? (i := 8) rfl))) (by decide) (backOf (W := 0) (rm1_0 l Z a0 hw [] (p0 &&& (9223372036854775807 : Int64)) w0 w1 w2 h0 n0 Z0 K0) hZ (hw _ (List.mem_of_getElem? (i := 8) rfl)) (hw _ (List.mem_of_getElem? (i := 7) rfl)) (by decide) (by decide)) (g := (mkF m 83 #[.val (.long p0), .second, .val (.int p1), .val (.int (0 : Int32)), .val (.ref w2), .val (.long (5 : Int64)), .second, .val (.long (10 : Int64)), .second, .unset, .unset, .unset, .unset, .unset, .unset] [(.long (p0 &&& (9223372036854775807 : Int64))), (.long (1 : Int64))])) rfl (by rw [hml]; rfl) (argsL := [(.long (1 : Int64)), (.long (p0 &&& (9223372036854775807 : Int64)))]) (rest := []) (lenOf pd1 rfl) rfl (by show 2 * 0 + _ ≤ _; exact Nat.le_of_eq rfl) (hb hby at_83) (fun _ _ => ⟨rfl, e4, (by decide : 0 + 0 ≤ _), (by decide : 0 + 0 ≤ _)⟩)
      dsimp only [Pt.U, Pt.locs, Pt.cells, Pt.slots] at X16 l16 y16 z16 st16 hQ16
      subst l16 y16 z16
      obtain ⟨rfl, e16, hO16⟩ := hQ16
      rcases hO16 with ⟨hr16_0_0, rfl⟩ | ⟨hr16_1_0, rfl⟩
      · refine own_via st16 ?_
        show own_Go p e below s _ _ _ (T16.setTop (mkF m 86 #[.val (.long p0), .second, .val (.int p1), .val (.int (0 : Int32)), .val (.ref w2), .val (.long (5 : Int64)), .second, .val (.long (10 : Int64)), .second, .unset, .unset, .unset, .unset, .unset, .unset] [(.long (p0 &&& (9223372036854775807 : Int64)))]))
        exact J5 T16 X16 e16 (p0 &&& (9223372036854775807 : Int64)) (own_lt1 hr16_0_0)
      · refine own_via st16 ?_
        show own_Go p e below s _ _ _ (T16.setTop (mkF m 86 #[.val (.long p0), .second, .val (.int p1), .val (.int (0 : Int32)), .val (.ref w2), .val (.long (5 : Int64)), .second, .val (.long (10 : Int64)), .second, .unset, .unset, .unset, .unset, .unset, .unset] [(.long (1 : Int64))]))
        exact J5 T16 X16 e16 (1 : Int64) (by decide)
    · refine own_via (fun _ k => XS.ifNo X4.here hx rfl (hb hby at_64) rfl ((if0 _ _).trans (feq hc15).1) k) ?_
      show own_Go p e below s _ _ _ (T4.setTop (mkF m 67 #[.val (.long p0), .second, .val (.int p1), .val (.int (0 : Int32)), .val (.ref w2), .val (.long (5 : Int64)), .second, .val (.long (10 : Int64)), .second, .unset, .unset, .unset, .unset, .unset, .unset] []))
      refine own_via (fun _ k => XS.lconst X4.here hx rfl (hb hby at_67) k) ?_
      show own_Go p e below s _ _ _ (T4.setTop (mkF m 68 #[.val (.long p0), .second, .val (.int p1), .val (.int (0 : Int32)), .val (.ref w2), .val (.long (5 : Int64)), .second, .val (.long (10 : Int64)), .second, .unset, .unset, .unset, .unset, .unset, .unset] [(.long (1 : Int64))]))
      refine own_via (fun _ k => XS.lloadN X4.here hx rfl (hb hby at_68) rfl k) ?_
      show own_Go p e below s _ _ _ (T4.setTop (mkF m 69 #[.val (.long p0), .second, .val (.int p1), .val (.int (0 : Int32)), .val (.ref w2), .val (.long (5 : Int64)), .second, .val (.long (10 : Int64)), .second, .unset, .unset, .unset, .unset, .unset, .unset] [(.long p0), (.long (1 : Int64))]))
      refine own_via (fun _ k => X4.ldc2Long hx hown (mvT hZ (hw _ (List.mem_of_getElem? (i := 21) rfl))) (g := (mkF m 69 #[.val (.long p0), .second, .val (.int p1), .val (.int (0 : Int32)), .val (.ref w2), .val (.long (5 : Int64)), .second, .val (.long (10 : Int64)), .second, .unset, .unset, .unset, .unset, .unset, .unset] [(.long p0), (.long (1 : Int64))])) rfl (hb hby at_69) _ k) ?_
      show own_Go p e below s _ _ _ (T4.setTop (mkF m 72 #[.val (.long p0), .second, .val (.int p1), .val (.int (0 : Int32)), .val (.ref w2), .val (.long (5 : Int64)), .second, .val (.long (10 : Int64)), .second, .unset, .unset, .unset, .unset, .unset, .unset] [(.long (1023 : Int64)), (.long p0), (.long (1 : Int64))]))
      refine own_via (fun _ k => XS.land X4.here hx rfl (hb hby at_72) rfl k) ?_
      show own_Go p e below s _ _ _ (T4.setTop (mkF m 73 #[.val (.long p0), .second, .val (.int p1), .val (.int (0 : Int32)), .val (.ref w2), .val (.long (5 : Int64)), .second, .val (.long (10 : Int64)), .second, .unset, .unset, .unset, .unset, .unset, .unset] [(.long (p0 &&& (1023 : Int64))), (.long (1 : Int64))]))
      refine own_via (fun _ k => XS.ladd X4.here hx rfl (hb hby at_73) rfl k) ?_
      show own_Go p e below s _ _ _ (T4.setTop (mkF m 74 #[.val (.long p0), .second, .val (.int p1), .val (.int (0 : Int32)), .val (.ref w2), .val (.long (5 : Int64)), .second, .val (.long (10 : Int64)), .second, .unset, .unset, .unset, .unset, .unset, .unset] [(.long ((1 : Int64) + (p0 &&& (1023 : Int64))))]))
      refine own_via (fun _ k => XS.goto X4.here hx rfl (pc0 := 74) (pc' := 86) rfl (hb hby at_74) (by decide) (by decide) k) ?_
      show own_Go p e below s _ _ _ (T4.setTop (mkF m 86 #[.val (.long p0), .second, .val (.int p1), .val (.int (0 : Int32)), .val (.ref w2), .val (.long (5 : Int64)), .second, .val (.long (10 : Int64)), .second, .unset, .unset, .unset, .unset, .unset, .unset] [(.long ((1 : Int64) + (p0 &&& (1023 : Int64))))]))
      exact J5 T4 X4 e4 ((1 : Int64) + (p0 &&& (1023 : Int64))) (own_c86 _)
  · rw [hk2]
    show own_Go p e below s _ _ _ (s₁.setTop (mkF m 6 #[.val (.long p0), .second, .val (.int p1), .unset, .unset, .unset, .unset, .unset, .unset, .unset, .unset, .unset, .unset, .unset, .unset] [(.int (1 : Int32))]))
    refine own_via (fun _ k => XS.istoreN X0.here hx rfl (hb hby at_6) rfl (l' := #[.val (.long p0), .second, .val (.int p1), .val (.int (1 : Int32)), .unset, .unset, .unset, .unset, .unset, .unset, .unset, .unset, .unset, .unset, .unset]) rfl k) ?_
    show own_Go p e below s _ _ _ (s₁.setTop (mkF m 7 #[.val (.long p0), .second, .val (.int p1), .val (.int (1 : Int32)), .unset, .unset, .unset, .unset, .unset, .unset, .unset, .unset, .unset, .unset, .unset] []))
    refine own_via (fun _ k => XS.iloadN X0.here hx rfl (hb hby at_7) rfl k) ?_
    show own_Go p e below s _ _ _ (s₁.setTop (mkF m 8 #[.val (.long p0), .second, .val (.int p1), .val (.int (1 : Int32)), .unset, .unset, .unset, .unset, .unset, .unset, .unset, .unset, .unset, .unset, .unset] [(.int (1 : Int32))]))
    refine own_via (fun _ k => XS.ifYes X0.here hx rfl (pc0 := 8) (pc' := 29) rfl (hb hby at_8) rfl ((if0 _ _).trans (feq (by decide : ¬ ((1 : Int32) = (0 : Int32)))).2) (by decide) (by decide) k) ?_
    show own_Go p e below s _ _ _ (s₁.setTop (mkF m 29 #[.val (.long p0), .second, .val (.int p1), .val (.int (1 : Int32)), .unset, .unset, .unset, .unset, .unset, .unset, .unset, .unset, .unset, .unset, .unset] []))
    refine own_via (fun _ k => XS.iloadN X0.here hx rfl (hb hby at_29) rfl k) ?_
    show own_Go p e below s _ _ _ (s₁.setTop (mkF m 30 #[.val (.long p0), .second, .val (.int p1), .val (.int (1 : Int32)), .unset, .unset, .unset, .unset, .unset, .unset, .unset, .unset, .unset, .unset, .unset] [(.int (1 : Int32))]))
    refine own_via (fun _ k => XS.iconst X0.here hx rfl (hb hby at_30) k) ?_
    show own_Go p e below s _ _ _ (s₁.setTop (mkF m 31 #[.val (.long p0), .second, .val (.int p1), .val (.int (1 : Int32)), .unset, .unset, .unset, .unset, .unset, .unset, .unset, .unset, .unset, .unset, .unset] [(.int (1 : Int32)), (.int (1 : Int32))]))
    refine own_via (fun _ k => XS.icmpNo X0.here hx rfl (hb hby at_31) rfl (teq (by decide : (1 : Int32) = (1 : Int32))).2 k) ?_
    show own_Go p e below s _ _ _ (s₁.setTop (mkF m 34 #[.val (.long p0), .second, .val (.int p1), .val (.int (1 : Int32)), .unset, .unset, .unset, .unset, .unset, .unset, .unset, .unset, .unset, .unset, .unset] []))
    obtain ⟨T17, X17, e17, st17⟩ := getS2 X0 hx hZ hown (host := "") (Or.inl (hw _ (List.mem_of_getElem? (i := 18) rfl))) Via.refl e0 S_w1 (g := (mkF m 34 #[.val (.long p0), .second, .val (.int p1), .val (.int (1 : Int32)), .unset, .unset, .unset, .unset, .unset, .unset, .unset, .unset, .unset, .unset, .unset] [])) rfl (hb hby at_34)
    refine own_via st17 ?_
    show own_Go p e below s _ _ _ (T17.setTop (mkF m 37 #[.val (.long p0), .second, .val (.int p1), .val (.int (1 : Int32)), .unset, .unset, .unset, .unset, .unset, .unset, .unset, .unset, .unset, .unset, .unset] [(.ref w1)]))
    refine own_via (fun _ k => XS.astore X17.here hx rfl (hb hby at_37) rfl rfl (l' := #[.val (.long p0), .second, .val (.int p1), .val (.int (1 : Int32)), .val (.ref w1), .unset, .unset, .unset, .unset, .unset, .unset, .unset, .unset, .unset, .unset]) rfl k) ?_
    show own_Go p e below s _ _ _ (T17.setTop (mkF m 39 #[.val (.long p0), .second, .val (.int p1), .val (.int (1 : Int32)), .val (.ref w1), .unset, .unset, .unset, .unset, .unset, .unset, .unset, .unset, .unset, .unset] []))
    refine own_via (fun _ k => XS.lconst X17.here hx rfl (hb hby at_39) k) ?_
    show own_Go p e below s _ _ _ (T17.setTop (mkF m 40 #[.val (.long p0), .second, .val (.int p1), .val (.int (1 : Int32)), .val (.ref w1), .unset, .unset, .unset, .unset, .unset, .unset, .unset, .unset, .unset, .unset] [(.long (1 : Int64))]))
    refine own_via (fun _ k => XS.lstore X17.here hx rfl (hb hby at_40) rfl (l' := #[.val (.long p0), .second, .val (.int p1), .val (.int (1 : Int32)), .val (.ref w1), .val (.long (1 : Int64)), .second, .unset, .unset, .unset, .unset, .unset, .unset, .unset, .unset]) rfl k) ?_
    show own_Go p e below s _ _ _ (T17.setTop (mkF m 42 #[.val (.long p0), .second, .val (.int p1), .val (.int (1 : Int32)), .val (.ref w1), .val (.long (1 : Int64)), .second, .unset, .unset, .unset, .unset, .unset, .unset, .unset, .unset] []))
    refine own_via (fun _ k => X17.ldc2Long hx hown (mvT hZ (hw _ (List.mem_of_getElem? (i := 20) rfl))) (g := (mkF m 42 #[.val (.long p0), .second, .val (.int p1), .val (.int (1 : Int32)), .val (.ref w1), .val (.long (1 : Int64)), .second, .unset, .unset, .unset, .unset, .unset, .unset, .unset, .unset] [])) rfl (hb hby at_42) _ k) ?_
    show own_Go p e below s _ _ _ (T17.setTop (mkF m 45 #[.val (.long p0), .second, .val (.int p1), .val (.int (1 : Int32)), .val (.ref w1), .val (.long (1 : Int64)), .second, .unset, .unset, .unset, .unset, .unset, .unset, .unset, .unset] [(.long (5 : Int64))]))
    refine own_via (fun _ k => XS.lstore X17.here hx rfl (hb hby at_45) rfl (l' := #[.val (.long p0), .second, .val (.int p1), .val (.int (1 : Int32)), .val (.ref w1), .val (.long (1 : Int64)), .second, .val (.long (5 : Int64)), .second, .unset, .unset, .unset, .unset, .unset, .unset]) rfl k) ?_
    show own_Go p e below s _ _ _ (T17.setTop (mkF m 47 #[.val (.long p0), .second, .val (.int p1), .val (.int (1 : Int32)), .val (.ref w1), .val (.long (1 : Int64)), .second, .val (.long (5 : Int64)), .second, .unset, .unset, .unset, .unset, .unset, .unset] []))
    refine own_via (fun _ k => XS.goto X17.here hx rfl (pc0 := 47) (pc' := 61) rfl (hb hby at_47) (by decide) (by decide) k) ?_
    have J18 : ∀ (T18 : State) (X18 : Stand p l e room_1 s m #[(.long p0), (.int p1)] below meth c T18 [] 0 0) (e18 : T18.heap = h0) (c18 : Int64) (hb18 : 1 ≤ c18.toInt), own_Go p e below s (Q0 n0) 0 0 (T18.setTop (mkF m 86 #[.val (.long p0), .second, .val (.int p1), .val (.int (1 : Int32)), .val (.ref w1), .val (.long (1 : Int64)), .second, .val (.long (5 : Int64)), .second, .unset, .unset, .unset, .unset, .unset, .unset] [(.long c18)])) := by
      intro T18 X18 e18 c18 hb18
      show own_Go p e below s _ _ _ (T18.setTop (mkF m 86 #[.val (.long p0), .second, .val (.int p1), .val (.int (1 : Int32)), .val (.ref w1), .val (.long (1 : Int64)), .second, .val (.long (5 : Int64)), .second, .unset, .unset, .unset, .unset, .unset, .unset] [(.long c18)]))
      refine own_via (fun _ k => XS.lstore X18.here hx rfl (hb hby at_86) rfl (l' := #[.val (.long p0), .second, .val (.int p1), .val (.int (1 : Int32)), .val (.ref w1), .val (.long (1 : Int64)), .second, .val (.long (5 : Int64)), .second, .val (.long c18), .second, .unset, .unset, .unset, .unset]) rfl k) ?_
      have J19 : ∀ (T19 : State) (X19 : Stand p l e room_1 s m #[(.long p0), (.int p1)] below meth c T19 [] 0 0) (e19 : T19.heap = h0) (r19 : Int64) (hb19 : (300 < c18.toInt ∧ r19.toInt = ((c18.toInt - 1) / 5) * 5) ∨ (c18.toInt ≤ 300 ∧ r19.toInt = ((c18.toInt - 1) / 1) * 1)), own_Go p e below s (Q0 n0) 0 0 (T19.setTop (mkF m 95 #[.val (.long p0), .second, .val (.int p1), .val (.int (1 : Int32)), .val (.ref w1), .val (.long (1 : Int64)), .second, .val (.long (5 : Int64)), .second, .val (.long c18), .second, .unset, .unset, .unset, .unset] [(.long r19)])) := by
        intro T19 X19 e19 r19 hb19
        show own_Go p e below s _ _ _ (T19.setTop (mkF m 95 #[.val (.long p0), .second, .val (.int p1), .val (.int (1 : Int32)), .val (.ref w1), .val (.long (1 : Int64)), .second, .val (.long (5 : Int64)), .second, .val (.long c18), .second, .unset, .unset, .unset, .unset] [(.long r19)]))
        refine own_via (fun _ k => XS.lstore X19.here hx rfl (hb hby at_95) rfl (l' := #[.val (.long p0), .second, .val (.int p1), .val (.int (1 : Int32)), .val (.ref w1), .val (.long (1 : Int64)), .second, .val (.long (5 : Int64)), .second, .val (.long c18), .second, .val (.long r19), .second, .unset, .unset]) rfl k) ?_
        show own_Go p e below s _ _ _ (T19.setTop (mkF m 97 #[.val (.long p0), .second, .val (.int p1), .val (.int (1 : Int32)), .val (.ref w1), .val (.long (1 : Int64)), .second, .val (.long (5 : Int64)), .second, .val (.long c18), .second, .val (.long r19), .second, .unset, .unset] []))
        refine own_via (fun _ k => XS.lload X19.here hx rfl (hb hby at_97) rfl k) ?_
        show own_Go p e below s _ _ _ (T19.setTop (mkF m 99 #[.val (.long p0), .second, .val (.int p1), .val (.int (1 : Int32)), .val (.ref w1), .val (.long (1 : Int64)), .second, .val (.long (5 : Int64)), .second, .val (.long c18), .second, .val (.long r19), .second, .unset, .unset] [(.long r19)]))
        refine own_via (fun _ k => XS.lconst X19.here hx rfl (hb hby at_99) k) ?_
        show own_Go p e below s _ _ _ (T19.setTop (mkF m 100 #[.val (.long p0), .second, .val (.int p1), .val (.int (1 : Int32)), .val (.ref w1), .val (.long (1 : Int64)), .second, .val (.long (5 : Int64)), .second, .val (.long c18), .second, .val (.long r19), .second, .unset, .unset] [(.long (0 : Int64)), (.long r19)]))
        refine own_via (fun _ k => XS.lcmp X19.here hx rfl (hb hby at_100) rfl k) ?_
        show own_Go p e below s _ _ _ (T19.setTop (mkF m 101 #[.val (.long p0), .second, .val (.int p1), .val (.int (1 : Int32)), .val (.ref w1), .val (.long (1 : Int64)), .second, .val (.long (5 : Int64)), .second, .val (.long c18), .second, .val (.long r19), .second, .unset, .unset] [(.int (lcmpW r19 (0 : Int64)))]))
        by_cases hc20 : r19 < (0 : Int64)
        · exfalso
          have ar0 := rng64 r19
          simp only [Int64.lt_iff_toInt_lt, ← Int64.toInt_inj, Int32.lt_iff_toInt_lt, ← Int32.toInt_inj, (show (0 : Int64).toInt = 0 from rfl)] at hc20 ar0
          omega
        · refine own_via (fun _ k => XS.ifNo X19.here hx rfl (hb hby at_101) rfl ((if0 _ _).trans (flt (mt (lw_lt r19 (0 : Int64)).mp hc20)).1) k) ?_
          show own_Go p e below s _ _ _ (T19.setTop (mkF m 104 #[.val (.long p0), .second, .val (.int p1), .val (.int (1 : Int32)), .val (.ref w1), .val (.long (1 : Int64)), .second, .val (.long (5 : Int64)), .second, .val (.long c18), .second, .val (.long r19), .second, .unset, .unset] []))
          refine own_via (fun _ k => XS.lload X19.here hx rfl (hb hby at_104) rfl k) ?_
          show own_Go p e below s _ _ _ (T19.setTop (mkF m 106 #[.val (.long p0), .second, .val (.int p1), .val (.int (1 : Int32)), .val (.ref w1), .val (.long (1 : Int64)), .second, .val (.long (5 : Int64)), .second, .val (.long c18), .second, .val (.long r19), .second, .unset, .unset] [(.long r19)]))
          refine own_via (fun _ k => XS.lload X19.here hx rfl (hb hby at_106) rfl k) ?_
          show own_Go p e below s _ _ _ (T19.setTop (mkF m 108 #[.val (.long p0), .second, .val (.int p1), .val (.int (1 : Int32)), .val (.ref w1), .val (.long (1 : Int64)), .second, .val (.long (5 : Int64)), .second, .val (.long c18), .second, .val (.long r19), .second, .unset, .unset] [(.long c18), (.long r19)]))
          refine own_via (fun _ k => XS.lcmp X19.here hx rfl (hb hby at_108) rfl k) ?_
          show own_Go p e below s _ _ _ (T19.setTop (mkF m 109 #[.val (.long p0), .second, .val (.int p1), .val (.int (1 : Int32)), .val (.ref w1), .val (.long (1 : Int64)), .second, .val (.long (5 : Int64)), .second, .val (.long c18), .second, .val (.long r19), .second, .unset, .unset] [(.int (lcmpW r19 c18))]))
          by_cases hc21 : r19 < c18
          · refine own_via (fun _ k => XS.ifYes X19.here hx rfl (pc0 := 109) (pc' := 114) rfl (hb hby at_109) rfl ((if0 _ _).trans (tlt ((lw_lt r19 c18).mpr hc21)).1) (by decide) (by decide) k) ?_
            show own_Go p e below s _ _ _ (T19.setTop (mkF m 114 #[.val (.long p0), .second, .val (.int p1), .val (.int (1 : Int32)), .val (.ref w1), .val (.long (1 : Int64)), .second, .val (.long (5 : Int64)), .second, .val (.long c18), .second, .val (.long r19), .second, .unset, .unset] []))
            refine own_via (fun _ k => XS.lload X19.here hx rfl (hb hby at_114) rfl k) ?_
            show own_Go p e below s _ _ _ (T19.setTop (mkF m 116 #[.val (.long p0), .second, .val (.int p1), .val (.int (1 : Int32)), .val (.ref w1), .val (.long (1 : Int64)), .second, .val (.long (5 : Int64)), .second, .val (.long c18), .second, .val (.long r19), .second, .unset, .unset] [(.long r19)]))
            refine own_via (fun _ k => X19.ldc2Long hx hown (mvT hZ (hw _ (List.mem_of_getElem? (i := 17) rfl))) (g := (mkF m 116 #[.val (.long p0), .second, .val (.int p1), .val (.int (1 : Int32)), .val (.ref w1), .val (.long (1 : Int64)), .second, .val (.long (5 : Int64)), .second, .val (.long c18), .second, .val (.long r19), .second, .unset, .unset] [(.long r19)])) rfl (hb hby at_116) _ k) ?_
            show own_Go p e below s _ _ _ (T19.setTop (mkF m 119 #[.val (.long p0), .second, .val (.int p1), .val (.int (1 : Int32)), .val (.ref w1), .val (.long (1 : Int64)), .second, .val (.long (5 : Int64)), .second, .val (.long c18), .second, .val (.long r19), .second, .unset, .unset] [(.long (300 : Int64)), (.long r19)]))
            refine own_via (fun _ k => XS.lcmp X19.here hx rfl (hb hby at_119) rfl k) ?_
            show own_Go p e below s _ _ _ (T19.setTop (mkF m 120 #[.val (.long p0), .second, .val (.int p1), .val (.int (1 : Int32)), .val (.ref w1), .val (.long (1 : Int64)), .second, .val (.long (5 : Int64)), .second, .val (.long c18), .second, .val (.long r19), .second, .unset, .unset] [(.int (lcmpW r19 (300 : Int64)))]))
            by_cases hc22 : r19 < (300 : Int64)
            · refine own_via (fun _ k => XS.ifNo X19.here hx rfl (hb hby at_120) rfl ((if0 _ _).trans (tlt ((lw_lt r19 (300 : Int64)).mpr hc22)).2.1) k) ?_
              show own_Go p e below s _ _ _ (T19.setTop (mkF m 123 #[.val (.long p0), .second, .val (.int p1), .val (.int (1 : Int32)), .val (.ref w1), .val (.long (1 : Int64)), .second, .val (.long (5 : Int64)), .second, .val (.long c18), .second, .val (.long r19), .second, .unset, .unset] []))
              refine own_via (fun _ k => XS.lload X19.here hx rfl (hb hby at_123) rfl k) ?_
              show own_Go p e below s _ _ _ (T19.setTop (mkF m 125 #[.val (.long p0), .second, .val (.int p1), .val (.int (1 : Int32)), .val (.ref w1), .val (.long (1 : Int64)), .second, .val (.long (5 : Int64)), .second, .val (.long c18), .second, .val (.long r19), .second, .unset, .unset] [(.long (1 : Int64))]))
              refine own_via (fun _ k => XS.goto X19.here hx rfl (pc0 := 125) (pc' := 130) rfl (hb hby at_125) (by decide) (by decide) k) ?_
              show own_Go p e below s _ _ _ (T19.setTop (mkF m 130 #[.val (.long p0), .second, .val (.int p1), .val (.int (1 : Int32)), .val (.ref w1), .val (.long (1 : Int64)), .second, .val (.long (5 : Int64)), .second, .val (.long c18), .second, .val (.long r19), .second, .unset, .unset] [(.long (1 : Int64))]))
              refine own_via (fun _ k => XS.lstore X19.here hx rfl (hb hby at_130) rfl (l' := #[.val (.long p0), .second, .val (.int p1), .val (.int (1 : Int32)), .val (.ref w1), .val (.long (1 : Int64)), .second, .val (.long (5 : Int64)), .second, .val (.long c18), .second, .val (.long r19), .second, .val (.long (1 : Int64)), .second]) rfl k) ?_
              show own_Go p e below s _ _ _ (T19.setTop (mkF m 132 #[.val (.long p0), .second, .val (.int p1), .val (.int (1 : Int32)), .val (.ref w1), .val (.long (1 : Int64)), .second, .val (.long (5 : Int64)), .second, .val (.long c18), .second, .val (.long r19), .second, .val (.long (1 : Int64)), .second] []))
              refine own_via (fun _ k => XS.lload X19.here hx rfl (hb hby at_132) rfl k) ?_
              show own_Go p e below s _ _ _ (T19.setTop (mkF m 134 #[.val (.long p0), .second, .val (.int p1), .val (.int (1 : Int32)), .val (.ref w1), .val (.long (1 : Int64)), .second, .val (.long (5 : Int64)), .second, .val (.long c18), .second, .val (.long r19), .second, .val (.long (1 : Int64)), .second] [(.long r19)]))
              refine own_via (fun _ k => XS.lload X19.here hx rfl (hb hby at_134) rfl k) ?_
              show own_Go p e below s _ _ _ (T19.setTop (mkF m 136 #[.val (.long p0), .second, .val (.int p1), .val (.int (1 : Int32)), .val (.ref w1), .val (.long (1 : Int64)), .second, .val (.long (5 : Int64)), .second, .val (.long c18), .second, .val (.long r19), .second, .val (.long (1 : Int64)), .second] [(.long (1 : Int64)), (.long r19)]))
              refine own_via (fun _ k => XS.lrem X19.here hx rfl (hb hby at_136) rfl (by decide : ¬ ((1 : Int64) = (0 : Int64))) k) ?_
              show own_Go p e below s _ _ _ (T19.setTop (mkF m 137 #[.val (.long p0), .second, .val (.int p1), .val (.int (1 : Int32)), .val (.ref w1), .val (.long (1 : Int64)), .second, .val (.long (5 : Int64)), .second, .val (.long c18), .second, .val (.long r19), .second, .val (.long (1 : Int64)), .second] [(.long (r19 - (r19 / (1 : Int64)) * (1 : Int64)))]))
              refine own_via (fun _ k => XS.lconst X19.here hx rfl (hb hby at_137) k) ?_
              show own_Go p e below s _ _ _ (T19.setTop (mkF m 138 #[.val (.long p0), .second, .val (.int p1), .val (.int (1 : Int32)), .val (.ref w1), .val (.long (1 : Int64)), .second, .val (.long (5 : Int64)), .second, .val (.long c18), .second, .val (.long r19), .second, .val (.long (1 : Int64)), .second] [(.long (0 : Int64)), (.long (r19 - (r19 / (1 : Int64)) * (1 : Int64)))]))
              refine own_via (fun _ k => XS.lcmp X19.here hx rfl (hb hby at_138) rfl k) ?_
              show own_Go p e below s _ _ _ (T19.setTop (mkF m 139 #[.val (.long p0), .second, .val (.int p1), .val (.int (1 : Int32)), .val (.ref w1), .val (.long (1 : Int64)), .second, .val (.long (5 : Int64)), .second, .val (.long c18), .second, .val (.long r19), .second, .val (.long (1 : Int64)), .second] [(.int (lcmpW (r19 - (r19 / (1 : Int64)) * (1 : Int64)) (0 : Int64)))]))
              by_cases hc23 : (r19 - (r19 / (1 : Int64)) * (1 : Int64)) = (0 : Int64)
              · refine own_via (fun _ k => XS.ifNo X19.here hx rfl (hb hby at_139) rfl ((if0 _ _).trans (teq ((lw_eq (r19 - (r19 / (1 : Int64)) * (1 : Int64)) (0 : Int64)).mpr hc23)).2) k) ?_
                show own_Go p e below s _ _ _ (T19.setTop (mkF m 142 #[.val (.long p0), .second, .val (.int p1), .val (.int (1 : Int32)), .val (.ref w1), .val (.long (1 : Int64)), .second, .val (.long (5 : Int64)), .second, .val (.long c18), .second, .val (.long r19), .second, .val (.long (1 : Int64)), .second] []))
                refine own_via (fun _ k => XS.lload X19.here hx rfl (hb hby at_142) rfl k) ?_
                show own_Go p e below s _ _ _ (T19.setTop (mkF m 144 #[.val (.long p0), .second, .val (.int p1), .val (.int (1 : Int32)), .val (.ref w1), .val (.long (1 : Int64)), .second, .val (.long (5 : Int64)), .second, .val (.long c18), .second, .val (.long r19), .second, .val (.long (1 : Int64)), .second] [(.long c18)]))
                refine own_via (fun _ k => XS.lload X19.here hx rfl (hb hby at_144) rfl k) ?_
                show own_Go p e below s _ _ _ (T19.setTop (mkF m 146 #[.val (.long p0), .second, .val (.int p1), .val (.int (1 : Int32)), .val (.ref w1), .val (.long (1 : Int64)), .second, .val (.long (5 : Int64)), .second, .val (.long c18), .second, .val (.long r19), .second, .val (.long (1 : Int64)), .second] [(.long r19), (.long c18)]))
                refine own_via (fun _ k => XS.lsub X19.here hx rfl (hb hby at_146) rfl k) ?_
                show own_Go p e below s _ _ _ (T19.setTop (mkF m 147 #[.val (.long p0), .second, .val (.int p1), .val (.int (1 : Int32)), .val (.ref w1), .val (.long (1 : Int64)), .second, .val (.long (5 : Int64)), .second, .val (.long c18), .second, .val (.long r19), .second, .val (.long (1 : Int64)), .second] [(.long (c18 - r19))]))
                refine own_via (fun _ k => XS.lload X19.here hx rfl (hb hby at_147) rfl k) ?_
                show own_Go p e below s _ _ _ (T19.setTop (mkF m 149 #[.val (.long p0), .second, .val (.int p1), .val (.int (1 : Int32)), .val (.ref w1), .val (.long (1 : Int64)), .second, .val (.long (5 : Int64)), .second, .val (.long c18), .second, .val (.long r19), .second, .val (.long (1 : Int64)), .second] [(.long (1 : Int64)), (.long (c18 - r19))]))
                refine own_via (fun _ k => XS.lcmp X19.here hx rfl (hb hby at_149) rfl k) ?_
                show own_Go p e below s _ _ _ (T19.setTop (mkF m 150 #[.val (.long p0), .second, .val (.int p1), .val (.int (1 : Int32)), .val (.ref w1), .val (.long (1 : Int64)), .second, .val (.long (5 : Int64)), .second, .val (.long c18), .second, .val (.long r19), .second, .val (.long (1 : Int64)), .second] [(.int (lcmpW (c18 - r19) (1 : Int64)))]))
                by_cases hc24 : (1 : Int64) < (c18 - r19)
                · exfalso
                  have ar0 := rng64 r19
                  have ar1 := rng64 c18
                  have ar2 := c_lrem r19 (1 : Int64) 1 rfl
                  have ar3 := rng64 (r19 - (r19 / (1 : Int64)) * (1 : Int64))
                  have ar4 := c_lsub c18 r19
                  have ar5 := rng64 (c18 - r19)
                  simp only [Int64.lt_iff_toInt_lt, ← Int64.toInt_inj, Int32.lt_iff_toInt_lt, ← Int32.toInt_inj, (show (0 : Int64).toInt = 0 from rfl), (show (1 : Int64).toInt = 1 from rfl), (show (300 : Int64).toInt = 300 from rfl)] at hc20 hc21 hc22 hc23 hc24 ar0 ar1 ar2 ar3 ar4 ar5
                  omega
                · refine own_via (fun _ k => XS.ifNo X19.here hx rfl (hb hby at_150) rfl ((if0 _ _).trans (flt (mt (lw_gt (c18 - r19) (1 : Int64)).mp hc24)).2.2.1) k) ?_
                  show own_Go p e below s _ _ _ (T19.setTop (mkF m 153 #[.val (.long p0), .second, .val (.int p1), .val (.int (1 : Int32)), .val (.ref w1), .val (.long (1 : Int64)), .second, .val (.long (5 : Int64)), .second, .val (.long c18), .second, .val (.long r19), .second, .val (.long (1 : Int64)), .second] []))
                  refine own_via (fun _ k => XS.iconst X19.here hx rfl (hb hby at_153) k) ?_
                  show own_Go p e below s _ _ _ (T19.setTop (mkF m 154 #[.val (.long p0), .second, .val (.int p1), .val (.int (1 : Int32)), .val (.ref w1), .val (.long (1 : Int64)), .second, .val (.long (5 : Int64)), .second, .val (.long c18), .second, .val (.long r19), .second, .val (.long (1 : Int64)), .second] [(.int (1 : Int32))]))
                  refine own_via (fun _ k => XS.goto X19.here hx rfl (pc0 := 154) (pc' := 158) rfl (hb hby at_154) (by decide) (by decide) k) ?_
                  show own_Go p e below s _ _ _ (T19.setTop (mkF m 158 #[.val (.long p0), .second, .val (.int p1), .val (.int (1 : Int32)), .val (.ref w1), .val (.long (1 : Int64)), .second, .val (.long (5 : Int64)), .second, .val (.long c18), .second, .val (.long r19), .second, .val (.long (1 : Int64)), .second] [(.int (1 : Int32))]))
                  exact own_retZ X19 hx hlk (t := .boolean) Bd.returns (by simp) (hb hby at_158) (z' := (1 : Int32)) (by first | rfl | decide) ⟨rfl, (Fr.nil n0)⟩ (by decide) (by decide)
              · exfalso
                have ar0 := rng64 r19
                have ar1 := rng64 c18
                have ar2 := c_lrem r19 (1 : Int64) 1 rfl
                have ar3 := rng64 (r19 - (r19 / (1 : Int64)) * (1 : Int64))
                simp only [Int64.lt_iff_toInt_lt, ← Int64.toInt_inj, Int32.lt_iff_toInt_lt, ← Int32.toInt_inj, (show (0 : Int64).toInt = 0 from rfl), (show (1 : Int64).toInt = 1 from rfl), (show (300 : Int64).toInt = 300 from rfl)] at hc20 hc21 hc22 hc23 ar0 ar1 ar2 ar3
                omega
            · refine own_via (fun _ k => XS.ifYes X19.here hx rfl (pc0 := 120) (pc' := 128) rfl (hb hby at_120) rfl ((if0 _ _).trans (flt (mt (lw_lt r19 (300 : Int64)).mp hc22)).2.1) (by decide) (by decide) k) ?_
              show own_Go p e below s _ _ _ (T19.setTop (mkF m 128 #[.val (.long p0), .second, .val (.int p1), .val (.int (1 : Int32)), .val (.ref w1), .val (.long (1 : Int64)), .second, .val (.long (5 : Int64)), .second, .val (.long c18), .second, .val (.long r19), .second, .unset, .unset] []))
              refine own_via (fun _ k => XS.lload X19.here hx rfl (hb hby at_128) rfl k) ?_
              show own_Go p e below s _ _ _ (T19.setTop (mkF m 130 #[.val (.long p0), .second, .val (.int p1), .val (.int (1 : Int32)), .val (.ref w1), .val (.long (1 : Int64)), .second, .val (.long (5 : Int64)), .second, .val (.long c18), .second, .val (.long r19), .second, .unset, .unset] [(.long (5 : Int64))]))
              refine own_via (fun _ k => XS.lstore X19.here hx rfl (hb hby at_130) rfl (l' := #[.val (.long p0), .second, .val (.int p1), .val (.int (1 : Int32)), .val (.ref w1), .val (.long (1 : Int64)), .second, .val (.long (5 : Int64)), .second, .val (.long c18), .second, .val (.long r19), .second, .val (.long (5 : Int64)), .second]) rfl k) ?_
              show own_Go p e below s _ _ _ (T19.setTop (mkF m 132 #[.val (.long p0), .second, .val (.int p1), .val (.int (1 : Int32)), .val (.ref w1), .val (.long (1 : Int64)), .second, .val (.long (5 : Int64)), .second, .val (.long c18), .second, .val (.long r19), .second, .val (.long (5 : Int64)), .second] []))
              refine own_via (fun _ k => XS.lload X19.here hx rfl (hb hby at_132) rfl k) ?_
              show own_Go p e below s _ _ _ (T19.setTop (mkF m 134 #[.val (.long p0), .second, .val (.int p1), .val (.int (1 : Int32)), .val (.ref w1), .val (.long (1 : Int64)), .second, .val (.long (5 : Int64)), .second, .val (.long c18), .second, .val (.long r19), .second, .val (.long (5 : Int64)), .second] [(.long r19)]))
              refine own_via (fun _ k => XS.lload X19.here hx rfl (hb hby at_134) rfl k) ?_
              show own_Go p e below s _ _ _ (T19.setTop (mkF m 136 #[.val (.long p0), .second, .val (.int p1), .val (.int (1 : Int32)), .val (.ref w1), .val (.long (1 : Int64)), .second, .val (.long (5 : Int64)), .second, .val (.long c18), .second, .val (.long r19), .second, .val (.long (5 : Int64)), .second] [(.long (5 : Int64)), (.long r19)]))
              refine own_via (fun _ k => XS.lrem X19.here hx rfl (hb hby at_136) rfl (by decide : ¬ ((5 : Int64) = (0 : Int64))) k) ?_
              show own_Go p e below s _ _ _ (T19.setTop (mkF m 137 #[.val (.long p0), .second, .val (.int p1), .val (.int (1 : Int32)), .val (.ref w1), .val (.long (1 : Int64)), .second, .val (.long (5 : Int64)), .second, .val (.long c18), .second, .val (.long r19), .second, .val (.long (5 : Int64)), .second] [(.long (r19 - (r19 / (5 : Int64)) * (5 : Int64)))]))
              refine own_via (fun _ k => XS.lconst X19.here hx rfl (hb hby at_137) k) ?_
              show own_Go p e below s _ _ _ (T19.setTop (mkF m 138 #[.val (.long p0), .second, .val (.int p1), .val (.int (1 : Int32)), .val (.ref w1), .val (.long (1 : Int64)), .second, .val (.long (5 : Int64)), .second, .val (.long c18), .second, .val (.long r19), .second, .val (.long (5 : Int64)), .second] [(.long (0 : Int64)), (.long (r19 - (r19 / (5 : Int64)) * (5 : Int64)))]))
              refine own_via (fun _ k => XS.lcmp X19.here hx rfl (hb hby at_138) rfl k) ?_
              show own_Go p e below s _ _ _ (T19.setTop (mkF m 139 #[.val (.long p0), .second, .val (.int p1), .val (.int (1 : Int32)), .val (.ref w1), .val (.long (1 : Int64)), .second, .val (.long (5 : Int64)), .second, .val (.long c18), .second, .val (.long r19), .second, .val (.long (5 : Int64)), .second] [(.int (lcmpW (r19 - (r19 / (5 : Int64)) * (5 : Int64)) (0 : Int64)))]))
              by_cases hc25 : (r19 - (r19 / (5 : Int64)) * (5 : Int64)) = (0 : Int64)
              · refine own_via (fun _ k => XS.ifNo X19.here hx rfl (hb hby at_139) rfl ((if0 _ _).trans (teq ((lw_eq (r19 - (r19 / (5 : Int64)) * (5 : Int64)) (0 : Int64)).mpr hc25)).2) k) ?_
                show own_Go p e below s _ _ _ (T19.setTop (mkF m 142 #[.val (.long p0), .second, .val (.int p1), .val (.int (1 : Int32)), .val (.ref w1), .val (.long (1 : Int64)), .second, .val (.long (5 : Int64)), .second, .val (.long c18), .second, .val (.long r19), .second, .val (.long (5 : Int64)), .second] []))
                refine own_via (fun _ k => XS.lload X19.here hx rfl (hb hby at_142) rfl k) ?_
                show own_Go p e below s _ _ _ (T19.setTop (mkF m 144 #[.val (.long p0), .second, .val (.int p1), .val (.int (1 : Int32)), .val (.ref w1), .val (.long (1 : Int64)), .second, .val (.long (5 : Int64)), .second, .val (.long c18), .second, .val (.long r19), .second, .val (.long (5 : Int64)), .second] [(.long c18)]))
                refine own_via (fun _ k => XS.lload X19.here hx rfl (hb hby at_144) rfl k) ?_
                show own_Go p e below s _ _ _ (T19.setTop (mkF m 146 #[.val (.long p0), .second, .val (.int p1), .val (.int (1 : Int32)), .val (.ref w1), .val (.long (1 : Int64)), .second, .val (.long (5 : Int64)), .second, .val (.long c18), .second, .val (.long r19), .second, .val (.long (5 : Int64)), .second] [(.long r19), (.long c18)]))
                refine own_via (fun _ k => XS.lsub X19.here hx rfl (hb hby at_146) rfl k) ?_
                show own_Go p e below s _ _ _ (T19.setTop (mkF m 147 #[.val (.long p0), .second, .val (.int p1), .val (.int (1 : Int32)), .val (.ref w1), .val (.long (1 : Int64)), .second, .val (.long (5 : Int64)), .second, .val (.long c18), .second, .val (.long r19), .second, .val (.long (5 : Int64)), .second] [(.long (c18 - r19))]))
                refine own_via (fun _ k => XS.lload X19.here hx rfl (hb hby at_147) rfl k) ?_
                show own_Go p e below s _ _ _ (T19.setTop (mkF m 149 #[.val (.long p0), .second, .val (.int p1), .val (.int (1 : Int32)), .val (.ref w1), .val (.long (1 : Int64)), .second, .val (.long (5 : Int64)), .second, .val (.long c18), .second, .val (.long r19), .second, .val (.long (5 : Int64)), .second] [(.long (5 : Int64)), (.long (c18 - r19))]))
                refine own_via (fun _ k => XS.lcmp X19.here hx rfl (hb hby at_149) rfl k) ?_
                show own_Go p e below s _ _ _ (T19.setTop (mkF m 150 #[.val (.long p0), .second, .val (.int p1), .val (.int (1 : Int32)), .val (.ref w1), .val (.long (1 : Int64)), .second, .val (.long (5 : Int64)), .second, .val (.long c18), .second, .val (.long r19), .second, .val (.long (5 : Int64)), .second] [(.int (lcmpW (c18 - r19) (5 : Int64)))]))
                by_cases hc26 : (5 : Int64) < (c18 - r19)
                · exfalso
                  have ar0 := rng64 r19
                  have ar1 := rng64 c18
                  have ar2 := c_lrem r19 (5 : Int64) 5 rfl
                  have ar3 := rng64 (r19 - (r19 / (5 : Int64)) * (5 : Int64))
                  have ar4 := c_lsub c18 r19
                  have ar5 := rng64 (c18 - r19)
                  simp only [Int64.lt_iff_toInt_lt, ← Int64.toInt_inj, Int32.lt_iff_toInt_lt, ← Int32.toInt_inj, (show (0 : Int64).toInt = 0 from rfl), (show (5 : Int64).toInt = 5 from rfl), (show (300 : Int64).toInt = 300 from rfl)] at hc20 hc21 hc22 hc25 hc26 ar0 ar1 ar2 ar3 ar4 ar5
                  omega
                · refine own_via (fun _ k => XS.ifNo X19.here hx rfl (hb hby at_150) rfl ((if0 _ _).trans (flt (mt (lw_gt (c18 - r19) (5 : Int64)).mp hc26)).2.2.1) k) ?_
                  show own_Go p e below s _ _ _ (T19.setTop (mkF m 153 #[.val (.long p0), .second, .val (.int p1), .val (.int (1 : Int32)), .val (.ref w1), .val (.long (1 : Int64)), .second, .val (.long (5 : Int64)), .second, .val (.long c18), .second, .val (.long r19), .second, .val (.long (5 : Int64)), .second] []))
                  refine own_via (fun _ k => XS.iconst X19.here hx rfl (hb hby at_153) k) ?_
                  show own_Go p e below s _ _ _ (T19.setTop (mkF m 154 #[.val (.long p0), .second, .val (.int p1), .val (.int (1 : Int32)), .val (.ref w1), .val (.long (1 : Int64)), .second, .val (.long (5 : Int64)), .second, .val (.long c18), .second, .val (.long r19), .second, .val (.long (5 : Int64)), .second] [(.int (1 : Int32))]))
                  refine own_via (fun _ k => XS.goto X19.here hx rfl (pc0 := 154) (pc' := 158) rfl (hb hby at_154) (by decide) (by decide) k) ?_
                  show own_Go p e below s _ _ _ (T19.setTop (mkF m 158 #[.val (.long p0), .second, .val (.int p1), .val (.int (1 : Int32)), .val (.ref w1), .val (.long (1 : Int64)), .second, .val (.long (5 : Int64)), .second, .val (.long c18), .second, .val (.long r19), .second, .val (.long (5 : Int64)), .second] [(.int (1 : Int32))]))
                  exact own_retZ X19 hx hlk (t := .boolean) Bd.returns (by simp) (hb hby at_158) (z' := (1 : Int32)) (by first | rfl | decide) ⟨rfl, (Fr.nil n0)⟩ (by decide) (by decide)
              · exfalso
                have ar0 := rng64 r19
                have ar1 := rng64 c18
                have ar2 := c_lrem r19 (5 : Int64) 5 rfl
                have ar3 := rng64 (r19 - (r19 / (5 : Int64)) * (5 : Int64))
                simp only [Int64.lt_iff_toInt_lt, ← Int64.toInt_inj, Int32.lt_iff_toInt_lt, ← Int32.toInt_inj, (show (0 : Int64).toInt = 0 from rfl), (show (5 : Int64).toInt = 5 from rfl), (show (300 : Int64).toInt = 300 from rfl)] at hc20 hc21 hc22 hc25 ar0 ar1 ar2 ar3
                omega
          · exfalso
            have ar0 := rng64 r19
            have ar1 := rng64 c18
            simp only [Int64.lt_iff_toInt_lt, ← Int64.toInt_inj, Int32.lt_iff_toInt_lt, ← Int32.toInt_inj, (show (0 : Int64).toInt = 0 from rfl)] at hc20 hc21 ar0 ar1
            omega
      show own_Go p e below s _ _ _ (T18.setTop (mkF m 88 #[.val (.long p0), .second, .val (.int p1), .val (.int (1 : Int32)), .val (.ref w1), .val (.long (1 : Int64)), .second, .val (.long (5 : Int64)), .second, .val (.long c18), .second, .unset, .unset, .unset, .unset] []))
      refine own_via (fun _ k => XS.aload X18.here hx rfl (hb hby at_88) rfl rfl k) ?_
      show own_Go p e below s _ _ _ (T18.setTop (mkF m 90 #[.val (.long p0), .second, .val (.int p1), .val (.int (1 : Int32)), .val (.ref w1), .val (.long (1 : Int64)), .second, .val (.long (5 : Int64)), .second, .val (.long c18), .second, .unset, .unset, .unset, .unset] [(.ref w1)]))
      refine own_via (fun _ k => XS.lload X18.here hx rfl (hb hby at_90) rfl k) ?_
      show own_Go p e below s _ _ _ (T18.setTop (mkF m 92 #[.val (.long p0), .second, .val (.int p1), .val (.int (1 : Int32)), .val (.ref w1), .val (.long (1 : Int64)), .second, .val (.long (5 : Int64)), .second, .val (.long c18), .second, .unset, .unset, .unset, .unset] [(.long c18), (.ref w1)]))
      obtain ⟨cq27, kq27, q27a, q27b, q27c⟩ := isOf hZ e18 E_w1
      obtain ⟨_, _, ⟨T27, L27, k27, n27⟩, -, X27, ⟨Lc27, hQ27, l27, y27, z27⟩, st27⟩ := X18.virtualBack hx (y := (⟨"com/example/strikeline/strikeline/PennyProgram", "priceBelow", "(J)J"⟩ : MethodName)) (z := (⟨"com/example/strikeline/strikeline/PennyProgram", "priceBelow", "(J)J"⟩ : MethodName)) hown (mvT hZ (hw _ (List.mem_of_getElem? (i := 9) rfl))) (mvT hZ (hw _ (List.mem_of_getElem? (i := 10) rfl))) (notFace_of_selects (args := #[]) (mvT hZ (hw _ (List.mem_of_getElem? (i := 12) rfl)))) (mvT hZ (hw _ (List.mem_of_getElem? (i := 12) rfl))) (mvT hZ (hw _ (List.mem_of_getElem? (i := 11) rfl))) (by decide) (backOf (W := 0) (rm2_1 l Z a0 hw [] c18 w0 w1 w2 h0 n0 Z0 K0) hZ (hw _ (List.mem_of_getElem? (i := 13) rfl)) (hw _ (List.mem_of_getElem? (i := 2) rfl)) (by decide) (by decide)) q27a q27c (g := (mkF m 92 #[.val (.long p0), .second, .val (.int p1), .val (.int (1 : Int32)), .val (.ref w1), .val (.long (1 : Int64)), .second, .val (.long (5 : Int64)), .second, .val (.long c18), .second, .unset, .unset, .unset, .unset] [(.long c18), (.ref w1)])) rfl (by rw [hml]; rfl) (Steps.refl _) (argsL := [(.long c18)]) (rest := []) (lenOf pd0 rfl) rfl (by show 2 * 0 + _ ≤ _; exact Nat.le_of_eq rfl) (hb hby at_92) (fun _ _ => ⟨rfl, e18, (by decide : 0 + 0 ≤ _), (by decide : 0 + 0 ≤ _)⟩)
      dsimp only [Pt.U, Pt.locs, Pt.cells, Pt.slots] at X27 l27 y27 z27 st27 hQ27
      subst l27 y27 z27
      obtain ⟨rfl, e27, hO27⟩ := hQ27
      rcases hO27 with ⟨hr27_0_0, rfl⟩ | ⟨hr27_1_0, rfl⟩
      · refine own_tr st27 ?_
        show own_Go p e below s _ _ _ (T27.setTop (mkF m 95 #[.val (.long p0), .second, .val (.int p1), .val (.int (1 : Int32)), .val (.ref w1), .val (.long (1 : Int64)), .second, .val (.long (5 : Int64)), .second, .val (.long c18), .second, .unset, .unset, .unset, .unset] [(.long (((c18 - (1 : Int64)) / (5 : Int64)) * (5 : Int64)))]))
        exact J19 T27 X27 e27 (((c18 - (1 : Int64)) / (5 : Int64)) * (5 : Int64)) (Or.inl ⟨own_ltL hr27_0_0, own_below5 _ hb18⟩)
      · refine own_tr st27 ?_
        show own_Go p e below s _ _ _ (T27.setTop (mkF m 95 #[.val (.long p0), .second, .val (.int p1), .val (.int (1 : Int32)), .val (.ref w1), .val (.long (1 : Int64)), .second, .val (.long (5 : Int64)), .second, .val (.long c18), .second, .unset, .unset, .unset, .unset] [(.long (((c18 - (1 : Int64)) / (1 : Int64)) * (1 : Int64)))]))
        exact J19 T27 X27 e27 (((c18 - (1 : Int64)) / (1 : Int64)) * (1 : Int64)) (Or.inr ⟨own_geL hr27_1_0, own_below1 _ hb18⟩)
    show own_Go p e below s _ _ _ (T17.setTop (mkF m 61 #[.val (.long p0), .second, .val (.int p1), .val (.int (1 : Int32)), .val (.ref w1), .val (.long (1 : Int64)), .second, .val (.long (5 : Int64)), .second, .unset, .unset, .unset, .unset, .unset, .unset] []))
    refine own_via (fun _ k => XS.iloadN X17.here hx rfl (hb hby at_61) rfl k) ?_
    show own_Go p e below s _ _ _ (T17.setTop (mkF m 62 #[.val (.long p0), .second, .val (.int p1), .val (.int (1 : Int32)), .val (.ref w1), .val (.long (1 : Int64)), .second, .val (.long (5 : Int64)), .second, .unset, .unset, .unset, .unset, .unset, .unset] [(.int p1)]))
    refine own_via (fun _ k => XS.iconst X17.here hx rfl (hb hby at_62) k) ?_
    show own_Go p e below s _ _ _ (T17.setTop (mkF m 63 #[.val (.long p0), .second, .val (.int p1), .val (.int (1 : Int32)), .val (.ref w1), .val (.long (1 : Int64)), .second, .val (.long (5 : Int64)), .second, .unset, .unset, .unset, .unset, .unset, .unset] [(.int (4 : Int32)), (.int p1)]))
    refine own_via (fun _ k => XS.iand X17.here hx rfl (hb hby at_63) rfl k) ?_
    show own_Go p e below s _ _ _ (T17.setTop (mkF m 64 #[.val (.long p0), .second, .val (.int p1), .val (.int (1 : Int32)), .val (.ref w1), .val (.long (1 : Int64)), .second, .val (.long (5 : Int64)), .second, .unset, .unset, .unset, .unset, .unset, .unset] [(.int (p1 &&& (4 : Int32)))]))
    by_cases hc28 : (p1 &&& (4 : Int32)) = (0 : Int32)
    · refine own_via (fun _ k => XS.ifYes X17.here hx rfl (pc0 := 64) (pc' := 77) rfl (hb hby at_64) rfl ((if0 _ _).trans (teq hc28).1) (by decide) (by decide) k) ?_
      show own_Go p e below s _ _ _ (T17.setTop (mkF m 77 #[.val (.long p0), .second, .val (.int p1), .val (.int (1 : Int32)), .val (.ref w1), .val (.long (1 : Int64)), .second, .val (.long (5 : Int64)), .second, .unset, .unset, .unset, .unset, .unset, .unset] []))
      refine own_via (fun _ k => XS.lconst X17.here hx rfl (hb hby at_77) k) ?_
      show own_Go p e below s _ _ _ (T17.setTop (mkF m 78 #[.val (.long p0), .second, .val (.int p1), .val (.int (1 : Int32)), .val (.ref w1), .val (.long (1 : Int64)), .second, .val (.long (5 : Int64)), .second, .unset, .unset, .unset, .unset, .unset, .unset] [(.long (1 : Int64))]))
      refine own_via (fun _ k => XS.lloadN X17.here hx rfl (hb hby at_78) rfl k) ?_
      show own_Go p e below s _ _ _ (T17.setTop (mkF m 79 #[.val (.long p0), .second, .val (.int p1), .val (.int (1 : Int32)), .val (.ref w1), .val (.long (1 : Int64)), .second, .val (.long (5 : Int64)), .second, .unset, .unset, .unset, .unset, .unset, .unset] [(.long p0), (.long (1 : Int64))]))
      refine own_via (fun _ k => X17.ldc2Long hx hown (mvT hZ (hw _ (List.mem_of_getElem? (i := 4) rfl))) (g := (mkF m 79 #[.val (.long p0), .second, .val (.int p1), .val (.int (1 : Int32)), .val (.ref w1), .val (.long (1 : Int64)), .second, .val (.long (5 : Int64)), .second, .unset, .unset, .unset, .unset, .unset, .unset] [(.long p0), (.long (1 : Int64))])) rfl (hb hby at_79) _ k) ?_
      show own_Go p e below s _ _ _ (T17.setTop (mkF m 82 #[.val (.long p0), .second, .val (.int p1), .val (.int (1 : Int32)), .val (.ref w1), .val (.long (1 : Int64)), .second, .val (.long (5 : Int64)), .second, .unset, .unset, .unset, .unset, .unset, .unset] [(.long (9223372036854775807 : Int64)), (.long p0), (.long (1 : Int64))]))
      refine own_via (fun _ k => XS.land X17.here hx rfl (hb hby at_82) rfl k) ?_
      show own_Go p e below s _ _ _ (T17.setTop (mkF m 83 #[.val (.long p0), .second, .val (.int p1), .val (.int (1 : Int32)), .val (.ref w1), .val (.long (1 : Int64)), .second, .val (.long (5 : Int64)), .second, .unset, .unset, .unset, .unset, .unset, .unset] [(.long (p0 &&& (9223372036854775807 : Int64))), (.long (1 : Int64))]))
      obtain ⟨_, _, ⟨T29, L29, k29, n29⟩, -, X29, ⟨Lc29, hQ29, l29, y29, z29⟩, st29⟩ := Jvm.LawKit.callS X17 hx (y := (⟨"java/lang/Math", "max", "(JJ)J"⟩ : MethodName)) hown (mvT hZ (hw _ (List.mem_of_getElem? (i := 5) rfl))) (mvT hZ (hw _ (List.mem_of_getElem? (i := 6) rfl))) (mvT hZ (hw _ (List.mem_of_getElem? (i := 7) rfl))) (mvT hZ (hw _ (List.mem_of_getElem? (i := 8) rfl))) (by decide) (backOf (W := 0) (rm1_0 l Z a0 hw [] (p0 &&& (9223372036854775807 : Int64)) w0 w1 w2 h0 n0 Z0 K0) hZ (hw _ (List.mem_of_getElem? (i := 8) rfl)) (hw _ (List.mem_of_getElem? (i := 7) rfl)) (by decide) (by decide)) (g := (mkF m 83 #[.val (.long p0), .second, .val (.int p1), .val (.int (1 : Int32)), .val (.ref w1), .val (.long (1 : Int64)), .second, .val (.long (5 : Int64)), .second, .unset, .unset, .unset, .unset, .unset, .unset] [(.long (p0 &&& (9223372036854775807 : Int64))), (.long (1 : Int64))])) rfl (by rw [hml]; rfl) (argsL := [(.long (1 : Int64)), (.long (p0 &&& (9223372036854775807 : Int64)))]) (rest := []) (lenOf pd1 rfl) rfl (by show 2 * 0 + _ ≤ _; exact Nat.le_of_eq rfl) (hb hby at_83) (fun _ _ => ⟨rfl, e17, (by decide : 0 + 0 ≤ _), (by decide : 0 + 0 ≤ _)⟩)
      dsimp only [Pt.U, Pt.locs, Pt.cells, Pt.slots] at X29 l29 y29 z29 st29 hQ29
      subst l29 y29 z29
      obtain ⟨rfl, e29, hO29⟩ := hQ29
      rcases hO29 with ⟨hr29_0_0, rfl⟩ | ⟨hr29_1_0, rfl⟩
      · refine own_via st29 ?_
        show own_Go p e below s _ _ _ (T29.setTop (mkF m 86 #[.val (.long p0), .second, .val (.int p1), .val (.int (1 : Int32)), .val (.ref w1), .val (.long (1 : Int64)), .second, .val (.long (5 : Int64)), .second, .unset, .unset, .unset, .unset, .unset, .unset] [(.long (p0 &&& (9223372036854775807 : Int64)))]))
        exact J18 T29 X29 e29 (p0 &&& (9223372036854775807 : Int64)) (own_lt1 hr29_0_0)
      · refine own_via st29 ?_
        show own_Go p e below s _ _ _ (T29.setTop (mkF m 86 #[.val (.long p0), .second, .val (.int p1), .val (.int (1 : Int32)), .val (.ref w1), .val (.long (1 : Int64)), .second, .val (.long (5 : Int64)), .second, .unset, .unset, .unset, .unset, .unset, .unset] [(.long (1 : Int64))]))
        exact J18 T29 X29 e29 (1 : Int64) (by decide)
    · refine own_via (fun _ k => XS.ifNo X17.here hx rfl (hb hby at_64) rfl ((if0 _ _).trans (feq hc28).1) k) ?_
      show own_Go p e below s _ _ _ (T17.setTop (mkF m 67 #[.val (.long p0), .second, .val (.int p1), .val (.int (1 : Int32)), .val (.ref w1), .val (.long (1 : Int64)), .second, .val (.long (5 : Int64)), .second, .unset, .unset, .unset, .unset, .unset, .unset] []))
      refine own_via (fun _ k => XS.lconst X17.here hx rfl (hb hby at_67) k) ?_
      show own_Go p e below s _ _ _ (T17.setTop (mkF m 68 #[.val (.long p0), .second, .val (.int p1), .val (.int (1 : Int32)), .val (.ref w1), .val (.long (1 : Int64)), .second, .val (.long (5 : Int64)), .second, .unset, .unset, .unset, .unset, .unset, .unset] [(.long (1 : Int64))]))
      refine own_via (fun _ k => XS.lloadN X17.here hx rfl (hb hby at_68) rfl k) ?_
      show own_Go p e below s _ _ _ (T17.setTop (mkF m 69 #[.val (.long p0), .second, .val (.int p1), .val (.int (1 : Int32)), .val (.ref w1), .val (.long (1 : Int64)), .second, .val (.long (5 : Int64)), .second, .unset, .unset, .unset, .unset, .unset, .unset] [(.long p0), (.long (1 : Int64))]))
      refine own_via (fun _ k => X17.ldc2Long hx hown (mvT hZ (hw _ (List.mem_of_getElem? (i := 21) rfl))) (g := (mkF m 69 #[.val (.long p0), .second, .val (.int p1), .val (.int (1 : Int32)), .val (.ref w1), .val (.long (1 : Int64)), .second, .val (.long (5 : Int64)), .second, .unset, .unset, .unset, .unset, .unset, .unset] [(.long p0), (.long (1 : Int64))])) rfl (hb hby at_69) _ k) ?_
      show own_Go p e below s _ _ _ (T17.setTop (mkF m 72 #[.val (.long p0), .second, .val (.int p1), .val (.int (1 : Int32)), .val (.ref w1), .val (.long (1 : Int64)), .second, .val (.long (5 : Int64)), .second, .unset, .unset, .unset, .unset, .unset, .unset] [(.long (1023 : Int64)), (.long p0), (.long (1 : Int64))]))
      refine own_via (fun _ k => XS.land X17.here hx rfl (hb hby at_72) rfl k) ?_
      show own_Go p e below s _ _ _ (T17.setTop (mkF m 73 #[.val (.long p0), .second, .val (.int p1), .val (.int (1 : Int32)), .val (.ref w1), .val (.long (1 : Int64)), .second, .val (.long (5 : Int64)), .second, .unset, .unset, .unset, .unset, .unset, .unset] [(.long (p0 &&& (1023 : Int64))), (.long (1 : Int64))]))
      refine own_via (fun _ k => XS.ladd X17.here hx rfl (hb hby at_73) rfl k) ?_
      show own_Go p e below s _ _ _ (T17.setTop (mkF m 74 #[.val (.long p0), .second, .val (.int p1), .val (.int (1 : Int32)), .val (.ref w1), .val (.long (1 : Int64)), .second, .val (.long (5 : Int64)), .second, .unset, .unset, .unset, .unset, .unset, .unset] [(.long ((1 : Int64) + (p0 &&& (1023 : Int64))))]))
      refine own_via (fun _ k => XS.goto X17.here hx rfl (pc0 := 74) (pc' := 86) rfl (hb hby at_74) (by decide) (by decide) k) ?_
      show own_Go p e below s _ _ _ (T17.setTop (mkF m 86 #[.val (.long p0), .second, .val (.int p1), .val (.int (1 : Int32)), .val (.ref w1), .val (.long (1 : Int64)), .second, .val (.long (5 : Int64)), .second, .unset, .unset, .unset, .unset, .unset, .unset] [(.long ((1 : Int64) + (p0 &&& (1023 : Int64))))]))
      exact J18 T17 X17 e17 ((1 : Int64) + (p0 &&& (1023 : Int64))) (own_c86 _)
  · rw [hk3]
    show own_Go p e below s _ _ _ (s₁.setTop (mkF m 6 #[.val (.long p0), .second, .val (.int p1), .unset, .unset, .unset, .unset, .unset, .unset, .unset, .unset, .unset, .unset, .unset, .unset] [(.int (2 : Int32))]))
    refine own_via (fun _ k => XS.istoreN X0.here hx rfl (hb hby at_6) rfl (l' := #[.val (.long p0), .second, .val (.int p1), .val (.int (2 : Int32)), .unset, .unset, .unset, .unset, .unset, .unset, .unset, .unset, .unset, .unset, .unset]) rfl k) ?_
    show own_Go p e below s _ _ _ (s₁.setTop (mkF m 7 #[.val (.long p0), .second, .val (.int p1), .val (.int (2 : Int32)), .unset, .unset, .unset, .unset, .unset, .unset, .unset, .unset, .unset, .unset, .unset] []))
    refine own_via (fun _ k => XS.iloadN X0.here hx rfl (hb hby at_7) rfl k) ?_
    show own_Go p e below s _ _ _ (s₁.setTop (mkF m 8 #[.val (.long p0), .second, .val (.int p1), .val (.int (2 : Int32)), .unset, .unset, .unset, .unset, .unset, .unset, .unset, .unset, .unset, .unset, .unset] [(.int (2 : Int32))]))
    refine own_via (fun _ k => XS.ifYes X0.here hx rfl (pc0 := 8) (pc' := 29) rfl (hb hby at_8) rfl ((if0 _ _).trans (feq (by decide : ¬ ((2 : Int32) = (0 : Int32)))).2) (by decide) (by decide) k) ?_
    show own_Go p e below s _ _ _ (s₁.setTop (mkF m 29 #[.val (.long p0), .second, .val (.int p1), .val (.int (2 : Int32)), .unset, .unset, .unset, .unset, .unset, .unset, .unset, .unset, .unset, .unset, .unset] []))
    refine own_via (fun _ k => XS.iloadN X0.here hx rfl (hb hby at_29) rfl k) ?_
    show own_Go p e below s _ _ _ (s₁.setTop (mkF m 30 #[.val (.long p0), .second, .val (.int p1), .val (.int (2 : Int32)), .unset, .unset, .unset, .unset, .unset, .unset, .unset, .unset, .unset, .unset, .unset] [(.int (2 : Int32))]))
    refine own_via (fun _ k => XS.iconst X0.here hx rfl (hb hby at_30) k) ?_
    show own_Go p e below s _ _ _ (s₁.setTop (mkF m 31 #[.val (.long p0), .second, .val (.int p1), .val (.int (2 : Int32)), .unset, .unset, .unset, .unset, .unset, .unset, .unset, .unset, .unset, .unset, .unset] [(.int (1 : Int32)), (.int (2 : Int32))]))
    refine own_via (fun _ k => XS.icmpYes X0.here hx rfl (pc0 := 31) (pc' := 50) rfl (hb hby at_31) rfl (feq (by decide : ¬ ((2 : Int32) = (1 : Int32)))).2 (by decide) (by decide) k) ?_
    show own_Go p e below s _ _ _ (s₁.setTop (mkF m 50 #[.val (.long p0), .second, .val (.int p1), .val (.int (2 : Int32)), .unset, .unset, .unset, .unset, .unset, .unset, .unset, .unset, .unset, .unset, .unset] []))
    obtain ⟨T30, X30, e30, st30⟩ := getS2 X0 hx hZ hown (host := "") (Or.inl (hw _ (List.mem_of_getElem? (i := 1) rfl))) Via.refl e0 S_w0 (g := (mkF m 50 #[.val (.long p0), .second, .val (.int p1), .val (.int (2 : Int32)), .unset, .unset, .unset, .unset, .unset, .unset, .unset, .unset, .unset, .unset, .unset] [])) rfl (hb hby at_50)
    refine own_via st30 ?_
    show own_Go p e below s _ _ _ (T30.setTop (mkF m 53 #[.val (.long p0), .second, .val (.int p1), .val (.int (2 : Int32)), .unset, .unset, .unset, .unset, .unset, .unset, .unset, .unset, .unset, .unset, .unset] [(.ref w0)]))
    refine own_via (fun _ k => XS.astore X30.here hx rfl (hb hby at_53) rfl rfl (l' := #[.val (.long p0), .second, .val (.int p1), .val (.int (2 : Int32)), .val (.ref w0), .unset, .unset, .unset, .unset, .unset, .unset, .unset, .unset, .unset, .unset]) rfl k) ?_
    show own_Go p e below s _ _ _ (T30.setTop (mkF m 55 #[.val (.long p0), .second, .val (.int p1), .val (.int (2 : Int32)), .val (.ref w0), .unset, .unset, .unset, .unset, .unset, .unset, .unset, .unset, .unset, .unset] []))
    refine own_via (fun _ k => XS.lconst X30.here hx rfl (hb hby at_55) k) ?_
    show own_Go p e below s _ _ _ (T30.setTop (mkF m 56 #[.val (.long p0), .second, .val (.int p1), .val (.int (2 : Int32)), .val (.ref w0), .unset, .unset, .unset, .unset, .unset, .unset, .unset, .unset, .unset, .unset] [(.long (1 : Int64))]))
    refine own_via (fun _ k => XS.lstore X30.here hx rfl (hb hby at_56) rfl (l' := #[.val (.long p0), .second, .val (.int p1), .val (.int (2 : Int32)), .val (.ref w0), .val (.long (1 : Int64)), .second, .unset, .unset, .unset, .unset, .unset, .unset, .unset, .unset]) rfl k) ?_
    show own_Go p e below s _ _ _ (T30.setTop (mkF m 58 #[.val (.long p0), .second, .val (.int p1), .val (.int (2 : Int32)), .val (.ref w0), .val (.long (1 : Int64)), .second, .unset, .unset, .unset, .unset, .unset, .unset, .unset, .unset] []))
    refine own_via (fun _ k => XS.lconst X30.here hx rfl (hb hby at_58) k) ?_
    show own_Go p e below s _ _ _ (T30.setTop (mkF m 59 #[.val (.long p0), .second, .val (.int p1), .val (.int (2 : Int32)), .val (.ref w0), .val (.long (1 : Int64)), .second, .unset, .unset, .unset, .unset, .unset, .unset, .unset, .unset] [(.long (1 : Int64))]))
    refine own_via (fun _ k => XS.lstore X30.here hx rfl (hb hby at_59) rfl (l' := #[.val (.long p0), .second, .val (.int p1), .val (.int (2 : Int32)), .val (.ref w0), .val (.long (1 : Int64)), .second, .val (.long (1 : Int64)), .second, .unset, .unset, .unset, .unset, .unset, .unset]) rfl k) ?_
    have J31 : ∀ (T31 : State) (X31 : Stand p l e room_1 s m #[(.long p0), (.int p1)] below meth c T31 [] 0 0) (e31 : T31.heap = h0) (c31 : Int64) (hb31 : 1 ≤ c31.toInt), own_Go p e below s (Q0 n0) 0 0 (T31.setTop (mkF m 86 #[.val (.long p0), .second, .val (.int p1), .val (.int (2 : Int32)), .val (.ref w0), .val (.long (1 : Int64)), .second, .val (.long (1 : Int64)), .second, .unset, .unset, .unset, .unset, .unset, .unset] [(.long c31)])) := by
      intro T31 X31 e31 c31 hb31
      show own_Go p e below s _ _ _ (T31.setTop (mkF m 86 #[.val (.long p0), .second, .val (.int p1), .val (.int (2 : Int32)), .val (.ref w0), .val (.long (1 : Int64)), .second, .val (.long (1 : Int64)), .second, .unset, .unset, .unset, .unset, .unset, .unset] [(.long c31)]))
      refine own_via (fun _ k => XS.lstore X31.here hx rfl (hb hby at_86) rfl (l' := #[.val (.long p0), .second, .val (.int p1), .val (.int (2 : Int32)), .val (.ref w0), .val (.long (1 : Int64)), .second, .val (.long (1 : Int64)), .second, .val (.long c31), .second, .unset, .unset, .unset, .unset]) rfl k) ?_
      have J32 : ∀ (T32 : State) (X32 : Stand p l e room_1 s m #[(.long p0), (.int p1)] below meth c T32 [] 0 0) (e32 : T32.heap = h0) (r32 : Int64) (hb32 : (300 < c31.toInt ∧ r32.toInt = ((c31.toInt - 1) / 1) * 1) ∨ (c31.toInt ≤ 300 ∧ r32.toInt = ((c31.toInt - 1) / 1) * 1)), own_Go p e below s (Q0 n0) 0 0 (T32.setTop (mkF m 95 #[.val (.long p0), .second, .val (.int p1), .val (.int (2 : Int32)), .val (.ref w0), .val (.long (1 : Int64)), .second, .val (.long (1 : Int64)), .second, .val (.long c31), .second, .unset, .unset, .unset, .unset] [(.long r32)])) := by
        intro T32 X32 e32 r32 hb32
        show own_Go p e below s _ _ _ (T32.setTop (mkF m 95 #[.val (.long p0), .second, .val (.int p1), .val (.int (2 : Int32)), .val (.ref w0), .val (.long (1 : Int64)), .second, .val (.long (1 : Int64)), .second, .val (.long c31), .second, .unset, .unset, .unset, .unset] [(.long r32)]))
        refine own_via (fun _ k => XS.lstore X32.here hx rfl (hb hby at_95) rfl (l' := #[.val (.long p0), .second, .val (.int p1), .val (.int (2 : Int32)), .val (.ref w0), .val (.long (1 : Int64)), .second, .val (.long (1 : Int64)), .second, .val (.long c31), .second, .val (.long r32), .second, .unset, .unset]) rfl k) ?_
        show own_Go p e below s _ _ _ (T32.setTop (mkF m 97 #[.val (.long p0), .second, .val (.int p1), .val (.int (2 : Int32)), .val (.ref w0), .val (.long (1 : Int64)), .second, .val (.long (1 : Int64)), .second, .val (.long c31), .second, .val (.long r32), .second, .unset, .unset] []))
        refine own_via (fun _ k => XS.lload X32.here hx rfl (hb hby at_97) rfl k) ?_
        show own_Go p e below s _ _ _ (T32.setTop (mkF m 99 #[.val (.long p0), .second, .val (.int p1), .val (.int (2 : Int32)), .val (.ref w0), .val (.long (1 : Int64)), .second, .val (.long (1 : Int64)), .second, .val (.long c31), .second, .val (.long r32), .second, .unset, .unset] [(.long r32)]))
        refine own_via (fun _ k => XS.lconst X32.here hx rfl (hb hby at_99) k) ?_
        show own_Go p e below s _ _ _ (T32.setTop (mkF m 100 #[.val (.long p0), .second, .val (.int p1), .val (.int (2 : Int32)), .val (.ref w0), .val (.long (1 : Int64)), .second, .val (.long (1 : Int64)), .second, .val (.long c31), .second, .val (.long r32), .second, .unset, .unset] [(.long (0 : Int64)), (.long r32)]))
        refine own_via (fun _ k => XS.lcmp X32.here hx rfl (hb hby at_100) rfl k) ?_
        show own_Go p e below s _ _ _ (T32.setTop (mkF m 101 #[.val (.long p0), .second, .val (.int p1), .val (.int (2 : Int32)), .val (.ref w0), .val (.long (1 : Int64)), .second, .val (.long (1 : Int64)), .second, .val (.long c31), .second, .val (.long r32), .second, .unset, .unset] [(.int (lcmpW r32 (0 : Int64)))]))
        by_cases hc33 : r32 < (0 : Int64)
        · exfalso
          have ar0 := rng64 r32
          simp only [Int64.lt_iff_toInt_lt, ← Int64.toInt_inj, Int32.lt_iff_toInt_lt, ← Int32.toInt_inj, (show (0 : Int64).toInt = 0 from rfl)] at hc33 ar0
          omega
        · refine own_via (fun _ k => XS.ifNo X32.here hx rfl (hb hby at_101) rfl ((if0 _ _).trans (flt (mt (lw_lt r32 (0 : Int64)).mp hc33)).1) k) ?_
          show own_Go p e below s _ _ _ (T32.setTop (mkF m 104 #[.val (.long p0), .second, .val (.int p1), .val (.int (2 : Int32)), .val (.ref w0), .val (.long (1 : Int64)), .second, .val (.long (1 : Int64)), .second, .val (.long c31), .second, .val (.long r32), .second, .unset, .unset] []))
          refine own_via (fun _ k => XS.lload X32.here hx rfl (hb hby at_104) rfl k) ?_
          show own_Go p e below s _ _ _ (T32.setTop (mkF m 106 #[.val (.long p0), .second, .val (.int p1), .val (.int (2 : Int32)), .val (.ref w0), .val (.long (1 : Int64)), .second, .val (.long (1 : Int64)), .second, .val (.long c31), .second, .val (.long r32), .second, .unset, .unset] [(.long r32)]))
          refine own_via (fun _ k => XS.lload X32.here hx rfl (hb hby at_106) rfl k) ?_
          show own_Go p e below s _ _ _ (T32.setTop (mkF m 108 #[.val (.long p0), .second, .val (.int p1), .val (.int (2 : Int32)), .val (.ref w0), .val (.long (1 : Int64)), .second, .val (.long (1 : Int64)), .second, .val (.long c31), .second, .val (.long r32), .second, .unset, .unset] [(.long c31), (.long r32)]))
          refine own_via (fun _ k => XS.lcmp X32.here hx rfl (hb hby at_108) rfl k) ?_
          show own_Go p e below s _ _ _ (T32.setTop (mkF m 109 #[.val (.long p0), .second, .val (.int p1), .val (.int (2 : Int32)), .val (.ref w0), .val (.long (1 : Int64)), .second, .val (.long (1 : Int64)), .second, .val (.long c31), .second, .val (.long r32), .second, .unset, .unset] [(.int (lcmpW r32 c31))]))
          by_cases hc34 : r32 < c31
          · refine own_via (fun _ k => XS.ifYes X32.here hx rfl (pc0 := 109) (pc' := 114) rfl (hb hby at_109) rfl ((if0 _ _).trans (tlt ((lw_lt r32 c31).mpr hc34)).1) (by decide) (by decide) k) ?_
            show own_Go p e below s _ _ _ (T32.setTop (mkF m 114 #[.val (.long p0), .second, .val (.int p1), .val (.int (2 : Int32)), .val (.ref w0), .val (.long (1 : Int64)), .second, .val (.long (1 : Int64)), .second, .val (.long c31), .second, .val (.long r32), .second, .unset, .unset] []))
            refine own_via (fun _ k => XS.lload X32.here hx rfl (hb hby at_114) rfl k) ?_
            show own_Go p e below s _ _ _ (T32.setTop (mkF m 116 #[.val (.long p0), .second, .val (.int p1), .val (.int (2 : Int32)), .val (.ref w0), .val (.long (1 : Int64)), .second, .val (.long (1 : Int64)), .second, .val (.long c31), .second, .val (.long r32), .second, .unset, .unset] [(.long r32)]))
            refine own_via (fun _ k => X32.ldc2Long hx hown (mvT hZ (hw _ (List.mem_of_getElem? (i := 17) rfl))) (g := (mkF m 116 #[.val (.long p0), .second, .val (.int p1), .val (.int (2 : Int32)), .val (.ref w0), .val (.long (1 : Int64)), .second, .val (.long (1 : Int64)), .second, .val (.long c31), .second, .val (.long r32), .second, .unset, .unset] [(.long r32)])) rfl (hb hby at_116) _ k) ?_
            show own_Go p e below s _ _ _ (T32.setTop (mkF m 119 #[.val (.long p0), .second, .val (.int p1), .val (.int (2 : Int32)), .val (.ref w0), .val (.long (1 : Int64)), .second, .val (.long (1 : Int64)), .second, .val (.long c31), .second, .val (.long r32), .second, .unset, .unset] [(.long (300 : Int64)), (.long r32)]))
            refine own_via (fun _ k => XS.lcmp X32.here hx rfl (hb hby at_119) rfl k) ?_
            show own_Go p e below s _ _ _ (T32.setTop (mkF m 120 #[.val (.long p0), .second, .val (.int p1), .val (.int (2 : Int32)), .val (.ref w0), .val (.long (1 : Int64)), .second, .val (.long (1 : Int64)), .second, .val (.long c31), .second, .val (.long r32), .second, .unset, .unset] [(.int (lcmpW r32 (300 : Int64)))]))
            by_cases hc35 : r32 < (300 : Int64)
            · refine own_via (fun _ k => XS.ifNo X32.here hx rfl (hb hby at_120) rfl ((if0 _ _).trans (tlt ((lw_lt r32 (300 : Int64)).mpr hc35)).2.1) k) ?_
              show own_Go p e below s _ _ _ (T32.setTop (mkF m 123 #[.val (.long p0), .second, .val (.int p1), .val (.int (2 : Int32)), .val (.ref w0), .val (.long (1 : Int64)), .second, .val (.long (1 : Int64)), .second, .val (.long c31), .second, .val (.long r32), .second, .unset, .unset] []))
              refine own_via (fun _ k => XS.lload X32.here hx rfl (hb hby at_123) rfl k) ?_
              show own_Go p e below s _ _ _ (T32.setTop (mkF m 125 #[.val (.long p0), .second, .val (.int p1), .val (.int (2 : Int32)), .val (.ref w0), .val (.long (1 : Int64)), .second, .val (.long (1 : Int64)), .second, .val (.long c31), .second, .val (.long r32), .second, .unset, .unset] [(.long (1 : Int64))]))
              refine own_via (fun _ k => XS.goto X32.here hx rfl (pc0 := 125) (pc' := 130) rfl (hb hby at_125) (by decide) (by decide) k) ?_
              show own_Go p e below s _ _ _ (T32.setTop (mkF m 130 #[.val (.long p0), .second, .val (.int p1), .val (.int (2 : Int32)), .val (.ref w0), .val (.long (1 : Int64)), .second, .val (.long (1 : Int64)), .second, .val (.long c31), .second, .val (.long r32), .second, .unset, .unset] [(.long (1 : Int64))]))
              refine own_via (fun _ k => XS.lstore X32.here hx rfl (hb hby at_130) rfl (l' := #[.val (.long p0), .second, .val (.int p1), .val (.int (2 : Int32)), .val (.ref w0), .val (.long (1 : Int64)), .second, .val (.long (1 : Int64)), .second, .val (.long c31), .second, .val (.long r32), .second, .val (.long (1 : Int64)), .second]) rfl k) ?_
              show own_Go p e below s _ _ _ (T32.setTop (mkF m 132 #[.val (.long p0), .second, .val (.int p1), .val (.int (2 : Int32)), .val (.ref w0), .val (.long (1 : Int64)), .second, .val (.long (1 : Int64)), .second, .val (.long c31), .second, .val (.long r32), .second, .val (.long (1 : Int64)), .second] []))
              refine own_via (fun _ k => XS.lload X32.here hx rfl (hb hby at_132) rfl k) ?_
              show own_Go p e below s _ _ _ (T32.setTop (mkF m 134 #[.val (.long p0), .second, .val (.int p1), .val (.int (2 : Int32)), .val (.ref w0), .val (.long (1 : Int64)), .second, .val (.long (1 : Int64)), .second, .val (.long c31), .second, .val (.long r32), .second, .val (.long (1 : Int64)), .second] [(.long r32)]))
              refine own_via (fun _ k => XS.lload X32.here hx rfl (hb hby at_134) rfl k) ?_
              show own_Go p e below s _ _ _ (T32.setTop (mkF m 136 #[.val (.long p0), .second, .val (.int p1), .val (.int (2 : Int32)), .val (.ref w0), .val (.long (1 : Int64)), .second, .val (.long (1 : Int64)), .second, .val (.long c31), .second, .val (.long r32), .second, .val (.long (1 : Int64)), .second] [(.long (1 : Int64)), (.long r32)]))
              refine own_via (fun _ k => XS.lrem X32.here hx rfl (hb hby at_136) rfl (by decide : ¬ ((1 : Int64) = (0 : Int64))) k) ?_
              show own_Go p e below s _ _ _ (T32.setTop (mkF m 137 #[.val (.long p0), .second, .val (.int p1), .val (.int (2 : Int32)), .val (.ref w0), .val (.long (1 : Int64)), .second, .val (.long (1 : Int64)), .second, .val (.long c31), .second, .val (.long r32), .second, .val (.long (1 : Int64)), .second] [(.long (r32 - (r32 / (1 : Int64)) * (1 : Int64)))]))
              refine own_via (fun _ k => XS.lconst X32.here hx rfl (hb hby at_137) k) ?_
              show own_Go p e below s _ _ _ (T32.setTop (mkF m 138 #[.val (.long p0), .second, .val (.int p1), .val (.int (2 : Int32)), .val (.ref w0), .val (.long (1 : Int64)), .second, .val (.long (1 : Int64)), .second, .val (.long c31), .second, .val (.long r32), .second, .val (.long (1 : Int64)), .second] [(.long (0 : Int64)), (.long (r32 - (r32 / (1 : Int64)) * (1 : Int64)))]))
              refine own_via (fun _ k => XS.lcmp X32.here hx rfl (hb hby at_138) rfl k) ?_
              show own_Go p e below s _ _ _ (T32.setTop (mkF m 139 #[.val (.long p0), .second, .val (.int p1), .val (.int (2 : Int32)), .val (.ref w0), .val (.long (1 : Int64)), .second, .val (.long (1 : Int64)), .second, .val (.long c31), .second, .val (.long r32), .second, .val (.long (1 : Int64)), .second] [(.int (lcmpW (r32 - (r32 / (1 : Int64)) * (1 : Int64)) (0 : Int64)))]))
              by_cases hc36 : (r32 - (r32 / (1 : Int64)) * (1 : Int64)) = (0 : Int64)
              · refine own_via (fun _ k => XS.ifNo X32.here hx rfl (hb hby at_139) rfl ((if0 _ _).trans (teq ((lw_eq (r32 - (r32 / (1 : Int64)) * (1 : Int64)) (0 : Int64)).mpr hc36)).2) k) ?_
                show own_Go p e below s _ _ _ (T32.setTop (mkF m 142 #[.val (.long p0), .second, .val (.int p1), .val (.int (2 : Int32)), .val (.ref w0), .val (.long (1 : Int64)), .second, .val (.long (1 : Int64)), .second, .val (.long c31), .second, .val (.long r32), .second, .val (.long (1 : Int64)), .second] []))
                refine own_via (fun _ k => XS.lload X32.here hx rfl (hb hby at_142) rfl k) ?_
                show own_Go p e below s _ _ _ (T32.setTop (mkF m 144 #[.val (.long p0), .second, .val (.int p1), .val (.int (2 : Int32)), .val (.ref w0), .val (.long (1 : Int64)), .second, .val (.long (1 : Int64)), .second, .val (.long c31), .second, .val (.long r32), .second, .val (.long (1 : Int64)), .second] [(.long c31)]))
                refine own_via (fun _ k => XS.lload X32.here hx rfl (hb hby at_144) rfl k) ?_
                show own_Go p e below s _ _ _ (T32.setTop (mkF m 146 #[.val (.long p0), .second, .val (.int p1), .val (.int (2 : Int32)), .val (.ref w0), .val (.long (1 : Int64)), .second, .val (.long (1 : Int64)), .second, .val (.long c31), .second, .val (.long r32), .second, .val (.long (1 : Int64)), .second] [(.long r32), (.long c31)]))
                refine own_via (fun _ k => XS.lsub X32.here hx rfl (hb hby at_146) rfl k) ?_
                show own_Go p e below s _ _ _ (T32.setTop (mkF m 147 #[.val (.long p0), .second, .val (.int p1), .val (.int (2 : Int32)), .val (.ref w0), .val (.long (1 : Int64)), .second, .val (.long (1 : Int64)), .second, .val (.long c31), .second, .val (.long r32), .second, .val (.long (1 : Int64)), .second] [(.long (c31 - r32))]))
                refine own_via (fun _ k => XS.lload X32.here hx rfl (hb hby at_147) rfl k) ?_
                show own_Go p e below s _ _ _ (T32.setTop (mkF m 149 #[.val (.long p0), .second, .val (.int p1), .val (.int (2 : Int32)), .val (.ref w0), .val (.long (1 : Int64)), .second, .val (.long (1 : Int64)), .second, .val (.long c31), .second, .val (.long r32), .second, .val (.long (1 : Int64)), .second] [(.long (1 : Int64)), (.long (c31 - r32))]))
                refine own_via (fun _ k => XS.lcmp X32.here hx rfl (hb hby at_149) rfl k) ?_
                show own_Go p e below s _ _ _ (T32.setTop (mkF m 150 #[.val (.long p0), .second, .val (.int p1), .val (.int (2 : Int32)), .val (.ref w0), .val (.long (1 : Int64)), .second, .val (.long (1 : Int64)), .second, .val (.long c31), .second, .val (.long r32), .second, .val (.long (1 : Int64)), .second] [(.int (lcmpW (c31 - r32) (1 : Int64)))]))
                by_cases hc37 : (1 : Int64) < (c31 - r32)
                · exfalso
                  have ar0 := rng64 r32
                  have ar1 := rng64 c31
                  have ar2 := c_lrem r32 (1 : Int64) 1 rfl
                  have ar3 := rng64 (r32 - (r32 / (1 : Int64)) * (1 : Int64))
                  have ar4 := c_lsub c31 r32
                  have ar5 := rng64 (c31 - r32)
                  simp only [Int64.lt_iff_toInt_lt, ← Int64.toInt_inj, Int32.lt_iff_toInt_lt, ← Int32.toInt_inj, (show (0 : Int64).toInt = 0 from rfl), (show (1 : Int64).toInt = 1 from rfl), (show (300 : Int64).toInt = 300 from rfl)] at hc33 hc34 hc35 hc36 hc37 ar0 ar1 ar2 ar3 ar4 ar5
                  omega
                · refine own_via (fun _ k => XS.ifNo X32.here hx rfl (hb hby at_150) rfl ((if0 _ _).trans (flt (mt (lw_gt (c31 - r32) (1 : Int64)).mp hc37)).2.2.1) k) ?_
                  show own_Go p e below s _ _ _ (T32.setTop (mkF m 153 #[.val (.long p0), .second, .val (.int p1), .val (.int (2 : Int32)), .val (.ref w0), .val (.long (1 : Int64)), .second, .val (.long (1 : Int64)), .second, .val (.long c31), .second, .val (.long r32), .second, .val (.long (1 : Int64)), .second] []))
                  refine own_via (fun _ k => XS.iconst X32.here hx rfl (hb hby at_153) k) ?_
                  show own_Go p e below s _ _ _ (T32.setTop (mkF m 154 #[.val (.long p0), .second, .val (.int p1), .val (.int (2 : Int32)), .val (.ref w0), .val (.long (1 : Int64)), .second, .val (.long (1 : Int64)), .second, .val (.long c31), .second, .val (.long r32), .second, .val (.long (1 : Int64)), .second] [(.int (1 : Int32))]))
                  refine own_via (fun _ k => XS.goto X32.here hx rfl (pc0 := 154) (pc' := 158) rfl (hb hby at_154) (by decide) (by decide) k) ?_
                  show own_Go p e below s _ _ _ (T32.setTop (mkF m 158 #[.val (.long p0), .second, .val (.int p1), .val (.int (2 : Int32)), .val (.ref w0), .val (.long (1 : Int64)), .second, .val (.long (1 : Int64)), .second, .val (.long c31), .second, .val (.long r32), .second, .val (.long (1 : Int64)), .second] [(.int (1 : Int32))]))
                  exact own_retZ X32 hx hlk (t := .boolean) Bd.returns (by simp) (hb hby at_158) (z' := (1 : Int32)) (by first | rfl | decide) ⟨rfl, (Fr.nil n0)⟩ (by decide) (by decide)
              · exfalso
                have ar0 := rng64 r32
                have ar1 := rng64 c31
                have ar2 := c_lrem r32 (1 : Int64) 1 rfl
                have ar3 := rng64 (r32 - (r32 / (1 : Int64)) * (1 : Int64))
                simp only [Int64.lt_iff_toInt_lt, ← Int64.toInt_inj, Int32.lt_iff_toInt_lt, ← Int32.toInt_inj, (show (0 : Int64).toInt = 0 from rfl), (show (1 : Int64).toInt = 1 from rfl), (show (300 : Int64).toInt = 300 from rfl)] at hc33 hc34 hc35 hc36 ar0 ar1 ar2 ar3
                omega
            · refine own_via (fun _ k => XS.ifYes X32.here hx rfl (pc0 := 120) (pc' := 128) rfl (hb hby at_120) rfl ((if0 _ _).trans (flt (mt (lw_lt r32 (300 : Int64)).mp hc35)).2.1) (by decide) (by decide) k) ?_
              show own_Go p e below s _ _ _ (T32.setTop (mkF m 128 #[.val (.long p0), .second, .val (.int p1), .val (.int (2 : Int32)), .val (.ref w0), .val (.long (1 : Int64)), .second, .val (.long (1 : Int64)), .second, .val (.long c31), .second, .val (.long r32), .second, .unset, .unset] []))
              refine own_via (fun _ k => XS.lload X32.here hx rfl (hb hby at_128) rfl k) ?_
              show own_Go p e below s _ _ _ (T32.setTop (mkF m 130 #[.val (.long p0), .second, .val (.int p1), .val (.int (2 : Int32)), .val (.ref w0), .val (.long (1 : Int64)), .second, .val (.long (1 : Int64)), .second, .val (.long c31), .second, .val (.long r32), .second, .unset, .unset] [(.long (1 : Int64))]))
              refine own_via (fun _ k => XS.lstore X32.here hx rfl (hb hby at_130) rfl (l' := #[.val (.long p0), .second, .val (.int p1), .val (.int (2 : Int32)), .val (.ref w0), .val (.long (1 : Int64)), .second, .val (.long (1 : Int64)), .second, .val (.long c31), .second, .val (.long r32), .second, .val (.long (1 : Int64)), .second]) rfl k) ?_
              show own_Go p e below s _ _ _ (T32.setTop (mkF m 132 #[.val (.long p0), .second, .val (.int p1), .val (.int (2 : Int32)), .val (.ref w0), .val (.long (1 : Int64)), .second, .val (.long (1 : Int64)), .second, .val (.long c31), .second, .val (.long r32), .second, .val (.long (1 : Int64)), .second] []))
              refine own_via (fun _ k => XS.lload X32.here hx rfl (hb hby at_132) rfl k) ?_
              show own_Go p e below s _ _ _ (T32.setTop (mkF m 134 #[.val (.long p0), .second, .val (.int p1), .val (.int (2 : Int32)), .val (.ref w0), .val (.long (1 : Int64)), .second, .val (.long (1 : Int64)), .second, .val (.long c31), .second, .val (.long r32), .second, .val (.long (1 : Int64)), .second] [(.long r32)]))
              refine own_via (fun _ k => XS.lload X32.here hx rfl (hb hby at_134) rfl k) ?_
              show own_Go p e below s _ _ _ (T32.setTop (mkF m 136 #[.val (.long p0), .second, .val (.int p1), .val (.int (2 : Int32)), .val (.ref w0), .val (.long (1 : Int64)), .second, .val (.long (1 : Int64)), .second, .val (.long c31), .second, .val (.long r32), .second, .val (.long (1 : Int64)), .second] [(.long (1 : Int64)), (.long r32)]))
              refine own_via (fun _ k => XS.lrem X32.here hx rfl (hb hby at_136) rfl (by decide : ¬ ((1 : Int64) = (0 : Int64))) k) ?_
              show own_Go p e below s _ _ _ (T32.setTop (mkF m 137 #[.val (.long p0), .second, .val (.int p1), .val (.int (2 : Int32)), .val (.ref w0), .val (.long (1 : Int64)), .second, .val (.long (1 : Int64)), .second, .val (.long c31), .second, .val (.long r32), .second, .val (.long (1 : Int64)), .second] [(.long (r32 - (r32 / (1 : Int64)) * (1 : Int64)))]))
              refine own_via (fun _ k => XS.lconst X32.here hx rfl (hb hby at_137) k) ?_
              show own_Go p e below s _ _ _ (T32.setTop (mkF m 138 #[.val (.long p0), .second, .val (.int p1), .val (.int (2 : Int32)), .val (.ref w0), .val (.long (1 : Int64)), .second, .val (.long (1 : Int64)), .second, .val (.long c31), .second, .val (.long r32), .second, .val (.long (1 : Int64)), .second] [(.long (0 : Int64)), (.long (r32 - (r32 / (1 : Int64)) * (1 : Int64)))]))
              refine own_via (fun _ k => XS.lcmp X32.here hx rfl (hb hby at_138) rfl k) ?_
              show own_Go p e below s _ _ _ (T32.setTop (mkF m 139 #[.val (.long p0), .second, .val (.int p1), .val (.int (2 : Int32)), .val (.ref w0), .val (.long (1 : Int64)), .second, .val (.long (1 : Int64)), .second, .val (.long c31), .second, .val (.long r32), .second, .val (.long (1 : Int64)), .second] [(.int (lcmpW (r32 - (r32 / (1 : Int64)) * (1 : Int64)) (0 : Int64)))]))
              by_cases hc38 : (r32 - (r32 / (1 : Int64)) * (1 : Int64)) = (0 : Int64)
              · refine own_via (fun _ k => XS.ifNo X32.here hx rfl (hb hby at_139) rfl ((if0 _ _).trans (teq ((lw_eq (r32 - (r32 / (1 : Int64)) * (1 : Int64)) (0 : Int64)).mpr hc38)).2) k) ?_
                show own_Go p e below s _ _ _ (T32.setTop (mkF m 142 #[.val (.long p0), .second, .val (.int p1), .val (.int (2 : Int32)), .val (.ref w0), .val (.long (1 : Int64)), .second, .val (.long (1 : Int64)), .second, .val (.long c31), .second, .val (.long r32), .second, .val (.long (1 : Int64)), .second] []))
                refine own_via (fun _ k => XS.lload X32.here hx rfl (hb hby at_142) rfl k) ?_
                show own_Go p e below s _ _ _ (T32.setTop (mkF m 144 #[.val (.long p0), .second, .val (.int p1), .val (.int (2 : Int32)), .val (.ref w0), .val (.long (1 : Int64)), .second, .val (.long (1 : Int64)), .second, .val (.long c31), .second, .val (.long r32), .second, .val (.long (1 : Int64)), .second] [(.long c31)]))
                refine own_via (fun _ k => XS.lload X32.here hx rfl (hb hby at_144) rfl k) ?_
                show own_Go p e below s _ _ _ (T32.setTop (mkF m 146 #[.val (.long p0), .second, .val (.int p1), .val (.int (2 : Int32)), .val (.ref w0), .val (.long (1 : Int64)), .second, .val (.long (1 : Int64)), .second, .val (.long c31), .second, .val (.long r32), .second, .val (.long (1 : Int64)), .second] [(.long r32), (.long c31)]))
                refine own_via (fun _ k => XS.lsub X32.here hx rfl (hb hby at_146) rfl k) ?_
                show own_Go p e below s _ _ _ (T32.setTop (mkF m 147 #[.val (.long p0), .second, .val (.int p1), .val (.int (2 : Int32)), .val (.ref w0), .val (.long (1 : Int64)), .second, .val (.long (1 : Int64)), .second, .val (.long c31), .second, .val (.long r32), .second, .val (.long (1 : Int64)), .second] [(.long (c31 - r32))]))
                refine own_via (fun _ k => XS.lload X32.here hx rfl (hb hby at_147) rfl k) ?_
                show own_Go p e below s _ _ _ (T32.setTop (mkF m 149 #[.val (.long p0), .second, .val (.int p1), .val (.int (2 : Int32)), .val (.ref w0), .val (.long (1 : Int64)), .second, .val (.long (1 : Int64)), .second, .val (.long c31), .second, .val (.long r32), .second, .val (.long (1 : Int64)), .second] [(.long (1 : Int64)), (.long (c31 - r32))]))
                refine own_via (fun _ k => XS.lcmp X32.here hx rfl (hb hby at_149) rfl k) ?_
                show own_Go p e below s _ _ _ (T32.setTop (mkF m 150 #[.val (.long p0), .second, .val (.int p1), .val (.int (2 : Int32)), .val (.ref w0), .val (.long (1 : Int64)), .second, .val (.long (1 : Int64)), .second, .val (.long c31), .second, .val (.long r32), .second, .val (.long (1 : Int64)), .second] [(.int (lcmpW (c31 - r32) (1 : Int64)))]))
                by_cases hc39 : (1 : Int64) < (c31 - r32)
                · exfalso
                  have ar0 := rng64 r32
                  have ar1 := rng64 c31
                  have ar2 := c_lrem r32 (1 : Int64) 1 rfl
                  have ar3 := rng64 (r32 - (r32 / (1 : Int64)) * (1 : Int64))
                  have ar4 := c_lsub c31 r32
                  have ar5 := rng64 (c31 - r32)
                  simp only [Int64.lt_iff_toInt_lt, ← Int64.toInt_inj, Int32.lt_iff_toInt_lt, ← Int32.toInt_inj, (show (0 : Int64).toInt = 0 from rfl), (show (1 : Int64).toInt = 1 from rfl), (show (300 : Int64).toInt = 300 from rfl)] at hc33 hc34 hc35 hc38 hc39 ar0 ar1 ar2 ar3 ar4 ar5
                  omega
                · refine own_via (fun _ k => XS.ifNo X32.here hx rfl (hb hby at_150) rfl ((if0 _ _).trans (flt (mt (lw_gt (c31 - r32) (1 : Int64)).mp hc39)).2.2.1) k) ?_
                  show own_Go p e below s _ _ _ (T32.setTop (mkF m 153 #[.val (.long p0), .second, .val (.int p1), .val (.int (2 : Int32)), .val (.ref w0), .val (.long (1 : Int64)), .second, .val (.long (1 : Int64)), .second, .val (.long c31), .second, .val (.long r32), .second, .val (.long (1 : Int64)), .second] []))
                  refine own_via (fun _ k => XS.iconst X32.here hx rfl (hb hby at_153) k) ?_
                  show own_Go p e below s _ _ _ (T32.setTop (mkF m 154 #[.val (.long p0), .second, .val (.int p1), .val (.int (2 : Int32)), .val (.ref w0), .val (.long (1 : Int64)), .second, .val (.long (1 : Int64)), .second, .val (.long c31), .second, .val (.long r32), .second, .val (.long (1 : Int64)), .second] [(.int (1 : Int32))]))
                  refine own_via (fun _ k => XS.goto X32.here hx rfl (pc0 := 154) (pc' := 158) rfl (hb hby at_154) (by decide) (by decide) k) ?_
                  show own_Go p e below s _ _ _ (T32.setTop (mkF m 158 #[.val (.long p0), .second, .val (.int p1), .val (.int (2 : Int32)), .val (.ref w0), .val (.long (1 : Int64)), .second, .val (.long (1 : Int64)), .second, .val (.long c31), .second, .val (.long r32), .second, .val (.long (1 : Int64)), .second] [(.int (1 : Int32))]))
                  exact own_retZ X32 hx hlk (t := .boolean) Bd.returns (by simp) (hb hby at_158) (z' := (1 : Int32)) (by first | rfl | decide) ⟨rfl, (Fr.nil n0)⟩ (by decide) (by decide)
              · exfalso
                have ar0 := rng64 r32
                have ar1 := rng64 c31
                have ar2 := c_lrem r32 (1 : Int64) 1 rfl
                have ar3 := rng64 (r32 - (r32 / (1 : Int64)) * (1 : Int64))
                simp only [Int64.lt_iff_toInt_lt, ← Int64.toInt_inj, Int32.lt_iff_toInt_lt, ← Int32.toInt_inj, (show (0 : Int64).toInt = 0 from rfl), (show (1 : Int64).toInt = 1 from rfl), (show (300 : Int64).toInt = 300 from rfl)] at hc33 hc34 hc35 hc38 ar0 ar1 ar2 ar3
                omega
          · exfalso
            have ar0 := rng64 r32
            have ar1 := rng64 c31
            simp only [Int64.lt_iff_toInt_lt, ← Int64.toInt_inj, Int32.lt_iff_toInt_lt, ← Int32.toInt_inj, (show (0 : Int64).toInt = 0 from rfl)] at hc33 hc34 ar0 ar1
            omega
      show own_Go p e below s _ _ _ (T31.setTop (mkF m 88 #[.val (.long p0), .second, .val (.int p1), .val (.int (2 : Int32)), .val (.ref w0), .val (.long (1 : Int64)), .second, .val (.long (1 : Int64)), .second, .val (.long c31), .second, .unset, .unset, .unset, .unset] []))
      refine own_via (fun _ k => XS.aload X31.here hx rfl (hb hby at_88) rfl rfl k) ?_
      show own_Go p e below s _ _ _ (T31.setTop (mkF m 90 #[.val (.long p0), .second, .val (.int p1), .val (.int (2 : Int32)), .val (.ref w0), .val (.long (1 : Int64)), .second, .val (.long (1 : Int64)), .second, .val (.long c31), .second, .unset, .unset, .unset, .unset] [(.ref w0)]))
      refine own_via (fun _ k => XS.lload X31.here hx rfl (hb hby at_90) rfl k) ?_
      show own_Go p e below s _ _ _ (T31.setTop (mkF m 92 #[.val (.long p0), .second, .val (.int p1), .val (.int (2 : Int32)), .val (.ref w0), .val (.long (1 : Int64)), .second, .val (.long (1 : Int64)), .second, .val (.long c31), .second, .unset, .unset, .unset, .unset] [(.long c31), (.ref w0)]))
      obtain ⟨cq40, kq40, q40a, q40b, q40c⟩ := isOf hZ e31 E_w0
      obtain ⟨_, _, ⟨T40, L40, k40, n40⟩, -, X40, ⟨Lc40, hQ40, l40, y40, z40⟩, st40⟩ := X31.virtualBack hx (y := (⟨"com/example/strikeline/strikeline/PennyProgram", "priceBelow", "(J)J"⟩ : MethodName)) (z := (⟨"com/example/strikeline/strikeline/PennyProgram", "priceBelow", "(J)J"⟩ : MethodName)) hown (mvT hZ (hw _ (List.mem_of_getElem? (i := 9) rfl))) (mvT hZ (hw _ (List.mem_of_getElem? (i := 10) rfl))) (notFace_of_selects (args := #[]) (mvT hZ (hw _ (List.mem_of_getElem? (i := 12) rfl)))) (mvT hZ (hw _ (List.mem_of_getElem? (i := 12) rfl))) (mvT hZ (hw _ (List.mem_of_getElem? (i := 11) rfl))) (by decide) (backOf (W := 0) (rm2_2 l Z a0 hw [] c31 w0 w1 w2 h0 n0 Z0 K0) hZ (hw _ (List.mem_of_getElem? (i := 13) rfl)) (hw _ (List.mem_of_getElem? (i := 2) rfl)) (by decide) (by decide)) q40a q40c (g := (mkF m 92 #[.val (.long p0), .second, .val (.int p1), .val (.int (2 : Int32)), .val (.ref w0), .val (.long (1 : Int64)), .second, .val (.long (1 : Int64)), .second, .val (.long c31), .second, .unset, .unset, .unset, .unset] [(.long c31), (.ref w0)])) rfl (by rw [hml]; rfl) (Steps.refl _) (argsL := [(.long c31)]) (rest := []) (lenOf pd0 rfl) rfl (by show 2 * 0 + _ ≤ _; exact Nat.le_of_eq rfl) (hb hby at_92) (fun _ _ => ⟨rfl, e31, (by decide : 0 + 0 ≤ _), (by decide : 0 + 0 ≤ _)⟩)
      dsimp only [Pt.U, Pt.locs, Pt.cells, Pt.slots] at X40 l40 y40 z40 st40 hQ40
      subst l40 y40 z40
      obtain ⟨rfl, e40, hO40⟩ := hQ40
      rcases hO40 with ⟨hr40_0_0, rfl⟩ | ⟨hr40_1_0, rfl⟩
      · refine own_tr st40 ?_
        show own_Go p e below s _ _ _ (T40.setTop (mkF m 95 #[.val (.long p0), .second, .val (.int p1), .val (.int (2 : Int32)), .val (.ref w0), .val (.long (1 : Int64)), .second, .val (.long (1 : Int64)), .second, .val (.long c31), .second, .unset, .unset, .unset, .unset] [(.long (((c31 - (1 : Int64)) / (1 : Int64)) * (1 : Int64)))]))
        exact J32 T40 X40 e40 (((c31 - (1 : Int64)) / (1 : Int64)) * (1 : Int64)) (Or.inl ⟨own_ltL hr40_0_0, own_below1 _ hb31⟩)
      · refine own_tr st40 ?_
        show own_Go p e below s _ _ _ (T40.setTop (mkF m 95 #[.val (.long p0), .second, .val (.int p1), .val (.int (2 : Int32)), .val (.ref w0), .val (.long (1 : Int64)), .second, .val (.long (1 : Int64)), .second, .val (.long c31), .second, .unset, .unset, .unset, .unset] [(.long (((c31 - (1 : Int64)) / (1 : Int64)) * (1 : Int64)))]))
        exact J32 T40 X40 e40 (((c31 - (1 : Int64)) / (1 : Int64)) * (1 : Int64)) (Or.inr ⟨own_geL hr40_1_0, own_below1 _ hb31⟩)
    show own_Go p e below s _ _ _ (T30.setTop (mkF m 61 #[.val (.long p0), .second, .val (.int p1), .val (.int (2 : Int32)), .val (.ref w0), .val (.long (1 : Int64)), .second, .val (.long (1 : Int64)), .second, .unset, .unset, .unset, .unset, .unset, .unset] []))
    refine own_via (fun _ k => XS.iloadN X30.here hx rfl (hb hby at_61) rfl k) ?_
    show own_Go p e below s _ _ _ (T30.setTop (mkF m 62 #[.val (.long p0), .second, .val (.int p1), .val (.int (2 : Int32)), .val (.ref w0), .val (.long (1 : Int64)), .second, .val (.long (1 : Int64)), .second, .unset, .unset, .unset, .unset, .unset, .unset] [(.int p1)]))
    refine own_via (fun _ k => XS.iconst X30.here hx rfl (hb hby at_62) k) ?_
    show own_Go p e below s _ _ _ (T30.setTop (mkF m 63 #[.val (.long p0), .second, .val (.int p1), .val (.int (2 : Int32)), .val (.ref w0), .val (.long (1 : Int64)), .second, .val (.long (1 : Int64)), .second, .unset, .unset, .unset, .unset, .unset, .unset] [(.int (4 : Int32)), (.int p1)]))
    refine own_via (fun _ k => XS.iand X30.here hx rfl (hb hby at_63) rfl k) ?_
    show own_Go p e below s _ _ _ (T30.setTop (mkF m 64 #[.val (.long p0), .second, .val (.int p1), .val (.int (2 : Int32)), .val (.ref w0), .val (.long (1 : Int64)), .second, .val (.long (1 : Int64)), .second, .unset, .unset, .unset, .unset, .unset, .unset] [(.int (p1 &&& (4 : Int32)))]))
    by_cases hc41 : (p1 &&& (4 : Int32)) = (0 : Int32)
    · refine own_via (fun _ k => XS.ifYes X30.here hx rfl (pc0 := 64) (pc' := 77) rfl (hb hby at_64) rfl ((if0 _ _).trans (teq hc41).1) (by decide) (by decide) k) ?_
      show own_Go p e below s _ _ _ (T30.setTop (mkF m 77 #[.val (.long p0), .second, .val (.int p1), .val (.int (2 : Int32)), .val (.ref w0), .val (.long (1 : Int64)), .second, .val (.long (1 : Int64)), .second, .unset, .unset, .unset, .unset, .unset, .unset] []))
      refine own_via (fun _ k => XS.lconst X30.here hx rfl (hb hby at_77) k) ?_
      show own_Go p e below s _ _ _ (T30.setTop (mkF m 78 #[.val (.long p0), .second, .val (.int p1), .val (.int (2 : Int32)), .val (.ref w0), .val (.long (1 : Int64)), .second, .val (.long (1 : Int64)), .second, .unset, .unset, .unset, .unset, .unset, .unset] [(.long (1 : Int64))]))
      refine own_via (fun _ k => XS.lloadN X30.here hx rfl (hb hby at_78) rfl k) ?_
      show own_Go p e below s _ _ _ (T30.setTop (mkF m 79 #[.val (.long p0), .second, .val (.int p1), .val (.int (2 : Int32)), .val (.ref w0), .val (.long (1 : Int64)), .second, .val (.long (1 : Int64)), .second, .unset, .unset, .unset, .unset, .unset, .unset] [(.long p0), (.long (1 : Int64))]))
      refine own_via (fun _ k => X30.ldc2Long hx hown (mvT hZ (hw _ (List.mem_of_getElem? (i := 4) rfl))) (g := (mkF m 79 #[.val (.long p0), .second, .val (.int p1), .val (.int (2 : Int32)), .val (.ref w0), .val (.long (1 : Int64)), .second, .val (.long (1 : Int64)), .second, .unset, .unset, .unset, .unset, .unset, .unset] [(.long p0), (.long (1 : Int64))])) rfl (hb hby at_79) _ k) ?_
      show own_Go p e below s _ _ _ (T30.setTop (mkF m 82 #[.val (.long p0), .second, .val (.int p1), .val (.int (2 : Int32)), .val (.ref w0), .val (.long (1 : Int64)), .second, .val (.long (1 : Int64)), .second, .unset, .unset, .unset, .unset, .unset, .unset] [(.long (9223372036854775807 : Int64)), (.long p0), (.long (1 : Int64))]))
      refine own_via (fun _ k => XS.land X30.here hx rfl (hb hby at_82) rfl k) ?_
      show own_Go p e below s _ _ _ (T30.setTop (mkF m 83 #[.val (.long p0), .second, .val (.int p1), .val (.int (2 : Int32)), .val (.ref w0), .val (.long (1 : Int64)), .second, .val (.long (1 : Int64)), .second, .unset, .unset, .unset, .unset, .unset, .unset] [(.long (p0 &&& (9223372036854775807 : Int64))), (.long (1 : Int64))]))
      obtain ⟨_, _, ⟨T42, L42, k42, n42⟩, -, X42, ⟨Lc42, hQ42, l42, y42, z42⟩, st42⟩ := Jvm.LawKit.callS X30 hx (y := (⟨"java/lang/Math", "max", "(JJ)J"⟩ : MethodName)) hown (mvT hZ (hw _ (List.mem_of_getElem? (i := 5) rfl))) (mvT hZ (hw _ (List.mem_of_getElem? (i := 6) rfl))) (mvT hZ (hw _ (List.mem_of_getElem? (i := 7) rfl))) (mvT hZ (hw _ (List.mem_of_getElem? (i := 8) rfl))) (by decide) (backOf (W := 0) (rm1_0 l Z a0 hw [] (p0 &&& (9223372036854775807 : Int64)) w0 w1 w2 h0 n0 Z0 K0) hZ (hw _ (List.mem_of_getElem? (i := 8) rfl)) (hw _ (List.mem_of_getElem? (i := 7) rfl)) (by decide) (by decide)) (g := (mkF m 83 #[.val (.long p0), .second, .val (.int p1), .val (.int (2 : Int32)), .val (.ref w0), .val (.long (1 : Int64)), .second, .val (.long (1 : Int64)), .second, .unset, .unset, .unset, .unset, .unset, .unset] [(.long (p0 &&& (9223372036854775807 : Int64))), (.long (1 : Int64))])) rfl (by rw [hml]; rfl) (argsL := [(.long (1 : Int64)), (.long (p0 &&& (9223372036854775807 : Int64)))]) (rest := []) (lenOf pd1 rfl) rfl (by show 2 * 0 + _ ≤ _; exact Nat.le_of_eq rfl) (hb hby at_83) (fun _ _ => ⟨rfl, e30, (by decide : 0 + 0 ≤ _), (by decide : 0 + 0 ≤ _)⟩)
      dsimp only [Pt.U, Pt.locs, Pt.cells, Pt.slots] at X42 l42 y42 z42 st42 hQ42
      subst l42 y42 z42
      obtain ⟨rfl, e42, hO42⟩ := hQ42
      rcases hO42 with ⟨hr42_0_0, rfl⟩ | ⟨hr42_1_0, rfl⟩
      · refine own_via st42 ?_
        show own_Go p e below s _ _ _ (T42.setTop (mkF m 86 #[.val (.long p0), .second, .val (.int p1), .val (.int (2 : Int32)), .val (.ref w0), .val (.long (1 : Int64)), .second, .val (.long (1 : Int64)), .second, .unset, .unset, .unset, .unset, .unset, .unset] [(.long (p0 &&& (9223372036854775807 : Int64)))]))
        exact J31 T42 X42 e42 (p0 &&& (9223372036854775807 : Int64)) (own_lt1 hr42_0_0)
      · refine own_via st42 ?_
        show own_Go p e below s _ _ _ (T42.setTop (mkF m 86 #[.val (.long p0), .second, .val (.int p1), .val (.int (2 : Int32)), .val (.ref w0), .val (.long (1 : Int64)), .second, .val (.long (1 : Int64)), .second, .unset, .unset, .unset, .unset, .unset, .unset] [(.long (1 : Int64))]))
        exact J31 T42 X42 e42 (1 : Int64) (by decide)
    · refine own_via (fun _ k => XS.ifNo X30.here hx rfl (hb hby at_64) rfl ((if0 _ _).trans (feq hc41).1) k) ?_
      show own_Go p e below s _ _ _ (T30.setTop (mkF m 67 #[.val (.long p0), .second, .val (.int p1), .val (.int (2 : Int32)), .val (.ref w0), .val (.long (1 : Int64)), .second, .val (.long (1 : Int64)), .second, .unset, .unset, .unset, .unset, .unset, .unset] []))
      refine own_via (fun _ k => XS.lconst X30.here hx rfl (hb hby at_67) k) ?_
      show own_Go p e below s _ _ _ (T30.setTop (mkF m 68 #[.val (.long p0), .second, .val (.int p1), .val (.int (2 : Int32)), .val (.ref w0), .val (.long (1 : Int64)), .second, .val (.long (1 : Int64)), .second, .unset, .unset, .unset, .unset, .unset, .unset] [(.long (1 : Int64))]))
      refine own_via (fun _ k => XS.lloadN X30.here hx rfl (hb hby at_68) rfl k) ?_
      show own_Go p e below s _ _ _ (T30.setTop (mkF m 69 #[.val (.long p0), .second, .val (.int p1), .val (.int (2 : Int32)), .val (.ref w0), .val (.long (1 : Int64)), .second, .val (.long (1 : Int64)), .second, .unset, .unset, .unset, .unset, .unset, .unset] [(.long p0), (.long (1 : Int64))]))
      refine own_via (fun _ k => X30.ldc2Long hx hown (mvT hZ (hw _ (List.mem_of_getElem? (i := 21) rfl))) (g := (mkF m 69 #[.val (.long p0), .second, .val (.int p1), .val (.int (2 : Int32)), .val (.ref w0), .val (.long (1 : Int64)), .second, .val (.long (1 : Int64)), .second, .unset, .unset, .unset, .unset, .unset, .unset] [(.long p0), (.long (1 : Int64))])) rfl (hb hby at_69) _ k) ?_
      show own_Go p e below s _ _ _ (T30.setTop (mkF m 72 #[.val (.long p0), .second, .val (.int p1), .val (.int (2 : Int32)), .val (.ref w0), .val (.long (1 : Int64)), .second, .val (.long (1 : Int64)), .second, .unset, .unset, .unset, .unset, .unset, .unset] [(.long (1023 : Int64)), (.long p0), (.long (1 : Int64))]))
      refine own_via (fun _ k => XS.land X30.here hx rfl (hb hby at_72) rfl k) ?_
      show own_Go p e below s _ _ _ (T30.setTop (mkF m 73 #[.val (.long p0), .second, .val (.int p1), .val (.int (2 : Int32)), .val (.ref w0), .val (.long (1 : Int64)), .second, .val (.long (1 : Int64)), .second, .unset, .unset, .unset, .unset, .unset, .unset] [(.long (p0 &&& (1023 : Int64))), (.long (1 : Int64))]))
      refine own_via (fun _ k => XS.ladd X30.here hx rfl (hb hby at_73) rfl k) ?_
      show own_Go p e below s _ _ _ (T30.setTop (mkF m 74 #[.val (.long p0), .second, .val (.int p1), .val (.int (2 : Int32)), .val (.ref w0), .val (.long (1 : Int64)), .second, .val (.long (1 : Int64)), .second, .unset, .unset, .unset, .unset, .unset, .unset] [(.long ((1 : Int64) + (p0 &&& (1023 : Int64))))]))
      refine own_via (fun _ k => XS.goto X30.here hx rfl (pc0 := 74) (pc' := 86) rfl (hb hby at_74) (by decide) (by decide) k) ?_
      show own_Go p e below s _ _ _ (T30.setTop (mkF m 86 #[.val (.long p0), .second, .val (.int p1), .val (.int (2 : Int32)), .val (.ref w0), .val (.long (1 : Int64)), .second, .val (.long (1 : Int64)), .second, .unset, .unset, .unset, .unset, .unset, .unset] [(.long ((1 : Int64) + (p0 &&& (1023 : Int64))))]))
      exact J31 T30 X30 e30 ((1 : Int64) + (p0 &&& (1023 : Int64))) (own_c86 _)
set_option maxRecDepth 65536 in
set_option maxHeartbeats 40000000 in
theorem comes_1 {Post : Tables → Env → Array Value → State → Outcome → State → Prop} (hpost : ∀ tb e args s v u, (limb_1_1.after args s (.returned v) u = true ∧ limb_1_2.after args s (.returned v) u = true ∧ True) → FrameEnd s (.returned v) u (Jvm.fieldLocs frame_1_writes args s ++ Jvm.arrayLocs frame_1_arrays args s ++ Jvm.staticLocs frame_1_statics s) 0 0 → Post tb e args s (.returned v) u) :
    ArmFor flags0 classFile x code maxLocals ret World_1 tables_1 room_1 Calls_1 rest_1 Pre_1 Post := by
  intro l hfl _ _ p e ha hc hk s m args below hf hA hF happ hP
  obtain ⟨hcalls, hrest, hpre⟩ := hP
  obtain ⟨-, -, -, hnamed, -, -, -, hat⟩ := (Spec.applies_iff hf).mp happ
  obtain ⟨hg, hn⟩ := and_e (Cond.before_iff.mp (show (Jvm.Cond.and given_1 narrow_1).before args s = true from hpre))
  obtain ⟨g0, hg0⟩ := and_e hg
  obtain ⟨g1, hg1⟩ := and_e hg0
  obtain ⟨u0, u1, rfl⟩ : ∃ u0 u1 : Value, args = #[u0, u1] := by
    have hs : args.size = 2 := by simpa [Cond.value, given_1] using g0
    obtain ⟨L⟩ := args
    match L, hs with
    | [u0, u1], _ => exact ⟨u0, u1, rfl⟩
  have hw := fun d (hd : d ∈ tables_1) => atoms_spec (ws := Jvm.Cond.code x code maxLocals ret :: tables_1) hat d (List.mem_cons_of_mem _ hd)
  obtain ⟨i0, ei0⟩ := isL_v g1
  obtain rfl : u0 = (.long i0) := Option.some.inj ei0
  obtain ⟨i1, ei1⟩ := is_v hg1
  obtain rfl : u1 = (.int i1) := Option.some.inj ei1
  obtain ⟨t0, hn0⟩ := and_e hn
  obtain ⟨t1, hn1⟩ := and_e hn0
  obtain ⟨t2, hn2⟩ := and_e hn1
  obtain ⟨t3, hn3⟩ := and_e hn2
  obtain ⟨t4, hn4⟩ := and_e hn3
  obtain ⟨t5, hn5⟩ := and_e hn4
  obtain ⟨t6, hn6⟩ := and_e hn5
  obtain ⟨t7, hn7⟩ := and_e hn6
  obtain ⟨w0, v_w0⟩ := exa_v t0
  have E_w0 := Exa.start v_w0 t0
  have S_w0 := Sta.start v_w0 (Or.inr ⟨(hw _ (List.mem_of_getElem? (i := 2) rfl)), (hw _ (List.mem_of_getElem? (i := 3) rfl))⟩)
  obtain ⟨w1, v_w1⟩ := exa_v t2
  have E_w1 := Exa.start v_w1 t2
  have S_w1 := Sta.start v_w1 (Or.inr ⟨(hw _ (List.mem_of_getElem? (i := 2) rfl)), (hw _ (List.mem_of_getElem? (i := 19) rfl))⟩)
  obtain ⟨w2, v_w2⟩ := exa_v t5
  have E_w2 := Exa.start v_w2 t5
  have S_w2 := Sta.start v_w2 (Or.inr ⟨(hw _ (List.mem_of_getElem? (i := 2) rfl)), (hw _ (List.mem_of_getElem? (i := 25) rfl))⟩)
  have F_w0_below := own_fldL v_w0 t1
  have F_w1_below := own_fldL v_w1 t3
  have F_w0_from := own_fldL v_w0 t4
  have F_w2_below := own_fldL v_w2 t6
  have F_w2_from := own_fldL v_w2 t7
  have F_w1_from := own_fldL v_w1 hn7
  have n_w0_w1 : ¬ (w0 = w1) := Fld.ne F_w0_from F_w1_from (by decide)
  have n_w0_w2 : ¬ (w0 = w2) := Fld.ne F_w0_below F_w2_below (by decide)
  have n_w1_w2 : ¬ (w1 = w2) := Fld.ne F_w1_below F_w2_below (by decide)
  obtain ⟨n, o, h1, h2, h3, _, L, rfl, ⟨rfl, N⟩, hq⟩ := rm0 l s _ hw tables_1 i0 i1 w0 w1 w2 s.heap s.heap.size (Nat.le_refl _) ⟨S_w0, S_w1, S_w2, E_w0, E_w1, E_w2, F_w0_below, F_w1_below, F_w0_from, F_w2_below, F_w2_from, F_w1_from, n_w0_w1, n_w0_w2, n_w1_w2⟩ p e ha hc hk s m _ below hf ((Spec.applies_iff_loose hf).mp happ).1 ⟨rfl, State.Warmed39.refl s, rfl⟩ trivial
  refine ⟨n, _, h1, h2, h3, hpost _ _ _ _ _ _ ⟨Cond.after_iff.mpr rfl, Cond.after_iff.mpr (eq_i res_at (Term.int_eval (1)) rfl), trivial⟩ ⟨hq.1, hq.2.1, (hq.2.2.sift fun y hy => Or.inr (N y hy)).mono (by decide) (by decide)⟩⟩
theorem main_1_1 : Claimed_1_1 := comes_1 fun _ _ _ _ _ _ h hF => ⟨h.1, hF⟩
theorem main_1_2 : Claimed_1_2 := comes_1 fun _ _ _ _ _ _ h hF => ⟨h.2.1, hF⟩
end Jvm.Pilot.@@N@@
namespace Jvm.Pilot.@@N@@
open Jvm Jvm.ClassFile Sem Op Lib Jvm.Free Jvm.Stand Jvm.Pilot.@@N@@.Jvm.D
/-! MADE BY PROGRAM (witnessworld.py) out of the Statement's table words and the real class files: 13 classes; the members and pool entries that the words name. The judged class is class 1, her method 1. -/
namespace start1
open Jvm.ClassFile
def u (s : String) : CpInfo := .utf8 (stringToUtf16 s)
/-- a pool by its gaps: so many unusable entries, then the entry; so many at the end -/
def gap : Nat → List CpInfo → List CpInfo
  | 0, r => r
  | n + 1, r => .unusable :: gap n r
def poolList (es : List (Nat × CpInfo)) (last : Nat) : List CpInfo := es.foldr (fun e r => gap e.1 (e.2 :: r)) (gap last [])
def pool (es : List (Nat × CpInfo)) (last : Nat) : Array CpInfo := ⟨poolList es last⟩
def fileOf (pool : Array CpInfo) (this : Nat) (attrs : Array Attribute := #[]) (ms : Array MethodInfo := #[]) (fl : Nat := 33) (sup : Nat := 0) (ifs : Array Nat := #[]) (fds : Array FieldInfo := #[]) : ClassFile where
  minorVersion := 0
  majorVersion := 65
  constantPool := pool
  accessFlags := fl
  thisClass := this
  superClass := sup
  interfaces := ifs
  fields := fds
  methods := ms
  attributes := attrs
def plain (name : String) (sup : Option ClassId) : Class where
  name := name
  kind := .ordinary
  loader := none
  accessFlags := 33
  super := sup
  interfaces := #[]
  cf := none
  fields := #[]
  methods := #[]
  instanceTypes := #[]
  staticTypes := #[]
  resolved := #[]
  callSites := []
  init := .initialized
  statics := none
  mirror := none

def pool0 : Array CpInfo := pool [(5, u "<init>"), (0, u "()V"), (1, .class_ 10), (1, u "java/lang/Object")] 113

def k0m0 : Method := { name := "<init>", desc := "()V", sig := { parameters := [], returnType := none }, accessFlags := 1, code := none }
/-- java/lang/Object -/
def k0 : Class := { plain "java/lang/Object" none with
  accessFlags := 33
  interfaces := #[]
  cf := some (fileOf pool0 8 #[] #[{ accessFlags := 1, nameIndex := 5, descriptorIndex := 6, attributes := #[] }] 33 0 #[] #[])
  fields := #[]
  methods := #[k0m0]
  instanceTypes := #[]
  staticTypes := #[]
  resolved := Array.replicate 124 none
  statics := none }

def pool1 : Array CpInfo := pool [(2, .class_ 4), (1, u "java/lang/Object"), (0, u "<init>"), (0, u "()V"), (0, .integer 2147483647), (0, .fieldref 9 10), (0, .class_ 11), (0, .nameAndType 12 13), (0, u "com/example/strikeline/strikeline/PennyProgram"), (0, u "NO"), (0, u "Lcom/example/strikeline/strikeline/PennyProgram;"), (0, .long 5), (1, .long 10), (1, .fieldref 9 19), (0, .nameAndType 20 13), (0, u "YES"), (0, .fieldref 9 22), (0, .nameAndType 23 13), (0, u "ALL"), (0, .long 1023), (3, .long 9223372036854775807), (1, .methodref 31 32), (0, .class_ 33), (0, .nameAndType 34 35), (0, u "java/lang/Math"), (0, u "max"), (0, u "(JJ)J"), (0, .methodref 9 37), (0, .nameAndType 38 39), (0, u "priceBelow"), (0, u "(J)J"), (0, .long 300), (1, .class_ 43), (0, u "com/example/strikeline/strikeline/PennyProgramPriceBelowPinLaw"), (2, u "law"), (0, u "(JI)Z")] 3

def k1m0 : Method := { name := "<init>", desc := "()V", sig := { parameters := [], returnType := none }, accessFlags := 1, code := none }
def k1c1 : Code := { maxStack := 6, maxLocals := 15, code := code, exceptionTable := #[], attributes := #[] }
def k1m1 : Method := { name := "law", desc := "(JI)Z", sig := { parameters := [.long, .int], returnType := some .boolean }, accessFlags := 9, code := some k1c1 }
/-- com/example/strikeline/strikeline/PennyProgramPriceBelowPinLaw -/
def k1 : Class := { plain "com/example/strikeline/strikeline/PennyProgramPriceBelowPinLaw" (some 0) with
  accessFlags := 49
  interfaces := #[]
  cf := some (fileOf pool1 42 #[] #[{ accessFlags := 1, nameIndex := 5, descriptorIndex := 6, attributes := #[] }, { accessFlags := 9, nameIndex := 46, descriptorIndex := 47, attributes := #[] }] 49 2 #[] #[])
  fields := #[]
  methods := #[k1m0, k1m1]
  instanceTypes := #[]
  staticTypes := #[]
  resolved := Array.replicate 51 none
  statics := none }

def pool2 : Array CpInfo := pool [(1, .class_ 2), (0, u "java/lang/constant/Constable"), (0, .class_ 4), (0, u "java/lang/Object")] 6

/-- java/lang/constant/Constable -/
def k2 : Class := { plain "java/lang/constant/Constable" (some 0) with
  accessFlags := 1537
  interfaces := #[]
  cf := some (fileOf pool2 1 #[] #[] 1537 3 #[] #[])
  fields := #[]
  methods := #[]
  instanceTypes := #[]
  staticTypes := #[]
  resolved := Array.replicate 11 none
  statics := none }

def pool3 : Array CpInfo := pool [(1, .class_ 2), (0, u "java/lang/Comparable"), (0, .class_ 4), (0, u "java/lang/Object")] 7

/-- java/lang/Comparable -/
def k3 : Class := { plain "java/lang/Comparable" (some 0) with
  accessFlags := 1537
  interfaces := #[]
  cf := some (fileOf pool3 1 #[] #[] 1537 3 #[] #[])
  fields := #[]
  methods := #[]
  instanceTypes := #[]
  staticTypes := #[]
  resolved := Array.replicate 12 none
  statics := none }

def pool4 : Array CpInfo := pool [(1, .class_ 2), (0, u "java/io/Serializable"), (0, .class_ 4), (0, u "java/lang/Object")] 2

/-- java/io/Serializable -/
def k4 : Class := { plain "java/io/Serializable" (some 0) with
  accessFlags := 1537
  interfaces := #[]
  cf := some (fileOf pool4 1 #[] #[] 1537 3 #[] #[])
  fields := #[]
  methods := #[]
  instanceTypes := #[]
  staticTypes := #[]
  resolved := Array.replicate 7 none
  statics := none }

def pool5 : Array CpInfo := pool [(2, .class_ 4), (1, u "java/lang/Enum"), (0, u "name"), (0, u "Ljava/lang/String;"), (2, u "ordinal"), (0, u "I"), (1, .class_ 14), (1, u "java/lang/Object"), (4, u "hash"), (86, .class_ 108), (1, u "java/lang/Enum$EnumDesc"), (2, .class_ 112), (0, u "java/lang/constant/Constable"), (0, .class_ 114), (0, u "java/lang/Comparable"), (0, .class_ 116), (0, u "java/io/Serializable")] 87

/-- java/lang/Enum -/
def k5 : Class := { plain "java/lang/Enum" (some 0) with
  accessFlags := 1057
  interfaces := #[2, 3, 4]
  cf := some (fileOf pool5 2 #[.nestMembers #[106]] #[] 1057 12 #[111, 113, 115] #[{ accessFlags := 18, nameIndex := 5, descriptorIndex := 6, attributes := #[] }, { accessFlags := 18, nameIndex := 9, descriptorIndex := 10, attributes := #[] }, { accessFlags := 2, nameIndex := 19, descriptorIndex := 10, attributes := #[] }])
  fields := #[{ name := "name", type := (.object "java/lang/String"), accessFlags := 18, slot := 0, constantValue := 0 }, { name := "ordinal", type := .int, accessFlags := 18, slot := 1, constantValue := 0 }, { name := "hash", type := .int, accessFlags := 2, slot := 2, constantValue := 0 }]
  methods := #[]
  instanceTypes := #[(.object "java/lang/String"), .int, .int]
  staticTypes := #[]
  resolved := Array.replicate 204 none
  statics := none }

def pool6 : Array CpInfo := pool [(1, .class_ 2), (0, u "com/example/strikeline/strikeline/PennyProgram"), (2, u "NO"), (0, u "Lcom/example/strikeline/strikeline/PennyProgram;"), (2, u "YES"), (2, u "ALL"), (2, u "$VALUES"), (0, u "[Lcom/example/strikeline/strikeline/PennyProgram;"), (6, .class_ 25), (1, u "java/lang/Enum"), (8, u "word"), (0, u "Ljava/lang/String;"), (0, .fieldref 1 37), (0, .nameAndType 38 39), (0, u "below"), (0, u "J"), (0, .fieldref 1 41), (0, .nameAndType 42 39), (0, u "from"), (0, .long 300), (21, u "BREAK"), (12, u "priceBelow"), (0, u "(J)J")] 6

def k6c0 : Code := { maxStack := 4, maxLocals := 5, code := prog_68_method_6_code, exceptionTable := #[], attributes := #[] }
def k6m0 : Method := { name := "priceBelow", desc := "(J)J", sig := { parameters := [.long], returnType := some .long }, accessFlags := 0, code := some k6c0 }
/-- com/example/strikeline/strikeline/PennyProgram -/
def k6 : Class := { plain "com/example/strikeline/strikeline/PennyProgram" (some 5) with
  accessFlags := 16432
  interfaces := #[]
  cf := some (fileOf pool6 1 #[] #[{ accessFlags := 0, nameIndex := 78, descriptorIndex := 79, attributes := #[] }] 16432 23 #[] #[{ accessFlags := 16409, nameIndex := 5, descriptorIndex := 6, attributes := #[] }, { accessFlags := 16409, nameIndex := 9, descriptorIndex := 6, attributes := #[] }, { accessFlags := 16409, nameIndex := 12, descriptorIndex := 6, attributes := #[] }, { accessFlags := 26, nameIndex := 65, descriptorIndex := 39, attributes := #[] }, { accessFlags := 18, nameIndex := 34, descriptorIndex := 35, attributes := #[] }, { accessFlags := 18, nameIndex := 38, descriptorIndex := 39, attributes := #[] }, { accessFlags := 18, nameIndex := 42, descriptorIndex := 39, attributes := #[] }, { accessFlags := 4122, nameIndex := 15, descriptorIndex := 16, attributes := #[] }])
  fields := #[{ name := "NO", type := (.object "com/example/strikeline/strikeline/PennyProgram"), accessFlags := 16409, slot := 0, constantValue := 0 }, { name := "YES", type := (.object "com/example/strikeline/strikeline/PennyProgram"), accessFlags := 16409, slot := 1, constantValue := 0 }, { name := "ALL", type := (.object "com/example/strikeline/strikeline/PennyProgram"), accessFlags := 16409, slot := 2, constantValue := 0 }, { name := "BREAK", type := .long, accessFlags := 26, slot := 3, constantValue := 0 }, { name := "word", type := (.object "java/lang/String"), accessFlags := 18, slot := 3, constantValue := 0 }, { name := "below", type := .long, accessFlags := 18, slot := 4, constantValue := 0 }, { name := "from", type := .long, accessFlags := 18, slot := 5, constantValue := 0 }, { name := "$VALUES", type := (.array (.object "com/example/strikeline/strikeline/PennyProgram")), accessFlags := 4122, slot := 4, constantValue := 0 }]
  methods := #[k6m0]
  instanceTypes := #[(.object "java/lang/String"), .int, .int, (.object "java/lang/String"), .long, .long]
  staticTypes := #[(.object "com/example/strikeline/strikeline/PennyProgram"), (.object "com/example/strikeline/strikeline/PennyProgram"), (.object "com/example/strikeline/strikeline/PennyProgram"), .long, (.array (.object "com/example/strikeline/strikeline/PennyProgram"))]
  resolved := Array.replicate 86 none
  statics := some 0 }

def pool7 : Array CpInfo := pool [(1, .class_ 2), (0, u "java/lang/Math"), (1, .class_ 6), (1, u "java/lang/Object"), (0, u "<init>"), (0, u "()V"), (89, .class_ 100), (1, u "java/lang/Math$RandomNumberGeneratorHolder"), (20, u "(JJ)J"), (50, u "negativeZeroFloatBits"), (0, u "J"), (2, u "negativeZeroDoubleBits"), (21, u "max"), (46, u "$assertionsDisabled"), (0, u "Z"), (91, u "twoToTheDoubleScaleDown"), (0, u "D"), (4, u "twoToTheDoubleScaleUp"), (9, u "E"), (3, u "PI"), (2, u "TAU"), (2, u "DEGREES_TO_RADIANS"), (0, u "RADIANS_TO_DEGREES")] 94

def k7m0 : Method := { name := "<init>", desc := "()V", sig := { parameters := [], returnType := none }, accessFlags := 2, code := none }
def k7c1 : Code := { maxStack := 4, maxLocals := 4, code := jdk_29_method_66_code, exceptionTable := #[], attributes := #[] }
def k7m1 : Method := { name := "max", desc := "(JJ)J", sig := { parameters := [.long, .long], returnType := some .long }, accessFlags := 9, code := some k7c1 }
/-- java/lang/Math -/
def k7 : Class := { plain "java/lang/Math" (some 0) with
  accessFlags := 49
  interfaces := #[]
  cf := some (fileOf pool7 1 #[.nestMembers #[98]] #[{ accessFlags := 2, nameIndex := 7, descriptorIndex := 8, attributes := #[] }, { accessFlags := 9, nameIndex := 198, descriptorIndex := 121, attributes := #[] }] 49 4 #[] #[{ accessFlags := 25, nameIndex := 354, descriptorIndex := 339, attributes := #[] }, { accessFlags := 25, nameIndex := 358, descriptorIndex := 339, attributes := #[] }, { accessFlags := 25, nameIndex := 361, descriptorIndex := 339, attributes := #[] }, { accessFlags := 26, nameIndex := 364, descriptorIndex := 339, attributes := #[] }, { accessFlags := 26, nameIndex := 365, descriptorIndex := 339, attributes := #[] }, { accessFlags := 26, nameIndex := 172, descriptorIndex := 173, attributes := #[] }, { accessFlags := 26, nameIndex := 176, descriptorIndex := 173, attributes := #[] }, { accessFlags := 8, nameIndex := 344, descriptorIndex := 339, attributes := #[] }, { accessFlags := 8, nameIndex := 338, descriptorIndex := 339, attributes := #[] }, { accessFlags := 4120, nameIndex := 245, descriptorIndex := 246, attributes := #[] }])
  fields := #[{ name := "E", type := .double, accessFlags := 25, slot := 0, constantValue := 0 }, { name := "PI", type := .double, accessFlags := 25, slot := 1, constantValue := 0 }, { name := "TAU", type := .double, accessFlags := 25, slot := 2, constantValue := 0 }, { name := "DEGREES_TO_RADIANS", type := .double, accessFlags := 26, slot := 3, constantValue := 0 }, { name := "RADIANS_TO_DEGREES", type := .double, accessFlags := 26, slot := 4, constantValue := 0 }, { name := "negativeZeroFloatBits", type := .long, accessFlags := 26, slot := 5, constantValue := 0 }, { name := "negativeZeroDoubleBits", type := .long, accessFlags := 26, slot := 6, constantValue := 0 }, { name := "twoToTheDoubleScaleUp", type := .double, accessFlags := 8, slot := 7, constantValue := 0 }, { name := "twoToTheDoubleScaleDown", type := .double, accessFlags := 8, slot := 8, constantValue := 0 }, { name := "$assertionsDisabled", type := .boolean, accessFlags := 4120, slot := 9, constantValue := 0 }]
  methods := #[k7m0, k7m1]
  instanceTypes := #[]
  staticTypes := #[.double, .double, .double, .double, .double, .long, .long, .double, .double, .boolean]
  resolved := Array.replicate 460 none
  statics := none }

def pool8 : Array CpInfo := pool [(1, u "java/lang/Cloneable"), (0, .class_ 1), (0, u "java/lang/Object"), (0, .class_ 3)] 3

/-- java/lang/Cloneable -/
def k8 : Class := { plain "java/lang/Cloneable" (some 0) with
  accessFlags := 1537
  interfaces := #[]
  cf := some (fileOf pool8 2 #[] #[] 1537 4 #[] #[])
  fields := #[]
  methods := #[]
  instanceTypes := #[]
  staticTypes := #[]
  resolved := Array.replicate 8 none
  statics := none }

/-- the primitive byte -/
def k9 : Class := { plain "byte" none with kind := .primitive 'B', accessFlags := 0x411 }
/-- [B -/
def k10 : Class := { plain "[B" (some 0) with kind := .array 9 .byte, interfaces := #[8, 4], accessFlags := 1041 }

/-- the primitive int -/
def k11 : Class := { plain "int" none with kind := .primitive 'I', accessFlags := 0x411 }
/-- [I -/
def k12 : Class := { plain "[I" (some 0) with kind := .array 11 .int, interfaces := #[8, 4], accessFlags := 1041 }

def heap : Heap := #[{ cls := 6, slots := #[.ref 3, .ref 2, .ref 1, .long 0, .null], vm := .statics 6 },
  { cls := 6, slots := #[.null, .int 0, .int 0, .null, .long 1, .long 1], vm := .none },
  { cls := 6, slots := #[.null, .int 0, .int 0, .null, .long 1, .long 5], vm := .none },
  { cls := 6, slots := #[.null, .int 0, .int 0, .null, .long 5, .long 10], vm := .none }]
def classes : Array Class := #[k0, k1, k2, k3, k4, k5, k6, k7, k8, k9, k10, k11, k12]
def interned : List (Array UInt16 × Addr) := []
def slotsUsed : Nat := 23
def theMethod : MethodId := ⟨1, 1⟩
def args0 : Array Value := #[.long 5, .int 5]
def aboutOver (below : List Frame) : State where
  vm := { classes := classes, interned := interned.toArray }
  heap := heap
  slotsUsed := slotsUsed
  threads := #[{ frames := .invoking theMethod args0 :: below }]
def below0 : List Frame := [.native { method := ⟨0, 0⟩, args := #[] }]
def about1 : State := aboutOver below0
def p0 : Program := .bare "" "" ""
def e0 : Env := launch0.env 0 0 0
theorem w_frames : about1.frames = Frame.invoking theMethod args0 :: below0 := rfl
set_option maxRecDepth 65536 in
theorem w_args : argsFit about1.vm theMethod args0 = true := by decide +kernel
set_option maxRecDepth 65536 in
theorem w_heap : heapFits about1 = true := by decide +kernel
set_option maxRecDepth 65536 in
theorem w_runnable : about1.curStatus? = some .runnable := by decide +kernel
set_option maxRecDepth 65536 in
theorem w_alone : about1.alone = true := by decide +kernel
set_option maxRecDepth 65536 in
theorem w_named : about1.methodNamed? x = some theMethod := by decide +kernel
set_option maxRecDepth 65536 in
theorem w_hears : about1.hears theMethod below0 = true := by decide +kernel
set_option maxRecDepth 65536 in
theorem w_ripe : about1.ripe theMethod args0 below0 = true := by decide +kernel
theorem w_running : about1.status = .running := rfl
set_option maxRecDepth 65536 in
theorem w_room : about1.hasRoom e0.platform room_1 = true :=
  launch0.hasRoom_least _ room_1 (by decide +kernel) (by decide +kernel) (by decide +kernel) (by decide +kernel) (by decide +kernel) (by decide +kernel)
theorem allAtoms_all (ts : List Jvm.Cond) (a : Array Jvm.Value) (st : Jvm.State) : (allAtoms ts).before a st = ts.all (fun c => c.before a st) := by
  induction ts with
  | nil => rfl
  | cons c t ih =>
    show (Jvm.Cond.and c (allAtoms t)).before a st = _
    rw [Jvm.Cond.before_and, ih, List.all_cons]
def words1 : List Jvm.Cond := Jvm.Cond.code x code maxLocals ret :: tables_1
/-- a 'code' word, met by the world's own term for the bytes: nothing is compared byte by byte -/
theorem code_word {y : MethodName} {bytes : ByteArray} {mx : Nat} {rt : Option FieldType} {a : Array Value} {s : State} {m : MethodId} {meth : Method} {c : Code} (h1 : s.methodNamed? y = some m) (h2 : s.vm.method? m = some meth) (h3 : meth.code = some c) (h4 : c.code = bytes)
    (h5 : (c.maxLocals == mx && c.exceptionTable.isEmpty && decide (c.maxStack ≤ mostOperands) && decide (meth.sig.returnType = rt) && !meth.locks && decide (parseMethodDescriptor y.desc = some meth.sig)) = true) : (Jvm.Cond.code y bytes mx rt).before a s = true := by
  simp only [Bool.and_eq_true, beq_iff_eq, Bool.not_eq_true', decide_eq_true_eq] at h5
  obtain ⟨⟨⟨⟨⟨g1, g2⟩, g3⟩, g4⟩, g5⟩, g6⟩ := h5
  simp [Cond.before, Cond.holds, Cond.value, h1, h2, h3, h4, g1, g2, g3, g4, g5, g6]
def isCode : Jvm.Cond → Bool
  | .code _ _ _ _ => true
  | _ => false
theorem all_split {L : List Jvm.Cond} {P : Jvm.Cond → Bool} (h1 : L.all (fun c => isCode c || P c) = true) (h2 : ∀ c ∈ L.filter isCode, P c = true) : L.all P = true := by
  refine List.all_eq_true.mpr fun c hc => ?_
  have h := List.all_eq_true.mp h1 c hc
  rcases Bool.eq_false_or_eq_true (isCode c) with hi | hi
  · exact h2 c (List.mem_filter.mpr ⟨hc, hi⟩)
  · simpa [hi] using h
set_option maxRecDepth 65536 in
theorem w_c0 : (Jvm.Cond.code x code maxLocals ret).before args0 about1 = true := code_word (m := ⟨1, 1⟩) (meth := k1m1) (c := k1c1) (by decide +kernel) rfl rfl rfl (by decide +kernel)
set_option maxRecDepth 65536 in
theorem w_c1 : (Jvm.Cond.code ({ cls := "java/lang/Math", name := "max", desc := "(JJ)J" } : Jvm.MethodName) jdk_29_method_66_code (4 : Nat) (Option.some Jvm.ClassFile.FieldType.long)).before args0 about1 = true := code_word (m := ⟨7, 1⟩) (meth := k7m1) (c := k7c1) (by decide +kernel) rfl rfl rfl (by decide +kernel)
set_option maxRecDepth 65536 in
theorem w_c2 : (Jvm.Cond.code ({ cls := "com/example/strikeline/strikeline/PennyProgram", name := "priceBelow", desc := "(J)J" } : Jvm.MethodName) prog_68_method_6_code (5 : Nat) (Option.some Jvm.ClassFile.FieldType.long)).before args0 about1 = true := code_word (m := ⟨6, 0⟩) (meth := k6m0) (c := k6c0) (by decide +kernel) rfl rfl rfl (by decide +kernel)
def codes1 : List Jvm.Cond := [Jvm.Cond.code x code maxLocals ret, Jvm.Cond.code ({ cls := "java/lang/Math", name := "max", desc := "(JJ)J" } : Jvm.MethodName) jdk_29_method_66_code (4 : Nat) (Option.some Jvm.ClassFile.FieldType.long), Jvm.Cond.code ({ cls := "com/example/strikeline/strikeline/PennyProgram", name := "priceBelow", desc := "(J)J" } : Jvm.MethodName) prog_68_method_6_code (5 : Nat) (Option.some Jvm.ClassFile.FieldType.long)]
set_option maxRecDepth 65536 in
theorem codes_eq : words1.filter isCode = codes1 := rfl
theorem w_codes : ∀ c ∈ words1.filter isCode, c.before args0 about1 = true := by
  rw [codes_eq]
  intro c hc
  simp only [codes1, List.mem_cons, List.not_mem_nil, or_false] at hc
  rcases hc with rfl | rfl | rfl
  · exact w_c0
  · exact w_c1
  · exact w_c2
set_option maxRecDepth 65536 in
theorem w_t1 : (words1.take 24).all (fun c => isCode c || c.before args0 about1) = true := by decide +kernel
set_option maxRecDepth 65536 in
theorem w_t2 : (words1.drop 24).all (fun c => isCode c || c.before args0 about1) = true := by decide +kernel
theorem w_tables : (allAtoms (Jvm.Cond.code x code maxLocals ret :: tables_1)).before args0 about1 = true := by
  rw [allAtoms_all]
  show words1.all (fun c => c.before args0 about1) = true
  refine all_split ?_ w_codes
  rw [← List.take_append_drop 24 words1, List.all_append, w_t1, w_t2]
  rfl
set_option maxRecDepth 65536 in
theorem w_case : (Jvm.Cond.and given_1 narrow_1).before args0 about1 = true := by decide +kernel
theorem w_applies : (headSpec (Jvm.Cond.code x code maxLocals ret :: tables_1) room_1).applies x e0.platform about1 = true :=
  (Spec.applies_iff w_frames).mpr ⟨w_running, w_runnable, w_alone, w_named, w_hears, w_ripe, w_room, w_tables⟩
theorem atStart : AtStart classFile x code maxLocals ret World_1 tables_1 room_1 Calls_1 rest_1 Pre_1 launch0 p0 e0 about1 theMethod args0 below0 :=
  ⟨lists_1, trivial, launch0.admits_env _ _ _, launch0.least_env, fairChoices_fair.cas, fairChoices_fair.clock, w_frames, w_args, w_heap, w_applies, trivial, trivial, w_case⟩
end start1
theorem witness_1 : WitnessClaimed_1 := ⟨start1.p0, start1.e0, start1.about1, start1.theMethod, start1.args0, start1.below0, start1.atStart⟩
end Jvm.Pilot.@@N@@
