import JvmDerived
import JvmDerived.Pilot.@@N@@Statement
import JvmDerived.Pilot.@@N@@Code
set_option linter.unusedVariables false
set_option linter.unusedSimpArgs false
namespace Jvm.Pilot.@@N@@
open Jvm Jvm.ClassFile Sem Op Lib Jvm.Free Jvm.Stand Jvm.LawKit Jvm.RoadKit Bundle Jvm.Pilot.@@N@@.Jvm.D
def own_Go (p : Program) (e : Env) (below : List Frame) (s : State) (Q : Option Value → Heap → List Loc → Prop) (kc ks : Nat) (A : State) : Prop :=
  ∃ s₂ o, Steps p.tables e below A s₂ ∧ s₂.status = .running ∧ Ended s₂ below o ∧ ∃ v L, o = .returned v ∧ Q v s₂.heap L ∧ FrameEnd s o s₂ L kc ks
section OwnLayer
variable {p : Program} {l : Launch} {e : Env} {R : Room} {s : State} {m : MethodId} {args : Array Value} {below : List Frame} {meth : Method} {c : Code} {T : State} {locs : List Loc} {cells slots : Nat}
variable {Q : Option Value → Heap → List Loc → Prop} {kc ks : Nat} {A B : State}
theorem own_via (h : ∀ t, Steps p.tables e below B t → Steps p.tables e below A t) (g : own_Go p e below s Q kc ks B) : own_Go p e below s Q kc ks A := by
  obtain ⟨t, o, h1, r⟩ := g
  exact ⟨t, o, h _ h1, r⟩
theorem own_tr (h : Steps p.tables e below A B) (g : own_Go p e below s Q kc ks B) : own_Go p e below s Q kc ks A := by
  obtain ⟨t, o, h1, r⟩ := g
  exact ⟨t, o, h.trans h1, r⟩
theorem own_end (X : Stand p l e R s m args below meth c T locs cells slots) (hlk : meth.locks = false) {v : Option Value} (hv : meth.sig.returnType = none → v = none) {A : State}
    (hstep : ∀ fs, (∀ (f : JFrame) (acts : List Action), f.method = m → f.locked = none → f.entered = [] → (doReturn e (T.setTop f) acts v).1 = T.setFrames fs) → Steps p.tables e below A (T.setFrames fs))
    (hQ : Q v T.heap locs) (hc : cells ≤ kc) (hs : slots ≤ ks) : own_Go p e below s Q kc ks A := by
  obtain ⟨fs, hr, hrun, hended, hW, hsame⟩ := X.leave (v := v) hv hlk
  exact ⟨_, _, hstep fs hr, hrun, hended, _, _, rfl, hQ, ⟨_, rfl⟩, hW, hsame.mono hc hs⟩
theorem own_retZ (X : Stand p l e R s m args below meth c T locs cells slots) (hx : p.tables.exec = Jvm.exec) (hlk : meth.locks = false) {pc : Nat} {Ls : Array Slot} {z z' : Int32} {t : FieldType} {rest : List Value} (hret : meth.sig.returnType = some t) (ht : t = .boolean ∨ t = .byte ∨ t = .char ∨ t = .short)
    (hd : decode c.code pc = .ok (.ireturn, 1)) (hz : nar t z = z') (hQ : Q (some (.int z')) T.heap locs) (hc : cells ≤ kc) (hs : slots ≤ ks) : own_Go p e below s Q kc ks (T.setTop (mkF m pc Ls (.int z :: rest))) := by
  subst hz
  exact own_end X hlk (fun h => by rw [hret] at h; cases h) (fun fs hr => retN X hx hret ht hd hr) hQ hc hs
theorem own_retO (X : Stand p l e R s m args below meth c T locs cells slots) (hx : p.tables.exec = Jvm.exec) (hlk : meth.locks = false) {pc : Nat} {Ls : Array Slot} {w : Value} {t : FieldType} {i : Instr} {rest : List Value} (hret : meth.sig.returnType = some t) (hn : narrow t w = w)
    (hi : (i = .ireturn ∧ (t = .int ∨ t = .boolean ∨ t = .byte ∨ t = .char ∨ t = .short) ∧ ∃ z, w = .int z) ∨ (i = .lreturn ∧ t = .long ∧ ∃ z, w = .long z) ∨ (i = .dreturn ∧ t = .double ∧ ∃ z, w = .double z) ∨ (i = .freturn ∧ t = .float ∧ ∃ z, w = .float z) ∨ (i = .areturn ∧ t.isReference = true ∧ w.isRef = true))
    (hd : decode c.code pc = .ok (i, 1)) (hQ : Q (some w) T.heap locs) (hc : cells ≤ kc) (hs : slots ≤ ks) : own_Go p e below s Q kc ks (T.setTop (mkF m pc Ls (w :: rest))) :=
  own_end X hlk (fun h => by rw [hret] at h; cases h) (fun fs hr => retOut X hx hret hn hi hd hr) hQ hc hs
theorem own_retI (X : Stand p l e R s m args below meth c T locs cells slots) (hx : p.tables.exec = Jvm.exec) (hlk : meth.locks = false) {pc : Nat} {Ls : Array Slot} {z : Int32} {rest : List Value} (hret : meth.sig.returnType = some .int)
    (hd : decode c.code pc = .ok (.ireturn, 1)) (hQ : Q (some (.int z)) T.heap locs) (hc : cells ≤ kc) (hs : slots ≤ ks) : own_Go p e below s Q kc ks (T.setTop (mkF m pc Ls (.int z :: rest))) :=
  own_retO X hx hlk hret rfl (Or.inl ⟨rfl, Or.inl rfl, _, rfl⟩) hd hQ hc hs
theorem own_retJ (X : Stand p l e R s m args below meth c T locs cells slots) (hx : p.tables.exec = Jvm.exec) (hlk : meth.locks = false) {pc : Nat} {Ls : Array Slot} {z : Int64} {rest : List Value} (hret : meth.sig.returnType = some .long)
    (hd : decode c.code pc = .ok (.lreturn, 1)) (hQ : Q (some (.long z)) T.heap locs) (hc : cells ≤ kc) (hs : slots ≤ ks) : own_Go p e below s Q kc ks (T.setTop (mkF m pc Ls (.long z :: rest))) :=
  own_retO X hx hlk hret rfl (Or.inr (Or.inl ⟨rfl, rfl, _, rfl⟩)) hd hQ hc hs
theorem own_retR (X : Stand p l e R s m args below meth c T locs cells slots) (hx : p.tables.exec = Jvm.exec) (hlk : meth.locks = false) {pc : Nat} {Ls : Array Slot} {w : Value} {t : FieldType} {rest : List Value} (hret : meth.sig.returnType = some t) (ht : t.isReference = true) (hw : w.isRef = true)
    (hd : decode c.code pc = .ok (.areturn, 1)) (hQ : Q (some w) T.heap locs) (hc : cells ≤ kc) (hs : slots ≤ ks) : own_Go p e below s Q kc ks (T.setTop (mkF m pc Ls (w :: rest))) :=
  own_retO X hx hlk hret (by cases t <;> first | (cases ht; done) | rfl) (Or.inr (Or.inr (Or.inr (Or.inr ⟨rfl, ht, hw⟩)))) hd hQ hc hs
theorem own_retV (X : Stand p l e R s m args below meth c T locs cells slots) (hx : p.tables.exec = Jvm.exec) (hlk : meth.locks = false) {pc : Nat} {Ls : Array Slot} (hret : meth.sig.returnType = none)
    (hd : decode c.code pc = .ok (.return_, 1)) (hQ : Q none T.heap locs) (hc : cells ≤ kc) (hs : slots ≤ ks) : own_Go p e below s Q kc ks (T.setTop (mkF m pc Ls [])) :=
  own_end X hlk (fun _ => rfl) (fun fs hr => X.returnOut hx hret hd hr) hQ hc hs
end OwnLayer
theorem own_eqv {args : Array Value} {Z : State} {t : Term} {k : Int32} (h : (Jvm.Cond.eq t (Term.int k)).value args Z none Z [] = some true) : t.eval args Z none [] Z = some (.int k) := by
  simp only [Jvm.Cond.value, Term.eval] at h
  cases ht : t.eval args Z none [] Z with
  | none => simp [ht] at h
  | some x => cases x <;> simp [ht] at h ⊢; exact h
theorem own_eqvL {args : Array Value} {Z : State} {t : Term} {k : Int64} (h : (Jvm.Cond.eq t (Term.long k)).value args Z none Z [] = some true) : t.eval args Z none [] Z = some (.long k) := by
  simp only [Jvm.Cond.value, Term.eval] at h
  cases ht : t.eval args Z none [] Z with
  | none => simp [ht] at h
  | some x => cases x <;> simp [ht] at h ⊢; exact h
theorem own_fld {args : Array Value} {Z : State} {t : Term} {C n d : String} {a : Addr} {k : Int32} (ev : t.eval args Z none [] Z = some (.ref a)) (h : (Jvm.Cond.eq (Term.field t C n d) (Term.int k)).value args Z none Z [] = some true) : Fld Z Z.heap a C n d (.int k) :=
  Fld.start ((fld_at ev).symm.trans (own_eqv h))
theorem own_fldL {args : Array Value} {Z : State} {t : Term} {C n d : String} {a : Addr} {k : Int64} (ev : t.eval args Z none [] Z = some (.ref a)) (h : (Jvm.Cond.eq (Term.field t C n d) (Term.long k)).value args Z none Z [] = some true) : Fld Z Z.heap a C n d (.long k) :=
  Fld.start ((fld_at ev).symm.trans (own_eqvL h))
theorem own_mod (x : Int32) (n : Int32) (k : Int) (hn : n.toInt = k) (hk : 0 < k) : 0 ≤ ((x &&& 2147483647) % n).toInt ∧ ((x &&& 2147483647) % n).toInt < k := by
  have h := (c_and x 2147483647 (by decide)).1
  rw [Int32.toInt_mod, hn, Int.tmod_eq_emod_of_nonneg h]
  exact ⟨Int.emod_nonneg _ (by omega), Int.emod_lt_of_pos _ hk⟩
theorem own_z {x y : Int32} (h : x.toInt = y.toInt) : x = y := Int32.toInt_inj.mp h
theorem own_mod3 (x : Int32) : (x &&& 2147483647) % 3 = 0 ∨ (x &&& 2147483647) % 3 = 1 ∨ (x &&& 2147483647) % 3 = 2 := by
  have h := own_mod x 3 3 rfl (by decide)
  simp only [← Int32.toInt_inj, show (0 : Int32).toInt = 0 from rfl, show (1 : Int32).toInt = 1 from rfl, show (2 : Int32).toInt = 2 from rfl]
  omega
theorem own_mod5 (x : Int32) : (x &&& 2147483647) % 5 = 0 ∨ (x &&& 2147483647) % 5 = 1 ∨ (x &&& 2147483647) % 5 = 2 ∨ (x &&& 2147483647) % 5 = 3 ∨ (x &&& 2147483647) % 5 = 4 := by
  have h := own_mod x 5 5 rfl (by decide)
  simp only [← Int32.toInt_inj, show (0 : Int32).toInt = 0 from rfl, show (1 : Int32).toInt = 1 from rfl, show (2 : Int32).toInt = 2 from rfl, show (3 : Int32).toInt = 3 from rfl, show (4 : Int32).toInt = 4 from rfl]
  omega
theorem own_mod6 (x : Int32) : (x &&& 2147483647) % 6 = 0 ∨ (x &&& 2147483647) % 6 = 1 ∨ (x &&& 2147483647) % 6 = 2 ∨ (x &&& 2147483647) % 6 = 3 ∨ (x &&& 2147483647) % 6 = 4 ∨ (x &&& 2147483647) % 6 = 5 := by
  have h := own_mod x 6 6 rfl (by decide)
  simp only [← Int32.toInt_inj, show (0 : Int32).toInt = 0 from rfl, show (1 : Int32).toInt = 1 from rfl, show (2 : Int32).toInt = 2 from rfl, show (3 : Int32).toInt = 3 from rfl, show (4 : Int32).toInt = 4 from rfl, show (5 : Int32).toInt = 5 from rfl]
  omega
theorem own_and1 (x : Int32) : x &&& 1 = 0 ∨ x &&& 1 = 1 := by
  have h := c_and x 1 (by decide)
  simp only [← Int32.toInt_inj, show (0 : Int32).toInt = 0 from rfl, show (1 : Int32).toInt = 1 from rfl] at *
  omega
theorem own_and3 (x : Int32) : x &&& 3 = 0 ∨ x &&& 3 = 1 ∨ x &&& 3 = 2 ∨ x &&& 3 = 3 := by
  have h := c_and x 3 (by decide)
  simp only [← Int32.toInt_inj, show (0 : Int32).toInt = 0 from rfl, show (1 : Int32).toInt = 1 from rfl, show (2 : Int32).toInt = 2 from rfl, show (3 : Int32).toInt = 3 from rfl] at *
  omega
theorem own_rem1 (x : Int64) : x - (x / 1) * 1 = 0 := by
  have h := c_lrem x 1 1 rfl
  rw [← Int64.toInt_inj]
  have e0 : (0 : Int64).toInt = 0 := rfl
  rw [e0]
  omega
theorem own_c79 (x : Int64) : 0 ≤ ((280 : Int64) + (x &&& (63 : Int64))).toInt ∧ ((280 : Int64) + (x &&& (63 : Int64))).toInt ≤ 4611686018427387903 := by
  have h1 := c_ladd 280 (x &&& 63)
  have h2 := c_maskL x 63 6 (by decide) (by decide)
  have h3 := rng64 ((280 : Int64) + (x &&& (63 : Int64)))
  have e0 : (280 : Int64).toInt = 280 := rfl
  omega
theorem own_c89 (x : Int64) : 0 ≤ (x &&& (4611686018427387903 : Int64)).toInt ∧ (x &&& (4611686018427387903 : Int64)).toInt ≤ 4611686018427387903 := by
  have h2 := c_maskL x 4611686018427387903 62 (by decide) (by decide)
  omega
theorem own_above1 (c : Int64) (h : 0 ≤ c.toInt ∧ c.toInt ≤ 4611686018427387903) : ((c / 1 + 1) * 1).toInt = (c.toInt / 1 + 1) * 1 := by
  have h1 := c_ldiv c 1 1 rfl (by decide)
  have h2 := c_ladd (c / 1) 1
  have h3 := c_lmul (c / 1 + 1) 1
  have h4 := rng64 (c / 1 + 1)
  have h5 := rng64 ((c / 1 + 1) * 1)
  have e0 : (1 : Int64).toInt = 1 := rfl
  rw [e0] at h2 h3
  omega
theorem own_above5 (c : Int64) (h : 0 ≤ c.toInt ∧ c.toInt ≤ 4611686018427387903) : ((c / 5 + 1) * 5).toInt = (c.toInt / 5 + 1) * 5 := by
  have h1 := c_ldiv c 5 5 rfl (by decide)
  have h2 := c_ladd (c / 5) 1
  have h3 := c_lmul (c / 5 + 1) 5
  have h4 := rng64 (c / 5 + 1)
  have h5 := rng64 ((c / 5 + 1) * 5)
  have e0 : (1 : Int64).toInt = 1 := rfl
  have e1 : (5 : Int64).toInt = 5 := rfl
  rw [e0] at h2
  rw [e1] at h3
  omega
theorem own_above10 (c : Int64) (h : 0 ≤ c.toInt ∧ c.toInt ≤ 4611686018427387903) : ((c / 10 + 1) * 10).toInt = (c.toInt / 10 + 1) * 10 := by
  have h1 := c_ldiv c 10 10 rfl (by decide)
  have h2 := c_ladd (c / 10) 1
  have h3 := c_lmul (c / 10 + 1) 10
  have h4 := rng64 (c / 10 + 1)
  have h5 := rng64 ((c / 10 + 1) * 10)
  have e0 : (1 : Int64).toInt = 1 := rfl
  have e1 : (10 : Int64).toInt = 10 := rfl
  rw [e0] at h2
  rw [e1] at h3
  omega
theorem own_c86 (x : Int64) : 1 ≤ ((1 : Int64) + (x &&& (1023 : Int64))).toInt := by
  have h1 := c_ladd 1 (x &&& 1023)
  have h2 := c_maskL x 1023 10 (by decide) (by decide)
  have h3 := rng64 ((1 : Int64) + (x &&& (1023 : Int64)))
  have e0 : (1 : Int64).toInt = 1 := rfl
  omega
theorem own_lt1 {e : Int64} (h : (1 : Int64) < e) : 1 ≤ e.toInt := by
  rw [Int64.lt_iff_toInt_lt] at h
  have e0 : (1 : Int64).toInt = 1 := rfl
  omega
theorem own_below1 (c : Int64) (h : 1 ≤ c.toInt) : (((c - 1) / 1) * 1).toInt = ((c.toInt - 1) / 1) * 1 := by
  have h0 := c_lsub c 1
  have h1 := c_ldiv (c - 1) 1 1 rfl (by decide)
  have h3 := c_lmul ((c - 1) / 1) 1
  have h4 := rng64 (c - 1)
  have h5 := rng64 (((c - 1) / 1) * 1)
  have h6 := rng64 c
  have e0 : (1 : Int64).toInt = 1 := rfl
  rw [e0] at h0 h3
  have h7 : (c - 1).toInt = c.toInt - 1 := by omega
  rw [h7] at h1 h4
  omega
theorem own_below5 (c : Int64) (h : 1 ≤ c.toInt) : (((c - 1) / 5) * 5).toInt = ((c.toInt - 1) / 5) * 5 := by
  have h0 := c_lsub c 1
  have h1 := c_ldiv (c - 1) 5 5 rfl (by decide)
  have h3 := c_lmul ((c - 1) / 5) 5
  have h4 := rng64 (c - 1)
  have h5 := rng64 (((c - 1) / 5) * 5)
  have h6 := rng64 c
  have e0 : (1 : Int64).toInt = 1 := rfl
  have e1 : (5 : Int64).toInt = 5 := rfl
  rw [e0] at h0
  rw [e1] at h3
  have h7 : (c - 1).toInt = c.toInt - 1 := by omega
  rw [h7] at h1 h4
  omega
theorem own_below10 (c : Int64) (h : 1 ≤ c.toInt) : (((c - 1) / 10) * 10).toInt = ((c.toInt - 1) / 10) * 10 := by
  have h0 := c_lsub c 1
  have h1 := c_ldiv (c - 1) 10 10 rfl (by decide)
  have h3 := c_lmul ((c - 1) / 10) 10
  have h4 := rng64 (c - 1)
  have h5 := rng64 (((c - 1) / 10) * 10)
  have h6 := rng64 c
  have e0 : (1 : Int64).toInt = 1 := rfl
  have e1 : (10 : Int64).toInt = 10 := rfl
  rw [e0] at h0
  rw [e1] at h3
  have h7 : (c - 1).toInt = c.toInt - 1 := by omega
  rw [h7] at h1 h4
  omega
theorem own_ltL {x y : Int64} (h : x < y) : x.toInt < y.toInt := Int64.lt_iff_toInt_lt.mp h
theorem own_geL {x y : Int64} (h : ¬ (x < y)) : y.toInt ≤ x.toInt := Int.not_lt.mp (mt Int64.lt_iff_toInt_lt.mpr h)
def own_K (Z : State) (h0 : Heap) (w0 : Addr) (w1 : Addr) (w2 : Addr) : Prop :=
  Sta Z h0 "com/example/strikeline/strikeline/PennyProgram" "NO" "Lcom/example/strikeline/strikeline/PennyProgram;" (.ref w0) ∧
  Sta Z h0 "com/example/strikeline/strikeline/PennyProgram" "YES" "Lcom/example/strikeline/strikeline/PennyProgram;" (.ref w1) ∧
  Sta Z h0 "com/example/strikeline/strikeline/PennyProgram" "ALL" "Lcom/example/strikeline/strikeline/PennyProgram;" (.ref w2) ∧
  Exa Z h0 w0 "com/example/strikeline/strikeline/PennyProgram" ∧
  Exa Z h0 w1 "com/example/strikeline/strikeline/PennyProgram" ∧
  Exa Z h0 w2 "com/example/strikeline/strikeline/PennyProgram" ∧
  Fld Z h0 w0 "com/example/strikeline/strikeline/PennyProgram" "below" "J" (.long (5 : Int64)) ∧
  Fld Z h0 w1 "com/example/strikeline/strikeline/PennyProgram" "from" "J" (.long (5 : Int64)) ∧
  Fld Z h0 w0 "com/example/strikeline/strikeline/PennyProgram" "from" "J" (.long (10 : Int64)) ∧
  Fld Z h0 w2 "com/example/strikeline/strikeline/PennyProgram" "below" "J" (.long (1 : Int64)) ∧
  Fld Z h0 w2 "com/example/strikeline/strikeline/PennyProgram" "from" "J" (.long (1 : Int64)) ∧
  Fld Z h0 w1 "com/example/strikeline/strikeline/PennyProgram" "below" "J" (.long (1 : Int64)) ∧
  ¬ (w0 = w1) ∧
  ¬ (w0 = w2) ∧
  ¬ (w1 = w2)
theorem pn0 : plainName "com/example/strikeline/strikeline/PennyProgram" = true := by first | (simp [plainName, overriddenIn]; done) | decide +kernel
theorem pn1 : plainName "com/example/strikeline/strikeline/PennyProgramPriceAbovePinLaw" = true := by first | (simp [plainName, overriddenIn]; done) | decide +kernel
theorem pd0 : parseMethodDescriptor "(J)J" = some ⟨[.long], some .long⟩ := by decide +kernel
theorem d1_0 : decode prog_68_method_7_code 0 = .ok (.lload_n 1, 1) := by decide +kernel
theorem d1_1 : decode prog_68_method_7_code 1 = .ok (.ldc2_w 43, 3) := by decide +kernel
theorem d1_4 : decode prog_68_method_7_code 4 = .ok (.lcmp, 1) := by decide +kernel
theorem d1_5 : decode prog_68_method_7_code 5 = .ok (.ifCond .lt 10, 3) := by decide +kernel
theorem d1_8 : decode prog_68_method_7_code 8 = .ok (.aload_n 0, 1) := by decide +kernel
theorem d1_9 : decode prog_68_method_7_code 9 = .ok (.getfield 40, 3) := by decide +kernel
theorem d1_12 : decode prog_68_method_7_code 12 = .ok (.goto 7, 3) := by decide +kernel
theorem d1_15 : decode prog_68_method_7_code 15 = .ok (.aload_n 0, 1) := by decide +kernel
theorem d1_16 : decode prog_68_method_7_code 16 = .ok (.getfield 36, 3) := by decide +kernel
theorem d1_19 : decode prog_68_method_7_code 19 = .ok (.lstore_n 3, 1) := by decide +kernel
theorem d1_20 : decode prog_68_method_7_code 20 = .ok (.lload_n 1, 1) := by decide +kernel
theorem d1_21 : decode prog_68_method_7_code 21 = .ok (.lload_n 3, 1) := by decide +kernel
theorem d1_22 : decode prog_68_method_7_code 22 = .ok (.ldiv, 1) := by decide +kernel
theorem d1_23 : decode prog_68_method_7_code 23 = .ok (.lconst 1, 1) := by decide +kernel
theorem d1_24 : decode prog_68_method_7_code 24 = .ok (.ladd, 1) := by decide +kernel
theorem d1_25 : decode prog_68_method_7_code 25 = .ok (.lload_n 3, 1) := by decide +kernel
theorem d1_26 : decode prog_68_method_7_code 26 = .ok (.lmul, 1) := by decide +kernel
theorem d1_27 : decode prog_68_method_7_code 27 = .ok (.lreturn, 1) := by decide +kernel
def Q1_0 (x1 : Int64) (w0 : Addr) (w1 : Addr) (w2 : Addr) (h0 : Heap) (v : Option Value) (h : Heap) (L : List Loc) : Prop := L = [] ∧ h = h0 ∧ ((x1 < (300 : Int64) ∧ v = some (.long (((x1 / (5 : Int64)) + (1 : Int64)) * (5 : Int64)))) ∨ (¬ (x1 < (300 : Int64)) ∧ v = some (.long (((x1 / (10 : Int64)) + (1 : Int64)) * (10 : Int64)))))
set_option maxRecDepth 65536 in
set_option maxHeartbeats 40000000 in
theorem rm1_0 (l : Launch) (Z : State) (a0 : Array Value) (hw : ∀ d ∈ tables_1, d.before a0 Z = true) (ws : List Jvm.Cond) (x1 : Int64) (w0 : Addr) (w1 : Addr) (w2 : Addr) (h0 : Heap) (n0 : Nat) (Z0 : n0 ≤ h0.size) (K : own_K Z h0 w0 w1 w2) :
    MetFree l (⟨"com/example/strikeline/strikeline/PennyProgram", "priceAbove", "(J)J"⟩ : MethodName) (head1 (Jvm.Cond.code (⟨"com/example/strikeline/strikeline/PennyProgram", "priceAbove", "(J)J"⟩ : MethodName) prog_68_method_7_code 5 (some .long) :: ws) ({ frames := 0, cells := 0, slots := 0, locals := 0 } : Room)) (fun a U => a = #[(.ref w0), (.long x1)] ∧ Z.Warmed39 U.vm ∧ U.heap = h0) (fun _ _ _ _ _ => True) (fun _ U o U' => ∃ v L, o = .returned v ∧ Q1_0 x1 w0 w1 w2 h0 v U'.heap L ∧ FrameEnd U o U' L ({ frames := 0, cells := 0, slots := 0, locals := 0 } : Room).cells ({ frames := 0, cells := 0, slots := 0, locals := 0 } : Room).slots) := by
  refine MetFree.of_bodySF (plainFor_of_name pn0) hisR ?_
  intro p e s m args below meth c s₁ Bd hml0 hP hK
  obtain ⟨rfl, hZ, hh⟩ := hP
  have hx := Bd.exec
  have hby := Bd.bytes
  have hml : c.maxLocals = 5 := hml0
  have hown : s.vm.findClass "com/example/strikeline/strikeline/PennyProgram" = some m.cls := findClass_of_methodNamed Bd.named
  have hnm := (name_of_methodNamed Bd.named Bd.method).1
  have hlk := Bd.notSynchronized
  have X0 : Stand p l e ({ frames := 0, cells := 0, slots := 0, locals := 0 } : Room) s m #[(.ref w0), (.long x1)] below meth c s₁ [] 0 0 := Stand.of_body Bd
  have e0 : s₁.heap = h0 := by rw [← hh, Bd.state]; rfl
  have K0 := K
  obtain ⟨S_w0, S_w1, S_w2, E_w0, E_w1, E_w2, F_w0_below, F_w1_from, F_w0_from, F_w2_below, F_w2_from, F_w1_below, n_w0_w1, n_w0_w2, n_w1_w2⟩ := K
  show own_Go p e below s (Q1_0 x1 w0 w1 w2 h0) 0 0 (s₁.setTop (entryFrame m #[(.ref w0), (.long x1)] 5))
  rw [show entryFrame m #[(.ref w0), (.long x1)] 5 = mkF m 0 #[.val (.ref w0), .val (.long x1), .second, .unset, .unset] [] from by first | (simp [entryFrame, mkF, argsToLocals, Value.category]; done) | rfl]
  show own_Go p e below s _ _ _ (s₁.setTop (mkF m 0 #[.val (.ref w0), .val (.long x1), .second, .unset, .unset] []))
  refine own_via (fun _ k => XS.lloadN X0.here hx rfl (hb hby d1_0) rfl k) ?_
  show own_Go p e below s _ _ _ (s₁.setTop (mkF m 1 #[.val (.ref w0), .val (.long x1), .second, .unset, .unset] [(.long x1)]))
  refine own_via (fun _ k => X0.ldc2Long hx hown (mvT hZ (hw _ (List.mem_of_getElem? (i := 13) rfl))) (g := (mkF m 1 #[.val (.ref w0), .val (.long x1), .second, .unset, .unset] [(.long x1)])) rfl (hb hby d1_1) _ k) ?_
  show own_Go p e below s _ _ _ (s₁.setTop (mkF m 4 #[.val (.ref w0), .val (.long x1), .second, .unset, .unset] [(.long (300 : Int64)), (.long x1)]))
  refine own_via (fun _ k => XS.lcmp X0.here hx rfl (hb hby d1_4) rfl k) ?_
  show own_Go p e below s _ _ _ (s₁.setTop (mkF m 5 #[.val (.ref w0), .val (.long x1), .second, .unset, .unset] [(.int (lcmpW x1 (300 : Int64)))]))
  by_cases hc1 : x1 < (300 : Int64)
  · refine own_via (fun _ k => XS.ifYes X0.here hx rfl (pc0 := 5) (pc' := 15) rfl (hb hby d1_5) rfl ((if0 _ _).trans (tlt ((lw_lt x1 (300 : Int64)).mpr hc1)).1) (by decide) (by decide) k) ?_
    show own_Go p e below s _ _ _ (s₁.setTop (mkF m 15 #[.val (.ref w0), .val (.long x1), .second, .unset, .unset] []))
    refine own_via (fun _ k => XS.aloadN X0.here hx rfl (hb hby d1_15) rfl rfl k) ?_
    show own_Go p e below s _ _ _ (s₁.setTop (mkF m 16 #[.val (.ref w0), .val (.long x1), .second, .unset, .unset] [(.ref w0)]))
    obtain ⟨T2, X2, e2, st2⟩ := getF X0 hx hZ hown (host := "") (Or.inl (hw _ (List.mem_of_getElem? (i := 14) rfl))) Via.refl e0 F_w0_below (g := (mkF m 16 #[.val (.ref w0), .val (.long x1), .second, .unset, .unset] [(.ref w0)])) rfl rfl (hb hby d1_16)
    refine own_via st2 ?_
    show own_Go p e below s _ _ _ (T2.setTop (mkF m 19 #[.val (.ref w0), .val (.long x1), .second, .unset, .unset] [(.long (5 : Int64))]))
    refine own_via (fun _ k => XS.lstoreN X2.here hx rfl (hb hby d1_19) rfl (l' := #[.val (.ref w0), .val (.long x1), .second, .val (.long (5 : Int64)), .second]) rfl k) ?_
    show own_Go p e below s _ _ _ (T2.setTop (mkF m 20 #[.val (.ref w0), .val (.long x1), .second, .val (.long (5 : Int64)), .second] []))
    refine own_via (fun _ k => XS.lloadN X2.here hx rfl (hb hby d1_20) rfl k) ?_
    show own_Go p e below s _ _ _ (T2.setTop (mkF m 21 #[.val (.ref w0), .val (.long x1), .second, .val (.long (5 : Int64)), .second] [(.long x1)]))
    refine own_via (fun _ k => XS.lloadN X2.here hx rfl (hb hby d1_21) rfl k) ?_
    show own_Go p e below s _ _ _ (T2.setTop (mkF m 22 #[.val (.ref w0), .val (.long x1), .second, .val (.long (5 : Int64)), .second] [(.long (5 : Int64)), (.long x1)]))
    refine own_via (fun _ k => XS.ldiv X2.here hx rfl (hb hby d1_22) rfl (by decide : ¬ ((5 : Int64) = (0 : Int64))) k) ?_
    show own_Go p e below s _ _ _ (T2.setTop (mkF m 23 #[.val (.ref w0), .val (.long x1), .second, .val (.long (5 : Int64)), .second] [(.long (x1 / (5 : Int64)))]))
    refine own_via (fun _ k => XS.lconst X2.here hx rfl (hb hby d1_23) k) ?_
    show own_Go p e below s _ _ _ (T2.setTop (mkF m 24 #[.val (.ref w0), .val (.long x1), .second, .val (.long (5 : Int64)), .second] [(.long (1 : Int64)), (.long (x1 / (5 : Int64)))]))
    refine own_via (fun _ k => XS.ladd X2.here hx rfl (hb hby d1_24) rfl k) ?_
    show own_Go p e below s _ _ _ (T2.setTop (mkF m 25 #[.val (.ref w0), .val (.long x1), .second, .val (.long (5 : Int64)), .second] [(.long ((x1 / (5 : Int64)) + (1 : Int64)))]))
    refine own_via (fun _ k => XS.lloadN X2.here hx rfl (hb hby d1_25) rfl k) ?_
    show own_Go p e below s _ _ _ (T2.setTop (mkF m 26 #[.val (.ref w0), .val (.long x1), .second, .val (.long (5 : Int64)), .second] [(.long (5 : Int64)), (.long ((x1 / (5 : Int64)) + (1 : Int64)))]))
    refine own_via (fun _ k => XS.lmul X2.here hx rfl (hb hby d1_26) rfl k) ?_
    show own_Go p e below s _ _ _ (T2.setTop (mkF m 27 #[.val (.ref w0), .val (.long x1), .second, .val (.long (5 : Int64)), .second] [(.long (((x1 / (5 : Int64)) + (1 : Int64)) * (5 : Int64)))]))
    exact own_retJ X2 hx hlk Bd.returns (hb hby d1_27) ⟨rfl, e2, Or.inl ⟨hc1, rfl⟩⟩ (by decide) (by decide)
  · refine own_via (fun _ k => XS.ifNo X0.here hx rfl (hb hby d1_5) rfl ((if0 _ _).trans (flt (mt (lw_lt x1 (300 : Int64)).mp hc1)).1) k) ?_
    show own_Go p e below s _ _ _ (s₁.setTop (mkF m 8 #[.val (.ref w0), .val (.long x1), .second, .unset, .unset] []))
    refine own_via (fun _ k => XS.aloadN X0.here hx rfl (hb hby d1_8) rfl rfl k) ?_
    show own_Go p e below s _ _ _ (s₁.setTop (mkF m 9 #[.val (.ref w0), .val (.long x1), .second, .unset, .unset] [(.ref w0)]))
    obtain ⟨T3, X3, e3, st3⟩ := getF X0 hx hZ hown (host := "") (Or.inl (hw _ (List.mem_of_getElem? (i := 19) rfl))) Via.refl e0 F_w0_from (g := (mkF m 9 #[.val (.ref w0), .val (.long x1), .second, .unset, .unset] [(.ref w0)])) rfl rfl (hb hby d1_9)
    refine own_via st3 ?_
    show own_Go p e below s _ _ _ (T3.setTop (mkF m 12 #[.val (.ref w0), .val (.long x1), .second, .unset, .unset] [(.long (10 : Int64))]))
    refine own_via (fun _ k => XS.goto X3.here hx rfl (pc0 := 12) (pc' := 19) rfl (hb hby d1_12) (by decide) (by decide) k) ?_
    show own_Go p e below s _ _ _ (T3.setTop (mkF m 19 #[.val (.ref w0), .val (.long x1), .second, .unset, .unset] [(.long (10 : Int64))]))
    refine own_via (fun _ k => XS.lstoreN X3.here hx rfl (hb hby d1_19) rfl (l' := #[.val (.ref w0), .val (.long x1), .second, .val (.long (10 : Int64)), .second]) rfl k) ?_
    show own_Go p e below s _ _ _ (T3.setTop (mkF m 20 #[.val (.ref w0), .val (.long x1), .second, .val (.long (10 : Int64)), .second] []))
    refine own_via (fun _ k => XS.lloadN X3.here hx rfl (hb hby d1_20) rfl k) ?_
    show own_Go p e below s _ _ _ (T3.setTop (mkF m 21 #[.val (.ref w0), .val (.long x1), .second, .val (.long (10 : Int64)), .second] [(.long x1)]))
    refine own_via (fun _ k => XS.lloadN X3.here hx rfl (hb hby d1_21) rfl k) ?_
    show own_Go p e below s _ _ _ (T3.setTop (mkF m 22 #[.val (.ref w0), .val (.long x1), .second, .val (.long (10 : Int64)), .second] [(.long (10 : Int64)), (.long x1)]))
    refine own_via (fun _ k => XS.ldiv X3.here hx rfl (hb hby d1_22) rfl (by decide : ¬ ((10 : Int64) = (0 : Int64))) k) ?_
    show own_Go p e below s _ _ _ (T3.setTop (mkF m 23 #[.val (.ref w0), .val (.long x1), .second, .val (.long (10 : Int64)), .second] [(.long (x1 / (10 : Int64)))]))
    refine own_via (fun _ k => XS.lconst X3.here hx rfl (hb hby d1_23) k) ?_
    show own_Go p e below s _ _ _ (T3.setTop (mkF m 24 #[.val (.ref w0), .val (.long x1), .second, .val (.long (10 : Int64)), .second] [(.long (1 : Int64)), (.long (x1 / (10 : Int64)))]))
    refine own_via (fun _ k => XS.ladd X3.here hx rfl (hb hby d1_24) rfl k) ?_
    show own_Go p e below s _ _ _ (T3.setTop (mkF m 25 #[.val (.ref w0), .val (.long x1), .second, .val (.long (10 : Int64)), .second] [(.long ((x1 / (10 : Int64)) + (1 : Int64)))]))
    refine own_via (fun _ k => XS.lloadN X3.here hx rfl (hb hby d1_25) rfl k) ?_
    show own_Go p e below s _ _ _ (T3.setTop (mkF m 26 #[.val (.ref w0), .val (.long x1), .second, .val (.long (10 : Int64)), .second] [(.long (10 : Int64)), (.long ((x1 / (10 : Int64)) + (1 : Int64)))]))
    refine own_via (fun _ k => XS.lmul X3.here hx rfl (hb hby d1_26) rfl k) ?_
    show own_Go p e below s _ _ _ (T3.setTop (mkF m 27 #[.val (.ref w0), .val (.long x1), .second, .val (.long (10 : Int64)), .second] [(.long (((x1 / (10 : Int64)) + (1 : Int64)) * (10 : Int64)))]))
    exact own_retJ X3 hx hlk Bd.returns (hb hby d1_27) ⟨rfl, e3, Or.inr (⟨hc1, rfl⟩)⟩ (by decide) (by decide)
def Q1_1 (x1 : Int64) (w0 : Addr) (w1 : Addr) (w2 : Addr) (h0 : Heap) (v : Option Value) (h : Heap) (L : List Loc) : Prop := L = [] ∧ h = h0 ∧ ((x1 < (300 : Int64) ∧ v = some (.long (((x1 / (1 : Int64)) + (1 : Int64)) * (1 : Int64)))) ∨ (¬ (x1 < (300 : Int64)) ∧ v = some (.long (((x1 / (5 : Int64)) + (1 : Int64)) * (5 : Int64)))))
set_option maxRecDepth 65536 in
set_option maxHeartbeats 40000000 in
theorem rm1_1 (l : Launch) (Z : State) (a0 : Array Value) (hw : ∀ d ∈ tables_1, d.before a0 Z = true) (ws : List Jvm.Cond) (x1 : Int64) (w0 : Addr) (w1 : Addr) (w2 : Addr) (h0 : Heap) (n0 : Nat) (Z0 : n0 ≤ h0.size) (K : own_K Z h0 w0 w1 w2) :
    MetFree l (⟨"com/example/strikeline/strikeline/PennyProgram", "priceAbove", "(J)J"⟩ : MethodName) (head1 (Jvm.Cond.code (⟨"com/example/strikeline/strikeline/PennyProgram", "priceAbove", "(J)J"⟩ : MethodName) prog_68_method_7_code 5 (some .long) :: ws) ({ frames := 0, cells := 0, slots := 0, locals := 0 } : Room)) (fun a U => a = #[(.ref w1), (.long x1)] ∧ Z.Warmed39 U.vm ∧ U.heap = h0) (fun _ _ _ _ _ => True) (fun _ U o U' => ∃ v L, o = .returned v ∧ Q1_1 x1 w0 w1 w2 h0 v U'.heap L ∧ FrameEnd U o U' L ({ frames := 0, cells := 0, slots := 0, locals := 0 } : Room).cells ({ frames := 0, cells := 0, slots := 0, locals := 0 } : Room).slots) := by
  refine MetFree.of_bodySF (plainFor_of_name pn0) hisR ?_
  intro p e s m args below meth c s₁ Bd hml0 hP hK
  obtain ⟨rfl, hZ, hh⟩ := hP
  have hx := Bd.exec
  have hby := Bd.bytes
  have hml : c.maxLocals = 5 := hml0
  have hown : s.vm.findClass "com/example/strikeline/strikeline/PennyProgram" = some m.cls := findClass_of_methodNamed Bd.named
  have hnm := (name_of_methodNamed Bd.named Bd.method).1
  have hlk := Bd.notSynchronized
  have X0 : Stand p l e ({ frames := 0, cells := 0, slots := 0, locals := 0 } : Room) s m #[(.ref w1), (.long x1)] below meth c s₁ [] 0 0 := Stand.of_body Bd
  have e0 : s₁.heap = h0 := by rw [← hh, Bd.state]; rfl
  have K0 := K
  obtain ⟨S_w0, S_w1, S_w2, E_w0, E_w1, E_w2, F_w0_below, F_w1_from, F_w0_from, F_w2_below, F_w2_from, F_w1_below, n_w0_w1, n_w0_w2, n_w1_w2⟩ := K
  show own_Go p e below s (Q1_1 x1 w0 w1 w2 h0) 0 0 (s₁.setTop (entryFrame m #[(.ref w1), (.long x1)] 5))
  rw [show entryFrame m #[(.ref w1), (.long x1)] 5 = mkF m 0 #[.val (.ref w1), .val (.long x1), .second, .unset, .unset] [] from by first | (simp [entryFrame, mkF, argsToLocals, Value.category]; done) | rfl]
  show own_Go p e below s _ _ _ (s₁.setTop (mkF m 0 #[.val (.ref w1), .val (.long x1), .second, .unset, .unset] []))
  refine own_via (fun _ k => XS.lloadN X0.here hx rfl (hb hby d1_0) rfl k) ?_
  show own_Go p e below s _ _ _ (s₁.setTop (mkF m 1 #[.val (.ref w1), .val (.long x1), .second, .unset, .unset] [(.long x1)]))
  refine own_via (fun _ k => X0.ldc2Long hx hown (mvT hZ (hw _ (List.mem_of_getElem? (i := 13) rfl))) (g := (mkF m 1 #[.val (.ref w1), .val (.long x1), .second, .unset, .unset] [(.long x1)])) rfl (hb hby d1_1) _ k) ?_
  show own_Go p e below s _ _ _ (s₁.setTop (mkF m 4 #[.val (.ref w1), .val (.long x1), .second, .unset, .unset] [(.long (300 : Int64)), (.long x1)]))
  refine own_via (fun _ k => XS.lcmp X0.here hx rfl (hb hby d1_4) rfl k) ?_
  show own_Go p e below s _ _ _ (s₁.setTop (mkF m 5 #[.val (.ref w1), .val (.long x1), .second, .unset, .unset] [(.int (lcmpW x1 (300 : Int64)))]))
  by_cases hc1 : x1 < (300 : Int64)
  · refine own_via (fun _ k => XS.ifYes X0.here hx rfl (pc0 := 5) (pc' := 15) rfl (hb hby d1_5) rfl ((if0 _ _).trans (tlt ((lw_lt x1 (300 : Int64)).mpr hc1)).1) (by decide) (by decide) k) ?_
    show own_Go p e below s _ _ _ (s₁.setTop (mkF m 15 #[.val (.ref w1), .val (.long x1), .second, .unset, .unset] []))
    refine own_via (fun _ k => XS.aloadN X0.here hx rfl (hb hby d1_15) rfl rfl k) ?_
    show own_Go p e below s _ _ _ (s₁.setTop (mkF m 16 #[.val (.ref w1), .val (.long x1), .second, .unset, .unset] [(.ref w1)]))
    obtain ⟨T2, X2, e2, st2⟩ := getF X0 hx hZ hown (host := "") (Or.inl (hw _ (List.mem_of_getElem? (i := 14) rfl))) Via.refl e0 F_w1_below (g := (mkF m 16 #[.val (.ref w1), .val (.long x1), .second, .unset, .unset] [(.ref w1)])) rfl rfl (hb hby d1_16)
    refine own_via st2 ?_
    show own_Go p e below s _ _ _ (T2.setTop (mkF m 19 #[.val (.ref w1), .val (.long x1), .second, .unset, .unset] [(.long (1 : Int64))]))
    refine own_via (fun _ k => XS.lstoreN X2.here hx rfl (hb hby d1_19) rfl (l' := #[.val (.ref w1), .val (.long x1), .second, .val (.long (1 : Int64)), .second]) rfl k) ?_
    show own_Go p e below s _ _ _ (T2.setTop (mkF m 20 #[.val (.ref w1), .val (.long x1), .second, .val (.long (1 : Int64)), .second] []))
    refine own_via (fun _ k => XS.lloadN X2.here hx rfl (hb hby d1_20) rfl k) ?_
    show own_Go p e below s _ _ _ (T2.setTop (mkF m 21 #[.val (.ref w1), .val (.long x1), .second, .val (.long (1 : Int64)), .second] [(.long x1)]))
    refine own_via (fun _ k => XS.lloadN X2.here hx rfl (hb hby d1_21) rfl k) ?_
    show own_Go p e below s _ _ _ (T2.setTop (mkF m 22 #[.val (.ref w1), .val (.long x1), .second, .val (.long (1 : Int64)), .second] [(.long (1 : Int64)), (.long x1)]))
    refine own_via (fun _ k => XS.ldiv X2.here hx rfl (hb hby d1_22) rfl (by decide : ¬ ((1 : Int64) = (0 : Int64))) k) ?_
    show own_Go p e below s _ _ _ (T2.setTop (mkF m 23 #[.val (.ref w1), .val (.long x1), .second, .val (.long (1 : Int64)), .second] [(.long (x1 / (1 : Int64)))]))
    refine own_via (fun _ k => XS.lconst X2.here hx rfl (hb hby d1_23) k) ?_
    show own_Go p e below s _ _ _ (T2.setTop (mkF m 24 #[.val (.ref w1), .val (.long x1), .second, .val (.long (1 : Int64)), .second] [(.long (1 : Int64)), (.long (x1 / (1 : Int64)))]))
    refine own_via (fun _ k => XS.ladd X2.here hx rfl (hb hby d1_24) rfl k) ?_
    show own_Go p e below s _ _ _ (T2.setTop (mkF m 25 #[.val (.ref w1), .val (.long x1), .second, .val (.long (1 : Int64)), .second] [(.long ((x1 / (1 : Int64)) + (1 : Int64)))]))
    refine own_via (fun _ k => XS.lloadN X2.here hx rfl (hb hby d1_25) rfl k) ?_
    show own_Go p e below s _ _ _ (T2.setTop (mkF m 26 #[.val (.ref w1), .val (.long x1), .second, .val (.long (1 : Int64)), .second] [(.long (1 : Int64)), (.long ((x1 / (1 : Int64)) + (1 : Int64)))]))
    refine own_via (fun _ k => XS.lmul X2.here hx rfl (hb hby d1_26) rfl k) ?_
    show own_Go p e below s _ _ _ (T2.setTop (mkF m 27 #[.val (.ref w1), .val (.long x1), .second, .val (.long (1 : Int64)), .second] [(.long (((x1 / (1 : Int64)) + (1 : Int64)) * (1 : Int64)))]))
    exact own_retJ X2 hx hlk Bd.returns (hb hby d1_27) ⟨rfl, e2, Or.inl ⟨hc1, rfl⟩⟩ (by decide) (by decide)
  · refine own_via (fun _ k => XS.ifNo X0.here hx rfl (hb hby d1_5) rfl ((if0 _ _).trans (flt (mt (lw_lt x1 (300 : Int64)).mp hc1)).1) k) ?_
    show own_Go p e below s _ _ _ (s₁.setTop (mkF m 8 #[.val (.ref w1), .val (.long x1), .second, .unset, .unset] []))
    refine own_via (fun _ k => XS.aloadN X0.here hx rfl (hb hby d1_8) rfl rfl k) ?_
    show own_Go p e below s _ _ _ (s₁.setTop (mkF m 9 #[.val (.ref w1), .val (.long x1), .second, .unset, .unset] [(.ref w1)]))
    obtain ⟨T3, X3, e3, st3⟩ := getF X0 hx hZ hown (host := "") (Or.inl (hw _ (List.mem_of_getElem? (i := 19) rfl))) Via.refl e0 F_w1_from (g := (mkF m 9 #[.val (.ref w1), .val (.long x1), .second, .unset, .unset] [(.ref w1)])) rfl rfl (hb hby d1_9)
    refine own_via st3 ?_
    show own_Go p e below s _ _ _ (T3.setTop (mkF m 12 #[.val (.ref w1), .val (.long x1), .second, .unset, .unset] [(.long (5 : Int64))]))
    refine own_via (fun _ k => XS.goto X3.here hx rfl (pc0 := 12) (pc' := 19) rfl (hb hby d1_12) (by decide) (by decide) k) ?_
    show own_Go p e below s _ _ _ (T3.setTop (mkF m 19 #[.val (.ref w1), .val (.long x1), .second, .unset, .unset] [(.long (5 : Int64))]))
    refine own_via (fun _ k => XS.lstoreN X3.here hx rfl (hb hby d1_19) rfl (l' := #[.val (.ref w1), .val (.long x1), .second, .val (.long (5 : Int64)), .second]) rfl k) ?_
    show own_Go p e below s _ _ _ (T3.setTop (mkF m 20 #[.val (.ref w1), .val (.long x1), .second, .val (.long (5 : Int64)), .second] []))
    refine own_via (fun _ k => XS.lloadN X3.here hx rfl (hb hby d1_20) rfl k) ?_
    show own_Go p e below s _ _ _ (T3.setTop (mkF m 21 #[.val (.ref w1), .val (.long x1), .second, .val (.long (5 : Int64)), .second] [(.long x1)]))
    refine own_via (fun _ k => XS.lloadN X3.here hx rfl (hb hby d1_21) rfl k) ?_
    show own_Go p e below s _ _ _ (T3.setTop (mkF m 22 #[.val (.ref w1), .val (.long x1), .second, .val (.long (5 : Int64)), .second] [(.long (5 : Int64)), (.long x1)]))
    refine own_via (fun _ k => XS.ldiv X3.here hx rfl (hb hby d1_22) rfl (by decide : ¬ ((5 : Int64) = (0 : Int64))) k) ?_
    show own_Go p e below s _ _ _ (T3.setTop (mkF m 23 #[.val (.ref w1), .val (.long x1), .second, .val (.long (5 : Int64)), .second] [(.long (x1 / (5 : Int64)))]))
    refine own_via (fun _ k => XS.lconst X3.here hx rfl (hb hby d1_23) k) ?_
    show own_Go p e below s _ _ _ (T3.setTop (mkF m 24 #[.val (.ref w1), .val (.long x1), .second, .val (.long (5 : Int64)), .second] [(.long (1 : Int64)), (.long (x1 / (5 : Int64)))]))
    refine own_via (fun _ k => XS.ladd X3.here hx rfl (hb hby d1_24) rfl k) ?_
    show own_Go p e below s _ _ _ (T3.setTop (mkF m 25 #[.val (.ref w1), .val (.long x1), .second, .val (.long (5 : Int64)), .second] [(.long ((x1 / (5 : Int64)) + (1 : Int64)))]))
    refine own_via (fun _ k => XS.lloadN X3.here hx rfl (hb hby d1_25) rfl k) ?_
    show own_Go p e below s _ _ _ (T3.setTop (mkF m 26 #[.val (.ref w1), .val (.long x1), .second, .val (.long (5 : Int64)), .second] [(.long (5 : Int64)), (.long ((x1 / (5 : Int64)) + (1 : Int64)))]))
    refine own_via (fun _ k => XS.lmul X3.here hx rfl (hb hby d1_26) rfl k) ?_
    show own_Go p e below s _ _ _ (T3.setTop (mkF m 27 #[.val (.ref w1), .val (.long x1), .second, .val (.long (5 : Int64)), .second] [(.long (((x1 / (5 : Int64)) + (1 : Int64)) * (5 : Int64)))]))
    exact own_retJ X3 hx hlk Bd.returns (hb hby d1_27) ⟨rfl, e3, Or.inr (⟨hc1, rfl⟩)⟩ (by decide) (by decide)
def Q1_2 (x1 : Int64) (w0 : Addr) (w1 : Addr) (w2 : Addr) (h0 : Heap) (v : Option Value) (h : Heap) (L : List Loc) : Prop := L = [] ∧ h = h0 ∧ ((x1 < (300 : Int64) ∧ v = some (.long (((x1 / (1 : Int64)) + (1 : Int64)) * (1 : Int64)))) ∨ (¬ (x1 < (300 : Int64)) ∧ v = some (.long (((x1 / (1 : Int64)) + (1 : Int64)) * (1 : Int64)))))
set_option maxRecDepth 65536 in
set_option maxHeartbeats 40000000 in
theorem rm1_2 (l : Launch) (Z : State) (a0 : Array Value) (hw : ∀ d ∈ tables_1, d.before a0 Z = true) (ws : List Jvm.Cond) (x1 : Int64) (w0 : Addr) (w1 : Addr) (w2 : Addr) (h0 : Heap) (n0 : Nat) (Z0 : n0 ≤ h0.size) (K : own_K Z h0 w0 w1 w2) :
    MetFree l (⟨"com/example/strikeline/strikeline/PennyProgram", "priceAbove", "(J)J"⟩ : MethodName) (head1 (Jvm.Cond.code (⟨"com/example/strikeline/strikeline/PennyProgram", "priceAbove", "(J)J"⟩ : MethodName) prog_68_method_7_code 5 (some .long) :: ws) ({ frames := 0, cells := 0, slots := 0, locals := 0 } : Room)) (fun a U => a = #[(.ref w2), (.long x1)] ∧ Z.Warmed39 U.vm ∧ U.heap = h0) (fun _ _ _ _ _ => True) (fun _ U o U' => ∃ v L, o = .returned v ∧ Q1_2 x1 w0 w1 w2 h0 v U'.heap L ∧ FrameEnd U o U' L ({ frames := 0, cells := 0, slots := 0, locals := 0 } : Room).cells ({ frames := 0, cells := 0, slots := 0, locals := 0 } : Room).slots) := by
  refine MetFree.of_bodySF (plainFor_of_name pn0) hisR ?_
  intro p e s m args below meth c s₁ Bd hml0 hP hK
  obtain ⟨rfl, hZ, hh⟩ := hP
  have hx := Bd.exec
  have hby := Bd.bytes
  have hml : c.maxLocals = 5 := hml0
  have hown : s.vm.findClass "com/example/strikeline/strikeline/PennyProgram" = some m.cls := findClass_of_methodNamed Bd.named
  have hnm := (name_of_methodNamed Bd.named Bd.method).1
  have hlk := Bd.notSynchronized
  have X0 : Stand p l e ({ frames := 0, cells := 0, slots := 0, locals := 0 } : Room) s m #[(.ref w2), (.long x1)] below meth c s₁ [] 0 0 := Stand.of_body Bd
  have e0 : s₁.heap = h0 := by rw [← hh, Bd.state]; rfl
  have K0 := K
  obtain ⟨S_w0, S_w1, S_w2, E_w0, E_w1, E_w2, F_w0_below, F_w1_from, F_w0_from, F_w2_below, F_w2_from, F_w1_below, n_w0_w1, n_w0_w2, n_w1_w2⟩ := K
  show own_Go p e below s (Q1_2 x1 w0 w1 w2 h0) 0 0 (s₁.setTop (entryFrame m #[(.ref w2), (.long x1)] 5))
  rw [show entryFrame m #[(.ref w2), (.long x1)] 5 = mkF m 0 #[.val (.ref w2), .val (.long x1), .second, .unset, .unset] [] from by first | (simp [entryFrame, mkF, argsToLocals, Value.category]; done) | rfl]
  show own_Go p e below s _ _ _ (s₁.setTop (mkF m 0 #[.val (.ref w2), .val (.long x1), .second, .unset, .unset] []))
  refine own_via (fun _ k => XS.lloadN X0.here hx rfl (hb hby d1_0) rfl k) ?_
  show own_Go p e below s _ _ _ (s₁.setTop (mkF m 1 #[.val (.ref w2), .val (.long x1), .second, .unset, .unset] [(.long x1)]))
  refine own_via (fun _ k => X0.ldc2Long hx hown (mvT hZ (hw _ (List.mem_of_getElem? (i := 13) rfl))) (g := (mkF m 1 #[.val (.ref w2), .val (.long x1), .second, .unset, .unset] [(.long x1)])) rfl (hb hby d1_1) _ k) ?_
  show own_Go p e below s _ _ _ (s₁.setTop (mkF m 4 #[.val (.ref w2), .val (.long x1), .second, .unset, .unset] [(.long (300 : Int64)), (.long x1)]))
  refine own_via (fun _ k => XS.lcmp X0.here hx rfl (hb hby d1_4) rfl k) ?_
  show own_Go p e below s _ _ _ (s₁.setTop (mkF m 5 #[.val (.ref w2), .val (.long x1), .second, .unset, .unset] [(.int (lcmpW x1 (300 : Int64)))]))
  by_cases hc1 : x1 < (300 : Int64)
  · refine own_via (fun _ k => XS.ifYes X0.here hx rfl (pc0 := 5) (pc' := 15) rfl (hb hby d1_5) rfl ((if0 _ _).trans (tlt ((lw_lt x1 (300 : Int64)).mpr hc1)).1) (by decide) (by decide) k) ?_
    show own_Go p e below s _ _ _ (s₁.setTop (mkF m 15 #[.val (.ref w2), .val (.long x1), .second, .unset, .unset] []))
    refine own_via (fun _ k => XS.aloadN X0.here hx rfl (hb hby d1_15) rfl rfl k) ?_
    show own_Go p e below s _ _ _ (s₁.setTop (mkF m 16 #[.val (.ref w2), .val (.long x1), .second, .unset, .unset] [(.ref w2)]))
    obtain ⟨T2, X2, e2, st2⟩ := getF X0 hx hZ hown (host := "") (Or.inl (hw _ (List.mem_of_getElem? (i := 14) rfl))) Via.refl e0 F_w2_below (g := (mkF m 16 #[.val (.ref w2), .val (.long x1), .second, .unset, .unset] [(.ref w2)])) rfl rfl (hb hby d1_16)
    refine own_via st2 ?_
    show own_Go p e below s _ _ _ (T2.setTop (mkF m 19 #[.val (.ref w2), .val (.long x1), .second, .unset, .unset] [(.long (1 : Int64))]))
    refine own_via (fun _ k => XS.lstoreN X2.here hx rfl (hb hby d1_19) rfl (l' := #[.val (.ref w2), .val (.long x1), .second, .val (.long (1 : Int64)), .second]) rfl k) ?_
    show own_Go p e below s _ _ _ (T2.setTop (mkF m 20 #[.val (.ref w2), .val (.long x1), .second, .val (.long (1 : Int64)), .second] []))
    refine own_via (fun _ k => XS.lloadN X2.here hx rfl (hb hby d1_20) rfl k) ?_
    show own_Go p e below s _ _ _ (T2.setTop (mkF m 21 #[.val (.ref w2), .val (.long x1), .second, .val (.long (1 : Int64)), .second] [(.long x1)]))
    refine own_via (fun _ k => XS.lloadN X2.here hx rfl (hb hby d1_21) rfl k) ?_
    show own_Go p e below s _ _ _ (T2.setTop (mkF m 22 #[.val (.ref w2), .val (.long x1), .second, .val (.long (1 : Int64)), .second] [(.long (1 : Int64)), (.long x1)]))
    refine own_via (fun _ k => XS.ldiv X2.here hx rfl (hb hby d1_22) rfl (by decide : ¬ ((1 : Int64) = (0 : Int64))) k) ?_
    show own_Go p e below s _ _ _ (T2.setTop (mkF m 23 #[.val (.ref w2), .val (.long x1), .second, .val (.long (1 : Int64)), .second] [(.long (x1 / (1 : Int64)))]))
    refine own_via (fun _ k => XS.lconst X2.here hx rfl (hb hby d1_23) k) ?_
    show own_Go p e below s _ _ _ (T2.setTop (mkF m 24 #[.val (.ref w2), .val (.long x1), .second, .val (.long (1 : Int64)), .second] [(.long (1 : Int64)), (.long (x1 / (1 : Int64)))]))
    refine own_via (fun _ k => XS.ladd X2.here hx rfl (hb hby d1_24) rfl k) ?_
    show own_Go p e below s _ _ _ (T2.setTop (mkF m 25 #[.val (.ref w2), .val (.long x1), .second, .val (.long (1 : Int64)), .second] [(.long ((x1 / (1 : Int64)) + (1 : Int64)))]))
    refine own_via (fun _ k => XS.lloadN X2.here hx rfl (hb hby d1_25) rfl k) ?_
    show own_Go p e below s _ _ _ (T2.setTop (mkF m 26 #[.val (.ref w2), .val (.long x1), .second, .val (.long (1 : Int64)), .second] [(.long (1 : Int64)), (.long ((x1 / (1 : Int64)) + (1 : Int64)))]))
    refine own_via (fun _ k => XS.lmul X2.here hx rfl (hb hby d1_26) rfl k) ?_
    show own_Go p e below s _ _ _ (T2.setTop (mkF m 27 #[.val (.ref w2), .val (.long x1), .second, .val (.long (1 : Int64)), .second] [(.long (((x1 / (1 : Int64)) + (1 : Int64)) * (1 : Int64)))]))
    exact own_retJ X2 hx hlk Bd.returns (hb hby d1_27) ⟨rfl, e2, Or.inl ⟨hc1, rfl⟩⟩ (by decide) (by decide)
  · refine own_via (fun _ k => XS.ifNo X0.here hx rfl (hb hby d1_5) rfl ((if0 _ _).trans (flt (mt (lw_lt x1 (300 : Int64)).mp hc1)).1) k) ?_
    show own_Go p e below s _ _ _ (s₁.setTop (mkF m 8 #[.val (.ref w2), .val (.long x1), .second, .unset, .unset] []))
    refine own_via (fun _ k => XS.aloadN X0.here hx rfl (hb hby d1_8) rfl rfl k) ?_
    show own_Go p e below s _ _ _ (s₁.setTop (mkF m 9 #[.val (.ref w2), .val (.long x1), .second, .unset, .unset] [(.ref w2)]))
    obtain ⟨T3, X3, e3, st3⟩ := getF X0 hx hZ hown (host := "") (Or.inl (hw _ (List.mem_of_getElem? (i := 19) rfl))) Via.refl e0 F_w2_from (g := (mkF m 9 #[.val (.ref w2), .val (.long x1), .second, .unset, .unset] [(.ref w2)])) rfl rfl (hb hby d1_9)
    refine own_via st3 ?_
    show own_Go p e below s _ _ _ (T3.setTop (mkF m 12 #[.val (.ref w2), .val (.long x1), .second, .unset, .unset] [(.long (1 : Int64))]))
    refine own_via (fun _ k => XS.goto X3.here hx rfl (pc0 := 12) (pc' := 19) rfl (hb hby d1_12) (by decide) (by decide) k) ?_
    show own_Go p e below s _ _ _ (T3.setTop (mkF m 19 #[.val (.ref w2), .val (.long x1), .second, .unset, .unset] [(.long (1 : Int64))]))
    refine own_via (fun _ k => XS.lstoreN X3.here hx rfl (hb hby d1_19) rfl (l' := #[.val (.ref w2), .val (.long x1), .second, .val (.long (1 : Int64)), .second]) rfl k) ?_
    show own_Go p e below s _ _ _ (T3.setTop (mkF m 20 #[.val (.ref w2), .val (.long x1), .second, .val (.long (1 : Int64)), .second] []))
    refine own_via (fun _ k => XS.lloadN X3.here hx rfl (hb hby d1_20) rfl k) ?_
    show own_Go p e below s _ _ _ (T3.setTop (mkF m 21 #[.val (.ref w2), .val (.long x1), .second, .val (.long (1 : Int64)), .second] [(.long x1)]))
    refine own_via (fun _ k => XS.lloadN X3.here hx rfl (hb hby d1_21) rfl k) ?_
    show own_Go p e below s _ _ _ (T3.setTop (mkF m 22 #[.val (.ref w2), .val (.long x1), .second, .val (.long (1 : Int64)), .second] [(.long (1 : Int64)), (.long x1)]))
    refine own_via (fun _ k => XS.ldiv X3.here hx rfl (hb hby d1_22) rfl (by decide : ¬ ((1 : Int64) = (0 : Int64))) k) ?_
    show own_Go p e below s _ _ _ (T3.setTop (mkF m 23 #[.val (.ref w2), .val (.long x1), .second, .val (.long (1 : Int64)), .second] [(.long (x1 / (1 : Int64)))]))
    refine own_via (fun _ k => XS.lconst X3.here hx rfl (hb hby d1_23) k) ?_
    show own_Go p e below s _ _ _ (T3.setTop (mkF m 24 #[.val (.ref w2), .val (.long x1), .second, .val (.long (1 : Int64)), .second] [(.long (1 : Int64)), (.long (x1 / (1 : Int64)))]))
    refine own_via (fun _ k => XS.ladd X3.here hx rfl (hb hby d1_24) rfl k) ?_
    show own_Go p e below s _ _ _ (T3.setTop (mkF m 25 #[.val (.ref w2), .val (.long x1), .second, .val (.long (1 : Int64)), .second] [(.long ((x1 / (1 : Int64)) + (1 : Int64)))]))
    refine own_via (fun _ k => XS.lloadN X3.here hx rfl (hb hby d1_25) rfl k) ?_
    show own_Go p e below s _ _ _ (T3.setTop (mkF m 26 #[.val (.ref w2), .val (.long x1), .second, .val (.long (1 : Int64)), .second] [(.long (1 : Int64)), (.long ((x1 / (1 : Int64)) + (1 : Int64)))]))
    refine own_via (fun _ k => XS.lmul X3.here hx rfl (hb hby d1_26) rfl k) ?_
    show own_Go p e below s _ _ _ (T3.setTop (mkF m 27 #[.val (.ref w2), .val (.long x1), .second, .val (.long (1 : Int64)), .second] [(.long (((x1 / (1 : Int64)) + (1 : Int64)) * (1 : Int64)))]))
    exact own_retJ X3 hx hlk Bd.returns (hb hby d1_27) ⟨rfl, e3, Or.inr (⟨hc1, rfl⟩)⟩ (by decide) (by decide)
def Q0 (n0 : Nat) (v : Option Value) (h : Heap) (L : List Loc) : Prop := v = some (.int 1) ∧ Fr n0 L
set_option maxRecDepth 65536 in
set_option maxHeartbeats 40000000 in
theorem rm0 (l : Launch) (Z : State) (a0 : Array Value) (hw : ∀ d ∈ tables_1, d.before a0 Z = true) (ws : List Jvm.Cond) (p0 : Int32) (p1 : Int32) (p2 : Int64) (w0 : Addr) (w1 : Addr) (w2 : Addr) (h0 : Heap) (n0 : Nat) (Z0 : n0 ≤ h0.size) (K : own_K Z h0 w0 w1 w2) :
    MetFree l x (head1 (Jvm.Cond.code x code maxLocals ret :: ws) room_1) (fun a U => a = #[(.int p0), (.int p1), (.long p2)] ∧ Z.Warmed39 U.vm ∧ U.heap = h0) (fun _ _ _ _ _ => True) (fun _ U o U' => ∃ v L, o = .returned v ∧ Q0 n0 v U'.heap L ∧ FrameEnd U o U' L 0 0) := by
  refine MetFree.of_bodySF (plainFor_of_name pn1) hisR ?_
  intro p e s m args below meth c s₁ Bd hml0 hP hK
  obtain ⟨rfl, hZ, hh⟩ := hP
  have hx := Bd.exec
  have hby := Bd.bytes
  have hml : c.maxLocals = 19 := hml0
  have hown : s.vm.findClass "com/example/strikeline/strikeline/PennyProgramPriceAbovePinLaw" = some m.cls := findClass_of_methodNamed Bd.named
  have hnm := (name_of_methodNamed Bd.named Bd.method).1
  have hlk := Bd.notSynchronized
  have X0 : Stand p l e room_1 s m #[(.int p0), (.int p1), (.long p2)] below meth c s₁ [] 0 0 := Stand.of_body Bd
  have e0 : s₁.heap = h0 := by rw [← hh, Bd.state]; rfl
  have K0 := K
  obtain ⟨S_w0, S_w1, S_w2, E_w0, E_w1, E_w2, F_w0_below, F_w1_from, F_w0_from, F_w2_below, F_w2_from, F_w1_below, n_w0_w1, n_w0_w2, n_w1_w2⟩ := K
  show own_Go p e below s (Q0 n0) 0 0 (s₁.setTop (entryFrame m #[(.int p0), (.int p1), (.long p2)] maxLocals))
  rw [show entryFrame m #[(.int p0), (.int p1), (.long p2)] maxLocals = mkF m 0 #[.val (.int p0), .val (.int p1), .val (.long p2), .second, .unset, .unset, .unset, .unset, .unset, .unset, .unset, .unset, .unset, .unset, .unset, .unset, .unset, .unset, .unset] [] from by first | (simp [entryFrame, mkF, argsToLocals, Value.category, maxLocals]; done) | rfl]
  show own_Go p e below s _ _ _ (s₁.setTop (mkF m 0 #[.val (.int p0), .val (.int p1), .val (.long p2), .second, .unset, .unset, .unset, .unset, .unset, .unset, .unset, .unset, .unset, .unset, .unset, .unset, .unset, .unset, .unset] []))
  refine own_via (fun _ k => XS.iloadN X0.here hx rfl (hb hby at_0) rfl k) ?_
  show own_Go p e below s _ _ _ (s₁.setTop (mkF m 1 #[.val (.int p0), .val (.int p1), .val (.long p2), .second, .unset, .unset, .unset, .unset, .unset, .unset, .unset, .unset, .unset, .unset, .unset, .unset, .unset, .unset, .unset] [(.int p0)]))
  refine own_via (fun _ k => X0.ldcInt hx hown (mvT hZ (hw _ (List.mem_of_getElem? (i := 0) rfl))) (g := (mkF m 1 #[.val (.int p0), .val (.int p1), .val (.long p2), .second, .unset, .unset, .unset, .unset, .unset, .unset, .unset, .unset, .unset, .unset, .unset, .unset, .unset, .unset, .unset] [(.int p0)])) rfl (hb hby at_1) _ k) ?_
  show own_Go p e below s _ _ _ (s₁.setTop (mkF m 3 #[.val (.int p0), .val (.int p1), .val (.long p2), .second, .unset, .unset, .unset, .unset, .unset, .unset, .unset, .unset, .unset, .unset, .unset, .unset, .unset, .unset, .unset] [(.int (2147483647 : Int32)), (.int p0)]))
  refine own_via (fun _ k => XS.iand X0.here hx rfl (hb hby at_3) rfl k) ?_
  show own_Go p e below s _ _ _ (s₁.setTop (mkF m 4 #[.val (.int p0), .val (.int p1), .val (.long p2), .second, .unset, .unset, .unset, .unset, .unset, .unset, .unset, .unset, .unset, .unset, .unset, .unset, .unset, .unset, .unset] [(.int (p0 &&& (2147483647 : Int32)))]))
  refine own_via (fun _ k => XS.iconst X0.here hx rfl (hb hby at_4) k) ?_
  show own_Go p e below s _ _ _ (s₁.setTop (mkF m 5 #[.val (.int p0), .val (.int p1), .val (.long p2), .second, .unset, .unset, .unset, .unset, .unset, .unset, .unset, .unset, .unset, .unset, .unset, .unset, .unset, .unset, .unset] [(.int (3 : Int32)), (.int (p0 &&& (2147483647 : Int32)))]))
  refine own_via (fun _ k => iremM X0 hx rfl (hb hby at_5) rfl (by decide : ¬ ((3 : Int32) = (0 : Int32))) k) ?_
  rcases (own_mod3 _ : ((p0 &&& (2147483647 : Int32)) % (3 : Int32)) = (0 : Int32) ∨ ((p0 &&& (2147483647 : Int32)) % (3 : Int32)) = (1 : Int32) ∨ ((p0 &&& (2147483647 : Int32)) % (3 : Int32)) = (2 : Int32)) with hk1 | hk2 | hk3
  · rw [hk1]
    show own_Go p e below s _ _ _ (s₁.setTop (mkF m 6 #[.val (.int p0), .val (.int p1), .val (.long p2), .second, .unset, .unset, .unset, .unset, .unset, .unset, .unset, .unset, .unset, .unset, .unset, .unset, .unset, .unset, .unset] [(.int (0 : Int32))]))
    refine own_via (fun _ k => XS.istore X0.here hx rfl (hb hby at_6) rfl (l' := #[.val (.int p0), .val (.int p1), .val (.long p2), .second, .val (.int (0 : Int32)), .unset, .unset, .unset, .unset, .unset, .unset, .unset, .unset, .unset, .unset, .unset, .unset, .unset, .unset]) rfl k) ?_
    show own_Go p e below s _ _ _ (s₁.setTop (mkF m 8 #[.val (.int p0), .val (.int p1), .val (.long p2), .second, .val (.int (0 : Int32)), .unset, .unset, .unset, .unset, .unset, .unset, .unset, .unset, .unset, .unset, .unset, .unset, .unset, .unset] []))
    refine own_via (fun _ k => XS.iload X0.here hx rfl (hb hby at_8) rfl k) ?_
    show own_Go p e below s _ _ _ (s₁.setTop (mkF m 10 #[.val (.int p0), .val (.int p1), .val (.long p2), .second, .val (.int (0 : Int32)), .unset, .unset, .unset, .unset, .unset, .unset, .unset, .unset, .unset, .unset, .unset, .unset, .unset, .unset] [(.int (0 : Int32))]))
    refine own_via (fun _ k => XS.ifNo X0.here hx rfl (hb hby at_10) rfl ((if0 _ _).trans (teq (by decide : (0 : Int32) = (0 : Int32))).2) k) ?_
    show own_Go p e below s _ _ _ (s₁.setTop (mkF m 13 #[.val (.int p0), .val (.int p1), .val (.long p2), .second, .val (.int (0 : Int32)), .unset, .unset, .unset, .unset, .unset, .unset, .unset, .unset, .unset, .unset, .unset, .unset, .unset, .unset] []))
    obtain ⟨T4, X4, e4, st4⟩ := getS2 X0 hx hZ hown (host := "") (Or.inl (hw _ (List.mem_of_getElem? (i := 1) rfl))) Via.refl e0 S_w0 (g := (mkF m 13 #[.val (.int p0), .val (.int p1), .val (.long p2), .second, .val (.int (0 : Int32)), .unset, .unset, .unset, .unset, .unset, .unset, .unset, .unset, .unset, .unset, .unset, .unset, .unset, .unset] [])) rfl (hb hby at_13)
    refine own_via st4 ?_
    show own_Go p e below s _ _ _ (T4.setTop (mkF m 16 #[.val (.int p0), .val (.int p1), .val (.long p2), .second, .val (.int (0 : Int32)), .unset, .unset, .unset, .unset, .unset, .unset, .unset, .unset, .unset, .unset, .unset, .unset, .unset, .unset] [(.ref w0)]))
    refine own_via (fun _ k => XS.astore X4.here hx rfl (hb hby at_16) rfl rfl (l' := #[.val (.int p0), .val (.int p1), .val (.long p2), .second, .val (.int (0 : Int32)), .val (.ref w0), .unset, .unset, .unset, .unset, .unset, .unset, .unset, .unset, .unset, .unset, .unset, .unset, .unset]) rfl k) ?_
    show own_Go p e below s _ _ _ (T4.setTop (mkF m 18 #[.val (.int p0), .val (.int p1), .val (.long p2), .second, .val (.int (0 : Int32)), .val (.ref w0), .unset, .unset, .unset, .unset, .unset, .unset, .unset, .unset, .unset, .unset, .unset, .unset, .unset] []))
    refine own_via (fun _ k => X4.ldc2Long hx hown (mvT hZ (hw _ (List.mem_of_getElem? (i := 4) rfl))) (g := (mkF m 18 #[.val (.int p0), .val (.int p1), .val (.long p2), .second, .val (.int (0 : Int32)), .val (.ref w0), .unset, .unset, .unset, .unset, .unset, .unset, .unset, .unset, .unset, .unset, .unset, .unset, .unset] [])) rfl (hb hby at_18) _ k) ?_
    show own_Go p e below s _ _ _ (T4.setTop (mkF m 21 #[.val (.int p0), .val (.int p1), .val (.long p2), .second, .val (.int (0 : Int32)), .val (.ref w0), .unset, .unset, .unset, .unset, .unset, .unset, .unset, .unset, .unset, .unset, .unset, .unset, .unset] [(.long (5 : Int64))]))
    refine own_via (fun _ k => XS.lstore X4.here hx rfl (hb hby at_21) rfl (l' := #[.val (.int p0), .val (.int p1), .val (.long p2), .second, .val (.int (0 : Int32)), .val (.ref w0), .val (.long (5 : Int64)), .second, .unset, .unset, .unset, .unset, .unset, .unset, .unset, .unset, .unset, .unset, .unset]) rfl k) ?_
    show own_Go p e below s _ _ _ (T4.setTop (mkF m 23 #[.val (.int p0), .val (.int p1), .val (.long p2), .second, .val (.int (0 : Int32)), .val (.ref w0), .val (.long (5 : Int64)), .second, .unset, .unset, .unset, .unset, .unset, .unset, .unset, .unset, .unset, .unset, .unset] []))
    refine own_via (fun _ k => X4.ldc2Long hx hown (mvT hZ (hw _ (List.mem_of_getElem? (i := 5) rfl))) (g := (mkF m 23 #[.val (.int p0), .val (.int p1), .val (.long p2), .second, .val (.int (0 : Int32)), .val (.ref w0), .val (.long (5 : Int64)), .second, .unset, .unset, .unset, .unset, .unset, .unset, .unset, .unset, .unset, .unset, .unset] [])) rfl (hb hby at_23) _ k) ?_
    show own_Go p e below s _ _ _ (T4.setTop (mkF m 26 #[.val (.int p0), .val (.int p1), .val (.long p2), .second, .val (.int (0 : Int32)), .val (.ref w0), .val (.long (5 : Int64)), .second, .unset, .unset, .unset, .unset, .unset, .unset, .unset, .unset, .unset, .unset, .unset] [(.long (10 : Int64))]))
    refine own_via (fun _ k => XS.lstore X4.here hx rfl (hb hby at_26) rfl (l' := #[.val (.int p0), .val (.int p1), .val (.long p2), .second, .val (.int (0 : Int32)), .val (.ref w0), .val (.long (5 : Int64)), .second, .val (.long (10 : Int64)), .second, .unset, .unset, .unset, .unset, .unset, .unset, .unset, .unset, .unset]) rfl k) ?_
    show own_Go p e below s _ _ _ (T4.setTop (mkF m 28 #[.val (.int p0), .val (.int p1), .val (.long p2), .second, .val (.int (0 : Int32)), .val (.ref w0), .val (.long (5 : Int64)), .second, .val (.long (10 : Int64)), .second, .unset, .unset, .unset, .unset, .unset, .unset, .unset, .unset, .unset] []))
    refine own_via (fun _ k => XS.goto X4.here hx rfl (pc0 := 28) (pc' := 64) rfl (hb hby at_28) (by decide) (by decide) k) ?_
    have J5 : ∀ (T5 : State) (X5 : Stand p l e room_1 s m #[(.int p0), (.int p1), (.long p2)] below meth c T5 [] 0 0) (e5 : T5.heap = h0) (c5 : Int64) (hb5 : 0 ≤ c5.toInt ∧ c5.toInt ≤ 4611686018427387903), own_Go p e below s (Q0 n0) 0 0 (T5.setTop (mkF m 91 #[.val (.int p0), .val (.int p1), .val (.long p2), .second, .val (.int (0 : Int32)), .val (.ref w0), .val (.long (5 : Int64)), .second, .val (.long (10 : Int64)), .second, .val (.long c5), .second, .unset, .unset, .unset, .unset, .unset, .unset, .unset] [])) := by
      intro T5 X5 e5 c5 hb5
      have J6 : ∀ (T6 : State) (X6 : Stand p l e room_1 s m #[(.int p0), (.int p1), (.long p2)] below meth c T6 [] 0 0) (e6 : T6.heap = h0) (r6 : Int64) (hb6 : (c5.toInt < 300 ∧ r6.toInt = (c5.toInt / 5 + 1) * 5) ∨ (300 ≤ c5.toInt ∧ r6.toInt = (c5.toInt / 10 + 1) * 10)), own_Go p e below s (Q0 n0) 0 0 (T6.setTop (mkF m 98 #[.val (.int p0), .val (.int p1), .val (.long p2), .second, .val (.int (0 : Int32)), .val (.ref w0), .val (.long (5 : Int64)), .second, .val (.long (10 : Int64)), .second, .val (.long c5), .second, .unset, .unset, .unset, .unset, .unset, .unset, .unset] [(.long r6)])) := by
        intro T6 X6 e6 r6 hb6
        show own_Go p e below s _ _ _ (T6.setTop (mkF m 98 #[.val (.int p0), .val (.int p1), .val (.long p2), .second, .val (.int (0 : Int32)), .val (.ref w0), .val (.long (5 : Int64)), .second, .val (.long (10 : Int64)), .second, .val (.long c5), .second, .unset, .unset, .unset, .unset, .unset, .unset, .unset] [(.long r6)]))
        refine own_via (fun _ k => XS.lstore X6.here hx rfl (hb hby at_98) rfl (l' := #[.val (.int p0), .val (.int p1), .val (.long p2), .second, .val (.int (0 : Int32)), .val (.ref w0), .val (.long (5 : Int64)), .second, .val (.long (10 : Int64)), .second, .val (.long c5), .second, .val (.long r6), .second, .unset, .unset, .unset, .unset, .unset]) rfl k) ?_
        show own_Go p e below s _ _ _ (T6.setTop (mkF m 100 #[.val (.int p0), .val (.int p1), .val (.long p2), .second, .val (.int (0 : Int32)), .val (.ref w0), .val (.long (5 : Int64)), .second, .val (.long (10 : Int64)), .second, .val (.long c5), .second, .val (.long r6), .second, .unset, .unset, .unset, .unset, .unset] []))
        refine own_via (fun _ k => XS.lload X6.here hx rfl (hb hby at_100) rfl k) ?_
        show own_Go p e below s _ _ _ (T6.setTop (mkF m 102 #[.val (.int p0), .val (.int p1), .val (.long p2), .second, .val (.int (0 : Int32)), .val (.ref w0), .val (.long (5 : Int64)), .second, .val (.long (10 : Int64)), .second, .val (.long c5), .second, .val (.long r6), .second, .unset, .unset, .unset, .unset, .unset] [(.long r6)]))
        refine own_via (fun _ k => XS.lload X6.here hx rfl (hb hby at_102) rfl k) ?_
        show own_Go p e below s _ _ _ (T6.setTop (mkF m 104 #[.val (.int p0), .val (.int p1), .val (.long p2), .second, .val (.int (0 : Int32)), .val (.ref w0), .val (.long (5 : Int64)), .second, .val (.long (10 : Int64)), .second, .val (.long c5), .second, .val (.long r6), .second, .unset, .unset, .unset, .unset, .unset] [(.long c5), (.long r6)]))
        refine own_via (fun _ k => XS.lcmp X6.here hx rfl (hb hby at_104) rfl k) ?_
        show own_Go p e below s _ _ _ (T6.setTop (mkF m 105 #[.val (.int p0), .val (.int p1), .val (.long p2), .second, .val (.int (0 : Int32)), .val (.ref w0), .val (.long (5 : Int64)), .second, .val (.long (10 : Int64)), .second, .val (.long c5), .second, .val (.long r6), .second, .unset, .unset, .unset, .unset, .unset] [(.int (lcmpW r6 c5))]))
        by_cases hc7 : c5 < r6
        · refine own_via (fun _ k => XS.ifNo X6.here hx rfl (hb hby at_105) rfl ((if0 _ _).trans (tlt ((lw_gt r6 c5).mpr hc7)).2.2.2) k) ?_
          show own_Go p e below s _ _ _ (T6.setTop (mkF m 108 #[.val (.int p0), .val (.int p1), .val (.long p2), .second, .val (.int (0 : Int32)), .val (.ref w0), .val (.long (5 : Int64)), .second, .val (.long (10 : Int64)), .second, .val (.long c5), .second, .val (.long r6), .second, .unset, .unset, .unset, .unset, .unset] []))
          refine own_via (fun _ k => XS.iconst X6.here hx rfl (hb hby at_108) k) ?_
          show own_Go p e below s _ _ _ (T6.setTop (mkF m 109 #[.val (.int p0), .val (.int p1), .val (.long p2), .second, .val (.int (0 : Int32)), .val (.ref w0), .val (.long (5 : Int64)), .second, .val (.long (10 : Int64)), .second, .val (.long c5), .second, .val (.long r6), .second, .unset, .unset, .unset, .unset, .unset] [(.int (1 : Int32))]))
          refine own_via (fun _ k => XS.goto X6.here hx rfl (pc0 := 109) (pc' := 113) rfl (hb hby at_109) (by decide) (by decide) k) ?_
          show own_Go p e below s _ _ _ (T6.setTop (mkF m 113 #[.val (.int p0), .val (.int p1), .val (.long p2), .second, .val (.int (0 : Int32)), .val (.ref w0), .val (.long (5 : Int64)), .second, .val (.long (10 : Int64)), .second, .val (.long c5), .second, .val (.long r6), .second, .unset, .unset, .unset, .unset, .unset] [(.int (1 : Int32))]))
          refine own_via (fun _ k => XS.istore X6.here hx rfl (hb hby at_113) rfl (l' := #[.val (.int p0), .val (.int p1), .val (.long p2), .second, .val (.int (0 : Int32)), .val (.ref w0), .val (.long (5 : Int64)), .second, .val (.long (10 : Int64)), .second, .val (.long c5), .second, .val (.long r6), .second, .val (.int (1 : Int32)), .unset, .unset, .unset, .unset]) rfl k) ?_
          show own_Go p e below s _ _ _ (T6.setTop (mkF m 115 #[.val (.int p0), .val (.int p1), .val (.long p2), .second, .val (.int (0 : Int32)), .val (.ref w0), .val (.long (5 : Int64)), .second, .val (.long (10 : Int64)), .second, .val (.long c5), .second, .val (.long r6), .second, .val (.int (1 : Int32)), .unset, .unset, .unset, .unset] []))
          refine own_via (fun _ k => XS.lload X6.here hx rfl (hb hby at_115) rfl k) ?_
          show own_Go p e below s _ _ _ (T6.setTop (mkF m 117 #[.val (.int p0), .val (.int p1), .val (.long p2), .second, .val (.int (0 : Int32)), .val (.ref w0), .val (.long (5 : Int64)), .second, .val (.long (10 : Int64)), .second, .val (.long c5), .second, .val (.long r6), .second, .val (.int (1 : Int32)), .unset, .unset, .unset, .unset] [(.long r6)]))
          refine own_via (fun _ k => XS.lload X6.here hx rfl (hb hby at_117) rfl k) ?_
          show own_Go p e below s _ _ _ (T6.setTop (mkF m 119 #[.val (.int p0), .val (.int p1), .val (.long p2), .second, .val (.int (0 : Int32)), .val (.ref w0), .val (.long (5 : Int64)), .second, .val (.long (10 : Int64)), .second, .val (.long c5), .second, .val (.long r6), .second, .val (.int (1 : Int32)), .unset, .unset, .unset, .unset] [(.long r6), (.long r6)]))
          refine own_via (fun _ k => X6.ldc2Long hx hown (mvT hZ (hw _ (List.mem_of_getElem? (i := 16) rfl))) (g := (mkF m 119 #[.val (.int p0), .val (.int p1), .val (.long p2), .second, .val (.int (0 : Int32)), .val (.ref w0), .val (.long (5 : Int64)), .second, .val (.long (10 : Int64)), .second, .val (.long c5), .second, .val (.long r6), .second, .val (.int (1 : Int32)), .unset, .unset, .unset, .unset] [(.long r6), (.long r6)])) rfl (hb hby at_119) _ k) ?_
          show own_Go p e below s _ _ _ (T6.setTop (mkF m 122 #[.val (.int p0), .val (.int p1), .val (.long p2), .second, .val (.int (0 : Int32)), .val (.ref w0), .val (.long (5 : Int64)), .second, .val (.long (10 : Int64)), .second, .val (.long c5), .second, .val (.long r6), .second, .val (.int (1 : Int32)), .unset, .unset, .unset, .unset] [(.long (300 : Int64)), (.long r6), (.long r6)]))
          refine own_via (fun _ k => XS.lcmp X6.here hx rfl (hb hby at_122) rfl k) ?_
          show own_Go p e below s _ _ _ (T6.setTop (mkF m 123 #[.val (.int p0), .val (.int p1), .val (.long p2), .second, .val (.int (0 : Int32)), .val (.ref w0), .val (.long (5 : Int64)), .second, .val (.long (10 : Int64)), .second, .val (.long c5), .second, .val (.long r6), .second, .val (.int (1 : Int32)), .unset, .unset, .unset, .unset] [(.int (lcmpW r6 (300 : Int64))), (.long r6)]))
          by_cases hc8 : r6 < (300 : Int64)
          · refine own_via (fun _ k => XS.ifNo X6.here hx rfl (hb hby at_123) rfl ((if0 _ _).trans (tlt ((lw_lt r6 (300 : Int64)).mpr hc8)).2.1) k) ?_
            show own_Go p e below s _ _ _ (T6.setTop (mkF m 126 #[.val (.int p0), .val (.int p1), .val (.long p2), .second, .val (.int (0 : Int32)), .val (.ref w0), .val (.long (5 : Int64)), .second, .val (.long (10 : Int64)), .second, .val (.long c5), .second, .val (.long r6), .second, .val (.int (1 : Int32)), .unset, .unset, .unset, .unset] [(.long r6)]))
            refine own_via (fun _ k => XS.lload X6.here hx rfl (hb hby at_126) rfl k) ?_
            show own_Go p e below s _ _ _ (T6.setTop (mkF m 128 #[.val (.int p0), .val (.int p1), .val (.long p2), .second, .val (.int (0 : Int32)), .val (.ref w0), .val (.long (5 : Int64)), .second, .val (.long (10 : Int64)), .second, .val (.long c5), .second, .val (.long r6), .second, .val (.int (1 : Int32)), .unset, .unset, .unset, .unset] [(.long (5 : Int64)), (.long r6)]))
            refine own_via (fun _ k => XS.goto X6.here hx rfl (pc0 := 128) (pc' := 133) rfl (hb hby at_128) (by decide) (by decide) k) ?_
            show own_Go p e below s _ _ _ (T6.setTop (mkF m 133 #[.val (.int p0), .val (.int p1), .val (.long p2), .second, .val (.int (0 : Int32)), .val (.ref w0), .val (.long (5 : Int64)), .second, .val (.long (10 : Int64)), .second, .val (.long c5), .second, .val (.long r6), .second, .val (.int (1 : Int32)), .unset, .unset, .unset, .unset] [(.long (5 : Int64)), (.long r6)]))
            refine own_via (fun _ k => XS.lrem X6.here hx rfl (hb hby at_133) rfl (by decide : ¬ ((5 : Int64) = (0 : Int64))) k) ?_
            show own_Go p e below s _ _ _ (T6.setTop (mkF m 134 #[.val (.int p0), .val (.int p1), .val (.long p2), .second, .val (.int (0 : Int32)), .val (.ref w0), .val (.long (5 : Int64)), .second, .val (.long (10 : Int64)), .second, .val (.long c5), .second, .val (.long r6), .second, .val (.int (1 : Int32)), .unset, .unset, .unset, .unset] [(.long (r6 - (r6 / (5 : Int64)) * (5 : Int64)))]))
            refine own_via (fun _ k => XS.lconst X6.here hx rfl (hb hby at_134) k) ?_
            show own_Go p e below s _ _ _ (T6.setTop (mkF m 135 #[.val (.int p0), .val (.int p1), .val (.long p2), .second, .val (.int (0 : Int32)), .val (.ref w0), .val (.long (5 : Int64)), .second, .val (.long (10 : Int64)), .second, .val (.long c5), .second, .val (.long r6), .second, .val (.int (1 : Int32)), .unset, .unset, .unset, .unset] [(.long (0 : Int64)), (.long (r6 - (r6 / (5 : Int64)) * (5 : Int64)))]))
            refine own_via (fun _ k => XS.lcmp X6.here hx rfl (hb hby at_135) rfl k) ?_
            show own_Go p e below s _ _ _ (T6.setTop (mkF m 136 #[.val (.int p0), .val (.int p1), .val (.long p2), .second, .val (.int (0 : Int32)), .val (.ref w0), .val (.long (5 : Int64)), .second, .val (.long (10 : Int64)), .second, .val (.long c5), .second, .val (.long r6), .second, .val (.int (1 : Int32)), .unset, .unset, .unset, .unset] [(.int (lcmpW (r6 - (r6 / (5 : Int64)) * (5 : Int64)) (0 : Int64)))]))
            by_cases hc9 : (r6 - (r6 / (5 : Int64)) * (5 : Int64)) = (0 : Int64)
            · refine own_via (fun _ k => XS.ifNo X6.here hx rfl (hb hby at_136) rfl ((if0 _ _).trans (teq ((lw_eq (r6 - (r6 / (5 : Int64)) * (5 : Int64)) (0 : Int64)).mpr hc9)).2) k) ?_
              show own_Go p e below s _ _ _ (T6.setTop (mkF m 139 #[.val (.int p0), .val (.int p1), .val (.long p2), .second, .val (.int (0 : Int32)), .val (.ref w0), .val (.long (5 : Int64)), .second, .val (.long (10 : Int64)), .second, .val (.long c5), .second, .val (.long r6), .second, .val (.int (1 : Int32)), .unset, .unset, .unset, .unset] []))
              refine own_via (fun _ k => XS.iconst X6.here hx rfl (hb hby at_139) k) ?_
              show own_Go p e below s _ _ _ (T6.setTop (mkF m 140 #[.val (.int p0), .val (.int p1), .val (.long p2), .second, .val (.int (0 : Int32)), .val (.ref w0), .val (.long (5 : Int64)), .second, .val (.long (10 : Int64)), .second, .val (.long c5), .second, .val (.long r6), .second, .val (.int (1 : Int32)), .unset, .unset, .unset, .unset] [(.int (1 : Int32))]))
              refine own_via (fun _ k => XS.goto X6.here hx rfl (pc0 := 140) (pc' := 144) rfl (hb hby at_140) (by decide) (by decide) k) ?_
              show own_Go p e below s _ _ _ (T6.setTop (mkF m 144 #[.val (.int p0), .val (.int p1), .val (.long p2), .second, .val (.int (0 : Int32)), .val (.ref w0), .val (.long (5 : Int64)), .second, .val (.long (10 : Int64)), .second, .val (.long c5), .second, .val (.long r6), .second, .val (.int (1 : Int32)), .unset, .unset, .unset, .unset] [(.int (1 : Int32))]))
              refine own_via (fun _ k => XS.istore X6.here hx rfl (hb hby at_144) rfl (l' := #[.val (.int p0), .val (.int p1), .val (.long p2), .second, .val (.int (0 : Int32)), .val (.ref w0), .val (.long (5 : Int64)), .second, .val (.long (10 : Int64)), .second, .val (.long c5), .second, .val (.long r6), .second, .val (.int (1 : Int32)), .val (.int (1 : Int32)), .unset, .unset, .unset]) rfl k) ?_
              show own_Go p e below s _ _ _ (T6.setTop (mkF m 146 #[.val (.int p0), .val (.int p1), .val (.long p2), .second, .val (.int (0 : Int32)), .val (.ref w0), .val (.long (5 : Int64)), .second, .val (.long (10 : Int64)), .second, .val (.long c5), .second, .val (.long r6), .second, .val (.int (1 : Int32)), .val (.int (1 : Int32)), .unset, .unset, .unset] []))
              refine own_via (fun _ k => XS.lload X6.here hx rfl (hb hby at_146) rfl k) ?_
              show own_Go p e below s _ _ _ (T6.setTop (mkF m 148 #[.val (.int p0), .val (.int p1), .val (.long p2), .second, .val (.int (0 : Int32)), .val (.ref w0), .val (.long (5 : Int64)), .second, .val (.long (10 : Int64)), .second, .val (.long c5), .second, .val (.long r6), .second, .val (.int (1 : Int32)), .val (.int (1 : Int32)), .unset, .unset, .unset] [(.long r6)]))
              refine own_via (fun _ k => X6.ldc2Long hx hown (mvT hZ (hw _ (List.mem_of_getElem? (i := 16) rfl))) (g := (mkF m 148 #[.val (.int p0), .val (.int p1), .val (.long p2), .second, .val (.int (0 : Int32)), .val (.ref w0), .val (.long (5 : Int64)), .second, .val (.long (10 : Int64)), .second, .val (.long c5), .second, .val (.long r6), .second, .val (.int (1 : Int32)), .val (.int (1 : Int32)), .unset, .unset, .unset] [(.long r6)])) rfl (hb hby at_148) _ k) ?_
              show own_Go p e below s _ _ _ (T6.setTop (mkF m 151 #[.val (.int p0), .val (.int p1), .val (.long p2), .second, .val (.int (0 : Int32)), .val (.ref w0), .val (.long (5 : Int64)), .second, .val (.long (10 : Int64)), .second, .val (.long c5), .second, .val (.long r6), .second, .val (.int (1 : Int32)), .val (.int (1 : Int32)), .unset, .unset, .unset] [(.long (300 : Int64)), (.long r6)]))
              refine own_via (fun _ k => XS.lcmp X6.here hx rfl (hb hby at_151) rfl k) ?_
              show own_Go p e below s _ _ _ (T6.setTop (mkF m 152 #[.val (.int p0), .val (.int p1), .val (.long p2), .second, .val (.int (0 : Int32)), .val (.ref w0), .val (.long (5 : Int64)), .second, .val (.long (10 : Int64)), .second, .val (.long c5), .second, .val (.long r6), .second, .val (.int (1 : Int32)), .val (.int (1 : Int32)), .unset, .unset, .unset] [(.int (lcmpW r6 (300 : Int64)))]))
              by_cases hc10 : (300 : Int64) < r6
              · refine own_via (fun _ k => XS.ifNo X6.here hx rfl (hb hby at_152) rfl ((if0 _ _).trans (tlt ((lw_gt r6 (300 : Int64)).mpr hc10)).2.2.2) k) ?_
                show own_Go p e below s _ _ _ (T6.setTop (mkF m 155 #[.val (.int p0), .val (.int p1), .val (.long p2), .second, .val (.int (0 : Int32)), .val (.ref w0), .val (.long (5 : Int64)), .second, .val (.long (10 : Int64)), .second, .val (.long c5), .second, .val (.long r6), .second, .val (.int (1 : Int32)), .val (.int (1 : Int32)), .unset, .unset, .unset] []))
                refine own_via (fun _ k => XS.lload X6.here hx rfl (hb hby at_155) rfl k) ?_
                show own_Go p e below s _ _ _ (T6.setTop (mkF m 157 #[.val (.int p0), .val (.int p1), .val (.long p2), .second, .val (.int (0 : Int32)), .val (.ref w0), .val (.long (5 : Int64)), .second, .val (.long (10 : Int64)), .second, .val (.long c5), .second, .val (.long r6), .second, .val (.int (1 : Int32)), .val (.int (1 : Int32)), .unset, .unset, .unset] [(.long (10 : Int64))]))
                refine own_via (fun _ k => XS.goto X6.here hx rfl (pc0 := 157) (pc' := 162) rfl (hb hby at_157) (by decide) (by decide) k) ?_
                show own_Go p e below s _ _ _ (T6.setTop (mkF m 162 #[.val (.int p0), .val (.int p1), .val (.long p2), .second, .val (.int (0 : Int32)), .val (.ref w0), .val (.long (5 : Int64)), .second, .val (.long (10 : Int64)), .second, .val (.long c5), .second, .val (.long r6), .second, .val (.int (1 : Int32)), .val (.int (1 : Int32)), .unset, .unset, .unset] [(.long (10 : Int64))]))
                refine own_via (fun _ k => XS.lstore X6.here hx rfl (hb hby at_162) rfl (l' := #[.val (.int p0), .val (.int p1), .val (.long p2), .second, .val (.int (0 : Int32)), .val (.ref w0), .val (.long (5 : Int64)), .second, .val (.long (10 : Int64)), .second, .val (.long c5), .second, .val (.long r6), .second, .val (.int (1 : Int32)), .val (.int (1 : Int32)), .val (.long (10 : Int64)), .second, .unset]) rfl k) ?_
                show own_Go p e below s _ _ _ (T6.setTop (mkF m 164 #[.val (.int p0), .val (.int p1), .val (.long p2), .second, .val (.int (0 : Int32)), .val (.ref w0), .val (.long (5 : Int64)), .second, .val (.long (10 : Int64)), .second, .val (.long c5), .second, .val (.long r6), .second, .val (.int (1 : Int32)), .val (.int (1 : Int32)), .val (.long (10 : Int64)), .second, .unset] []))
                refine own_via (fun _ k => XS.lload X6.here hx rfl (hb hby at_164) rfl k) ?_
                show own_Go p e below s _ _ _ (T6.setTop (mkF m 166 #[.val (.int p0), .val (.int p1), .val (.long p2), .second, .val (.int (0 : Int32)), .val (.ref w0), .val (.long (5 : Int64)), .second, .val (.long (10 : Int64)), .second, .val (.long c5), .second, .val (.long r6), .second, .val (.int (1 : Int32)), .val (.int (1 : Int32)), .val (.long (10 : Int64)), .second, .unset] [(.long r6)]))
                refine own_via (fun _ k => XS.lload X6.here hx rfl (hb hby at_166) rfl k) ?_
                show own_Go p e below s _ _ _ (T6.setTop (mkF m 168 #[.val (.int p0), .val (.int p1), .val (.long p2), .second, .val (.int (0 : Int32)), .val (.ref w0), .val (.long (5 : Int64)), .second, .val (.long (10 : Int64)), .second, .val (.long c5), .second, .val (.long r6), .second, .val (.int (1 : Int32)), .val (.int (1 : Int32)), .val (.long (10 : Int64)), .second, .unset] [(.long (10 : Int64)), (.long r6)]))
                refine own_via (fun _ k => XS.lsub X6.here hx rfl (hb hby at_168) rfl k) ?_
                show own_Go p e below s _ _ _ (T6.setTop (mkF m 169 #[.val (.int p0), .val (.int p1), .val (.long p2), .second, .val (.int (0 : Int32)), .val (.ref w0), .val (.long (5 : Int64)), .second, .val (.long (10 : Int64)), .second, .val (.long c5), .second, .val (.long r6), .second, .val (.int (1 : Int32)), .val (.int (1 : Int32)), .val (.long (10 : Int64)), .second, .unset] [(.long (r6 - (10 : Int64)))]))
                refine own_via (fun _ k => XS.lload X6.here hx rfl (hb hby at_169) rfl k) ?_
                show own_Go p e below s _ _ _ (T6.setTop (mkF m 171 #[.val (.int p0), .val (.int p1), .val (.long p2), .second, .val (.int (0 : Int32)), .val (.ref w0), .val (.long (5 : Int64)), .second, .val (.long (10 : Int64)), .second, .val (.long c5), .second, .val (.long r6), .second, .val (.int (1 : Int32)), .val (.int (1 : Int32)), .val (.long (10 : Int64)), .second, .unset] [(.long c5), (.long (r6 - (10 : Int64)))]))
                refine own_via (fun _ k => XS.lcmp X6.here hx rfl (hb hby at_171) rfl k) ?_
                show own_Go p e below s _ _ _ (T6.setTop (mkF m 172 #[.val (.int p0), .val (.int p1), .val (.long p2), .second, .val (.int (0 : Int32)), .val (.ref w0), .val (.long (5 : Int64)), .second, .val (.long (10 : Int64)), .second, .val (.long c5), .second, .val (.long r6), .second, .val (.int (1 : Int32)), .val (.int (1 : Int32)), .val (.long (10 : Int64)), .second, .unset] [(.int (lcmpW (r6 - (10 : Int64)) c5))]))
                by_cases hc11 : c5 < (r6 - (10 : Int64))
                · exfalso
                  have ar0 := rng64 c5
                  have ar1 := rng64 r6
                  have ar2 := c_lrem r6 (5 : Int64) 5 rfl
                  have ar3 := rng64 (r6 - (r6 / (5 : Int64)) * (5 : Int64))
                  have ar4 := c_lsub r6 (10 : Int64)
                  have ar5 := rng64 (r6 - (10 : Int64))
                  simp only [Int64.lt_iff_toInt_lt, ← Int64.toInt_inj, Int32.lt_iff_toInt_lt, ← Int32.toInt_inj, (show (0 : Int64).toInt = 0 from rfl), (show (5 : Int64).toInt = 5 from rfl), (show (10 : Int64).toInt = 10 from rfl), (show (300 : Int64).toInt = 300 from rfl)] at hc7 hc8 hc9 hc10 hc11 ar0 ar1 ar2 ar3 ar4 ar5
                  omega
                · refine own_via (fun _ k => XS.ifNo X6.here hx rfl (hb hby at_172) rfl ((if0 _ _).trans (flt (mt (lw_gt (r6 - (10 : Int64)) c5).mp hc11)).2.2.1) k) ?_
                  show own_Go p e below s _ _ _ (T6.setTop (mkF m 175 #[.val (.int p0), .val (.int p1), .val (.long p2), .second, .val (.int (0 : Int32)), .val (.ref w0), .val (.long (5 : Int64)), .second, .val (.long (10 : Int64)), .second, .val (.long c5), .second, .val (.long r6), .second, .val (.int (1 : Int32)), .val (.int (1 : Int32)), .val (.long (10 : Int64)), .second, .unset] []))
                  refine own_via (fun _ k => XS.iconst X6.here hx rfl (hb hby at_175) k) ?_
                  show own_Go p e below s _ _ _ (T6.setTop (mkF m 176 #[.val (.int p0), .val (.int p1), .val (.long p2), .second, .val (.int (0 : Int32)), .val (.ref w0), .val (.long (5 : Int64)), .second, .val (.long (10 : Int64)), .second, .val (.long c5), .second, .val (.long r6), .second, .val (.int (1 : Int32)), .val (.int (1 : Int32)), .val (.long (10 : Int64)), .second, .unset] [(.int (1 : Int32))]))
                  refine own_via (fun _ k => XS.goto X6.here hx rfl (pc0 := 176) (pc' := 180) rfl (hb hby at_176) (by decide) (by decide) k) ?_
                  show own_Go p e below s _ _ _ (T6.setTop (mkF m 180 #[.val (.int p0), .val (.int p1), .val (.long p2), .second, .val (.int (0 : Int32)), .val (.ref w0), .val (.long (5 : Int64)), .second, .val (.long (10 : Int64)), .second, .val (.long c5), .second, .val (.long r6), .second, .val (.int (1 : Int32)), .val (.int (1 : Int32)), .val (.long (10 : Int64)), .second, .unset] [(.int (1 : Int32))]))
                  refine own_via (fun _ k => XS.istore X6.here hx rfl (hb hby at_180) rfl (l' := #[.val (.int p0), .val (.int p1), .val (.long p2), .second, .val (.int (0 : Int32)), .val (.ref w0), .val (.long (5 : Int64)), .second, .val (.long (10 : Int64)), .second, .val (.long c5), .second, .val (.long r6), .second, .val (.int (1 : Int32)), .val (.int (1 : Int32)), .val (.long (10 : Int64)), .second, .val (.int (1 : Int32))]) rfl k) ?_
                  show own_Go p e below s _ _ _ (T6.setTop (mkF m 182 #[.val (.int p0), .val (.int p1), .val (.long p2), .second, .val (.int (0 : Int32)), .val (.ref w0), .val (.long (5 : Int64)), .second, .val (.long (10 : Int64)), .second, .val (.long c5), .second, .val (.long r6), .second, .val (.int (1 : Int32)), .val (.int (1 : Int32)), .val (.long (10 : Int64)), .second, .val (.int (1 : Int32))] []))
                  refine own_via (fun _ k => XS.iload X6.here hx rfl (hb hby at_182) rfl k) ?_
                  show own_Go p e below s _ _ _ (T6.setTop (mkF m 184 #[.val (.int p0), .val (.int p1), .val (.long p2), .second, .val (.int (0 : Int32)), .val (.ref w0), .val (.long (5 : Int64)), .second, .val (.long (10 : Int64)), .second, .val (.long c5), .second, .val (.long r6), .second, .val (.int (1 : Int32)), .val (.int (1 : Int32)), .val (.long (10 : Int64)), .second, .val (.int (1 : Int32))] [(.int (1 : Int32))]))
                  refine own_via (fun _ k => XS.ifNo X6.here hx rfl (hb hby at_184) rfl ((if0 _ _).trans (feq (by decide : ¬ ((1 : Int32) = (0 : Int32)))).1) k) ?_
                  show own_Go p e below s _ _ _ (T6.setTop (mkF m 187 #[.val (.int p0), .val (.int p1), .val (.long p2), .second, .val (.int (0 : Int32)), .val (.ref w0), .val (.long (5 : Int64)), .second, .val (.long (10 : Int64)), .second, .val (.long c5), .second, .val (.long r6), .second, .val (.int (1 : Int32)), .val (.int (1 : Int32)), .val (.long (10 : Int64)), .second, .val (.int (1 : Int32))] []))
                  refine own_via (fun _ k => XS.iload X6.here hx rfl (hb hby at_187) rfl k) ?_
                  show own_Go p e below s _ _ _ (T6.setTop (mkF m 189 #[.val (.int p0), .val (.int p1), .val (.long p2), .second, .val (.int (0 : Int32)), .val (.ref w0), .val (.long (5 : Int64)), .second, .val (.long (10 : Int64)), .second, .val (.long c5), .second, .val (.long r6), .second, .val (.int (1 : Int32)), .val (.int (1 : Int32)), .val (.long (10 : Int64)), .second, .val (.int (1 : Int32))] [(.int (1 : Int32))]))
                  refine own_via (fun _ k => XS.ifNo X6.here hx rfl (hb hby at_189) rfl ((if0 _ _).trans (feq (by decide : ¬ ((1 : Int32) = (0 : Int32)))).1) k) ?_
                  show own_Go p e below s _ _ _ (T6.setTop (mkF m 192 #[.val (.int p0), .val (.int p1), .val (.long p2), .second, .val (.int (0 : Int32)), .val (.ref w0), .val (.long (5 : Int64)), .second, .val (.long (10 : Int64)), .second, .val (.long c5), .second, .val (.long r6), .second, .val (.int (1 : Int32)), .val (.int (1 : Int32)), .val (.long (10 : Int64)), .second, .val (.int (1 : Int32))] []))
                  refine own_via (fun _ k => XS.iload X6.here hx rfl (hb hby at_192) rfl k) ?_
                  show own_Go p e below s _ _ _ (T6.setTop (mkF m 194 #[.val (.int p0), .val (.int p1), .val (.long p2), .second, .val (.int (0 : Int32)), .val (.ref w0), .val (.long (5 : Int64)), .second, .val (.long (10 : Int64)), .second, .val (.long c5), .second, .val (.long r6), .second, .val (.int (1 : Int32)), .val (.int (1 : Int32)), .val (.long (10 : Int64)), .second, .val (.int (1 : Int32))] [(.int (1 : Int32))]))
                  refine own_via (fun _ k => XS.ifNo X6.here hx rfl (hb hby at_194) rfl ((if0 _ _).trans (feq (by decide : ¬ ((1 : Int32) = (0 : Int32)))).1) k) ?_
                  show own_Go p e below s _ _ _ (T6.setTop (mkF m 197 #[.val (.int p0), .val (.int p1), .val (.long p2), .second, .val (.int (0 : Int32)), .val (.ref w0), .val (.long (5 : Int64)), .second, .val (.long (10 : Int64)), .second, .val (.long c5), .second, .val (.long r6), .second, .val (.int (1 : Int32)), .val (.int (1 : Int32)), .val (.long (10 : Int64)), .second, .val (.int (1 : Int32))] []))
                  refine own_via (fun _ k => XS.iconst X6.here hx rfl (hb hby at_197) k) ?_
                  show own_Go p e below s _ _ _ (T6.setTop (mkF m 198 #[.val (.int p0), .val (.int p1), .val (.long p2), .second, .val (.int (0 : Int32)), .val (.ref w0), .val (.long (5 : Int64)), .second, .val (.long (10 : Int64)), .second, .val (.long c5), .second, .val (.long r6), .second, .val (.int (1 : Int32)), .val (.int (1 : Int32)), .val (.long (10 : Int64)), .second, .val (.int (1 : Int32))] [(.int (1 : Int32))]))
                  refine own_via (fun _ k => XS.goto X6.here hx rfl (pc0 := 198) (pc' := 202) rfl (hb hby at_198) (by decide) (by decide) k) ?_
                  show own_Go p e below s _ _ _ (T6.setTop (mkF m 202 #[.val (.int p0), .val (.int p1), .val (.long p2), .second, .val (.int (0 : Int32)), .val (.ref w0), .val (.long (5 : Int64)), .second, .val (.long (10 : Int64)), .second, .val (.long c5), .second, .val (.long r6), .second, .val (.int (1 : Int32)), .val (.int (1 : Int32)), .val (.long (10 : Int64)), .second, .val (.int (1 : Int32))] [(.int (1 : Int32))]))
                  exact own_retZ X6 hx hlk (t := .boolean) Bd.returns (by simp) (hb hby at_202) (z' := (1 : Int32)) (by first | rfl | decide) ⟨rfl, (Fr.nil n0)⟩ (by decide) (by decide)
              · refine own_via (fun _ k => XS.ifYes X6.here hx rfl (pc0 := 152) (pc' := 160) rfl (hb hby at_152) rfl ((if0 _ _).trans (flt (mt (lw_gt r6 (300 : Int64)).mp hc10)).2.2.2) (by decide) (by decide) k) ?_
                show own_Go p e below s _ _ _ (T6.setTop (mkF m 160 #[.val (.int p0), .val (.int p1), .val (.long p2), .second, .val (.int (0 : Int32)), .val (.ref w0), .val (.long (5 : Int64)), .second, .val (.long (10 : Int64)), .second, .val (.long c5), .second, .val (.long r6), .second, .val (.int (1 : Int32)), .val (.int (1 : Int32)), .unset, .unset, .unset] []))
                refine own_via (fun _ k => XS.lload X6.here hx rfl (hb hby at_160) rfl k) ?_
                show own_Go p e below s _ _ _ (T6.setTop (mkF m 162 #[.val (.int p0), .val (.int p1), .val (.long p2), .second, .val (.int (0 : Int32)), .val (.ref w0), .val (.long (5 : Int64)), .second, .val (.long (10 : Int64)), .second, .val (.long c5), .second, .val (.long r6), .second, .val (.int (1 : Int32)), .val (.int (1 : Int32)), .unset, .unset, .unset] [(.long (5 : Int64))]))
                refine own_via (fun _ k => XS.lstore X6.here hx rfl (hb hby at_162) rfl (l' := #[.val (.int p0), .val (.int p1), .val (.long p2), .second, .val (.int (0 : Int32)), .val (.ref w0), .val (.long (5 : Int64)), .second, .val (.long (10 : Int64)), .second, .val (.long c5), .second, .val (.long r6), .second, .val (.int (1 : Int32)), .val (.int (1 : Int32)), .val (.long (5 : Int64)), .second, .unset]) rfl k) ?_
                show own_Go p e below s _ _ _ (T6.setTop (mkF m 164 #[.val (.int p0), .val (.int p1), .val (.long p2), .second, .val (.int (0 : Int32)), .val (.ref w0), .val (.long (5 : Int64)), .second, .val (.long (10 : Int64)), .second, .val (.long c5), .second, .val (.long r6), .second, .val (.int (1 : Int32)), .val (.int (1 : Int32)), .val (.long (5 : Int64)), .second, .unset] []))
                refine own_via (fun _ k => XS.lload X6.here hx rfl (hb hby at_164) rfl k) ?_
                show own_Go p e below s _ _ _ (T6.setTop (mkF m 166 #[.val (.int p0), .val (.int p1), .val (.long p2), .second, .val (.int (0 : Int32)), .val (.ref w0), .val (.long (5 : Int64)), .second, .val (.long (10 : Int64)), .second, .val (.long c5), .second, .val (.long r6), .second, .val (.int (1 : Int32)), .val (.int (1 : Int32)), .val (.long (5 : Int64)), .second, .unset] [(.long r6)]))
                refine own_via (fun _ k => XS.lload X6.here hx rfl (hb hby at_166) rfl k) ?_
                show own_Go p e below s _ _ _ (T6.setTop (mkF m 168 #[.val (.int p0), .val (.int p1), .val (.long p2), .second, .val (.int (0 : Int32)), .val (.ref w0), .val (.long (5 : Int64)), .second, .val (.long (10 : Int64)), .second, .val (.long c5), .second, .val (.long r6), .second, .val (.int (1 : Int32)), .val (.int (1 : Int32)), .val (.long (5 : Int64)), .second, .unset] [(.long (5 : Int64)), (.long r6)]))
                refine own_via (fun _ k => XS.lsub X6.here hx rfl (hb hby at_168) rfl k) ?_
                show own_Go p e below s _ _ _ (T6.setTop (mkF m 169 #[.val (.int p0), .val (.int p1), .val (.long p2), .second, .val (.int (0 : Int32)), .val (.ref w0), .val (.long (5 : Int64)), .second, .val (.long (10 : Int64)), .second, .val (.long c5), .second, .val (.long r6), .second, .val (.int (1 : Int32)), .val (.int (1 : Int32)), .val (.long (5 : Int64)), .second, .unset] [(.long (r6 - (5 : Int64)))]))
                refine own_via (fun _ k => XS.lload X6.here hx rfl (hb hby at_169) rfl k) ?_
                show own_Go p e below s _ _ _ (T6.setTop (mkF m 171 #[.val (.int p0), .val (.int p1), .val (.long p2), .second, .val (.int (0 : Int32)), .val (.ref w0), .val (.long (5 : Int64)), .second, .val (.long (10 : Int64)), .second, .val (.long c5), .second, .val (.long r6), .second, .val (.int (1 : Int32)), .val (.int (1 : Int32)), .val (.long (5 : Int64)), .second, .unset] [(.long c5), (.long (r6 - (5 : Int64)))]))
                refine own_via (fun _ k => XS.lcmp X6.here hx rfl (hb hby at_171) rfl k) ?_
                show own_Go p e below s _ _ _ (T6.setTop (mkF m 172 #[.val (.int p0), .val (.int p1), .val (.long p2), .second, .val (.int (0 : Int32)), .val (.ref w0), .val (.long (5 : Int64)), .second, .val (.long (10 : Int64)), .second, .val (.long c5), .second, .val (.long r6), .second, .val (.int (1 : Int32)), .val (.int (1 : Int32)), .val (.long (5 : Int64)), .second, .unset] [(.int (lcmpW (r6 - (5 : Int64)) c5))]))
                by_cases hc12 : c5 < (r6 - (5 : Int64))
                · exfalso
                  have ar0 := rng64 c5
                  have ar1 := rng64 r6
                  have ar2 := c_lrem r6 (5 : Int64) 5 rfl
                  have ar3 := rng64 (r6 - (r6 / (5 : Int64)) * (5 : Int64))
                  have ar4 := c_lsub r6 (5 : Int64)
                  have ar5 := rng64 (r6 - (5 : Int64))
                  simp only [Int64.lt_iff_toInt_lt, ← Int64.toInt_inj, Int32.lt_iff_toInt_lt, ← Int32.toInt_inj, (show (0 : Int64).toInt = 0 from rfl), (show (5 : Int64).toInt = 5 from rfl), (show (300 : Int64).toInt = 300 from rfl)] at hc7 hc8 hc9 hc10 hc12 ar0 ar1 ar2 ar3 ar4 ar5
                  omega
                · refine own_via (fun _ k => XS.ifNo X6.here hx rfl (hb hby at_172) rfl ((if0 _ _).trans (flt (mt (lw_gt (r6 - (5 : Int64)) c5).mp hc12)).2.2.1) k) ?_
                  show own_Go p e below s _ _ _ (T6.setTop (mkF m 175 #[.val (.int p0), .val (.int p1), .val (.long p2), .second, .val (.int (0 : Int32)), .val (.ref w0), .val (.long (5 : Int64)), .second, .val (.long (10 : Int64)), .second, .val (.long c5), .second, .val (.long r6), .second, .val (.int (1 : Int32)), .val (.int (1 : Int32)), .val (.long (5 : Int64)), .second, .unset] []))
                  refine own_via (fun _ k => XS.iconst X6.here hx rfl (hb hby at_175) k) ?_
                  show own_Go p e below s _ _ _ (T6.setTop (mkF m 176 #[.val (.int p0), .val (.int p1), .val (.long p2), .second, .val (.int (0 : Int32)), .val (.ref w0), .val (.long (5 : Int64)), .second, .val (.long (10 : Int64)), .second, .val (.long c5), .second, .val (.long r6), .second, .val (.int (1 : Int32)), .val (.int (1 : Int32)), .val (.long (5 : Int64)), .second, .unset] [(.int (1 : Int32))]))
                  refine own_via (fun _ k => XS.goto X6.here hx rfl (pc0 := 176) (pc' := 180) rfl (hb hby at_176) (by decide) (by decide) k) ?_
                  show own_Go p e below s _ _ _ (T6.setTop (mkF m 180 #[.val (.int p0), .val (.int p1), .val (.long p2), .second, .val (.int (0 : Int32)), .val (.ref w0), .val (.long (5 : Int64)), .second, .val (.long (10 : Int64)), .second, .val (.long c5), .second, .val (.long r6), .second, .val (.int (1 : Int32)), .val (.int (1 : Int32)), .val (.long (5 : Int64)), .second, .unset] [(.int (1 : Int32))]))
                  refine own_via (fun _ k => XS.istore X6.here hx rfl (hb hby at_180) rfl (l' := #[.val (.int p0), .val (.int p1), .val (.long p2), .second, .val (.int (0 : Int32)), .val (.ref w0), .val (.long (5 : Int64)), .second, .val (.long (10 : Int64)), .second, .val (.long c5), .second, .val (.long r6), .second, .val (.int (1 : Int32)), .val (.int (1 : Int32)), .val (.long (5 : Int64)), .second, .val (.int (1 : Int32))]) rfl k) ?_
                  show own_Go p e below s _ _ _ (T6.setTop (mkF m 182 #[.val (.int p0), .val (.int p1), .val (.long p2), .second, .val (.int (0 : Int32)), .val (.ref w0), .val (.long (5 : Int64)), .second, .val (.long (10 : Int64)), .second, .val (.long c5), .second, .val (.long r6), .second, .val (.int (1 : Int32)), .val (.int (1 : Int32)), .val (.long (5 : Int64)), .second, .val (.int (1 : Int32))] []))
                  refine own_via (fun _ k => XS.iload X6.here hx rfl (hb hby at_182) rfl k) ?_
                  show own_Go p e below s _ _ _ (T6.setTop (mkF m 184 #[.val (.int p0), .val (.int p1), .val (.long p2), .second, .val (.int (0 : Int32)), .val (.ref w0), .val (.long (5 : Int64)), .second, .val (.long (10 : Int64)), .second, .val (.long c5), .second, .val (.long r6), .second, .val (.int (1 : Int32)), .val (.int (1 : Int32)), .val (.long (5 : Int64)), .second, .val (.int (1 : Int32))] [(.int (1 : Int32))]))
                  refine own_via (fun _ k => XS.ifNo X6.here hx rfl (hb hby at_184) rfl ((if0 _ _).trans (feq (by decide : ¬ ((1 : Int32) = (0 : Int32)))).1) k) ?_
                  show own_Go p e below s _ _ _ (T6.setTop (mkF m 187 #[.val (.int p0), .val (.int p1), .val (.long p2), .second, .val (.int (0 : Int32)), .val (.ref w0), .val (.long (5 : Int64)), .second, .val (.long (10 : Int64)), .second, .val (.long c5), .second, .val (.long r6), .second, .val (.int (1 : Int32)), .val (.int (1 : Int32)), .val (.long (5 : Int64)), .second, .val (.int (1 : Int32))] []))
                  refine own_via (fun _ k => XS.iload X6.here hx rfl (hb hby at_187) rfl k) ?_
                  show own_Go p e below s _ _ _ (T6.setTop (mkF m 189 #[.val (.int p0), .val (.int p1), .val (.long p2), .second, .val (.int (0 : Int32)), .val (.ref w0), .val (.long (5 : Int64)), .second, .val (.long (10 : Int64)), .second, .val (.long c5), .second, .val (.long r6), .second, .val (.int (1 : Int32)), .val (.int (1 : Int32)), .val (.long (5 : Int64)), .second, .val (.int (1 : Int32))] [(.int (1 : Int32))]))
                  refine own_via (fun _ k => XS.ifNo X6.here hx rfl (hb hby at_189) rfl ((if0 _ _).trans (feq (by decide : ¬ ((1 : Int32) = (0 : Int32)))).1) k) ?_
                  show own_Go p e below s _ _ _ (T6.setTop (mkF m 192 #[.val (.int p0), .val (.int p1), .val (.long p2), .second, .val (.int (0 : Int32)), .val (.ref w0), .val (.long (5 : Int64)), .second, .val (.long (10 : Int64)), .second, .val (.long c5), .second, .val (.long r6), .second, .val (.int (1 : Int32)), .val (.int (1 : Int32)), .val (.long (5 : Int64)), .second, .val (.int (1 : Int32))] []))
                  refine own_via (fun _ k => XS.iload X6.here hx rfl (hb hby at_192) rfl k) ?_
                  show own_Go p e below s _ _ _ (T6.setTop (mkF m 194 #[.val (.int p0), .val (.int p1), .val (.long p2), .second, .val (.int (0 : Int32)), .val (.ref w0), .val (.long (5 : Int64)), .second, .val (.long (10 : Int64)), .second, .val (.long c5), .second, .val (.long r6), .second, .val (.int (1 : Int32)), .val (.int (1 : Int32)), .val (.long (5 : Int64)), .second, .val (.int (1 : Int32))] [(.int (1 : Int32))]))
                  refine own_via (fun _ k => XS.ifNo X6.here hx rfl (hb hby at_194) rfl ((if0 _ _).trans (feq (by decide : ¬ ((1 : Int32) = (0 : Int32)))).1) k) ?_
                  show own_Go p e below s _ _ _ (T6.setTop (mkF m 197 #[.val (.int p0), .val (.int p1), .val (.long p2), .second, .val (.int (0 : Int32)), .val (.ref w0), .val (.long (5 : Int64)), .second, .val (.long (10 : Int64)), .second, .val (.long c5), .second, .val (.long r6), .second, .val (.int (1 : Int32)), .val (.int (1 : Int32)), .val (.long (5 : Int64)), .second, .val (.int (1 : Int32))] []))
                  refine own_via (fun _ k => XS.iconst X6.here hx rfl (hb hby at_197) k) ?_
                  show own_Go p e below s _ _ _ (T6.setTop (mkF m 198 #[.val (.int p0), .val (.int p1), .val (.long p2), .second, .val (.int (0 : Int32)), .val (.ref w0), .val (.long (5 : Int64)), .second, .val (.long (10 : Int64)), .second, .val (.long c5), .second, .val (.long r6), .second, .val (.int (1 : Int32)), .val (.int (1 : Int32)), .val (.long (5 : Int64)), .second, .val (.int (1 : Int32))] [(.int (1 : Int32))]))
                  refine own_via (fun _ k => XS.goto X6.here hx rfl (pc0 := 198) (pc' := 202) rfl (hb hby at_198) (by decide) (by decide) k) ?_
                  show own_Go p e below s _ _ _ (T6.setTop (mkF m 202 #[.val (.int p0), .val (.int p1), .val (.long p2), .second, .val (.int (0 : Int32)), .val (.ref w0), .val (.long (5 : Int64)), .second, .val (.long (10 : Int64)), .second, .val (.long c5), .second, .val (.long r6), .second, .val (.int (1 : Int32)), .val (.int (1 : Int32)), .val (.long (5 : Int64)), .second, .val (.int (1 : Int32))] [(.int (1 : Int32))]))
                  exact own_retZ X6 hx hlk (t := .boolean) Bd.returns (by simp) (hb hby at_202) (z' := (1 : Int32)) (by first | rfl | decide) ⟨rfl, (Fr.nil n0)⟩ (by decide) (by decide)
            · exfalso
              have ar0 := rng64 c5
              have ar1 := rng64 r6
              have ar2 := c_lrem r6 (5 : Int64) 5 rfl
              have ar3 := rng64 (r6 - (r6 / (5 : Int64)) * (5 : Int64))
              simp only [Int64.lt_iff_toInt_lt, ← Int64.toInt_inj, Int32.lt_iff_toInt_lt, ← Int32.toInt_inj, (show (0 : Int64).toInt = 0 from rfl), (show (5 : Int64).toInt = 5 from rfl), (show (300 : Int64).toInt = 300 from rfl)] at hc7 hc8 hc9 ar0 ar1 ar2 ar3
              omega
          · refine own_via (fun _ k => XS.ifYes X6.here hx rfl (pc0 := 123) (pc' := 131) rfl (hb hby at_123) rfl ((if0 _ _).trans (flt (mt (lw_lt r6 (300 : Int64)).mp hc8)).2.1) (by decide) (by decide) k) ?_
            show own_Go p e below s _ _ _ (T6.setTop (mkF m 131 #[.val (.int p0), .val (.int p1), .val (.long p2), .second, .val (.int (0 : Int32)), .val (.ref w0), .val (.long (5 : Int64)), .second, .val (.long (10 : Int64)), .second, .val (.long c5), .second, .val (.long r6), .second, .val (.int (1 : Int32)), .unset, .unset, .unset, .unset] [(.long r6)]))
            refine own_via (fun _ k => XS.lload X6.here hx rfl (hb hby at_131) rfl k) ?_
            show own_Go p e below s _ _ _ (T6.setTop (mkF m 133 #[.val (.int p0), .val (.int p1), .val (.long p2), .second, .val (.int (0 : Int32)), .val (.ref w0), .val (.long (5 : Int64)), .second, .val (.long (10 : Int64)), .second, .val (.long c5), .second, .val (.long r6), .second, .val (.int (1 : Int32)), .unset, .unset, .unset, .unset] [(.long (10 : Int64)), (.long r6)]))
            refine own_via (fun _ k => XS.lrem X6.here hx rfl (hb hby at_133) rfl (by decide : ¬ ((10 : Int64) = (0 : Int64))) k) ?_
            show own_Go p e below s _ _ _ (T6.setTop (mkF m 134 #[.val (.int p0), .val (.int p1), .val (.long p2), .second, .val (.int (0 : Int32)), .val (.ref w0), .val (.long (5 : Int64)), .second, .val (.long (10 : Int64)), .second, .val (.long c5), .second, .val (.long r6), .second, .val (.int (1 : Int32)), .unset, .unset, .unset, .unset] [(.long (r6 - (r6 / (10 : Int64)) * (10 : Int64)))]))
            refine own_via (fun _ k => XS.lconst X6.here hx rfl (hb hby at_134) k) ?_
            show own_Go p e below s _ _ _ (T6.setTop (mkF m 135 #[.val (.int p0), .val (.int p1), .val (.long p2), .second, .val (.int (0 : Int32)), .val (.ref w0), .val (.long (5 : Int64)), .second, .val (.long (10 : Int64)), .second, .val (.long c5), .second, .val (.long r6), .second, .val (.int (1 : Int32)), .unset, .unset, .unset, .unset] [(.long (0 : Int64)), (.long (r6 - (r6 / (10 : Int64)) * (10 : Int64)))]))
            refine own_via (fun _ k => XS.lcmp X6.here hx rfl (hb hby at_135) rfl k) ?_
            show own_Go p e below s _ _ _ (T6.setTop (mkF m 136 #[.val (.int p0), .val (.int p1), .val (.long p2), .second, .val (.int (0 : Int32)), .val (.ref w0), .val (.long (5 : Int64)), .second, .val (.long (10 : Int64)), .second, .val (.long c5), .second, .val (.long r6), .second, .val (.int (1 : Int32)), .unset, .unset, .unset, .unset] [(.int (lcmpW (r6 - (r6 / (10 : Int64)) * (10 : Int64)) (0 : Int64)))]))
            by_cases hc13 : (r6 - (r6 / (10 : Int64)) * (10 : Int64)) = (0 : Int64)
            · refine own_via (fun _ k => XS.ifNo X6.here hx rfl (hb hby at_136) rfl ((if0 _ _).trans (teq ((lw_eq (r6 - (r6 / (10 : Int64)) * (10 : Int64)) (0 : Int64)).mpr hc13)).2) k) ?_
              show own_Go p e below s _ _ _ (T6.setTop (mkF m 139 #[.val (.int p0), .val (.int p1), .val (.long p2), .second, .val (.int (0 : Int32)), .val (.ref w0), .val (.long (5 : Int64)), .second, .val (.long (10 : Int64)), .second, .val (.long c5), .second, .val (.long r6), .second, .val (.int (1 : Int32)), .unset, .unset, .unset, .unset] []))
              refine own_via (fun _ k => XS.iconst X6.here hx rfl (hb hby at_139) k) ?_
              show own_Go p e below s _ _ _ (T6.setTop (mkF m 140 #[.val (.int p0), .val (.int p1), .val (.long p2), .second, .val (.int (0 : Int32)), .val (.ref w0), .val (.long (5 : Int64)), .second, .val (.long (10 : Int64)), .second, .val (.long c5), .second, .val (.long r6), .second, .val (.int (1 : Int32)), .unset, .unset, .unset, .unset] [(.int (1 : Int32))]))
              refine own_via (fun _ k => XS.goto X6.here hx rfl (pc0 := 140) (pc' := 144) rfl (hb hby at_140) (by decide) (by decide) k) ?_
              show own_Go p e below s _ _ _ (T6.setTop (mkF m 144 #[.val (.int p0), .val (.int p1), .val (.long p2), .second, .val (.int (0 : Int32)), .val (.ref w0), .val (.long (5 : Int64)), .second, .val (.long (10 : Int64)), .second, .val (.long c5), .second, .val (.long r6), .second, .val (.int (1 : Int32)), .unset, .unset, .unset, .unset] [(.int (1 : Int32))]))
              refine own_via (fun _ k => XS.istore X6.here hx rfl (hb hby at_144) rfl (l' := #[.val (.int p0), .val (.int p1), .val (.long p2), .second, .val (.int (0 : Int32)), .val (.ref w0), .val (.long (5 : Int64)), .second, .val (.long (10 : Int64)), .second, .val (.long c5), .second, .val (.long r6), .second, .val (.int (1 : Int32)), .val (.int (1 : Int32)), .unset, .unset, .unset]) rfl k) ?_
              show own_Go p e below s _ _ _ (T6.setTop (mkF m 146 #[.val (.int p0), .val (.int p1), .val (.long p2), .second, .val (.int (0 : Int32)), .val (.ref w0), .val (.long (5 : Int64)), .second, .val (.long (10 : Int64)), .second, .val (.long c5), .second, .val (.long r6), .second, .val (.int (1 : Int32)), .val (.int (1 : Int32)), .unset, .unset, .unset] []))
              refine own_via (fun _ k => XS.lload X6.here hx rfl (hb hby at_146) rfl k) ?_
              show own_Go p e below s _ _ _ (T6.setTop (mkF m 148 #[.val (.int p0), .val (.int p1), .val (.long p2), .second, .val (.int (0 : Int32)), .val (.ref w0), .val (.long (5 : Int64)), .second, .val (.long (10 : Int64)), .second, .val (.long c5), .second, .val (.long r6), .second, .val (.int (1 : Int32)), .val (.int (1 : Int32)), .unset, .unset, .unset] [(.long r6)]))
              refine own_via (fun _ k => X6.ldc2Long hx hown (mvT hZ (hw _ (List.mem_of_getElem? (i := 16) rfl))) (g := (mkF m 148 #[.val (.int p0), .val (.int p1), .val (.long p2), .second, .val (.int (0 : Int32)), .val (.ref w0), .val (.long (5 : Int64)), .second, .val (.long (10 : Int64)), .second, .val (.long c5), .second, .val (.long r6), .second, .val (.int (1 : Int32)), .val (.int (1 : Int32)), .unset, .unset, .unset] [(.long r6)])) rfl (hb hby at_148) _ k) ?_
              show own_Go p e below s _ _ _ (T6.setTop (mkF m 151 #[.val (.int p0), .val (.int p1), .val (.long p2), .second, .val (.int (0 : Int32)), .val (.ref w0), .val (.long (5 : Int64)), .second, .val (.long (10 : Int64)), .second, .val (.long c5), .second, .val (.long r6), .second, .val (.int (1 : Int32)), .val (.int (1 : Int32)), .unset, .unset, .unset] [(.long (300 : Int64)), (.long r6)]))
              refine own_via (fun _ k => XS.lcmp X6.here hx rfl (hb hby at_151) rfl k) ?_
              show own_Go p e below s _ _ _ (T6.setTop (mkF m 152 #[.val (.int p0), .val (.int p1), .val (.long p2), .second, .val (.int (0 : Int32)), .val (.ref w0), .val (.long (5 : Int64)), .second, .val (.long (10 : Int64)), .second, .val (.long c5), .second, .val (.long r6), .second, .val (.int (1 : Int32)), .val (.int (1 : Int32)), .unset, .unset, .unset] [(.int (lcmpW r6 (300 : Int64)))]))
              by_cases hc14 : (300 : Int64) < r6
              · refine own_via (fun _ k => XS.ifNo X6.here hx rfl (hb hby at_152) rfl ((if0 _ _).trans (tlt ((lw_gt r6 (300 : Int64)).mpr hc14)).2.2.2) k) ?_
                show own_Go p e below s _ _ _ (T6.setTop (mkF m 155 #[.val (.int p0), .val (.int p1), .val (.long p2), .second, .val (.int (0 : Int32)), .val (.ref w0), .val (.long (5 : Int64)), .second, .val (.long (10 : Int64)), .second, .val (.long c5), .second, .val (.long r6), .second, .val (.int (1 : Int32)), .val (.int (1 : Int32)), .unset, .unset, .unset] []))
                refine own_via (fun _ k => XS.lload X6.here hx rfl (hb hby at_155) rfl k) ?_
                show own_Go p e below s _ _ _ (T6.setTop (mkF m 157 #[.val (.int p0), .val (.int p1), .val (.long p2), .second, .val (.int (0 : Int32)), .val (.ref w0), .val (.long (5 : Int64)), .second, .val (.long (10 : Int64)), .second, .val (.long c5), .second, .val (.long r6), .second, .val (.int (1 : Int32)), .val (.int (1 : Int32)), .unset, .unset, .unset] [(.long (10 : Int64))]))
                refine own_via (fun _ k => XS.goto X6.here hx rfl (pc0 := 157) (pc' := 162) rfl (hb hby at_157) (by decide) (by decide) k) ?_
                show own_Go p e below s _ _ _ (T6.setTop (mkF m 162 #[.val (.int p0), .val (.int p1), .val (.long p2), .second, .val (.int (0 : Int32)), .val (.ref w0), .val (.long (5 : Int64)), .second, .val (.long (10 : Int64)), .second, .val (.long c5), .second, .val (.long r6), .second, .val (.int (1 : Int32)), .val (.int (1 : Int32)), .unset, .unset, .unset] [(.long (10 : Int64))]))
                refine own_via (fun _ k => XS.lstore X6.here hx rfl (hb hby at_162) rfl (l' := #[.val (.int p0), .val (.int p1), .val (.long p2), .second, .val (.int (0 : Int32)), .val (.ref w0), .val (.long (5 : Int64)), .second, .val (.long (10 : Int64)), .second, .val (.long c5), .second, .val (.long r6), .second, .val (.int (1 : Int32)), .val (.int (1 : Int32)), .val (.long (10 : Int64)), .second, .unset]) rfl k) ?_
                show own_Go p e below s _ _ _ (T6.setTop (mkF m 164 #[.val (.int p0), .val (.int p1), .val (.long p2), .second, .val (.int (0 : Int32)), .val (.ref w0), .val (.long (5 : Int64)), .second, .val (.long (10 : Int64)), .second, .val (.long c5), .second, .val (.long r6), .second, .val (.int (1 : Int32)), .val (.int (1 : Int32)), .val (.long (10 : Int64)), .second, .unset] []))
                refine own_via (fun _ k => XS.lload X6.here hx rfl (hb hby at_164) rfl k) ?_
                show own_Go p e below s _ _ _ (T6.setTop (mkF m 166 #[.val (.int p0), .val (.int p1), .val (.long p2), .second, .val (.int (0 : Int32)), .val (.ref w0), .val (.long (5 : Int64)), .second, .val (.long (10 : Int64)), .second, .val (.long c5), .second, .val (.long r6), .second, .val (.int (1 : Int32)), .val (.int (1 : Int32)), .val (.long (10 : Int64)), .second, .unset] [(.long r6)]))
                refine own_via (fun _ k => XS.lload X6.here hx rfl (hb hby at_166) rfl k) ?_
                show own_Go p e below s _ _ _ (T6.setTop (mkF m 168 #[.val (.int p0), .val (.int p1), .val (.long p2), .second, .val (.int (0 : Int32)), .val (.ref w0), .val (.long (5 : Int64)), .second, .val (.long (10 : Int64)), .second, .val (.long c5), .second, .val (.long r6), .second, .val (.int (1 : Int32)), .val (.int (1 : Int32)), .val (.long (10 : Int64)), .second, .unset] [(.long (10 : Int64)), (.long r6)]))
                refine own_via (fun _ k => XS.lsub X6.here hx rfl (hb hby at_168) rfl k) ?_
                show own_Go p e below s _ _ _ (T6.setTop (mkF m 169 #[.val (.int p0), .val (.int p1), .val (.long p2), .second, .val (.int (0 : Int32)), .val (.ref w0), .val (.long (5 : Int64)), .second, .val (.long (10 : Int64)), .second, .val (.long c5), .second, .val (.long r6), .second, .val (.int (1 : Int32)), .val (.int (1 : Int32)), .val (.long (10 : Int64)), .second, .unset] [(.long (r6 - (10 : Int64)))]))
                refine own_via (fun _ k => XS.lload X6.here hx rfl (hb hby at_169) rfl k) ?_
                show own_Go p e below s _ _ _ (T6.setTop (mkF m 171 #[.val (.int p0), .val (.int p1), .val (.long p2), .second, .val (.int (0 : Int32)), .val (.ref w0), .val (.long (5 : Int64)), .second, .val (.long (10 : Int64)), .second, .val (.long c5), .second, .val (.long r6), .second, .val (.int (1 : Int32)), .val (.int (1 : Int32)), .val (.long (10 : Int64)), .second, .unset] [(.long c5), (.long (r6 - (10 : Int64)))]))
                refine own_via (fun _ k => XS.lcmp X6.here hx rfl (hb hby at_171) rfl k) ?_
                show own_Go p e below s _ _ _ (T6.setTop (mkF m 172 #[.val (.int p0), .val (.int p1), .val (.long p2), .second, .val (.int (0 : Int32)), .val (.ref w0), .val (.long (5 : Int64)), .second, .val (.long (10 : Int64)), .second, .val (.long c5), .second, .val (.long r6), .second, .val (.int (1 : Int32)), .val (.int (1 : Int32)), .val (.long (10 : Int64)), .second, .unset] [(.int (lcmpW (r6 - (10 : Int64)) c5))]))
                by_cases hc15 : c5 < (r6 - (10 : Int64))
                · exfalso
                  have ar0 := rng64 c5
                  have ar1 := rng64 r6
                  have ar2 := c_lrem r6 (10 : Int64) 10 rfl
                  have ar3 := rng64 (r6 - (r6 / (10 : Int64)) * (10 : Int64))
                  have ar4 := c_lsub r6 (10 : Int64)
                  have ar5 := rng64 (r6 - (10 : Int64))
                  simp only [Int64.lt_iff_toInt_lt, ← Int64.toInt_inj, Int32.lt_iff_toInt_lt, ← Int32.toInt_inj, (show (0 : Int64).toInt = 0 from rfl), (show (10 : Int64).toInt = 10 from rfl), (show (300 : Int64).toInt = 300 from rfl)] at hc7 hc8 hc13 hc14 hc15 ar0 ar1 ar2 ar3 ar4 ar5
                  omega
                · refine own_via (fun _ k => XS.ifNo X6.here hx rfl (hb hby at_172) rfl ((if0 _ _).trans (flt (mt (lw_gt (r6 - (10 : Int64)) c5).mp hc15)).2.2.1) k) ?_
                  show own_Go p e below s _ _ _ (T6.setTop (mkF m 175 #[.val (.int p0), .val (.int p1), .val (.long p2), .second, .val (.int (0 : Int32)), .val (.ref w0), .val (.long (5 : Int64)), .second, .val (.long (10 : Int64)), .second, .val (.long c5), .second, .val (.long r6), .second, .val (.int (1 : Int32)), .val (.int (1 : Int32)), .val (.long (10 : Int64)), .second, .unset] []))
                  refine own_via (fun _ k => XS.iconst X6.here hx rfl (hb hby at_175) k) ?_
                  show own_Go p e below s _ _ _ (T6.setTop (mkF m 176 #[.val (.int p0), .val (.int p1), .val (.long p2), .second, .val (.int (0 : Int32)), .val (.ref w0), .val (.long (5 : Int64)), .second, .val (.long (10 : Int64)), .second, .val (.long c5), .second, .val (.long r6), .second, .val (.int (1 : Int32)), .val (.int (1 : Int32)), .val (.long (10 : Int64)), .second, .unset] [(.int (1 : Int32))]))
                  refine own_via (fun _ k => XS.goto X6.here hx rfl (pc0 := 176) (pc' := 180) rfl (hb hby at_176) (by decide) (by decide) k) ?_
                  show own_Go p e below s _ _ _ (T6.setTop (mkF m 180 #[.val (.int p0), .val (.int p1), .val (.long p2), .second, .val (.int (0 : Int32)), .val (.ref w0), .val (.long (5 : Int64)), .second, .val (.long (10 : Int64)), .second, .val (.long c5), .second, .val (.long r6), .second, .val (.int (1 : Int32)), .val (.int (1 : Int32)), .val (.long (10 : Int64)), .second, .unset] [(.int (1 : Int32))]))
                  refine own_via (fun _ k => XS.istore X6.here hx rfl (hb hby at_180) rfl (l' := #[.val (.int p0), .val (.int p1), .val (.long p2), .second, .val (.int (0 : Int32)), .val (.ref w0), .val (.long (5 : Int64)), .second, .val (.long (10 : Int64)), .second, .val (.long c5), .second, .val (.long r6), .second, .val (.int (1 : Int32)), .val (.int (1 : Int32)), .val (.long (10 : Int64)), .second, .val (.int (1 : Int32))]) rfl k) ?_
                  show own_Go p e below s _ _ _ (T6.setTop (mkF m 182 #[.val (.int p0), .val (.int p1), .val (.long p2), .second, .val (.int (0 : Int32)), .val (.ref w0), .val (.long (5 : Int64)), .second, .val (.long (10 : Int64)), .second, .val (.long c5), .second, .val (.long r6), .second, .val (.int (1 : Int32)), .val (.int (1 : Int32)), .val (.long (10 : Int64)), .second, .val (.int (1 : Int32))] []))
                  refine own_via (fun _ k => XS.iload X6.here hx rfl (hb hby at_182) rfl k) ?_
                  show own_Go p e below s _ _ _ (T6.setTop (mkF m 184 #[.val (.int p0), .val (.int p1), .val (.long p2), .second, .val (.int (0 : Int32)), .val (.ref w0), .val (.long (5 : Int64)), .second, .val (.long (10 : Int64)), .second, .val (.long c5), .second, .val (.long r6), .second, .val (.int (1 : Int32)), .val (.int (1 : Int32)), .val (.long (10 : Int64)), .second, .val (.int (1 : Int32))] [(.int (1 : Int32))]))
                  refine own_via (fun _ k => XS.ifNo X6.here hx rfl (hb hby at_184) rfl ((if0 _ _).trans (feq (by decide : ¬ ((1 : Int32) = (0 : Int32)))).1) k) ?_
                  show own_Go p e below s _ _ _ (T6.setTop (mkF m 187 #[.val (.int p0), .val (.int p1), .val (.long p2), .second, .val (.int (0 : Int32)), .val (.ref w0), .val (.long (5 : Int64)), .second, .val (.long (10 : Int64)), .second, .val (.long c5), .second, .val (.long r6), .second, .val (.int (1 : Int32)), .val (.int (1 : Int32)), .val (.long (10 : Int64)), .second, .val (.int (1 : Int32))] []))
                  refine own_via (fun _ k => XS.iload X6.here hx rfl (hb hby at_187) rfl k) ?_
                  show own_Go p e below s _ _ _ (T6.setTop (mkF m 189 #[.val (.int p0), .val (.int p1), .val (.long p2), .second, .val (.int (0 : Int32)), .val (.ref w0), .val (.long (5 : Int64)), .second, .val (.long (10 : Int64)), .second, .val (.long c5), .second, .val (.long r6), .second, .val (.int (1 : Int32)), .val (.int (1 : Int32)), .val (.long (10 : Int64)), .second, .val (.int (1 : Int32))] [(.int (1 : Int32))]))
                  refine own_via (fun _ k => XS.ifNo X6.here hx rfl (hb hby at_189) rfl ((if0 _ _).trans (feq (by decide : ¬ ((1 : Int32) = (0 : Int32)))).1) k) ?_
                  show own_Go p e below s _ _ _ (T6.setTop (mkF m 192 #[.val (.int p0), .val (.int p1), .val (.long p2), .second, .val (.int (0 : Int32)), .val (.ref w0), .val (.long (5 : Int64)), .second, .val (.long (10 : Int64)), .second, .val (.long c5), .second, .val (.long r6), .second, .val (.int (1 : Int32)), .val (.int (1 : Int32)), .val (.long (10 : Int64)), .second, .val (.int (1 : Int32))] []))
                  refine own_via (fun _ k => XS.iload X6.here hx rfl (hb hby at_192) rfl k) ?_
                  show own_Go p e below s _ _ _ (T6.setTop (mkF m 194 #[.val (.int p0), .val (.int p1), .val (.long p2), .second, .val (.int (0 : Int32)), .val (.ref w0), .val (.long (5 : Int64)), .second, .val (.long (10 : Int64)), .second, .val (.long c5), .second, .val (.long r6), .second, .val (.int (1 : Int32)), .val (.int (1 : Int32)), .val (.long (10 : Int64)), .second, .val (.int (1 : Int32))] [(.int (1 : Int32))]))
                  refine own_via (fun _ k => XS.ifNo X6.here hx rfl (hb hby at_194) rfl ((if0 _ _).trans (feq (by decide : ¬ ((1 : Int32) = (0 : Int32)))).1) k) ?_
                  show own_Go p e below s _ _ _ (T6.setTop (mkF m 197 #[.val (.int p0), .val (.int p1), .val (.long p2), .second, .val (.int (0 : Int32)), .val (.ref w0), .val (.long (5 : Int64)), .second, .val (.long (10 : Int64)), .second, .val (.long c5), .second, .val (.long r6), .second, .val (.int (1 : Int32)), .val (.int (1 : Int32)), .val (.long (10 : Int64)), .second, .val (.int (1 : Int32))] []))
                  refine own_via (fun _ k => XS.iconst X6.here hx rfl (hb hby at_197) k) ?_
                  show own_Go p e below s _ _ _ (T6.setTop (mkF m 198 #[.val (.int p0), .val (.int p1), .val (.long p2), .second, .val (.int (0 : Int32)), .val (.ref w0), .val (.long (5 : Int64)), .second, .val (.long (10 : Int64)), .second, .val (.long c5), .second, .val (.long r6), .second, .val (.int (1 : Int32)), .val (.int (1 : Int32)), .val (.long (10 : Int64)), .second, .val (.int (1 : Int32))] [(.int (1 : Int32))]))
                  refine own_via (fun _ k => XS.goto X6.here hx rfl (pc0 := 198) (pc' := 202) rfl (hb hby at_198) (by decide) (by decide) k) ?_
                  show own_Go p e below s _ _ _ (T6.setTop (mkF m 202 #[.val (.int p0), .val (.int p1), .val (.long p2), .second, .val (.int (0 : Int32)), .val (.ref w0), .val (.long (5 : Int64)), .second, .val (.long (10 : Int64)), .second, .val (.long c5), .second, .val (.long r6), .second, .val (.int (1 : Int32)), .val (.int (1 : Int32)), .val (.long (10 : Int64)), .second, .val (.int (1 : Int32))] [(.int (1 : Int32))]))
                  exact own_retZ X6 hx hlk (t := .boolean) Bd.returns (by simp) (hb hby at_202) (z' := (1 : Int32)) (by first | rfl | decide) ⟨rfl, (Fr.nil n0)⟩ (by decide) (by decide)
              · refine own_via (fun _ k => XS.ifYes X6.here hx rfl (pc0 := 152) (pc' := 160) rfl (hb hby at_152) rfl ((if0 _ _).trans (flt (mt (lw_gt r6 (300 : Int64)).mp hc14)).2.2.2) (by decide) (by decide) k) ?_
                show own_Go p e below s _ _ _ (T6.setTop (mkF m 160 #[.val (.int p0), .val (.int p1), .val (.long p2), .second, .val (.int (0 : Int32)), .val (.ref w0), .val (.long (5 : Int64)), .second, .val (.long (10 : Int64)), .second, .val (.long c5), .second, .val (.long r6), .second, .val (.int (1 : Int32)), .val (.int (1 : Int32)), .unset, .unset, .unset] []))
                refine own_via (fun _ k => XS.lload X6.here hx rfl (hb hby at_160) rfl k) ?_
                show own_Go p e below s _ _ _ (T6.setTop (mkF m 162 #[.val (.int p0), .val (.int p1), .val (.long p2), .second, .val (.int (0 : Int32)), .val (.ref w0), .val (.long (5 : Int64)), .second, .val (.long (10 : Int64)), .second, .val (.long c5), .second, .val (.long r6), .second, .val (.int (1 : Int32)), .val (.int (1 : Int32)), .unset, .unset, .unset] [(.long (5 : Int64))]))
                refine own_via (fun _ k => XS.lstore X6.here hx rfl (hb hby at_162) rfl (l' := #[.val (.int p0), .val (.int p1), .val (.long p2), .second, .val (.int (0 : Int32)), .val (.ref w0), .val (.long (5 : Int64)), .second, .val (.long (10 : Int64)), .second, .val (.long c5), .second, .val (.long r6), .second, .val (.int (1 : Int32)), .val (.int (1 : Int32)), .val (.long (5 : Int64)), .second, .unset]) rfl k) ?_
                show own_Go p e below s _ _ _ (T6.setTop (mkF m 164 #[.val (.int p0), .val (.int p1), .val (.long p2), .second, .val (.int (0 : Int32)), .val (.ref w0), .val (.long (5 : Int64)), .second, .val (.long (10 : Int64)), .second, .val (.long c5), .second, .val (.long r6), .second, .val (.int (1 : Int32)), .val (.int (1 : Int32)), .val (.long (5 : Int64)), .second, .unset] []))
                refine own_via (fun _ k => XS.lload X6.here hx rfl (hb hby at_164) rfl k) ?_
                show own_Go p e below s _ _ _ (T6.setTop (mkF m 166 #[.val (.int p0), .val (.int p1), .val (.long p2), .second, .val (.int (0 : Int32)), .val (.ref w0), .val (.long (5 : Int64)), .second, .val (.long (10 : Int64)), .second, .val (.long c5), .second, .val (.long r6), .second, .val (.int (1 : Int32)), .val (.int (1 : Int32)), .val (.long (5 : Int64)), .second, .unset] [(.long r6)]))
                refine own_via (fun _ k => XS.lload X6.here hx rfl (hb hby at_166) rfl k) ?_
                show own_Go p e below s _ _ _ (T6.setTop (mkF m 168 #[.val (.int p0), .val (.int p1), .val (.long p2), .second, .val (.int (0 : Int32)), .val (.ref w0), .val (.long (5 : Int64)), .second, .val (.long (10 : Int64)), .second, .val (.long c5), .second, .val (.long r6), .second, .val (.int (1 : Int32)), .val (.int (1 : Int32)), .val (.long (5 : Int64)), .second, .unset] [(.long (5 : Int64)), (.long r6)]))
                refine own_via (fun _ k => XS.lsub X6.here hx rfl (hb hby at_168) rfl k) ?_
                show own_Go p e below s _ _ _ (T6.setTop (mkF m 169 #[.val (.int p0), .val (.int p1), .val (.long p2), .second, .val (.int (0 : Int32)), .val (.ref w0), .val (.long (5 : Int64)), .second, .val (.long (10 : Int64)), .second, .val (.long c5), .second, .val (.long r6), .second, .val (.int (1 : Int32)), .val (.int (1 : Int32)), .val (.long (5 : Int64)), .second, .unset] [(.long (r6 - (5 : Int64)))]))
                refine own_via (fun _ k => XS.lload X6.here hx rfl (hb hby at_169) rfl k) ?_
                show own_Go p e below s _ _ _ (T6.setTop (mkF m 171 #[.val (.int p0), .val (.int p1), .val (.long p2), .second, .val (.int (0 : Int32)), .val (.ref w0), .val (.long (5 : Int64)), .second, .val (.long (10 : Int64)), .second, .val (.long c5), .second, .val (.long r6), .second, .val (.int (1 : Int32)), .val (.int (1 : Int32)), .val (.long (5 : Int64)), .second, .unset] [(.long c5), (.long (r6 - (5 : Int64)))]))
                refine own_via (fun _ k => XS.lcmp X6.here hx rfl (hb hby at_171) rfl k) ?_
                show own_Go p e below s _ _ _ (T6.setTop (mkF m 172 #[.val (.int p0), .val (.int p1), .val (.long p2), .second, .val (.int (0 : Int32)), .val (.ref w0), .val (.long (5 : Int64)), .second, .val (.long (10 : Int64)), .second, .val (.long c5), .second, .val (.long r6), .second, .val (.int (1 : Int32)), .val (.int (1 : Int32)), .val (.long (5 : Int64)), .second, .unset] [(.int (lcmpW (r6 - (5 : Int64)) c5))]))
                by_cases hc16 : c5 < (r6 - (5 : Int64))
                · exfalso
                  have ar0 := rng64 c5
                  have ar1 := rng64 r6
                  have ar2 := c_lrem r6 (10 : Int64) 10 rfl
                  have ar3 := rng64 (r6 - (r6 / (10 : Int64)) * (10 : Int64))
                  have ar4 := c_lsub r6 (5 : Int64)
                  have ar5 := rng64 (r6 - (5 : Int64))
                  simp only [Int64.lt_iff_toInt_lt, ← Int64.toInt_inj, Int32.lt_iff_toInt_lt, ← Int32.toInt_inj, (show (0 : Int64).toInt = 0 from rfl), (show (5 : Int64).toInt = 5 from rfl), (show (10 : Int64).toInt = 10 from rfl), (show (300 : Int64).toInt = 300 from rfl)] at hc7 hc8 hc13 hc14 hc16 ar0 ar1 ar2 ar3 ar4 ar5
                  omega
                · refine own_via (fun _ k => XS.ifNo X6.here hx rfl (hb hby at_172) rfl ((if0 _ _).trans (flt (mt (lw_gt (r6 - (5 : Int64)) c5).mp hc16)).2.2.1) k) ?_
                  show own_Go p e below s _ _ _ (T6.setTop (mkF m 175 #[.val (.int p0), .val (.int p1), .val (.long p2), .second, .val (.int (0 : Int32)), .val (.ref w0), .val (.long (5 : Int64)), .second, .val (.long (10 : Int64)), .second, .val (.long c5), .second, .val (.long r6), .second, .val (.int (1 : Int32)), .val (.int (1 : Int32)), .val (.long (5 : Int64)), .second, .unset] []))
                  refine own_via (fun _ k => XS.iconst X6.here hx rfl (hb hby at_175) k) ?_
                  show own_Go p e below s _ _ _ (T6.setTop (mkF m 176 #[.val (.int p0), .val (.int p1), .val (.long p2), .second, .val (.int (0 : Int32)), .val (.ref w0), .val (.long (5 : Int64)), .second, .val (.long (10 : Int64)), .second, .val (.long c5), .second, .val (.long r6), .second, .val (.int (1 : Int32)), .val (.int (1 : Int32)), .val (.long (5 : Int64)), .second, .unset] [(.int (1 : Int32))]))
                  refine own_via (fun _ k => XS.goto X6.here hx rfl (pc0 := 176) (pc' := 180) rfl (hb hby at_176) (by decide) (by decide) k) ?_
                  show own_Go p e below s _ _ _ (T6.setTop (mkF m 180 #[.val (.int p0), .val (.int p1), .val (.long p2), .second, .val (.int (0 : Int32)), .val (.ref w0), .val (.long (5 : Int64)), .second, .val (.long (10 : Int64)), .second, .val (.long c5), .second, .val (.long r6), .second, .val (.int (1 : Int32)), .val (.int (1 : Int32)), .val (.long (5 : Int64)), .second, .unset] [(.int (1 : Int32))]))
                  refine own_via (fun _ k => XS.istore X6.here hx rfl (hb hby at_180) rfl (l' := #[.val (.int p0), .val (.int p1), .val (.long p2), .second, .val (.int (0 : Int32)), .val (.ref w0), .val (.long (5 : Int64)), .second, .val (.long (10 : Int64)), .second, .val (.long c5), .second, .val (.long r6), .second, .val (.int (1 : Int32)), .val (.int (1 : Int32)), .val (.long (5 : Int64)), .second, .val (.int (1 : Int32))]) rfl k) ?_
                  show own_Go p e below s _ _ _ (T6.setTop (mkF m 182 #[.val (.int p0), .val (.int p1), .val (.long p2), .second, .val (.int (0 : Int32)), .val (.ref w0), .val (.long (5 : Int64)), .second, .val (.long (10 : Int64)), .second, .val (.long c5), .second, .val (.long r6), .second, .val (.int (1 : Int32)), .val (.int (1 : Int32)), .val (.long (5 : Int64)), .second, .val (.int (1 : Int32))] []))
                  refine own_via (fun _ k => XS.iload X6.here hx rfl (hb hby at_182) rfl k) ?_
                  show own_Go p e below s _ _ _ (T6.setTop (mkF m 184 #[.val (.int p0), .val (.int p1), .val (.long p2), .second, .val (.int (0 : Int32)), .val (.ref w0), .val (.long (5 : Int64)), .second, .val (.long (10 : Int64)), .second, .val (.long c5), .second, .val (.long r6), .second, .val (.int (1 : Int32)), .val (.int (1 : Int32)), .val (.long (5 : Int64)), .second, .val (.int (1 : Int32))] [(.int (1 : Int32))]))
                  refine own_via (fun _ k => XS.ifNo X6.here hx rfl (hb hby at_184) rfl ((if0 _ _).trans (feq (by decide : ¬ ((1 : Int32) = (0 : Int32)))).1) k) ?_
                  show own_Go p e below s _ _ _ (T6.setTop (mkF m 187 #[.val (.int p0), .val (.int p1), .val (.long p2), .second, .val (.int (0 : Int32)), .val (.ref w0), .val (.long (5 : Int64)), .second, .val (.long (10 : Int64)), .second, .val (.long c5), .second, .val (.long r6), .second, .val (.int (1 : Int32)), .val (.int (1 : Int32)), .val (.long (5 : Int64)), .second, .val (.int (1 : Int32))] []))
                  refine own_via (fun _ k => XS.iload X6.here hx rfl (hb hby at_187) rfl k) ?_
                  show own_Go p e below s _ _ _ (T6.setTop (mkF m 189 #[.val (.int p0), .val (.int p1), .val (.long p2), .second, .val (.int (0 : Int32)), .val (.ref w0), .val (.long (5 : Int64)), .second, .val (.long (10 : Int64)), .second, .val (.long c5), .second, .val (.long r6), .second, .val (.int (1 : Int32)), .val (.int (1 : Int32)), .val (.long (5 : Int64)), .second, .val (.int (1 : Int32))] [(.int (1 : Int32))]))
                  refine own_via (fun _ k => XS.ifNo X6.here hx rfl (hb hby at_189) rfl ((if0 _ _).trans (feq (by decide : ¬ ((1 : Int32) = (0 : Int32)))).1) k) ?_
                  show own_Go p e below s _ _ _ (T6.setTop (mkF m 192 #[.val (.int p0), .val (.int p1), .val (.long p2), .second, .val (.int (0 : Int32)), .val (.ref w0), .val (.long (5 : Int64)), .second, .val (.long (10 : Int64)), .second, .val (.long c5), .second, .val (.long r6), .second, .val (.int (1 : Int32)), .val (.int (1 : Int32)), .val (.long (5 : Int64)), .second, .val (.int (1 : Int32))] []))
                  refine own_via (fun _ k => XS.iload X6.here hx rfl (hb hby at_192) rfl k) ?_
                  show own_Go p e below s _ _ _ (T6.setTop (mkF m 194 #[.val (.int p0), .val (.int p1), .val (.long p2), .second, .val (.int (0 : Int32)), .val (.ref w0), .val (.long (5 : Int64)), .second, .val (.long (10 : Int64)), .second, .val (.long c5), .second, .val (.long r6), .second, .val (.int (1 : Int32)), .val (.int (1 : Int32)), .val (.long (5 : Int64)), .second, .val (.int (1 : Int32))] [(.int (1 : Int32))]))
                  refine own_via (fun _ k => XS.ifNo X6.here hx rfl (hb hby at_194) rfl ((if0 _ _).trans (feq (by decide : ¬ ((1 : Int32) = (0 : Int32)))).1) k) ?_
                  show own_Go p e below s _ _ _ (T6.setTop (mkF m 197 #[.val (.int p0), .val (.int p1), .val (.long p2), .second, .val (.int (0 : Int32)), .val (.ref w0), .val (.long (5 : Int64)), .second, .val (.long (10 : Int64)), .second, .val (.long c5), .second, .val (.long r6), .second, .val (.int (1 : Int32)), .val (.int (1 : Int32)), .val (.long (5 : Int64)), .second, .val (.int (1 : Int32))] []))
                  refine own_via (fun _ k => XS.iconst X6.here hx rfl (hb hby at_197) k) ?_
                  show own_Go p e below s _ _ _ (T6.setTop (mkF m 198 #[.val (.int p0), .val (.int p1), .val (.long p2), .second, .val (.int (0 : Int32)), .val (.ref w0), .val (.long (5 : Int64)), .second, .val (.long (10 : Int64)), .second, .val (.long c5), .second, .val (.long r6), .second, .val (.int (1 : Int32)), .val (.int (1 : Int32)), .val (.long (5 : Int64)), .second, .val (.int (1 : Int32))] [(.int (1 : Int32))]))
                  refine own_via (fun _ k => XS.goto X6.here hx rfl (pc0 := 198) (pc' := 202) rfl (hb hby at_198) (by decide) (by decide) k) ?_
                  show own_Go p e below s _ _ _ (T6.setTop (mkF m 202 #[.val (.int p0), .val (.int p1), .val (.long p2), .second, .val (.int (0 : Int32)), .val (.ref w0), .val (.long (5 : Int64)), .second, .val (.long (10 : Int64)), .second, .val (.long c5), .second, .val (.long r6), .second, .val (.int (1 : Int32)), .val (.int (1 : Int32)), .val (.long (5 : Int64)), .second, .val (.int (1 : Int32))] [(.int (1 : Int32))]))
                  exact own_retZ X6 hx hlk (t := .boolean) Bd.returns (by simp) (hb hby at_202) (z' := (1 : Int32)) (by first | rfl | decide) ⟨rfl, (Fr.nil n0)⟩ (by decide) (by decide)
            · exfalso
              have ar0 := rng64 c5
              have ar1 := rng64 r6
              have ar2 := c_lrem r6 (10 : Int64) 10 rfl
              have ar3 := rng64 (r6 - (r6 / (10 : Int64)) * (10 : Int64))
              simp only [Int64.lt_iff_toInt_lt, ← Int64.toInt_inj, Int32.lt_iff_toInt_lt, ← Int32.toInt_inj, (show (0 : Int64).toInt = 0 from rfl), (show (10 : Int64).toInt = 10 from rfl), (show (300 : Int64).toInt = 300 from rfl)] at hc7 hc8 hc13 ar0 ar1 ar2 ar3
              omega
        · exfalso
          have ar0 := rng64 c5
          have ar1 := rng64 r6
          simp only [Int64.lt_iff_toInt_lt, ← Int64.toInt_inj, Int32.lt_iff_toInt_lt, ← Int32.toInt_inj] at hc7 ar0 ar1
          omega
      show own_Go p e below s _ _ _ (T5.setTop (mkF m 91 #[.val (.int p0), .val (.int p1), .val (.long p2), .second, .val (.int (0 : Int32)), .val (.ref w0), .val (.long (5 : Int64)), .second, .val (.long (10 : Int64)), .second, .val (.long c5), .second, .unset, .unset, .unset, .unset, .unset, .unset, .unset] []))
      refine own_via (fun _ k => XS.aload X5.here hx rfl (hb hby at_91) rfl rfl k) ?_
      show own_Go p e below s _ _ _ (T5.setTop (mkF m 93 #[.val (.int p0), .val (.int p1), .val (.long p2), .second, .val (.int (0 : Int32)), .val (.ref w0), .val (.long (5 : Int64)), .second, .val (.long (10 : Int64)), .second, .val (.long c5), .second, .unset, .unset, .unset, .unset, .unset, .unset, .unset] [(.ref w0)]))
      refine own_via (fun _ k => XS.lload X5.here hx rfl (hb hby at_93) rfl k) ?_
      show own_Go p e below s _ _ _ (T5.setTop (mkF m 95 #[.val (.int p0), .val (.int p1), .val (.long p2), .second, .val (.int (0 : Int32)), .val (.ref w0), .val (.long (5 : Int64)), .second, .val (.long (10 : Int64)), .second, .val (.long c5), .second, .unset, .unset, .unset, .unset, .unset, .unset, .unset] [(.long c5), (.ref w0)]))
      obtain ⟨cq17, kq17, q17a, q17b, q17c⟩ := isOf hZ e5 E_w0
      obtain ⟨_, _, ⟨T17, L17, k17, n17⟩, -, X17, ⟨Lc17, hQ17, l17, y17, z17⟩, st17⟩ := X5.virtualBack hx (y := (⟨"com/example/strikeline/strikeline/PennyProgram", "priceAbove", "(J)J"⟩ : MethodName)) (z := (⟨"com/example/strikeline/strikeline/PennyProgram", "priceAbove", "(J)J"⟩ : MethodName)) hown (mvT hZ (hw _ (List.mem_of_getElem? (i := 8) rfl))) (mvT hZ (hw _ (List.mem_of_getElem? (i := 9) rfl))) (notFace_of_selects (args := #[]) (mvT hZ (hw _ (List.mem_of_getElem? (i := 11) rfl)))) (mvT hZ (hw _ (List.mem_of_getElem? (i := 11) rfl))) (mvT hZ (hw _ (List.mem_of_getElem? (i := 10) rfl))) (by decide) (backOf (W := 0) (rm1_0 l Z a0 hw [] c5 w0 w1 w2 h0 n0 Z0 K0) hZ (hw _ (List.mem_of_getElem? (i := 12) rfl)) (hw _ (List.mem_of_getElem? (i := 2) rfl)) (by decide) (by decide)) q17a q17c (g := (mkF m 95 #[.val (.int p0), .val (.int p1), .val (.long p2), .second, .val (.int (0 : Int32)), .val (.ref w0), .val (.long (5 : Int64)), .second, .val (.long (10 : Int64)), .second, .val (.long c5), .second, .unset, .unset, .unset, .unset, .unset, .unset, .unset] [(.long c5), (.ref w0)])) rfl (by rw [hml]; rfl) (Steps.refl _) (argsL := [(.long c5)]) (rest := []) (lenOf pd0 rfl) rfl (by show 2 * 0 + _ ≤ _; exact Nat.le_of_eq rfl) (hb hby at_95) (fun _ _ => ⟨rfl, e5, (by decide : 0 + 0 ≤ _), (by decide : 0 + 0 ≤ _)⟩)
      dsimp only [Pt.U, Pt.locs, Pt.cells, Pt.slots] at X17 l17 y17 z17 st17 hQ17
      subst l17 y17 z17
      obtain ⟨rfl, e17, hO17⟩ := hQ17
      rcases hO17 with ⟨hr17_0_0, rfl⟩ | ⟨hr17_1_0, rfl⟩
      · refine own_tr st17 ?_
        show own_Go p e below s _ _ _ (T17.setTop (mkF m 98 #[.val (.int p0), .val (.int p1), .val (.long p2), .second, .val (.int (0 : Int32)), .val (.ref w0), .val (.long (5 : Int64)), .second, .val (.long (10 : Int64)), .second, .val (.long c5), .second, .unset, .unset, .unset, .unset, .unset, .unset, .unset] [(.long (((c5 / (5 : Int64)) + (1 : Int64)) * (5 : Int64)))]))
        exact J6 T17 X17 e17 (((c5 / (5 : Int64)) + (1 : Int64)) * (5 : Int64)) (Or.inl ⟨own_ltL hr17_0_0, own_above5 _ hb5⟩)
      · refine own_tr st17 ?_
        show own_Go p e below s _ _ _ (T17.setTop (mkF m 98 #[.val (.int p0), .val (.int p1), .val (.long p2), .second, .val (.int (0 : Int32)), .val (.ref w0), .val (.long (5 : Int64)), .second, .val (.long (10 : Int64)), .second, .val (.long c5), .second, .unset, .unset, .unset, .unset, .unset, .unset, .unset] [(.long (((c5 / (10 : Int64)) + (1 : Int64)) * (10 : Int64)))]))
        exact J6 T17 X17 e17 (((c5 / (10 : Int64)) + (1 : Int64)) * (10 : Int64)) (Or.inr ⟨own_geL hr17_1_0, own_above10 _ hb5⟩)
    show own_Go p e below s _ _ _ (T4.setTop (mkF m 64 #[.val (.int p0), .val (.int p1), .val (.long p2), .second, .val (.int (0 : Int32)), .val (.ref w0), .val (.long (5 : Int64)), .second, .val (.long (10 : Int64)), .second, .unset, .unset, .unset, .unset, .unset, .unset, .unset, .unset, .unset] []))
    refine own_via (fun _ k => XS.iloadN X4.here hx rfl (hb hby at_64) rfl k) ?_
    show own_Go p e below s _ _ _ (T4.setTop (mkF m 65 #[.val (.int p0), .val (.int p1), .val (.long p2), .second, .val (.int (0 : Int32)), .val (.ref w0), .val (.long (5 : Int64)), .second, .val (.long (10 : Int64)), .second, .unset, .unset, .unset, .unset, .unset, .unset, .unset, .unset, .unset] [(.int p1)]))
    refine own_via (fun _ k => XS.iconst X4.here hx rfl (hb hby at_65) k) ?_
    show own_Go p e below s _ _ _ (T4.setTop (mkF m 66 #[.val (.int p0), .val (.int p1), .val (.long p2), .second, .val (.int (0 : Int32)), .val (.ref w0), .val (.long (5 : Int64)), .second, .val (.long (10 : Int64)), .second, .unset, .unset, .unset, .unset, .unset, .unset, .unset, .unset, .unset] [(.int (1 : Int32)), (.int p1)]))
    refine own_via (fun _ k => XS.iand X4.here hx rfl (hb hby at_66) rfl k) ?_
    show own_Go p e below s _ _ _ (T4.setTop (mkF m 67 #[.val (.int p0), .val (.int p1), .val (.long p2), .second, .val (.int (0 : Int32)), .val (.ref w0), .val (.long (5 : Int64)), .second, .val (.long (10 : Int64)), .second, .unset, .unset, .unset, .unset, .unset, .unset, .unset, .unset, .unset] [(.int (p1 &&& (1 : Int32)))]))
    by_cases hc18 : (p1 &&& (1 : Int32)) = (0 : Int32)
    · refine own_via (fun _ k => XS.ifYes X4.here hx rfl (pc0 := 67) (pc' := 84) rfl (hb hby at_67) rfl ((if0 _ _).trans (teq hc18).1) (by decide) (by decide) k) ?_
      show own_Go p e below s _ _ _ (T4.setTop (mkF m 84 #[.val (.int p0), .val (.int p1), .val (.long p2), .second, .val (.int (0 : Int32)), .val (.ref w0), .val (.long (5 : Int64)), .second, .val (.long (10 : Int64)), .second, .unset, .unset, .unset, .unset, .unset, .unset, .unset, .unset, .unset] []))
      refine own_via (fun _ k => XS.lloadN X4.here hx rfl (hb hby at_84) rfl k) ?_
      show own_Go p e below s _ _ _ (T4.setTop (mkF m 85 #[.val (.int p0), .val (.int p1), .val (.long p2), .second, .val (.int (0 : Int32)), .val (.ref w0), .val (.long (5 : Int64)), .second, .val (.long (10 : Int64)), .second, .unset, .unset, .unset, .unset, .unset, .unset, .unset, .unset, .unset] [(.long p2)]))
      refine own_via (fun _ k => X4.ldc2Long hx hown (mvT hZ (hw _ (List.mem_of_getElem? (i := 21) rfl))) (g := (mkF m 85 #[.val (.int p0), .val (.int p1), .val (.long p2), .second, .val (.int (0 : Int32)), .val (.ref w0), .val (.long (5 : Int64)), .second, .val (.long (10 : Int64)), .second, .unset, .unset, .unset, .unset, .unset, .unset, .unset, .unset, .unset] [(.long p2)])) rfl (hb hby at_85) _ k) ?_
      show own_Go p e below s _ _ _ (T4.setTop (mkF m 88 #[.val (.int p0), .val (.int p1), .val (.long p2), .second, .val (.int (0 : Int32)), .val (.ref w0), .val (.long (5 : Int64)), .second, .val (.long (10 : Int64)), .second, .unset, .unset, .unset, .unset, .unset, .unset, .unset, .unset, .unset] [(.long (4611686018427387903 : Int64)), (.long p2)]))
      refine own_via (fun _ k => XS.land X4.here hx rfl (hb hby at_88) rfl k) ?_
      show own_Go p e below s _ _ _ (T4.setTop (mkF m 89 #[.val (.int p0), .val (.int p1), .val (.long p2), .second, .val (.int (0 : Int32)), .val (.ref w0), .val (.long (5 : Int64)), .second, .val (.long (10 : Int64)), .second, .unset, .unset, .unset, .unset, .unset, .unset, .unset, .unset, .unset] [(.long (p2 &&& (4611686018427387903 : Int64)))]))
      refine own_via (fun _ k => XS.lstore X4.here hx rfl (hb hby at_89) rfl (l' := #[.val (.int p0), .val (.int p1), .val (.long p2), .second, .val (.int (0 : Int32)), .val (.ref w0), .val (.long (5 : Int64)), .second, .val (.long (10 : Int64)), .second, .val (.long (p2 &&& (4611686018427387903 : Int64))), .second, .unset, .unset, .unset, .unset, .unset, .unset, .unset]) rfl k) ?_
      show own_Go p e below s _ _ _ (T4.setTop (mkF m 91 #[.val (.int p0), .val (.int p1), .val (.long p2), .second, .val (.int (0 : Int32)), .val (.ref w0), .val (.long (5 : Int64)), .second, .val (.long (10 : Int64)), .second, .val (.long (p2 &&& (4611686018427387903 : Int64))), .second, .unset, .unset, .unset, .unset, .unset, .unset, .unset] []))
      exact J5 T4 X4 e4 (p2 &&& (4611686018427387903 : Int64)) (own_c89 _)
    · refine own_via (fun _ k => XS.ifNo X4.here hx rfl (hb hby at_67) rfl ((if0 _ _).trans (feq hc18).1) k) ?_
      show own_Go p e below s _ _ _ (T4.setTop (mkF m 70 #[.val (.int p0), .val (.int p1), .val (.long p2), .second, .val (.int (0 : Int32)), .val (.ref w0), .val (.long (5 : Int64)), .second, .val (.long (10 : Int64)), .second, .unset, .unset, .unset, .unset, .unset, .unset, .unset, .unset, .unset] []))
      refine own_via (fun _ k => X4.ldc2Long hx hown (mvT hZ (hw _ (List.mem_of_getElem? (i := 6) rfl))) (g := (mkF m 70 #[.val (.int p0), .val (.int p1), .val (.long p2), .second, .val (.int (0 : Int32)), .val (.ref w0), .val (.long (5 : Int64)), .second, .val (.long (10 : Int64)), .second, .unset, .unset, .unset, .unset, .unset, .unset, .unset, .unset, .unset] [])) rfl (hb hby at_70) _ k) ?_
      show own_Go p e below s _ _ _ (T4.setTop (mkF m 73 #[.val (.int p0), .val (.int p1), .val (.long p2), .second, .val (.int (0 : Int32)), .val (.ref w0), .val (.long (5 : Int64)), .second, .val (.long (10 : Int64)), .second, .unset, .unset, .unset, .unset, .unset, .unset, .unset, .unset, .unset] [(.long (280 : Int64))]))
      refine own_via (fun _ k => XS.lloadN X4.here hx rfl (hb hby at_73) rfl k) ?_
      show own_Go p e below s _ _ _ (T4.setTop (mkF m 74 #[.val (.int p0), .val (.int p1), .val (.long p2), .second, .val (.int (0 : Int32)), .val (.ref w0), .val (.long (5 : Int64)), .second, .val (.long (10 : Int64)), .second, .unset, .unset, .unset, .unset, .unset, .unset, .unset, .unset, .unset] [(.long p2), (.long (280 : Int64))]))
      refine own_via (fun _ k => X4.ldc2Long hx hown (mvT hZ (hw _ (List.mem_of_getElem? (i := 7) rfl))) (g := (mkF m 74 #[.val (.int p0), .val (.int p1), .val (.long p2), .second, .val (.int (0 : Int32)), .val (.ref w0), .val (.long (5 : Int64)), .second, .val (.long (10 : Int64)), .second, .unset, .unset, .unset, .unset, .unset, .unset, .unset, .unset, .unset] [(.long p2), (.long (280 : Int64))])) rfl (hb hby at_74) _ k) ?_
      show own_Go p e below s _ _ _ (T4.setTop (mkF m 77 #[.val (.int p0), .val (.int p1), .val (.long p2), .second, .val (.int (0 : Int32)), .val (.ref w0), .val (.long (5 : Int64)), .second, .val (.long (10 : Int64)), .second, .unset, .unset, .unset, .unset, .unset, .unset, .unset, .unset, .unset] [(.long (63 : Int64)), (.long p2), (.long (280 : Int64))]))
      refine own_via (fun _ k => XS.land X4.here hx rfl (hb hby at_77) rfl k) ?_
      show own_Go p e below s _ _ _ (T4.setTop (mkF m 78 #[.val (.int p0), .val (.int p1), .val (.long p2), .second, .val (.int (0 : Int32)), .val (.ref w0), .val (.long (5 : Int64)), .second, .val (.long (10 : Int64)), .second, .unset, .unset, .unset, .unset, .unset, .unset, .unset, .unset, .unset] [(.long (p2 &&& (63 : Int64))), (.long (280 : Int64))]))
      refine own_via (fun _ k => XS.ladd X4.here hx rfl (hb hby at_78) rfl k) ?_
      show own_Go p e below s _ _ _ (T4.setTop (mkF m 79 #[.val (.int p0), .val (.int p1), .val (.long p2), .second, .val (.int (0 : Int32)), .val (.ref w0), .val (.long (5 : Int64)), .second, .val (.long (10 : Int64)), .second, .unset, .unset, .unset, .unset, .unset, .unset, .unset, .unset, .unset] [(.long ((280 : Int64) + (p2 &&& (63 : Int64))))]))
      refine own_via (fun _ k => XS.lstore X4.here hx rfl (hb hby at_79) rfl (l' := #[.val (.int p0), .val (.int p1), .val (.long p2), .second, .val (.int (0 : Int32)), .val (.ref w0), .val (.long (5 : Int64)), .second, .val (.long (10 : Int64)), .second, .val (.long ((280 : Int64) + (p2 &&& (63 : Int64)))), .second, .unset, .unset, .unset, .unset, .unset, .unset, .unset]) rfl k) ?_
      show own_Go p e below s _ _ _ (T4.setTop (mkF m 81 #[.val (.int p0), .val (.int p1), .val (.long p2), .second, .val (.int (0 : Int32)), .val (.ref w0), .val (.long (5 : Int64)), .second, .val (.long (10 : Int64)), .second, .val (.long ((280 : Int64) + (p2 &&& (63 : Int64)))), .second, .unset, .unset, .unset, .unset, .unset, .unset, .unset] []))
      refine own_via (fun _ k => XS.goto X4.here hx rfl (pc0 := 81) (pc' := 91) rfl (hb hby at_81) (by decide) (by decide) k) ?_
      show own_Go p e below s _ _ _ (T4.setTop (mkF m 91 #[.val (.int p0), .val (.int p1), .val (.long p2), .second, .val (.int (0 : Int32)), .val (.ref w0), .val (.long (5 : Int64)), .second, .val (.long (10 : Int64)), .second, .val (.long ((280 : Int64) + (p2 &&& (63 : Int64)))), .second, .unset, .unset, .unset, .unset, .unset, .unset, .unset] []))
      exact J5 T4 X4 e4 ((280 : Int64) + (p2 &&& (63 : Int64))) (own_c79 _)
  · rw [hk2]
    show own_Go p e below s _ _ _ (s₁.setTop (mkF m 6 #[.val (.int p0), .val (.int p1), .val (.long p2), .second, .unset, .unset, .unset, .unset, .unset, .unset, .unset, .unset, .unset, .unset, .unset, .unset, .unset, .unset, .unset] [(.int (1 : Int32))]))
    refine own_via (fun _ k => XS.istore X0.here hx rfl (hb hby at_6) rfl (l' := #[.val (.int p0), .val (.int p1), .val (.long p2), .second, .val (.int (1 : Int32)), .unset, .unset, .unset, .unset, .unset, .unset, .unset, .unset, .unset, .unset, .unset, .unset, .unset, .unset]) rfl k) ?_
    show own_Go p e below s _ _ _ (s₁.setTop (mkF m 8 #[.val (.int p0), .val (.int p1), .val (.long p2), .second, .val (.int (1 : Int32)), .unset, .unset, .unset, .unset, .unset, .unset, .unset, .unset, .unset, .unset, .unset, .unset, .unset, .unset] []))
    refine own_via (fun _ k => XS.iload X0.here hx rfl (hb hby at_8) rfl k) ?_
    show own_Go p e below s _ _ _ (s₁.setTop (mkF m 10 #[.val (.int p0), .val (.int p1), .val (.long p2), .second, .val (.int (1 : Int32)), .unset, .unset, .unset, .unset, .unset, .unset, .unset, .unset, .unset, .unset, .unset, .unset, .unset, .unset] [(.int (1 : Int32))]))
    refine own_via (fun _ k => XS.ifYes X0.here hx rfl (pc0 := 10) (pc' := 31) rfl (hb hby at_10) rfl ((if0 _ _).trans (feq (by decide : ¬ ((1 : Int32) = (0 : Int32)))).2) (by decide) (by decide) k) ?_
    show own_Go p e below s _ _ _ (s₁.setTop (mkF m 31 #[.val (.int p0), .val (.int p1), .val (.long p2), .second, .val (.int (1 : Int32)), .unset, .unset, .unset, .unset, .unset, .unset, .unset, .unset, .unset, .unset, .unset, .unset, .unset, .unset] []))
    refine own_via (fun _ k => XS.iload X0.here hx rfl (hb hby at_31) rfl k) ?_
    show own_Go p e below s _ _ _ (s₁.setTop (mkF m 33 #[.val (.int p0), .val (.int p1), .val (.long p2), .second, .val (.int (1 : Int32)), .unset, .unset, .unset, .unset, .unset, .unset, .unset, .unset, .unset, .unset, .unset, .unset, .unset, .unset] [(.int (1 : Int32))]))
    refine own_via (fun _ k => XS.iconst X0.here hx rfl (hb hby at_33) k) ?_
    show own_Go p e below s _ _ _ (s₁.setTop (mkF m 34 #[.val (.int p0), .val (.int p1), .val (.long p2), .second, .val (.int (1 : Int32)), .unset, .unset, .unset, .unset, .unset, .unset, .unset, .unset, .unset, .unset, .unset, .unset, .unset, .unset] [(.int (1 : Int32)), (.int (1 : Int32))]))
    refine own_via (fun _ k => XS.icmpNo X0.here hx rfl (hb hby at_34) rfl (teq (by decide : (1 : Int32) = (1 : Int32))).2 k) ?_
    show own_Go p e below s _ _ _ (s₁.setTop (mkF m 37 #[.val (.int p0), .val (.int p1), .val (.long p2), .second, .val (.int (1 : Int32)), .unset, .unset, .unset, .unset, .unset, .unset, .unset, .unset, .unset, .unset, .unset, .unset, .unset, .unset] []))
    obtain ⟨T19, X19, e19, st19⟩ := getS2 X0 hx hZ hown (host := "") (Or.inl (hw _ (List.mem_of_getElem? (i := 17) rfl))) Via.refl e0 S_w1 (g := (mkF m 37 #[.val (.int p0), .val (.int p1), .val (.long p2), .second, .val (.int (1 : Int32)), .unset, .unset, .unset, .unset, .unset, .unset, .unset, .unset, .unset, .unset, .unset, .unset, .unset, .unset] [])) rfl (hb hby at_37)
    refine own_via st19 ?_
    show own_Go p e below s _ _ _ (T19.setTop (mkF m 40 #[.val (.int p0), .val (.int p1), .val (.long p2), .second, .val (.int (1 : Int32)), .unset, .unset, .unset, .unset, .unset, .unset, .unset, .unset, .unset, .unset, .unset, .unset, .unset, .unset] [(.ref w1)]))
    refine own_via (fun _ k => XS.astore X19.here hx rfl (hb hby at_40) rfl rfl (l' := #[.val (.int p0), .val (.int p1), .val (.long p2), .second, .val (.int (1 : Int32)), .val (.ref w1), .unset, .unset, .unset, .unset, .unset, .unset, .unset, .unset, .unset, .unset, .unset, .unset, .unset]) rfl k) ?_
    show own_Go p e below s _ _ _ (T19.setTop (mkF m 42 #[.val (.int p0), .val (.int p1), .val (.long p2), .second, .val (.int (1 : Int32)), .val (.ref w1), .unset, .unset, .unset, .unset, .unset, .unset, .unset, .unset, .unset, .unset, .unset, .unset, .unset] []))
    refine own_via (fun _ k => XS.lconst X19.here hx rfl (hb hby at_42) k) ?_
    show own_Go p e below s _ _ _ (T19.setTop (mkF m 43 #[.val (.int p0), .val (.int p1), .val (.long p2), .second, .val (.int (1 : Int32)), .val (.ref w1), .unset, .unset, .unset, .unset, .unset, .unset, .unset, .unset, .unset, .unset, .unset, .unset, .unset] [(.long (1 : Int64))]))
    refine own_via (fun _ k => XS.lstore X19.here hx rfl (hb hby at_43) rfl (l' := #[.val (.int p0), .val (.int p1), .val (.long p2), .second, .val (.int (1 : Int32)), .val (.ref w1), .val (.long (1 : Int64)), .second, .unset, .unset, .unset, .unset, .unset, .unset, .unset, .unset, .unset, .unset, .unset]) rfl k) ?_
    show own_Go p e below s _ _ _ (T19.setTop (mkF m 45 #[.val (.int p0), .val (.int p1), .val (.long p2), .second, .val (.int (1 : Int32)), .val (.ref w1), .val (.long (1 : Int64)), .second, .unset, .unset, .unset, .unset, .unset, .unset, .unset, .unset, .unset, .unset, .unset] []))
    refine own_via (fun _ k => X19.ldc2Long hx hown (mvT hZ (hw _ (List.mem_of_getElem? (i := 4) rfl))) (g := (mkF m 45 #[.val (.int p0), .val (.int p1), .val (.long p2), .second, .val (.int (1 : Int32)), .val (.ref w1), .val (.long (1 : Int64)), .second, .unset, .unset, .unset, .unset, .unset, .unset, .unset, .unset, .unset, .unset, .unset] [])) rfl (hb hby at_45) _ k) ?_
    show own_Go p e below s _ _ _ (T19.setTop (mkF m 48 #[.val (.int p0), .val (.int p1), .val (.long p2), .second, .val (.int (1 : Int32)), .val (.ref w1), .val (.long (1 : Int64)), .second, .unset, .unset, .unset, .unset, .unset, .unset, .unset, .unset, .unset, .unset, .unset] [(.long (5 : Int64))]))
    refine own_via (fun _ k => XS.lstore X19.here hx rfl (hb hby at_48) rfl (l' := #[.val (.int p0), .val (.int p1), .val (.long p2), .second, .val (.int (1 : Int32)), .val (.ref w1), .val (.long (1 : Int64)), .second, .val (.long (5 : Int64)), .second, .unset, .unset, .unset, .unset, .unset, .unset, .unset, .unset, .unset]) rfl k) ?_
    show own_Go p e below s _ _ _ (T19.setTop (mkF m 50 #[.val (.int p0), .val (.int p1), .val (.long p2), .second, .val (.int (1 : Int32)), .val (.ref w1), .val (.long (1 : Int64)), .second, .val (.long (5 : Int64)), .second, .unset, .unset, .unset, .unset, .unset, .unset, .unset, .unset, .unset] []))
    refine own_via (fun _ k => XS.goto X19.here hx rfl (pc0 := 50) (pc' := 64) rfl (hb hby at_50) (by decide) (by decide) k) ?_
    have J20 : ∀ (T20 : State) (X20 : Stand p l e room_1 s m #[(.int p0), (.int p1), (.long p2)] below meth c T20 [] 0 0) (e20 : T20.heap = h0) (c20 : Int64) (hb20 : 0 ≤ c20.toInt ∧ c20.toInt ≤ 4611686018427387903), own_Go p e below s (Q0 n0) 0 0 (T20.setTop (mkF m 91 #[.val (.int p0), .val (.int p1), .val (.long p2), .second, .val (.int (1 : Int32)), .val (.ref w1), .val (.long (1 : Int64)), .second, .val (.long (5 : Int64)), .second, .val (.long c20), .second, .unset, .unset, .unset, .unset, .unset, .unset, .unset] [])) := by
      intro T20 X20 e20 c20 hb20
      have J21 : ∀ (T21 : State) (X21 : Stand p l e room_1 s m #[(.int p0), (.int p1), (.long p2)] below meth c T21 [] 0 0) (e21 : T21.heap = h0) (r21 : Int64) (hb21 : (c20.toInt < 300 ∧ r21.toInt = (c20.toInt / 1 + 1) * 1) ∨ (300 ≤ c20.toInt ∧ r21.toInt = (c20.toInt / 5 + 1) * 5)), own_Go p e below s (Q0 n0) 0 0 (T21.setTop (mkF m 98 #[.val (.int p0), .val (.int p1), .val (.long p2), .second, .val (.int (1 : Int32)), .val (.ref w1), .val (.long (1 : Int64)), .second, .val (.long (5 : Int64)), .second, .val (.long c20), .second, .unset, .unset, .unset, .unset, .unset, .unset, .unset] [(.long r21)])) := by
        intro T21 X21 e21 r21 hb21
        show own_Go p e below s _ _ _ (T21.setTop (mkF m 98 #[.val (.int p0), .val (.int p1), .val (.long p2), .second, .val (.int (1 : Int32)), .val (.ref w1), .val (.long (1 : Int64)), .second, .val (.long (5 : Int64)), .second, .val (.long c20), .second, .unset, .unset, .unset, .unset, .unset, .unset, .unset] [(.long r21)]))
        refine own_via (fun _ k => XS.lstore X21.here hx rfl (hb hby at_98) rfl (l' := #[.val (.int p0), .val (.int p1), .val (.long p2), .second, .val (.int (1 : Int32)), .val (.ref w1), .val (.long (1 : Int64)), .second, .val (.long (5 : Int64)), .second, .val (.long c20), .second, .val (.long r21), .second, .unset, .unset, .unset, .unset, .unset]) rfl k) ?_
        show own_Go p e below s _ _ _ (T21.setTop (mkF m 100 #[.val (.int p0), .val (.int p1), .val (.long p2), .second, .val (.int (1 : Int32)), .val (.ref w1), .val (.long (1 : Int64)), .second, .val (.long (5 : Int64)), .second, .val (.long c20), .second, .val (.long r21), .second, .unset, .unset, .unset, .unset, .unset] []))
        refine own_via (fun _ k => XS.lload X21.here hx rfl (hb hby at_100) rfl k) ?_
        show own_Go p e below s _ _ _ (T21.setTop (mkF m 102 #[.val (.int p0), .val (.int p1), .val (.long p2), .second, .val (.int (1 : Int32)), .val (.ref w1), .val (.long (1 : Int64)), .second, .val (.long (5 : Int64)), .second, .val (.long c20), .second, .val (.long r21), .second, .unset, .unset, .unset, .unset, .unset] [(.long r21)]))
        refine own_via (fun _ k => XS.lload X21.here hx rfl (hb hby at_102) rfl k) ?_
        show own_Go p e below s _ _ _ (T21.setTop (mkF m 104 #[.val (.int p0), .val (.int p1), .val (.long p2), .second, .val (.int (1 : Int32)), .val (.ref w1), .val (.long (1 : Int64)), .second, .val (.long (5 : Int64)), .second, .val (.long c20), .second, .val (.long r21), .second, .unset, .unset, .unset, .unset, .unset] [(.long c20), (.long r21)]))
        refine own_via (fun _ k => XS.lcmp X21.here hx rfl (hb hby at_104) rfl k) ?_
        show own_Go p e below s _ _ _ (T21.setTop (mkF m 105 #[.val (.int p0), .val (.int p1), .val (.long p2), .second, .val (.int (1 : Int32)), .val (.ref w1), .val (.long (1 : Int64)), .second, .val (.long (5 : Int64)), .second, .val (.long c20), .second, .val (.long r21), .second, .unset, .unset, .unset, .unset, .unset] [(.int (lcmpW r21 c20))]))
        by_cases hc22 : c20 < r21
        · refine own_via (fun _ k => XS.ifNo X21.here hx rfl (hb hby at_105) rfl ((if0 _ _).trans (tlt ((lw_gt r21 c20).mpr hc22)).2.2.2) k) ?_
          show own_Go p e below s _ _ _ (T21.setTop (mkF m 108 #[.val (.int p0), .val (.int p1), .val (.long p2), .second, .val (.int (1 : Int32)), .val (.ref w1), .val (.long (1 : Int64)), .second, .val (.long (5 : Int64)), .second, .val (.long c20), .second, .val (.long r21), .second, .unset, .unset, .unset, .unset, .unset] []))
          refine own_via (fun _ k => XS.iconst X21.here hx rfl (hb hby at_108) k) ?_
          show own_Go p e below s _ _ _ (T21.setTop (mkF m 109 #[.val (.int p0), .val (.int p1), .val (.long p2), .second, .val (.int (1 : Int32)), .val (.ref w1), .val (.long (1 : Int64)), .second, .val (.long (5 : Int64)), .second, .val (.long c20), .second, .val (.long r21), .second, .unset, .unset, .unset, .unset, .unset] [(.int (1 : Int32))]))
          refine own_via (fun _ k => XS.goto X21.here hx rfl (pc0 := 109) (pc' := 113) rfl (hb hby at_109) (by decide) (by decide) k) ?_
          show own_Go p e below s _ _ _ (T21.setTop (mkF m 113 #[.val (.int p0), .val (.int p1), .val (.long p2), .second, .val (.int (1 : Int32)), .val (.ref w1), .val (.long (1 : Int64)), .second, .val (.long (5 : Int64)), .second, .val (.long c20), .second, .val (.long r21), .second, .unset, .unset, .unset, .unset, .unset] [(.int (1 : Int32))]))
          refine own_via (fun _ k => XS.istore X21.here hx rfl (hb hby at_113) rfl (l' := #[.val (.int p0), .val (.int p1), .val (.long p2), .second, .val (.int (1 : Int32)), .val (.ref w1), .val (.long (1 : Int64)), .second, .val (.long (5 : Int64)), .second, .val (.long c20), .second, .val (.long r21), .second, .val (.int (1 : Int32)), .unset, .unset, .unset, .unset]) rfl k) ?_
          show own_Go p e below s _ _ _ (T21.setTop (mkF m 115 #[.val (.int p0), .val (.int p1), .val (.long p2), .second, .val (.int (1 : Int32)), .val (.ref w1), .val (.long (1 : Int64)), .second, .val (.long (5 : Int64)), .second, .val (.long c20), .second, .val (.long r21), .second, .val (.int (1 : Int32)), .unset, .unset, .unset, .unset] []))
          refine own_via (fun _ k => XS.lload X21.here hx rfl (hb hby at_115) rfl k) ?_
          show own_Go p e below s _ _ _ (T21.setTop (mkF m 117 #[.val (.int p0), .val (.int p1), .val (.long p2), .second, .val (.int (1 : Int32)), .val (.ref w1), .val (.long (1 : Int64)), .second, .val (.long (5 : Int64)), .second, .val (.long c20), .second, .val (.long r21), .second, .val (.int (1 : Int32)), .unset, .unset, .unset, .unset] [(.long r21)]))
          refine own_via (fun _ k => XS.lload X21.here hx rfl (hb hby at_117) rfl k) ?_
          show own_Go p e below s _ _ _ (T21.setTop (mkF m 119 #[.val (.int p0), .val (.int p1), .val (.long p2), .second, .val (.int (1 : Int32)), .val (.ref w1), .val (.long (1 : Int64)), .second, .val (.long (5 : Int64)), .second, .val (.long c20), .second, .val (.long r21), .second, .val (.int (1 : Int32)), .unset, .unset, .unset, .unset] [(.long r21), (.long r21)]))
          refine own_via (fun _ k => X21.ldc2Long hx hown (mvT hZ (hw _ (List.mem_of_getElem? (i := 16) rfl))) (g := (mkF m 119 #[.val (.int p0), .val (.int p1), .val (.long p2), .second, .val (.int (1 : Int32)), .val (.ref w1), .val (.long (1 : Int64)), .second, .val (.long (5 : Int64)), .second, .val (.long c20), .second, .val (.long r21), .second, .val (.int (1 : Int32)), .unset, .unset, .unset, .unset] [(.long r21), (.long r21)])) rfl (hb hby at_119) _ k) ?_
          show own_Go p e below s _ _ _ (T21.setTop (mkF m 122 #[.val (.int p0), .val (.int p1), .val (.long p2), .second, .val (.int (1 : Int32)), .val (.ref w1), .val (.long (1 : Int64)), .second, .val (.long (5 : Int64)), .second, .val (.long c20), .second, .val (.long r21), .second, .val (.int (1 : Int32)), .unset, .unset, .unset, .unset] [(.long (300 : Int64)), (.long r21), (.long r21)]))
          refine own_via (fun _ k => XS.lcmp X21.here hx rfl (hb hby at_122) rfl k) ?_
          show own_Go p e below s _ _ _ (T21.setTop (mkF m 123 #[.val (.int p0), .val (.int p1), .val (.long p2), .second, .val (.int (1 : Int32)), .val (.ref w1), .val (.long (1 : Int64)), .second, .val (.long (5 : Int64)), .second, .val (.long c20), .second, .val (.long r21), .second, .val (.int (1 : Int32)), .unset, .unset, .unset, .unset] [(.int (lcmpW r21 (300 : Int64))), (.long r21)]))
          by_cases hc23 : r21 < (300 : Int64)
          · refine own_via (fun _ k => XS.ifNo X21.here hx rfl (hb hby at_123) rfl ((if0 _ _).trans (tlt ((lw_lt r21 (300 : Int64)).mpr hc23)).2.1) k) ?_
            show own_Go p e below s _ _ _ (T21.setTop (mkF m 126 #[.val (.int p0), .val (.int p1), .val (.long p2), .second, .val (.int (1 : Int32)), .val (.ref w1), .val (.long (1 : Int64)), .second, .val (.long (5 : Int64)), .second, .val (.long c20), .second, .val (.long r21), .second, .val (.int (1 : Int32)), .unset, .unset, .unset, .unset] [(.long r21)]))
            refine own_via (fun _ k => XS.lload X21.here hx rfl (hb hby at_126) rfl k) ?_
            show own_Go p e below s _ _ _ (T21.setTop (mkF m 128 #[.val (.int p0), .val (.int p1), .val (.long p2), .second, .val (.int (1 : Int32)), .val (.ref w1), .val (.long (1 : Int64)), .second, .val (.long (5 : Int64)), .second, .val (.long c20), .second, .val (.long r21), .second, .val (.int (1 : Int32)), .unset, .unset, .unset, .unset] [(.long (1 : Int64)), (.long r21)]))
            refine own_via (fun _ k => XS.goto X21.here hx rfl (pc0 := 128) (pc' := 133) rfl (hb hby at_128) (by decide) (by decide) k) ?_
            show own_Go p e below s _ _ _ (T21.setTop (mkF m 133 #[.val (.int p0), .val (.int p1), .val (.long p2), .second, .val (.int (1 : Int32)), .val (.ref w1), .val (.long (1 : Int64)), .second, .val (.long (5 : Int64)), .second, .val (.long c20), .second, .val (.long r21), .second, .val (.int (1 : Int32)), .unset, .unset, .unset, .unset] [(.long (1 : Int64)), (.long r21)]))
            refine own_via (fun _ k => XS.lrem X21.here hx rfl (hb hby at_133) rfl (by decide : ¬ ((1 : Int64) = (0 : Int64))) k) ?_
            show own_Go p e below s _ _ _ (T21.setTop (mkF m 134 #[.val (.int p0), .val (.int p1), .val (.long p2), .second, .val (.int (1 : Int32)), .val (.ref w1), .val (.long (1 : Int64)), .second, .val (.long (5 : Int64)), .second, .val (.long c20), .second, .val (.long r21), .second, .val (.int (1 : Int32)), .unset, .unset, .unset, .unset] [(.long (r21 - (r21 / (1 : Int64)) * (1 : Int64)))]))
            refine own_via (fun _ k => XS.lconst X21.here hx rfl (hb hby at_134) k) ?_
            show own_Go p e below s _ _ _ (T21.setTop (mkF m 135 #[.val (.int p0), .val (.int p1), .val (.long p2), .second, .val (.int (1 : Int32)), .val (.ref w1), .val (.long (1 : Int64)), .second, .val (.long (5 : Int64)), .second, .val (.long c20), .second, .val (.long r21), .second, .val (.int (1 : Int32)), .unset, .unset, .unset, .unset] [(.long (0 : Int64)), (.long (r21 - (r21 / (1 : Int64)) * (1 : Int64)))]))
            refine own_via (fun _ k => XS.lcmp X21.here hx rfl (hb hby at_135) rfl k) ?_
            show own_Go p e below s _ _ _ (T21.setTop (mkF m 136 #[.val (.int p0), .val (.int p1), .val (.long p2), .second, .val (.int (1 : Int32)), .val (.ref w1), .val (.long (1 : Int64)), .second, .val (.long (5 : Int64)), .second, .val (.long c20), .second, .val (.long r21), .second, .val (.int (1 : Int32)), .unset, .unset, .unset, .unset] [(.int (lcmpW (r21 - (r21 / (1 : Int64)) * (1 : Int64)) (0 : Int64)))]))
            by_cases hc24 : (r21 - (r21 / (1 : Int64)) * (1 : Int64)) = (0 : Int64)
            · refine own_via (fun _ k => XS.ifNo X21.here hx rfl (hb hby at_136) rfl ((if0 _ _).trans (teq ((lw_eq (r21 - (r21 / (1 : Int64)) * (1 : Int64)) (0 : Int64)).mpr hc24)).2) k) ?_
              show own_Go p e below s _ _ _ (T21.setTop (mkF m 139 #[.val (.int p0), .val (.int p1), .val (.long p2), .second, .val (.int (1 : Int32)), .val (.ref w1), .val (.long (1 : Int64)), .second, .val (.long (5 : Int64)), .second, .val (.long c20), .second, .val (.long r21), .second, .val (.int (1 : Int32)), .unset, .unset, .unset, .unset] []))
              refine own_via (fun _ k => XS.iconst X21.here hx rfl (hb hby at_139) k) ?_
              show own_Go p e below s _ _ _ (T21.setTop (mkF m 140 #[.val (.int p0), .val (.int p1), .val (.long p2), .second, .val (.int (1 : Int32)), .val (.ref w1), .val (.long (1 : Int64)), .second, .val (.long (5 : Int64)), .second, .val (.long c20), .second, .val (.long r21), .second, .val (.int (1 : Int32)), .unset, .unset, .unset, .unset] [(.int (1 : Int32))]))
              refine own_via (fun _ k => XS.goto X21.here hx rfl (pc0 := 140) (pc' := 144) rfl (hb hby at_140) (by decide) (by decide) k) ?_
              show own_Go p e below s _ _ _ (T21.setTop (mkF m 144 #[.val (.int p0), .val (.int p1), .val (.long p2), .second, .val (.int (1 : Int32)), .val (.ref w1), .val (.long (1 : Int64)), .second, .val (.long (5 : Int64)), .second, .val (.long c20), .second, .val (.long r21), .second, .val (.int (1 : Int32)), .unset, .unset, .unset, .unset] [(.int (1 : Int32))]))
              refine own_via (fun _ k => XS.istore X21.here hx rfl (hb hby at_144) rfl (l' := #[.val (.int p0), .val (.int p1), .val (.long p2), .second, .val (.int (1 : Int32)), .val (.ref w1), .val (.long (1 : Int64)), .second, .val (.long (5 : Int64)), .second, .val (.long c20), .second, .val (.long r21), .second, .val (.int (1 : Int32)), .val (.int (1 : Int32)), .unset, .unset, .unset]) rfl k) ?_
              show own_Go p e below s _ _ _ (T21.setTop (mkF m 146 #[.val (.int p0), .val (.int p1), .val (.long p2), .second, .val (.int (1 : Int32)), .val (.ref w1), .val (.long (1 : Int64)), .second, .val (.long (5 : Int64)), .second, .val (.long c20), .second, .val (.long r21), .second, .val (.int (1 : Int32)), .val (.int (1 : Int32)), .unset, .unset, .unset] []))
              refine own_via (fun _ k => XS.lload X21.here hx rfl (hb hby at_146) rfl k) ?_
              show own_Go p e below s _ _ _ (T21.setTop (mkF m 148 #[.val (.int p0), .val (.int p1), .val (.long p2), .second, .val (.int (1 : Int32)), .val (.ref w1), .val (.long (1 : Int64)), .second, .val (.long (5 : Int64)), .second, .val (.long c20), .second, .val (.long r21), .second, .val (.int (1 : Int32)), .val (.int (1 : Int32)), .unset, .unset, .unset] [(.long r21)]))
              refine own_via (fun _ k => X21.ldc2Long hx hown (mvT hZ (hw _ (List.mem_of_getElem? (i := 16) rfl))) (g := (mkF m 148 #[.val (.int p0), .val (.int p1), .val (.long p2), .second, .val (.int (1 : Int32)), .val (.ref w1), .val (.long (1 : Int64)), .second, .val (.long (5 : Int64)), .second, .val (.long c20), .second, .val (.long r21), .second, .val (.int (1 : Int32)), .val (.int (1 : Int32)), .unset, .unset, .unset] [(.long r21)])) rfl (hb hby at_148) _ k) ?_
              show own_Go p e below s _ _ _ (T21.setTop (mkF m 151 #[.val (.int p0), .val (.int p1), .val (.long p2), .second, .val (.int (1 : Int32)), .val (.ref w1), .val (.long (1 : Int64)), .second, .val (.long (5 : Int64)), .second, .val (.long c20), .second, .val (.long r21), .second, .val (.int (1 : Int32)), .val (.int (1 : Int32)), .unset, .unset, .unset] [(.long (300 : Int64)), (.long r21)]))
              refine own_via (fun _ k => XS.lcmp X21.here hx rfl (hb hby at_151) rfl k) ?_
              show own_Go p e below s _ _ _ (T21.setTop (mkF m 152 #[.val (.int p0), .val (.int p1), .val (.long p2), .second, .val (.int (1 : Int32)), .val (.ref w1), .val (.long (1 : Int64)), .second, .val (.long (5 : Int64)), .second, .val (.long c20), .second, .val (.long r21), .second, .val (.int (1 : Int32)), .val (.int (1 : Int32)), .unset, .unset, .unset] [(.int (lcmpW r21 (300 : Int64)))]))
              by_cases hc25 : (300 : Int64) < r21
              · refine own_via (fun _ k => XS.ifNo X21.here hx rfl (hb hby at_152) rfl ((if0 _ _).trans (tlt ((lw_gt r21 (300 : Int64)).mpr hc25)).2.2.2) k) ?_
                show own_Go p e below s _ _ _ (T21.setTop (mkF m 155 #[.val (.int p0), .val (.int p1), .val (.long p2), .second, .val (.int (1 : Int32)), .val (.ref w1), .val (.long (1 : Int64)), .second, .val (.long (5 : Int64)), .second, .val (.long c20), .second, .val (.long r21), .second, .val (.int (1 : Int32)), .val (.int (1 : Int32)), .unset, .unset, .unset] []))
                refine own_via (fun _ k => XS.lload X21.here hx rfl (hb hby at_155) rfl k) ?_
                show own_Go p e below s _ _ _ (T21.setTop (mkF m 157 #[.val (.int p0), .val (.int p1), .val (.long p2), .second, .val (.int (1 : Int32)), .val (.ref w1), .val (.long (1 : Int64)), .second, .val (.long (5 : Int64)), .second, .val (.long c20), .second, .val (.long r21), .second, .val (.int (1 : Int32)), .val (.int (1 : Int32)), .unset, .unset, .unset] [(.long (5 : Int64))]))
                refine own_via (fun _ k => XS.goto X21.here hx rfl (pc0 := 157) (pc' := 162) rfl (hb hby at_157) (by decide) (by decide) k) ?_
                show own_Go p e below s _ _ _ (T21.setTop (mkF m 162 #[.val (.int p0), .val (.int p1), .val (.long p2), .second, .val (.int (1 : Int32)), .val (.ref w1), .val (.long (1 : Int64)), .second, .val (.long (5 : Int64)), .second, .val (.long c20), .second, .val (.long r21), .second, .val (.int (1 : Int32)), .val (.int (1 : Int32)), .unset, .unset, .unset] [(.long (5 : Int64))]))
                refine own_via (fun _ k => XS.lstore X21.here hx rfl (hb hby at_162) rfl (l' := #[.val (.int p0), .val (.int p1), .val (.long p2), .second, .val (.int (1 : Int32)), .val (.ref w1), .val (.long (1 : Int64)), .second, .val (.long (5 : Int64)), .second, .val (.long c20), .second, .val (.long r21), .second, .val (.int (1 : Int32)), .val (.int (1 : Int32)), .val (.long (5 : Int64)), .second, .unset]) rfl k) ?_
                show own_Go p e below s _ _ _ (T21.setTop (mkF m 164 #[.val (.int p0), .val (.int p1), .val (.long p2), .second, .val (.int (1 : Int32)), .val (.ref w1), .val (.long (1 : Int64)), .second, .val (.long (5 : Int64)), .second, .val (.long c20), .second, .val (.long r21), .second, .val (.int (1 : Int32)), .val (.int (1 : Int32)), .val (.long (5 : Int64)), .second, .unset] []))
                refine own_via (fun _ k => XS.lload X21.here hx rfl (hb hby at_164) rfl k) ?_
                show own_Go p e below s _ _ _ (T21.setTop (mkF m 166 #[.val (.int p0), .val (.int p1), .val (.long p2), .second, .val (.int (1 : Int32)), .val (.ref w1), .val (.long (1 : Int64)), .second, .val (.long (5 : Int64)), .second, .val (.long c20), .second, .val (.long r21), .second, .val (.int (1 : Int32)), .val (.int (1 : Int32)), .val (.long (5 : Int64)), .second, .unset] [(.long r21)]))
                refine own_via (fun _ k => XS.lload X21.here hx rfl (hb hby at_166) rfl k) ?_
                show own_Go p e below s _ _ _ (T21.setTop (mkF m 168 #[.val (.int p0), .val (.int p1), .val (.long p2), .second, .val (.int (1 : Int32)), .val (.ref w1), .val (.long (1 : Int64)), .second, .val (.long (5 : Int64)), .second, .val (.long c20), .second, .val (.long r21), .second, .val (.int (1 : Int32)), .val (.int (1 : Int32)), .val (.long (5 : Int64)), .second, .unset] [(.long (5 : Int64)), (.long r21)]))
                refine own_via (fun _ k => XS.lsub X21.here hx rfl (hb hby at_168) rfl k) ?_
                show own_Go p e below s _ _ _ (T21.setTop (mkF m 169 #[.val (.int p0), .val (.int p1), .val (.long p2), .second, .val (.int (1 : Int32)), .val (.ref w1), .val (.long (1 : Int64)), .second, .val (.long (5 : Int64)), .second, .val (.long c20), .second, .val (.long r21), .second, .val (.int (1 : Int32)), .val (.int (1 : Int32)), .val (.long (5 : Int64)), .second, .unset] [(.long (r21 - (5 : Int64)))]))
                refine own_via (fun _ k => XS.lload X21.here hx rfl (hb hby at_169) rfl k) ?_
                show own_Go p e below s _ _ _ (T21.setTop (mkF m 171 #[.val (.int p0), .val (.int p1), .val (.long p2), .second, .val (.int (1 : Int32)), .val (.ref w1), .val (.long (1 : Int64)), .second, .val (.long (5 : Int64)), .second, .val (.long c20), .second, .val (.long r21), .second, .val (.int (1 : Int32)), .val (.int (1 : Int32)), .val (.long (5 : Int64)), .second, .unset] [(.long c20), (.long (r21 - (5 : Int64)))]))
                refine own_via (fun _ k => XS.lcmp X21.here hx rfl (hb hby at_171) rfl k) ?_
                show own_Go p e below s _ _ _ (T21.setTop (mkF m 172 #[.val (.int p0), .val (.int p1), .val (.long p2), .second, .val (.int (1 : Int32)), .val (.ref w1), .val (.long (1 : Int64)), .second, .val (.long (5 : Int64)), .second, .val (.long c20), .second, .val (.long r21), .second, .val (.int (1 : Int32)), .val (.int (1 : Int32)), .val (.long (5 : Int64)), .second, .unset] [(.int (lcmpW (r21 - (5 : Int64)) c20))]))
                by_cases hc26 : c20 < (r21 - (5 : Int64))
                · exfalso
                  have ar0 := rng64 c20
                  have ar1 := rng64 r21
                  have ar2 := c_lrem r21 (1 : Int64) 1 rfl
                  have ar3 := rng64 (r21 - (r21 / (1 : Int64)) * (1 : Int64))
                  have ar4 := c_lsub r21 (5 : Int64)
                  have ar5 := rng64 (r21 - (5 : Int64))
                  simp only [Int64.lt_iff_toInt_lt, ← Int64.toInt_inj, Int32.lt_iff_toInt_lt, ← Int32.toInt_inj, (show (0 : Int64).toInt = 0 from rfl), (show (1 : Int64).toInt = 1 from rfl), (show (5 : Int64).toInt = 5 from rfl), (show (300 : Int64).toInt = 300 from rfl)] at hc22 hc23 hc24 hc25 hc26 ar0 ar1 ar2 ar3 ar4 ar5
                  omega
                · refine own_via (fun _ k => XS.ifNo X21.here hx rfl (hb hby at_172) rfl ((if0 _ _).trans (flt (mt (lw_gt (r21 - (5 : Int64)) c20).mp hc26)).2.2.1) k) ?_
                  show own_Go p e below s _ _ _ (T21.setTop (mkF m 175 #[.val (.int p0), .val (.int p1), .val (.long p2), .second, .val (.int (1 : Int32)), .val (.ref w1), .val (.long (1 : Int64)), .second, .val (.long (5 : Int64)), .second, .val (.long c20), .second, .val (.long r21), .second, .val (.int (1 : Int32)), .val (.int (1 : Int32)), .val (.long (5 : Int64)), .second, .unset] []))
                  refine own_via (fun _ k => XS.iconst X21.here hx rfl (hb hby at_175) k) ?_
                  show own_Go p e below s _ _ _ (T21.setTop (mkF m 176 #[.val (.int p0), .val (.int p1), .val (.long p2), .second, .val (.int (1 : Int32)), .val (.ref w1), .val (.long (1 : Int64)), .second, .val (.long (5 : Int64)), .second, .val (.long c20), .second, .val (.long r21), .second, .val (.int (1 : Int32)), .val (.int (1 : Int32)), .val (.long (5 : Int64)), .second, .unset] [(.int (1 : Int32))]))
                  refine own_via (fun _ k => XS.goto X21.here hx rfl (pc0 := 176) (pc' := 180) rfl (hb hby at_176) (by decide) (by decide) k) ?_
                  show own_Go p e below s _ _ _ (T21.setTop (mkF m 180 #[.val (.int p0), .val (.int p1), .val (.long p2), .second, .val (.int (1 : Int32)), .val (.ref w1), .val (.long (1 : Int64)), .second, .val (.long (5 : Int64)), .second, .val (.long c20), .second, .val (.long r21), .second, .val (.int (1 : Int32)), .val (.int (1 : Int32)), .val (.long (5 : Int64)), .second, .unset] [(.int (1 : Int32))]))
                  refine own_via (fun _ k => XS.istore X21.here hx rfl (hb hby at_180) rfl (l' := #[.val (.int p0), .val (.int p1), .val (.long p2), .second, .val (.int (1 : Int32)), .val (.ref w1), .val (.long (1 : Int64)), .second, .val (.long (5 : Int64)), .second, .val (.long c20), .second, .val (.long r21), .second, .val (.int (1 : Int32)), .val (.int (1 : Int32)), .val (.long (5 : Int64)), .second, .val (.int (1 : Int32))]) rfl k) ?_
                  show own_Go p e below s _ _ _ (T21.setTop (mkF m 182 #[.val (.int p0), .val (.int p1), .val (.long p2), .second, .val (.int (1 : Int32)), .val (.ref w1), .val (.long (1 : Int64)), .second, .val (.long (5 : Int64)), .second, .val (.long c20), .second, .val (.long r21), .second, .val (.int (1 : Int32)), .val (.int (1 : Int32)), .val (.long (5 : Int64)), .second, .val (.int (1 : Int32))] []))
                  refine own_via (fun _ k => XS.iload X21.here hx rfl (hb hby at_182) rfl k) ?_
                  show own_Go p e below s _ _ _ (T21.setTop (mkF m 184 #[.val (.int p0), .val (.int p1), .val (.long p2), .second, .val (.int (1 : Int32)), .val (.ref w1), .val (.long (1 : Int64)), .second, .val (.long (5 : Int64)), .second, .val (.long c20), .second, .val (.long r21), .second, .val (.int (1 : Int32)), .val (.int (1 : Int32)), .val (.long (5 : Int64)), .second, .val (.int (1 : Int32))] [(.int (1 : Int32))]))
                  refine own_via (fun _ k => XS.ifNo X21.here hx rfl (hb hby at_184) rfl ((if0 _ _).trans (feq (by decide : ¬ ((1 : Int32) = (0 : Int32)))).1) k) ?_
                  show own_Go p e below s _ _ _ (T21.setTop (mkF m 187 #[.val (.int p0), .val (.int p1), .val (.long p2), .second, .val (.int (1 : Int32)), .val (.ref w1), .val (.long (1 : Int64)), .second, .val (.long (5 : Int64)), .second, .val (.long c20), .second, .val (.long r21), .second, .val (.int (1 : Int32)), .val (.int (1 : Int32)), .val (.long (5 : Int64)), .second, .val (.int (1 : Int32))] []))
                  refine own_via (fun _ k => XS.iload X21.here hx rfl (hb hby at_187) rfl k) ?_
                  show own_Go p e below s _ _ _ (T21.setTop (mkF m 189 #[.val (.int p0), .val (.int p1), .val (.long p2), .second, .val (.int (1 : Int32)), .val (.ref w1), .val (.long (1 : Int64)), .second, .val (.long (5 : Int64)), .second, .val (.long c20), .second, .val (.long r21), .second, .val (.int (1 : Int32)), .val (.int (1 : Int32)), .val (.long (5 : Int64)), .second, .val (.int (1 : Int32))] [(.int (1 : Int32))]))
                  refine own_via (fun _ k => XS.ifNo X21.here hx rfl (hb hby at_189) rfl ((if0 _ _).trans (feq (by decide : ¬ ((1 : Int32) = (0 : Int32)))).1) k) ?_
                  show own_Go p e below s _ _ _ (T21.setTop (mkF m 192 #[.val (.int p0), .val (.int p1), .val (.long p2), .second, .val (.int (1 : Int32)), .val (.ref w1), .val (.long (1 : Int64)), .second, .val (.long (5 : Int64)), .second, .val (.long c20), .second, .val (.long r21), .second, .val (.int (1 : Int32)), .val (.int (1 : Int32)), .val (.long (5 : Int64)), .second, .val (.int (1 : Int32))] []))
                  refine own_via (fun _ k => XS.iload X21.here hx rfl (hb hby at_192) rfl k) ?_
                  show own_Go p e below s _ _ _ (T21.setTop (mkF m 194 #[.val (.int p0), .val (.int p1), .val (.long p2), .second, .val (.int (1 : Int32)), .val (.ref w1), .val (.long (1 : Int64)), .second, .val (.long (5 : Int64)), .second, .val (.long c20), .second, .val (.long r21), .second, .val (.int (1 : Int32)), .val (.int (1 : Int32)), .val (.long (5 : Int64)), .second, .val (.int (1 : Int32))] [(.int (1 : Int32))]))
                  refine own_via (fun _ k => XS.ifNo X21.here hx rfl (hb hby at_194) rfl ((if0 _ _).trans (feq (by decide : ¬ ((1 : Int32) = (0 : Int32)))).1) k) ?_
                  show own_Go p e below s _ _ _ (T21.setTop (mkF m 197 #[.val (.int p0), .val (.int p1), .val (.long p2), .second, .val (.int (1 : Int32)), .val (.ref w1), .val (.long (1 : Int64)), .second, .val (.long (5 : Int64)), .second, .val (.long c20), .second, .val (.long r21), .second, .val (.int (1 : Int32)), .val (.int (1 : Int32)), .val (.long (5 : Int64)), .second, .val (.int (1 : Int32))] []))
                  refine own_via (fun _ k => XS.iconst X21.here hx rfl (hb hby at_197) k) ?_
                  show own_Go p e below s _ _ _ (T21.setTop (mkF m 198 #[.val (.int p0), .val (.int p1), .val (.long p2), .second, .val (.int (1 : Int32)), .val (.ref w1), .val (.long (1 : Int64)), .second, .val (.long (5 : Int64)), .second, .val (.long c20), .second, .val (.long r21), .second, .val (.int (1 : Int32)), .val (.int (1 : Int32)), .val (.long (5 : Int64)), .second, .val (.int (1 : Int32))] [(.int (1 : Int32))]))
                  refine own_via (fun _ k => XS.goto X21.here hx rfl (pc0 := 198) (pc' := 202) rfl (hb hby at_198) (by decide) (by decide) k) ?_
                  show own_Go p e below s _ _ _ (T21.setTop (mkF m 202 #[.val (.int p0), .val (.int p1), .val (.long p2), .second, .val (.int (1 : Int32)), .val (.ref w1), .val (.long (1 : Int64)), .second, .val (.long (5 : Int64)), .second, .val (.long c20), .second, .val (.long r21), .second, .val (.int (1 : Int32)), .val (.int (1 : Int32)), .val (.long (5 : Int64)), .second, .val (.int (1 : Int32))] [(.int (1 : Int32))]))
                  exact own_retZ X21 hx hlk (t := .boolean) Bd.returns (by simp) (hb hby at_202) (z' := (1 : Int32)) (by first | rfl | decide) ⟨rfl, (Fr.nil n0)⟩ (by decide) (by decide)
              · refine own_via (fun _ k => XS.ifYes X21.here hx rfl (pc0 := 152) (pc' := 160) rfl (hb hby at_152) rfl ((if0 _ _).trans (flt (mt (lw_gt r21 (300 : Int64)).mp hc25)).2.2.2) (by decide) (by decide) k) ?_
                show own_Go p e below s _ _ _ (T21.setTop (mkF m 160 #[.val (.int p0), .val (.int p1), .val (.long p2), .second, .val (.int (1 : Int32)), .val (.ref w1), .val (.long (1 : Int64)), .second, .val (.long (5 : Int64)), .second, .val (.long c20), .second, .val (.long r21), .second, .val (.int (1 : Int32)), .val (.int (1 : Int32)), .unset, .unset, .unset] []))
                refine own_via (fun _ k => XS.lload X21.here hx rfl (hb hby at_160) rfl k) ?_
                show own_Go p e below s _ _ _ (T21.setTop (mkF m 162 #[.val (.int p0), .val (.int p1), .val (.long p2), .second, .val (.int (1 : Int32)), .val (.ref w1), .val (.long (1 : Int64)), .second, .val (.long (5 : Int64)), .second, .val (.long c20), .second, .val (.long r21), .second, .val (.int (1 : Int32)), .val (.int (1 : Int32)), .unset, .unset, .unset] [(.long (1 : Int64))]))
                refine own_via (fun _ k => XS.lstore X21.here hx rfl (hb hby at_162) rfl (l' := #[.val (.int p0), .val (.int p1), .val (.long p2), .second, .val (.int (1 : Int32)), .val (.ref w1), .val (.long (1 : Int64)), .second, .val (.long (5 : Int64)), .second, .val (.long c20), .second, .val (.long r21), .second, .val (.int (1 : Int32)), .val (.int (1 : Int32)), .val (.long (1 : Int64)), .second, .unset]) rfl k) ?_
                show own_Go p e below s _ _ _ (T21.setTop (mkF m 164 #[.val (.int p0), .val (.int p1), .val (.long p2), .second, .val (.int (1 : Int32)), .val (.ref w1), .val (.long (1 : Int64)), .second, .val (.long (5 : Int64)), .second, .val (.long c20), .second, .val (.long r21), .second, .val (.int (1 : Int32)), .val (.int (1 : Int32)), .val (.long (1 : Int64)), .second, .unset] []))
                refine own_via (fun _ k => XS.lload X21.here hx rfl (hb hby at_164) rfl k) ?_
                show own_Go p e below s _ _ _ (T21.setTop (mkF m 166 #[.val (.int p0), .val (.int p1), .val (.long p2), .second, .val (.int (1 : Int32)), .val (.ref w1), .val (.long (1 : Int64)), .second, .val (.long (5 : Int64)), .second, .val (.long c20), .second, .val (.long r21), .second, .val (.int (1 : Int32)), .val (.int (1 : Int32)), .val (.long (1 : Int64)), .second, .unset] [(.long r21)]))
                refine own_via (fun _ k => XS.lload X21.here hx rfl (hb hby at_166) rfl k) ?_
                show own_Go p e below s _ _ _ (T21.setTop (mkF m 168 #[.val (.int p0), .val (.int p1), .val (.long p2), .second, .val (.int (1 : Int32)), .val (.ref w1), .val (.long (1 : Int64)), .second, .val (.long (5 : Int64)), .second, .val (.long c20), .second, .val (.long r21), .second, .val (.int (1 : Int32)), .val (.int (1 : Int32)), .val (.long (1 : Int64)), .second, .unset] [(.long (1 : Int64)), (.long r21)]))
                refine own_via (fun _ k => XS.lsub X21.here hx rfl (hb hby at_168) rfl k) ?_
                show own_Go p e below s _ _ _ (T21.setTop (mkF m 169 #[.val (.int p0), .val (.int p1), .val (.long p2), .second, .val (.int (1 : Int32)), .val (.ref w1), .val (.long (1 : Int64)), .second, .val (.long (5 : Int64)), .second, .val (.long c20), .second, .val (.long r21), .second, .val (.int (1 : Int32)), .val (.int (1 : Int32)), .val (.long (1 : Int64)), .second, .unset] [(.long (r21 - (1 : Int64)))]))
                refine own_via (fun _ k => XS.lload X21.here hx rfl (hb hby at_169) rfl k) ?_
                show own_Go p e below s _ _ _ (T21.setTop (mkF m 171 #[.val (.int p0), .val (.int p1), .val (.long p2), .second, .val (.int (1 : Int32)), .val (.ref w1), .val (.long (1 : Int64)), .second, .val (.long (5 : Int64)), .second, .val (.long c20), .second, .val (.long r21), .second, .val (.int (1 : Int32)), .val (.int (1 : Int32)), .val (.long (1 : Int64)), .second, .unset] [(.long c20), (.long (r21 - (1 : Int64)))]))
                refine own_via (fun _ k => XS.lcmp X21.here hx rfl (hb hby at_171) rfl k) ?_
                show own_Go p e below s _ _ _ (T21.setTop (mkF m 172 #[.val (.int p0), .val (.int p1), .val (.long p2), .second, .val (.int (1 : Int32)), .val (.ref w1), .val (.long (1 : Int64)), .second, .val (.long (5 : Int64)), .second, .val (.long c20), .second, .val (.long r21), .second, .val (.int (1 : Int32)), .val (.int (1 : Int32)), .val (.long (1 : Int64)), .second, .unset] [(.int (lcmpW (r21 - (1 : Int64)) c20))]))
                by_cases hc27 : c20 < (r21 - (1 : Int64))
                · exfalso
                  have ar0 := rng64 c20
                  have ar1 := rng64 r21
                  have ar2 := c_lrem r21 (1 : Int64) 1 rfl
                  have ar3 := rng64 (r21 - (r21 / (1 : Int64)) * (1 : Int64))
                  have ar4 := c_lsub r21 (1 : Int64)
                  have ar5 := rng64 (r21 - (1 : Int64))
                  simp only [Int64.lt_iff_toInt_lt, ← Int64.toInt_inj, Int32.lt_iff_toInt_lt, ← Int32.toInt_inj, (show (0 : Int64).toInt = 0 from rfl), (show (1 : Int64).toInt = 1 from rfl), (show (300 : Int64).toInt = 300 from rfl)] at hc22 hc23 hc24 hc25 hc27 ar0 ar1 ar2 ar3 ar4 ar5
                  omega
                · refine own_via (fun _ k => XS.ifNo X21.here hx rfl (hb hby at_172) rfl ((if0 _ _).trans (flt (mt (lw_gt (r21 - (1 : Int64)) c20).mp hc27)).2.2.1) k) ?_
                  show own_Go p e below s _ _ _ (T21.setTop (mkF m 175 #[.val (.int p0), .val (.int p1), .val (.long p2), .second, .val (.int (1 : Int32)), .val (.ref w1), .val (.long (1 : Int64)), .second, .val (.long (5 : Int64)), .second, .val (.long c20), .second, .val (.long r21), .second, .val (.int (1 : Int32)), .val (.int (1 : Int32)), .val (.long (1 : Int64)), .second, .unset] []))
                  refine own_via (fun _ k => XS.iconst X21.here hx rfl (hb hby at_175) k) ?_
                  show own_Go p e below s _ _ _ (T21.setTop (mkF m 176 #[.val (.int p0), .val (.int p1), .val (.long p2), .second, .val (.int (1 : Int32)), .val (.ref w1), .val (.long (1 : Int64)), .second, .val (.long (5 : Int64)), .second, .val (.long c20), .second, .val (.long r21), .second, .val (.int (1 : Int32)), .val (.int (1 : Int32)), .val (.long (1 : Int64)), .second, .unset] [(.int (1 : Int32))]))
                  refine own_via (fun _ k => XS.goto X21.here hx rfl (pc0 := 176) (pc' := 180) rfl (hb hby at_176) (by decide) (by decide) k) ?_
                  show own_Go p e below s _ _ _ (T21.setTop (mkF m 180 #[.val (.int p0), .val (.int p1), .val (.long p2), .second, .val (.int (1 : Int32)), .val (.ref w1), .val (.long (1 : Int64)), .second, .val (.long (5 : Int64)), .second, .val (.long c20), .second, .val (.long r21), .second, .val (.int (1 : Int32)), .val (.int (1 : Int32)), .val (.long (1 : Int64)), .second, .unset] [(.int (1 : Int32))]))
                  refine own_via (fun _ k => XS.istore X21.here hx rfl (hb hby at_180) rfl (l' := #[.val (.int p0), .val (.int p1), .val (.long p2), .second, .val (.int (1 : Int32)), .val (.ref w1), .val (.long (1 : Int64)), .second, .val (.long (5 : Int64)), .second, .val (.long c20), .second, .val (.long r21), .second, .val (.int (1 : Int32)), .val (.int (1 : Int32)), .val (.long (1 : Int64)), .second, .val (.int (1 : Int32))]) rfl k) ?_
                  show own_Go p e below s _ _ _ (T21.setTop (mkF m 182 #[.val (.int p0), .val (.int p1), .val (.long p2), .second, .val (.int (1 : Int32)), .val (.ref w1), .val (.long (1 : Int64)), .second, .val (.long (5 : Int64)), .second, .val (.long c20), .second, .val (.long r21), .second, .val (.int (1 : Int32)), .val (.int (1 : Int32)), .val (.long (1 : Int64)), .second, .val (.int (1 : Int32))] []))
                  refine own_via (fun _ k => XS.iload X21.here hx rfl (hb hby at_182) rfl k) ?_
                  show own_Go p e below s _ _ _ (T21.setTop (mkF m 184 #[.val (.int p0), .val (.int p1), .val (.long p2), .second, .val (.int (1 : Int32)), .val (.ref w1), .val (.long (1 : Int64)), .second, .val (.long (5 : Int64)), .second, .val (.long c20), .second, .val (.long r21), .second, .val (.int (1 : Int32)), .val (.int (1 : Int32)), .val (.long (1 : Int64)), .second, .val (.int (1 : Int32))] [(.int (1 : Int32))]))
                  refine own_via (fun _ k => XS.ifNo X21.here hx rfl (hb hby at_184) rfl ((if0 _ _).trans (feq (by decide : ¬ ((1 : Int32) = (0 : Int32)))).1) k) ?_
                  show own_Go p e below s _ _ _ (T21.setTop (mkF m 187 #[.val (.int p0), .val (.int p1), .val (.long p2), .second, .val (.int (1 : Int32)), .val (.ref w1), .val (.long (1 : Int64)), .second, .val (.long (5 : Int64)), .second, .val (.long c20), .second, .val (.long r21), .second, .val (.int (1 : Int32)), .val (.int (1 : Int32)), .val (.long (1 : Int64)), .second, .val (.int (1 : Int32))] []))
                  refine own_via (fun _ k => XS.iload X21.here hx rfl (hb hby at_187) rfl k) ?_
                  show own_Go p e below s _ _ _ (T21.setTop (mkF m 189 #[.val (.int p0), .val (.int p1), .val (.long p2), .second, .val (.int (1 : Int32)), .val (.ref w1), .val (.long (1 : Int64)), .second, .val (.long (5 : Int64)), .second, .val (.long c20), .second, .val (.long r21), .second, .val (.int (1 : Int32)), .val (.int (1 : Int32)), .val (.long (1 : Int64)), .second, .val (.int (1 : Int32))] [(.int (1 : Int32))]))
                  refine own_via (fun _ k => XS.ifNo X21.here hx rfl (hb hby at_189) rfl ((if0 _ _).trans (feq (by decide : ¬ ((1 : Int32) = (0 : Int32)))).1) k) ?_
                  show own_Go p e below s _ _ _ (T21.setTop (mkF m 192 #[.val (.int p0), .val (.int p1), .val (.long p2), .second, .val (.int (1 : Int32)), .val (.ref w1), .val (.long (1 : Int64)), .second, .val (.long (5 : Int64)), .second, .val (.long c20), .second, .val (.long r21), .second, .val (.int (1 : Int32)), .val (.int (1 : Int32)), .val (.long (1 : Int64)), .second, .val (.int (1 : Int32))] []))
                  refine own_via (fun _ k => XS.iload X21.here hx rfl (hb hby at_192) rfl k) ?_
                  show own_Go p e below s _ _ _ (T21.setTop (mkF m 194 #[.val (.int p0), .val (.int p1), .val (.long p2), .second, .val (.int (1 : Int32)), .val (.ref w1), .val (.long (1 : Int64)), .second, .val (.long (5 : Int64)), .second, .val (.long c20), .second, .val (.long r21), .second, .val (.int (1 : Int32)), .val (.int (1 : Int32)), .val (.long (1 : Int64)), .second, .val (.int (1 : Int32))] [(.int (1 : Int32))]))
                  refine own_via (fun _ k => XS.ifNo X21.here hx rfl (hb hby at_194) rfl ((if0 _ _).trans (feq (by decide : ¬ ((1 : Int32) = (0 : Int32)))).1) k) ?_
                  show own_Go p e below s _ _ _ (T21.setTop (mkF m 197 #[.val (.int p0), .val (.int p1), .val (.long p2), .second, .val (.int (1 : Int32)), .val (.ref w1), .val (.long (1 : Int64)), .second, .val (.long (5 : Int64)), .second, .val (.long c20), .second, .val (.long r21), .second, .val (.int (1 : Int32)), .val (.int (1 : Int32)), .val (.long (1 : Int64)), .second, .val (.int (1 : Int32))] []))
                  refine own_via (fun _ k => XS.iconst X21.here hx rfl (hb hby at_197) k) ?_
                  show own_Go p e below s _ _ _ (T21.setTop (mkF m 198 #[.val (.int p0), .val (.int p1), .val (.long p2), .second, .val (.int (1 : Int32)), .val (.ref w1), .val (.long (1 : Int64)), .second, .val (.long (5 : Int64)), .second, .val (.long c20), .second, .val (.long r21), .second, .val (.int (1 : Int32)), .val (.int (1 : Int32)), .val (.long (1 : Int64)), .second, .val (.int (1 : Int32))] [(.int (1 : Int32))]))
                  refine own_via (fun _ k => XS.goto X21.here hx rfl (pc0 := 198) (pc' := 202) rfl (hb hby at_198) (by decide) (by decide) k) ?_
                  show own_Go p e below s _ _ _ (T21.setTop (mkF m 202 #[.val (.int p0), .val (.int p1), .val (.long p2), .second, .val (.int (1 : Int32)), .val (.ref w1), .val (.long (1 : Int64)), .second, .val (.long (5 : Int64)), .second, .val (.long c20), .second, .val (.long r21), .second, .val (.int (1 : Int32)), .val (.int (1 : Int32)), .val (.long (1 : Int64)), .second, .val (.int (1 : Int32))] [(.int (1 : Int32))]))
                  exact own_retZ X21 hx hlk (t := .boolean) Bd.returns (by simp) (hb hby at_202) (z' := (1 : Int32)) (by first | rfl | decide) ⟨rfl, (Fr.nil n0)⟩ (by decide) (by decide)
            · exfalso
              have ar0 := rng64 c20
              have ar1 := rng64 r21
              have ar2 := c_lrem r21 (1 : Int64) 1 rfl
              have ar3 := rng64 (r21 - (r21 / (1 : Int64)) * (1 : Int64))
              simp only [Int64.lt_iff_toInt_lt, ← Int64.toInt_inj, Int32.lt_iff_toInt_lt, ← Int32.toInt_inj, (show (0 : Int64).toInt = 0 from rfl), (show (1 : Int64).toInt = 1 from rfl), (show (300 : Int64).toInt = 300 from rfl)] at hc22 hc23 hc24 ar0 ar1 ar2 ar3
              omega
          · refine own_via (fun _ k => XS.ifYes X21.here hx rfl (pc0 := 123) (pc' := 131) rfl (hb hby at_123) rfl ((if0 _ _).trans (flt (mt (lw_lt r21 (300 : Int64)).mp hc23)).2.1) (by decide) (by decide) k) ?_
            show own_Go p e below s _ _ _ (T21.setTop (mkF m 131 #[.val (.int p0), .val (.int p1), .val (.long p2), .second, .val (.int (1 : Int32)), .val (.ref w1), .val (.long (1 : Int64)), .second, .val (.long (5 : Int64)), .second, .val (.long c20), .second, .val (.long r21), .second, .val (.int (1 : Int32)), .unset, .unset, .unset, .unset] [(.long r21)]))
            refine own_via (fun _ k => XS.lload X21.here hx rfl (hb hby at_131) rfl k) ?_
            show own_Go p e below s _ _ _ (T21.setTop (mkF m 133 #[.val (.int p0), .val (.int p1), .val (.long p2), .second, .val (.int (1 : Int32)), .val (.ref w1), .val (.long (1 : Int64)), .second, .val (.long (5 : Int64)), .second, .val (.long c20), .second, .val (.long r21), .second, .val (.int (1 : Int32)), .unset, .unset, .unset, .unset] [(.long (5 : Int64)), (.long r21)]))
            refine own_via (fun _ k => XS.lrem X21.here hx rfl (hb hby at_133) rfl (by decide : ¬ ((5 : Int64) = (0 : Int64))) k) ?_
            show own_Go p e below s _ _ _ (T21.setTop (mkF m 134 #[.val (.int p0), .val (.int p1), .val (.long p2), .second, .val (.int (1 : Int32)), .val (.ref w1), .val (.long (1 : Int64)), .second, .val (.long (5 : Int64)), .second, .val (.long c20), .second, .val (.long r21), .second, .val (.int (1 : Int32)), .unset, .unset, .unset, .unset] [(.long (r21 - (r21 / (5 : Int64)) * (5 : Int64)))]))
            refine own_via (fun _ k => XS.lconst X21.here hx rfl (hb hby at_134) k) ?_
            show own_Go p e below s _ _ _ (T21.setTop (mkF m 135 #[.val (.int p0), .val (.int p1), .val (.long p2), .second, .val (.int (1 : Int32)), .val (.ref w1), .val (.long (1 : Int64)), .second, .val (.long (5 : Int64)), .second, .val (.long c20), .second, .val (.long r21), .second, .val (.int (1 : Int32)), .unset, .unset, .unset, .unset] [(.long (0 : Int64)), (.long (r21 - (r21 / (5 : Int64)) * (5 : Int64)))]))
            refine own_via (fun _ k => XS.lcmp X21.here hx rfl (hb hby at_135) rfl k) ?_
            show own_Go p e below s _ _ _ (T21.setTop (mkF m 136 #[.val (.int p0), .val (.int p1), .val (.long p2), .second, .val (.int (1 : Int32)), .val (.ref w1), .val (.long (1 : Int64)), .second, .val (.long (5 : Int64)), .second, .val (.long c20), .second, .val (.long r21), .second, .val (.int (1 : Int32)), .unset, .unset, .unset, .unset] [(.int (lcmpW (r21 - (r21 / (5 : Int64)) * (5 : Int64)) (0 : Int64)))]))
            by_cases hc28 : (r21 - (r21 / (5 : Int64)) * (5 : Int64)) = (0 : Int64)
            · refine own_via (fun _ k => XS.ifNo X21.here hx rfl (hb hby at_136) rfl ((if0 _ _).trans (teq ((lw_eq (r21 - (r21 / (5 : Int64)) * (5 : Int64)) (0 : Int64)).mpr hc28)).2) k) ?_
              show own_Go p e below s _ _ _ (T21.setTop (mkF m 139 #[.val (.int p0), .val (.int p1), .val (.long p2), .second, .val (.int (1 : Int32)), .val (.ref w1), .val (.long (1 : Int64)), .second, .val (.long (5 : Int64)), .second, .val (.long c20), .second, .val (.long r21), .second, .val (.int (1 : Int32)), .unset, .unset, .unset, .unset] []))
              refine own_via (fun _ k => XS.iconst X21.here hx rfl (hb hby at_139) k) ?_
              show own_Go p e below s _ _ _ (T21.setTop (mkF m 140 #[.val (.int p0), .val (.int p1), .val (.long p2), .second, .val (.int (1 : Int32)), .val (.ref w1), .val (.long (1 : Int64)), .second, .val (.long (5 : Int64)), .second, .val (.long c20), .second, .val (.long r21), .second, .val (.int (1 : Int32)), .unset, .unset, .unset, .unset] [(.int (1 : Int32))]))
              refine own_via (fun _ k => XS.goto X21.here hx rfl (pc0 := 140) (pc' := 144) rfl (hb hby at_140) (by decide) (by decide) k) ?_
              show own_Go p e below s _ _ _ (T21.setTop (mkF m 144 #[.val (.int p0), .val (.int p1), .val (.long p2), .second, .val (.int (1 : Int32)), .val (.ref w1), .val (.long (1 : Int64)), .second, .val (.long (5 : Int64)), .second, .val (.long c20), .second, .val (.long r21), .second, .val (.int (1 : Int32)), .unset, .unset, .unset, .unset] [(.int (1 : Int32))]))
              refine own_via (fun _ k => XS.istore X21.here hx rfl (hb hby at_144) rfl (l' := #[.val (.int p0), .val (.int p1), .val (.long p2), .second, .val (.int (1 : Int32)), .val (.ref w1), .val (.long (1 : Int64)), .second, .val (.long (5 : Int64)), .second, .val (.long c20), .second, .val (.long r21), .second, .val (.int (1 : Int32)), .val (.int (1 : Int32)), .unset, .unset, .unset]) rfl k) ?_
              show own_Go p e below s _ _ _ (T21.setTop (mkF m 146 #[.val (.int p0), .val (.int p1), .val (.long p2), .second, .val (.int (1 : Int32)), .val (.ref w1), .val (.long (1 : Int64)), .second, .val (.long (5 : Int64)), .second, .val (.long c20), .second, .val (.long r21), .second, .val (.int (1 : Int32)), .val (.int (1 : Int32)), .unset, .unset, .unset] []))
              refine own_via (fun _ k => XS.lload X21.here hx rfl (hb hby at_146) rfl k) ?_
              show own_Go p e below s _ _ _ (T21.setTop (mkF m 148 #[.val (.int p0), .val (.int p1), .val (.long p2), .second, .val (.int (1 : Int32)), .val (.ref w1), .val (.long (1 : Int64)), .second, .val (.long (5 : Int64)), .second, .val (.long c20), .second, .val (.long r21), .second, .val (.int (1 : Int32)), .val (.int (1 : Int32)), .unset, .unset, .unset] [(.long r21)]))
              refine own_via (fun _ k => X21.ldc2Long hx hown (mvT hZ (hw _ (List.mem_of_getElem? (i := 16) rfl))) (g := (mkF m 148 #[.val (.int p0), .val (.int p1), .val (.long p2), .second, .val (.int (1 : Int32)), .val (.ref w1), .val (.long (1 : Int64)), .second, .val (.long (5 : Int64)), .second, .val (.long c20), .second, .val (.long r21), .second, .val (.int (1 : Int32)), .val (.int (1 : Int32)), .unset, .unset, .unset] [(.long r21)])) rfl (hb hby at_148) _ k) ?_
              show own_Go p e below s _ _ _ (T21.setTop (mkF m 151 #[.val (.int p0), .val (.int p1), .val (.long p2), .second, .val (.int (1 : Int32)), .val (.ref w1), .val (.long (1 : Int64)), .second, .val (.long (5 : Int64)), .second, .val (.long c20), .second, .val (.long r21), .second, .val (.int (1 : Int32)), .val (.int (1 : Int32)), .unset, .unset, .unset] [(.long (300 : Int64)), (.long r21)]))
              refine own_via (fun _ k => XS.lcmp X21.here hx rfl (hb hby at_151) rfl k) ?_
              show own_Go p e below s _ _ _ (T21.setTop (mkF m 152 #[.val (.int p0), .val (.int p1), .val (.long p2), .second, .val (.int (1 : Int32)), .val (.ref w1), .val (.long (1 : Int64)), .second, .val (.long (5 : Int64)), .second, .val (.long c20), .second, .val (.long r21), .second, .val (.int (1 : Int32)), .val (.int (1 : Int32)), .unset, .unset, .unset] [(.int (lcmpW r21 (300 : Int64)))]))
              by_cases hc29 : (300 : Int64) < r21
              · refine own_via (fun _ k => XS.ifNo X21.here hx rfl (hb hby at_152) rfl ((if0 _ _).trans (tlt ((lw_gt r21 (300 : Int64)).mpr hc29)).2.2.2) k) ?_
                show own_Go p e below s _ _ _ (T21.setTop (mkF m 155 #[.val (.int p0), .val (.int p1), .val (.long p2), .second, .val (.int (1 : Int32)), .val (.ref w1), .val (.long (1 : Int64)), .second, .val (.long (5 : Int64)), .second, .val (.long c20), .second, .val (.long r21), .second, .val (.int (1 : Int32)), .val (.int (1 : Int32)), .unset, .unset, .unset] []))
                refine own_via (fun _ k => XS.lload X21.here hx rfl (hb hby at_155) rfl k) ?_
                show own_Go p e below s _ _ _ (T21.setTop (mkF m 157 #[.val (.int p0), .val (.int p1), .val (.long p2), .second, .val (.int (1 : Int32)), .val (.ref w1), .val (.long (1 : Int64)), .second, .val (.long (5 : Int64)), .second, .val (.long c20), .second, .val (.long r21), .second, .val (.int (1 : Int32)), .val (.int (1 : Int32)), .unset, .unset, .unset] [(.long (5 : Int64))]))
                refine own_via (fun _ k => XS.goto X21.here hx rfl (pc0 := 157) (pc' := 162) rfl (hb hby at_157) (by decide) (by decide) k) ?_
                show own_Go p e below s _ _ _ (T21.setTop (mkF m 162 #[.val (.int p0), .val (.int p1), .val (.long p2), .second, .val (.int (1 : Int32)), .val (.ref w1), .val (.long (1 : Int64)), .second, .val (.long (5 : Int64)), .second, .val (.long c20), .second, .val (.long r21), .second, .val (.int (1 : Int32)), .val (.int (1 : Int32)), .unset, .unset, .unset] [(.long (5 : Int64))]))
                refine own_via (fun _ k => XS.lstore X21.here hx rfl (hb hby at_162) rfl (l' := #[.val (.int p0), .val (.int p1), .val (.long p2), .second, .val (.int (1 : Int32)), .val (.ref w1), .val (.long (1 : Int64)), .second, .val (.long (5 : Int64)), .second, .val (.long c20), .second, .val (.long r21), .second, .val (.int (1 : Int32)), .val (.int (1 : Int32)), .val (.long (5 : Int64)), .second, .unset]) rfl k) ?_
                show own_Go p e below s _ _ _ (T21.setTop (mkF m 164 #[.val (.int p0), .val (.int p1), .val (.long p2), .second, .val (.int (1 : Int32)), .val (.ref w1), .val (.long (1 : Int64)), .second, .val (.long (5 : Int64)), .second, .val (.long c20), .second, .val (.long r21), .second, .val (.int (1 : Int32)), .val (.int (1 : Int32)), .val (.long (5 : Int64)), .second, .unset] []))
                refine own_via (fun _ k => XS.lload X21.here hx rfl (hb hby at_164) rfl k) ?_
                show own_Go p e below s _ _ _ (T21.setTop (mkF m 166 #[.val (.int p0), .val (.int p1), .val (.long p2), .second, .val (.int (1 : Int32)), .val (.ref w1), .val (.long (1 : Int64)), .second, .val (.long (5 : Int64)), .second, .val (.long c20), .second, .val (.long r21), .second, .val (.int (1 : Int32)), .val (.int (1 : Int32)), .val (.long (5 : Int64)), .second, .unset] [(.long r21)]))
                refine own_via (fun _ k => XS.lload X21.here hx rfl (hb hby at_166) rfl k) ?_
                show own_Go p e below s _ _ _ (T21.setTop (mkF m 168 #[.val (.int p0), .val (.int p1), .val (.long p2), .second, .val (.int (1 : Int32)), .val (.ref w1), .val (.long (1 : Int64)), .second, .val (.long (5 : Int64)), .second, .val (.long c20), .second, .val (.long r21), .second, .val (.int (1 : Int32)), .val (.int (1 : Int32)), .val (.long (5 : Int64)), .second, .unset] [(.long (5 : Int64)), (.long r21)]))
                refine own_via (fun _ k => XS.lsub X21.here hx rfl (hb hby at_168) rfl k) ?_
                show own_Go p e below s _ _ _ (T21.setTop (mkF m 169 #[.val (.int p0), .val (.int p1), .val (.long p2), .second, .val (.int (1 : Int32)), .val (.ref w1), .val (.long (1 : Int64)), .second, .val (.long (5 : Int64)), .second, .val (.long c20), .second, .val (.long r21), .second, .val (.int (1 : Int32)), .val (.int (1 : Int32)), .val (.long (5 : Int64)), .second, .unset] [(.long (r21 - (5 : Int64)))]))
                refine own_via (fun _ k => XS.lload X21.here hx rfl (hb hby at_169) rfl k) ?_
                show own_Go p e below s _ _ _ (T21.setTop (mkF m 171 #[.val (.int p0), .val (.int p1), .val (.long p2), .second, .val (.int (1 : Int32)), .val (.ref w1), .val (.long (1 : Int64)), .second, .val (.long (5 : Int64)), .second, .val (.long c20), .second, .val (.long r21), .second, .val (.int (1 : Int32)), .val (.int (1 : Int32)), .val (.long (5 : Int64)), .second, .unset] [(.long c20), (.long (r21 - (5 : Int64)))]))
                refine own_via (fun _ k => XS.lcmp X21.here hx rfl (hb hby at_171) rfl k) ?_
                show own_Go p e below s _ _ _ (T21.setTop (mkF m 172 #[.val (.int p0), .val (.int p1), .val (.long p2), .second, .val (.int (1 : Int32)), .val (.ref w1), .val (.long (1 : Int64)), .second, .val (.long (5 : Int64)), .second, .val (.long c20), .second, .val (.long r21), .second, .val (.int (1 : Int32)), .val (.int (1 : Int32)), .val (.long (5 : Int64)), .second, .unset] [(.int (lcmpW (r21 - (5 : Int64)) c20))]))
                by_cases hc30 : c20 < (r21 - (5 : Int64))
                · exfalso
                  have ar0 := rng64 c20
                  have ar1 := rng64 r21
                  have ar2 := c_lrem r21 (5 : Int64) 5 rfl
                  have ar3 := rng64 (r21 - (r21 / (5 : Int64)) * (5 : Int64))
                  have ar4 := c_lsub r21 (5 : Int64)
                  have ar5 := rng64 (r21 - (5 : Int64))
                  simp only [Int64.lt_iff_toInt_lt, ← Int64.toInt_inj, Int32.lt_iff_toInt_lt, ← Int32.toInt_inj, (show (0 : Int64).toInt = 0 from rfl), (show (5 : Int64).toInt = 5 from rfl), (show (300 : Int64).toInt = 300 from rfl)] at hc22 hc23 hc28 hc29 hc30 ar0 ar1 ar2 ar3 ar4 ar5
                  omega
                · refine own_via (fun _ k => XS.ifNo X21.here hx rfl (hb hby at_172) rfl ((if0 _ _).trans (flt (mt (lw_gt (r21 - (5 : Int64)) c20).mp hc30)).2.2.1) k) ?_
                  show own_Go p e below s _ _ _ (T21.setTop (mkF m 175 #[.val (.int p0), .val (.int p1), .val (.long p2), .second, .val (.int (1 : Int32)), .val (.ref w1), .val (.long (1 : Int64)), .second, .val (.long (5 : Int64)), .second, .val (.long c20), .second, .val (.long r21), .second, .val (.int (1 : Int32)), .val (.int (1 : Int32)), .val (.long (5 : Int64)), .second, .unset] []))
                  refine own_via (fun _ k => XS.iconst X21.here hx rfl (hb hby at_175) k) ?_
                  show own_Go p e below s _ _ _ (T21.setTop (mkF m 176 #[.val (.int p0), .val (.int p1), .val (.long p2), .second, .val (.int (1 : Int32)), .val (.ref w1), .val (.long (1 : Int64)), .second, .val (.long (5 : Int64)), .second, .val (.long c20), .second, .val (.long r21), .second, .val (.int (1 : Int32)), .val (.int (1 : Int32)), .val (.long (5 : Int64)), .second, .unset] [(.int (1 : Int32))]))
                  refine own_via (fun _ k => XS.goto X21.here hx rfl (pc0 := 176) (pc' := 180) rfl (hb hby at_176) (by decide) (by decide) k) ?_
                  show own_Go p e below s _ _ _ (T21.setTop (mkF m 180 #[.val (.int p0), .val (.int p1), .val (.long p2), .second, .val (.int (1 : Int32)), .val (.ref w1), .val (.long (1 : Int64)), .second, .val (.long (5 : Int64)), .second, .val (.long c20), .second, .val (.long r21), .second, .val (.int (1 : Int32)), .val (.int (1 : Int32)), .val (.long (5 : Int64)), .second, .unset] [(.int (1 : Int32))]))
                  refine own_via (fun _ k => XS.istore X21.here hx rfl (hb hby at_180) rfl (l' := #[.val (.int p0), .val (.int p1), .val (.long p2), .second, .val (.int (1 : Int32)), .val (.ref w1), .val (.long (1 : Int64)), .second, .val (.long (5 : Int64)), .second, .val (.long c20), .second, .val (.long r21), .second, .val (.int (1 : Int32)), .val (.int (1 : Int32)), .val (.long (5 : Int64)), .second, .val (.int (1 : Int32))]) rfl k) ?_
                  show own_Go p e below s _ _ _ (T21.setTop (mkF m 182 #[.val (.int p0), .val (.int p1), .val (.long p2), .second, .val (.int (1 : Int32)), .val (.ref w1), .val (.long (1 : Int64)), .second, .val (.long (5 : Int64)), .second, .val (.long c20), .second, .val (.long r21), .second, .val (.int (1 : Int32)), .val (.int (1 : Int32)), .val (.long (5 : Int64)), .second, .val (.int (1 : Int32))] []))
                  refine own_via (fun _ k => XS.iload X21.here hx rfl (hb hby at_182) rfl k) ?_
                  show own_Go p e below s _ _ _ (T21.setTop (mkF m 184 #[.val (.int p0), .val (.int p1), .val (.long p2), .second, .val (.int (1 : Int32)), .val (.ref w1), .val (.long (1 : Int64)), .second, .val (.long (5 : Int64)), .second, .val (.long c20), .second, .val (.long r21), .second, .val (.int (1 : Int32)), .val (.int (1 : Int32)), .val (.long (5 : Int64)), .second, .val (.int (1 : Int32))] [(.int (1 : Int32))]))
                  refine own_via (fun _ k => XS.ifNo X21.here hx rfl (hb hby at_184) rfl ((if0 _ _).trans (feq (by decide : ¬ ((1 : Int32) = (0 : Int32)))).1) k) ?_
                  show own_Go p e below s _ _ _ (T21.setTop (mkF m 187 #[.val (.int p0), .val (.int p1), .val (.long p2), .second, .val (.int (1 : Int32)), .val (.ref w1), .val (.long (1 : Int64)), .second, .val (.long (5 : Int64)), .second, .val (.long c20), .second, .val (.long r21), .second, .val (.int (1 : Int32)), .val (.int (1 : Int32)), .val (.long (5 : Int64)), .second, .val (.int (1 : Int32))] []))
                  refine own_via (fun _ k => XS.iload X21.here hx rfl (hb hby at_187) rfl k) ?_
                  show own_Go p e below s _ _ _ (T21.setTop (mkF m 189 #[.val (.int p0), .val (.int p1), .val (.long p2), .second, .val (.int (1 : Int32)), .val (.ref w1), .val (.long (1 : Int64)), .second, .val (.long (5 : Int64)), .second, .val (.long c20), .second, .val (.long r21), .second, .val (.int (1 : Int32)), .val (.int (1 : Int32)), .val (.long (5 : Int64)), .second, .val (.int (1 : Int32))] [(.int (1 : Int32))]))
                  refine own_via (fun _ k => XS.ifNo X21.here hx rfl (hb hby at_189) rfl ((if0 _ _).trans (feq (by decide : ¬ ((1 : Int32) = (0 : Int32)))).1) k) ?_
                  show own_Go p e below s _ _ _ (T21.setTop (mkF m 192 #[.val (.int p0), .val (.int p1), .val (.long p2), .second, .val (.int (1 : Int32)), .val (.ref w1), .val (.long (1 : Int64)), .second, .val (.long (5 : Int64)), .second, .val (.long c20), .second, .val (.long r21), .second, .val (.int (1 : Int32)), .val (.int (1 : Int32)), .val (.long (5 : Int64)), .second, .val (.int (1 : Int32))] []))
                  refine own_via (fun _ k => XS.iload X21.here hx rfl (hb hby at_192) rfl k) ?_
                  show own_Go p e below s _ _ _ (T21.setTop (mkF m 194 #[.val (.int p0), .val (.int p1), .val (.long p2), .second, .val (.int (1 : Int32)), .val (.ref w1), .val (.long (1 : Int64)), .second, .val (.long (5 : Int64)), .second, .val (.long c20), .second, .val (.long r21), .second, .val (.int (1 : Int32)), .val (.int (1 : Int32)), .val (.long (5 : Int64)), .second, .val (.int (1 : Int32))] [(.int (1 : Int32))]))
                  refine own_via (fun _ k => XS.ifNo X21.here hx rfl (hb hby at_194) rfl ((if0 _ _).trans (feq (by decide : ¬ ((1 : Int32) = (0 : Int32)))).1) k) ?_
                  show own_Go p e below s _ _ _ (T21.setTop (mkF m 197 #[.val (.int p0), .val (.int p1), .val (.long p2), .second, .val (.int (1 : Int32)), .val (.ref w1), .val (.long (1 : Int64)), .second, .val (.long (5 : Int64)), .second, .val (.long c20), .second, .val (.long r21), .second, .val (.int (1 : Int32)), .val (.int (1 : Int32)), .val (.long (5 : Int64)), .second, .val (.int (1 : Int32))] []))
                  refine own_via (fun _ k => XS.iconst X21.here hx rfl (hb hby at_197) k) ?_
                  show own_Go p e below s _ _ _ (T21.setTop (mkF m 198 #[.val (.int p0), .val (.int p1), .val (.long p2), .second, .val (.int (1 : Int32)), .val (.ref w1), .val (.long (1 : Int64)), .second, .val (.long (5 : Int64)), .second, .val (.long c20), .second, .val (.long r21), .second, .val (.int (1 : Int32)), .val (.int (1 : Int32)), .val (.long (5 : Int64)), .second, .val (.int (1 : Int32))] [(.int (1 : Int32))]))
                  refine own_via (fun _ k => XS.goto X21.here hx rfl (pc0 := 198) (pc' := 202) rfl (hb hby at_198) (by decide) (by decide) k) ?_
                  show own_Go p e below s _ _ _ (T21.setTop (mkF m 202 #[.val (.int p0), .val (.int p1), .val (.long p2), .second, .val (.int (1 : Int32)), .val (.ref w1), .val (.long (1 : Int64)), .second, .val (.long (5 : Int64)), .second, .val (.long c20), .second, .val (.long r21), .second, .val (.int (1 : Int32)), .val (.int (1 : Int32)), .val (.long (5 : Int64)), .second, .val (.int (1 : Int32))] [(.int (1 : Int32))]))
                  exact own_retZ X21 hx hlk (t := .boolean) Bd.returns (by simp) (hb hby at_202) (z' := (1 : Int32)) (by first | rfl | decide) ⟨rfl, (Fr.nil n0)⟩ (by decide) (by decide)
              · refine own_via (fun _ k => XS.ifYes X21.here hx rfl (pc0 := 152) (pc' := 160) rfl (hb hby at_152) rfl ((if0 _ _).trans (flt (mt (lw_gt r21 (300 : Int64)).mp hc29)).2.2.2) (by decide) (by decide) k) ?_
                show own_Go p e below s _ _ _ (T21.setTop (mkF m 160 #[.val (.int p0), .val (.int p1), .val (.long p2), .second, .val (.int (1 : Int32)), .val (.ref w1), .val (.long (1 : Int64)), .second, .val (.long (5 : Int64)), .second, .val (.long c20), .second, .val (.long r21), .second, .val (.int (1 : Int32)), .val (.int (1 : Int32)), .unset, .unset, .unset] []))
                refine own_via (fun _ k => XS.lload X21.here hx rfl (hb hby at_160) rfl k) ?_
                show own_Go p e below s _ _ _ (T21.setTop (mkF m 162 #[.val (.int p0), .val (.int p1), .val (.long p2), .second, .val (.int (1 : Int32)), .val (.ref w1), .val (.long (1 : Int64)), .second, .val (.long (5 : Int64)), .second, .val (.long c20), .second, .val (.long r21), .second, .val (.int (1 : Int32)), .val (.int (1 : Int32)), .unset, .unset, .unset] [(.long (1 : Int64))]))
                refine own_via (fun _ k => XS.lstore X21.here hx rfl (hb hby at_162) rfl (l' := #[.val (.int p0), .val (.int p1), .val (.long p2), .second, .val (.int (1 : Int32)), .val (.ref w1), .val (.long (1 : Int64)), .second, .val (.long (5 : Int64)), .second, .val (.long c20), .second, .val (.long r21), .second, .val (.int (1 : Int32)), .val (.int (1 : Int32)), .val (.long (1 : Int64)), .second, .unset]) rfl k) ?_
                show own_Go p e below s _ _ _ (T21.setTop (mkF m 164 #[.val (.int p0), .val (.int p1), .val (.long p2), .second, .val (.int (1 : Int32)), .val (.ref w1), .val (.long (1 : Int64)), .second, .val (.long (5 : Int64)), .second, .val (.long c20), .second, .val (.long r21), .second, .val (.int (1 : Int32)), .val (.int (1 : Int32)), .val (.long (1 : Int64)), .second, .unset] []))
                refine own_via (fun _ k => XS.lload X21.here hx rfl (hb hby at_164) rfl k) ?_
                show own_Go p e below s _ _ _ (T21.setTop (mkF m 166 #[.val (.int p0), .val (.int p1), .val (.long p2), .second, .val (.int (1 : Int32)), .val (.ref w1), .val (.long (1 : Int64)), .second, .val (.long (5 : Int64)), .second, .val (.long c20), .second, .val (.long r21), .second, .val (.int (1 : Int32)), .val (.int (1 : Int32)), .val (.long (1 : Int64)), .second, .unset] [(.long r21)]))
                refine own_via (fun _ k => XS.lload X21.here hx rfl (hb hby at_166) rfl k) ?_
                show own_Go p e below s _ _ _ (T21.setTop (mkF m 168 #[.val (.int p0), .val (.int p1), .val (.long p2), .second, .val (.int (1 : Int32)), .val (.ref w1), .val (.long (1 : Int64)), .second, .val (.long (5 : Int64)), .second, .val (.long c20), .second, .val (.long r21), .second, .val (.int (1 : Int32)), .val (.int (1 : Int32)), .val (.long (1 : Int64)), .second, .unset] [(.long (1 : Int64)), (.long r21)]))
                refine own_via (fun _ k => XS.lsub X21.here hx rfl (hb hby at_168) rfl k) ?_
                show own_Go p e below s _ _ _ (T21.setTop (mkF m 169 #[.val (.int p0), .val (.int p1), .val (.long p2), .second, .val (.int (1 : Int32)), .val (.ref w1), .val (.long (1 : Int64)), .second, .val (.long (5 : Int64)), .second, .val (.long c20), .second, .val (.long r21), .second, .val (.int (1 : Int32)), .val (.int (1 : Int32)), .val (.long (1 : Int64)), .second, .unset] [(.long (r21 - (1 : Int64)))]))
                refine own_via (fun _ k => XS.lload X21.here hx rfl (hb hby at_169) rfl k) ?_
                show own_Go p e below s _ _ _ (T21.setTop (mkF m 171 #[.val (.int p0), .val (.int p1), .val (.long p2), .second, .val (.int (1 : Int32)), .val (.ref w1), .val (.long (1 : Int64)), .second, .val (.long (5 : Int64)), .second, .val (.long c20), .second, .val (.long r21), .second, .val (.int (1 : Int32)), .val (.int (1 : Int32)), .val (.long (1 : Int64)), .second, .unset] [(.long c20), (.long (r21 - (1 : Int64)))]))
                refine own_via (fun _ k => XS.lcmp X21.here hx rfl (hb hby at_171) rfl k) ?_
                show own_Go p e below s _ _ _ (T21.setTop (mkF m 172 #[.val (.int p0), .val (.int p1), .val (.long p2), .second, .val (.int (1 : Int32)), .val (.ref w1), .val (.long (1 : Int64)), .second, .val (.long (5 : Int64)), .second, .val (.long c20), .second, .val (.long r21), .second, .val (.int (1 : Int32)), .val (.int (1 : Int32)), .val (.long (1 : Int64)), .second, .unset] [(.int (lcmpW (r21 - (1 : Int64)) c20))]))
                by_cases hc31 : c20 < (r21 - (1 : Int64))
                · exfalso
                  have ar0 := rng64 c20
                  have ar1 := rng64 r21
                  have ar2 := c_lrem r21 (5 : Int64) 5 rfl
                  have ar3 := rng64 (r21 - (r21 / (5 : Int64)) * (5 : Int64))
                  have ar4 := c_lsub r21 (1 : Int64)
                  have ar5 := rng64 (r21 - (1 : Int64))
                  simp only [Int64.lt_iff_toInt_lt, ← Int64.toInt_inj, Int32.lt_iff_toInt_lt, ← Int32.toInt_inj, (show (0 : Int64).toInt = 0 from rfl), (show (1 : Int64).toInt = 1 from rfl), (show (5 : Int64).toInt = 5 from rfl), (show (300 : Int64).toInt = 300 from rfl)] at hc22 hc23 hc28 hc29 hc31 ar0 ar1 ar2 ar3 ar4 ar5
                  omega
                · refine own_via (fun _ k => XS.ifNo X21.here hx rfl (hb hby at_172) rfl ((if0 _ _).trans (flt (mt (lw_gt (r21 - (1 : Int64)) c20).mp hc31)).2.2.1) k) ?_
                  show own_Go p e below s _ _ _ (T21.setTop (mkF m 175 #[.val (.int p0), .val (.int p1), .val (.long p2), .second, .val (.int (1 : Int32)), .val (.ref w1), .val (.long (1 : Int64)), .second, .val (.long (5 : Int64)), .second, .val (.long c20), .second, .val (.long r21), .second, .val (.int (1 : Int32)), .val (.int (1 : Int32)), .val (.long (1 : Int64)), .second, .unset] []))
                  refine own_via (fun _ k => XS.iconst X21.here hx rfl (hb hby at_175) k) ?_
                  show own_Go p e below s _ _ _ (T21.setTop (mkF m 176 #[.val (.int p0), .val (.int p1), .val (.long p2), .second, .val (.int (1 : Int32)), .val (.ref w1), .val (.long (1 : Int64)), .second, .val (.long (5 : Int64)), .second, .val (.long c20), .second, .val (.long r21), .second, .val (.int (1 : Int32)), .val (.int (1 : Int32)), .val (.long (1 : Int64)), .second, .unset] [(.int (1 : Int32))]))
                  refine own_via (fun _ k => XS.goto X21.here hx rfl (pc0 := 176) (pc' := 180) rfl (hb hby at_176) (by decide) (by decide) k) ?_
                  show own_Go p e below s _ _ _ (T21.setTop (mkF m 180 #[.val (.int p0), .val (.int p1), .val (.long p2), .second, .val (.int (1 : Int32)), .val (.ref w1), .val (.long (1 : Int64)), .second, .val (.long (5 : Int64)), .second, .val (.long c20), .second, .val (.long r21), .second, .val (.int (1 : Int32)), .val (.int (1 : Int32)), .val (.long (1 : Int64)), .second, .unset] [(.int (1 : Int32))]))
                  refine own_via (fun _ k => XS.istore X21.here hx rfl (hb hby at_180) rfl (l' := #[.val (.int p0), .val (.int p1), .val (.long p2), .second, .val (.int (1 : Int32)), .val (.ref w1), .val (.long (1 : Int64)), .second, .val (.long (5 : Int64)), .second, .val (.long c20), .second, .val (.long r21), .second, .val (.int (1 : Int32)), .val (.int (1 : Int32)), .val (.long (1 : Int64)), .second, .val (.int (1 : Int32))]) rfl k) ?_
                  show own_Go p e below s _ _ _ (T21.setTop (mkF m 182 #[.val (.int p0), .val (.int p1), .val (.long p2), .second, .val (.int (1 : Int32)), .val (.ref w1), .val (.long (1 : Int64)), .second, .val (.long (5 : Int64)), .second, .val (.long c20), .second, .val (.long r21), .second, .val (.int (1 : Int32)), .val (.int (1 : Int32)), .val (.long (1 : Int64)), .second, .val (.int (1 : Int32))] []))
                  refine own_via (fun _ k => XS.iload X21.here hx rfl (hb hby at_182) rfl k) ?_
                  show own_Go p e below s _ _ _ (T21.setTop (mkF m 184 #[.val (.int p0), .val (.int p1), .val (.long p2), .second, .val (.int (1 : Int32)), .val (.ref w1), .val (.long (1 : Int64)), .second, .val (.long (5 : Int64)), .second, .val (.long c20), .second, .val (.long r21), .second, .val (.int (1 : Int32)), .val (.int (1 : Int32)), .val (.long (1 : Int64)), .second, .val (.int (1 : Int32))] [(.int (1 : Int32))]))
                  refine own_via (fun _ k => XS.ifNo X21.here hx rfl (hb hby at_184) rfl ((if0 _ _).trans (feq (by decide : ¬ ((1 : Int32) = (0 : Int32)))).1) k) ?_
                  show own_Go p e below s _ _ _ (T21.setTop (mkF m 187 #[.val (.int p0), .val (.int p1), .val (.long p2), .second, .val (.int (1 : Int32)), .val (.ref w1), .val (.long (1 : Int64)), .second, .val (.long (5 : Int64)), .second, .val (.long c20), .second, .val (.long r21), .second, .val (.int (1 : Int32)), .val (.int (1 : Int32)), .val (.long (1 : Int64)), .second, .val (.int (1 : Int32))] []))
                  refine own_via (fun _ k => XS.iload X21.here hx rfl (hb hby at_187) rfl k) ?_
                  show own_Go p e below s _ _ _ (T21.setTop (mkF m 189 #[.val (.int p0), .val (.int p1), .val (.long p2), .second, .val (.int (1 : Int32)), .val (.ref w1), .val (.long (1 : Int64)), .second, .val (.long (5 : Int64)), .second, .val (.long c20), .second, .val (.long r21), .second, .val (.int (1 : Int32)), .val (.int (1 : Int32)), .val (.long (1 : Int64)), .second, .val (.int (1 : Int32))] [(.int (1 : Int32))]))
                  refine own_via (fun _ k => XS.ifNo X21.here hx rfl (hb hby at_189) rfl ((if0 _ _).trans (feq (by decide : ¬ ((1 : Int32) = (0 : Int32)))).1) k) ?_
                  show own_Go p e below s _ _ _ (T21.setTop (mkF m 192 #[.val (.int p0), .val (.int p1), .val (.long p2), .second, .val (.int (1 : Int32)), .val (.ref w1), .val (.long (1 : Int64)), .second, .val (.long (5 : Int64)), .second, .val (.long c20), .second, .val (.long r21), .second, .val (.int (1 : Int32)), .val (.int (1 : Int32)), .val (.long (1 : Int64)), .second, .val (.int (1 : Int32))] []))
                  refine own_via (fun _ k => XS.iload X21.here hx rfl (hb hby at_192) rfl k) ?_
                  show own_Go p e below s _ _ _ (T21.setTop (mkF m 194 #[.val (.int p0), .val (.int p1), .val (.long p2), .second, .val (.int (1 : Int32)), .val (.ref w1), .val (.long (1 : Int64)), .second, .val (.long (5 : Int64)), .second, .val (.long c20), .second, .val (.long r21), .second, .val (.int (1 : Int32)), .val (.int (1 : Int32)), .val (.long (1 : Int64)), .second, .val (.int (1 : Int32))] [(.int (1 : Int32))]))
                  refine own_via (fun _ k => XS.ifNo X21.here hx rfl (hb hby at_194) rfl ((if0 _ _).trans (feq (by decide : ¬ ((1 : Int32) = (0 : Int32)))).1) k) ?_
                  show own_Go p e below s _ _ _ (T21.setTop (mkF m 197 #[.val (.int p0), .val (.int p1), .val (.long p2), .second, .val (.int (1 : Int32)), .val (.ref w1), .val (.long (1 : Int64)), .second, .val (.long (5 : Int64)), .second, .val (.long c20), .second, .val (.long r21), .second, .val (.int (1 : Int32)), .val (.int (1 : Int32)), .val (.long (1 : Int64)), .second, .val (.int (1 : Int32))] []))
                  refine own_via (fun _ k => XS.iconst X21.here hx rfl (hb hby at_197) k) ?_
                  show own_Go p e below s _ _ _ (T21.setTop (mkF m 198 #[.val (.int p0), .val (.int p1), .val (.long p2), .second, .val (.int (1 : Int32)), .val (.ref w1), .val (.long (1 : Int64)), .second, .val (.long (5 : Int64)), .second, .val (.long c20), .second, .val (.long r21), .second, .val (.int (1 : Int32)), .val (.int (1 : Int32)), .val (.long (1 : Int64)), .second, .val (.int (1 : Int32))] [(.int (1 : Int32))]))
                  refine own_via (fun _ k => XS.goto X21.here hx rfl (pc0 := 198) (pc' := 202) rfl (hb hby at_198) (by decide) (by decide) k) ?_
                  show own_Go p e below s _ _ _ (T21.setTop (mkF m 202 #[.val (.int p0), .val (.int p1), .val (.long p2), .second, .val (.int (1 : Int32)), .val (.ref w1), .val (.long (1 : Int64)), .second, .val (.long (5 : Int64)), .second, .val (.long c20), .second, .val (.long r21), .second, .val (.int (1 : Int32)), .val (.int (1 : Int32)), .val (.long (1 : Int64)), .second, .val (.int (1 : Int32))] [(.int (1 : Int32))]))
                  exact own_retZ X21 hx hlk (t := .boolean) Bd.returns (by simp) (hb hby at_202) (z' := (1 : Int32)) (by first | rfl | decide) ⟨rfl, (Fr.nil n0)⟩ (by decide) (by decide)
            · exfalso
              have ar0 := rng64 c20
              have ar1 := rng64 r21
              have ar2 := c_lrem r21 (5 : Int64) 5 rfl
              have ar3 := rng64 (r21 - (r21 / (5 : Int64)) * (5 : Int64))
              simp only [Int64.lt_iff_toInt_lt, ← Int64.toInt_inj, Int32.lt_iff_toInt_lt, ← Int32.toInt_inj, (show (0 : Int64).toInt = 0 from rfl), (show (5 : Int64).toInt = 5 from rfl), (show (300 : Int64).toInt = 300 from rfl)] at hc22 hc23 hc28 ar0 ar1 ar2 ar3
              omega
        · exfalso
          have ar0 := rng64 c20
          have ar1 := rng64 r21
          simp only [Int64.lt_iff_toInt_lt, ← Int64.toInt_inj, Int32.lt_iff_toInt_lt, ← Int32.toInt_inj] at hc22 ar0 ar1
          omega
      show own_Go p e below s _ _ _ (T20.setTop (mkF m 91 #[.val (.int p0), .val (.int p1), .val (.long p2), .second, .val (.int (1 : Int32)), .val (.ref w1), .val (.long (1 : Int64)), .second, .val (.long (5 : Int64)), .second, .val (.long c20), .second, .unset, .unset, .unset, .unset, .unset, .unset, .unset] []))
      refine own_via (fun _ k => XS.aload X20.here hx rfl (hb hby at_91) rfl rfl k) ?_
      show own_Go p e below s _ _ _ (T20.setTop (mkF m 93 #[.val (.int p0), .val (.int p1), .val (.long p2), .second, .val (.int (1 : Int32)), .val (.ref w1), .val (.long (1 : Int64)), .second, .val (.long (5 : Int64)), .second, .val (.long c20), .second, .unset, .unset, .unset, .unset, .unset, .unset, .unset] [(.ref w1)]))
      refine own_via (fun _ k => XS.lload X20.here hx rfl (hb hby at_93) rfl k) ?_
      show own_Go p e below s _ _ _ (T20.setTop (mkF m 95 #[.val (.int p0), .val (.int p1), .val (.long p2), .second, .val (.int (1 : Int32)), .val (.ref w1), .val (.long (1 : Int64)), .second, .val (.long (5 : Int64)), .second, .val (.long c20), .second, .unset, .unset, .unset, .unset, .unset, .unset, .unset] [(.long c20), (.ref w1)]))
      obtain ⟨cq32, kq32, q32a, q32b, q32c⟩ := isOf hZ e20 E_w1
      obtain ⟨_, _, ⟨T32, L32, k32, n32⟩, -, X32, ⟨Lc32, hQ32, l32, y32, z32⟩, st32⟩ := X20.virtualBack hx (y := (⟨"com/example/strikeline/strikeline/PennyProgram", "priceAbove", "(J)J"⟩ : MethodName)) (z := (⟨"com/example/strikeline/strikeline/PennyProgram", "priceAbove", "(J)J"⟩ : MethodName)) hown (mvT hZ (hw _ (List.mem_of_getElem? (i := 8) rfl))) (mvT hZ (hw _ (List.mem_of_getElem? (i := 9) rfl))) (notFace_of_selects (args := #[]) (mvT hZ (hw _ (List.mem_of_getElem? (i := 11) rfl)))) (mvT hZ (hw _ (List.mem_of_getElem? (i := 11) rfl))) (mvT hZ (hw _ (List.mem_of_getElem? (i := 10) rfl))) (by decide) (backOf (W := 0) (rm1_1 l Z a0 hw [] c20 w0 w1 w2 h0 n0 Z0 K0) hZ (hw _ (List.mem_of_getElem? (i := 12) rfl)) (hw _ (List.mem_of_getElem? (i := 2) rfl)) (by decide) (by decide)) q32a q32c (g := (mkF m 95 #[.val (.int p0), .val (.int p1), .val (.long p2), .second, .val (.int (1 : Int32)), .val (.ref w1), .val (.long (1 : Int64)), .second, .val (.long (5 : Int64)), .second, .val (.long c20), .second, .unset, .unset, .unset, .unset, .unset, .unset, .unset] [(.long c20), (.ref w1)])) rfl (by rw [hml]; rfl) (Steps.refl _) (argsL := [(.long c20)]) (rest := []) (lenOf pd0 rfl) rfl (by show 2 * 0 + _ ≤ _; exact Nat.le_of_eq rfl) (hb hby at_95) (fun _ _ => ⟨rfl, e20, (by decide : 0 + 0 ≤ _), (by decide : 0 + 0 ≤ _)⟩)
      dsimp only [Pt.U, Pt.locs, Pt.cells, Pt.slots] at X32 l32 y32 z32 st32 hQ32
      subst l32 y32 z32
      obtain ⟨rfl, e32, hO32⟩ := hQ32
      rcases hO32 with ⟨hr32_0_0, rfl⟩ | ⟨hr32_1_0, rfl⟩
      · refine own_tr st32 ?_
        show own_Go p e below s _ _ _ (T32.setTop (mkF m 98 #[.val (.int p0), .val (.int p1), .val (.long p2), .second, .val (.int (1 : Int32)), .val (.ref w1), .val (.long (1 : Int64)), .second, .val (.long (5 : Int64)), .second, .val (.long c20), .second, .unset, .unset, .unset, .unset, .unset, .unset, .unset] [(.long (((c20 / (1 : Int64)) + (1 : Int64)) * (1 : Int64)))]))
        exact J21 T32 X32 e32 (((c20 / (1 : Int64)) + (1 : Int64)) * (1 : Int64)) (Or.inl ⟨own_ltL hr32_0_0, own_above1 _ hb20⟩)
      · refine own_tr st32 ?_
        show own_Go p e below s _ _ _ (T32.setTop (mkF m 98 #[.val (.int p0), .val (.int p1), .val (.long p2), .second, .val (.int (1 : Int32)), .val (.ref w1), .val (.long (1 : Int64)), .second, .val (.long (5 : Int64)), .second, .val (.long c20), .second, .unset, .unset, .unset, .unset, .unset, .unset, .unset] [(.long (((c20 / (5 : Int64)) + (1 : Int64)) * (5 : Int64)))]))
        exact J21 T32 X32 e32 (((c20 / (5 : Int64)) + (1 : Int64)) * (5 : Int64)) (Or.inr ⟨own_geL hr32_1_0, own_above5 _ hb20⟩)
    show own_Go p e below s _ _ _ (T19.setTop (mkF m 64 #[.val (.int p0), .val (.int p1), .val (.long p2), .second, .val (.int (1 : Int32)), .val (.ref w1), .val (.long (1 : Int64)), .second, .val (.long (5 : Int64)), .second, .unset, .unset, .unset, .unset, .unset, .unset, .unset, .unset, .unset] []))
    refine own_via (fun _ k => XS.iloadN X19.here hx rfl (hb hby at_64) rfl k) ?_
    show own_Go p e below s _ _ _ (T19.setTop (mkF m 65 #[.val (.int p0), .val (.int p1), .val (.long p2), .second, .val (.int (1 : Int32)), .val (.ref w1), .val (.long (1 : Int64)), .second, .val (.long (5 : Int64)), .second, .unset, .unset, .unset, .unset, .unset, .unset, .unset, .unset, .unset] [(.int p1)]))
    refine own_via (fun _ k => XS.iconst X19.here hx rfl (hb hby at_65) k) ?_
    show own_Go p e below s _ _ _ (T19.setTop (mkF m 66 #[.val (.int p0), .val (.int p1), .val (.long p2), .second, .val (.int (1 : Int32)), .val (.ref w1), .val (.long (1 : Int64)), .second, .val (.long (5 : Int64)), .second, .unset, .unset, .unset, .unset, .unset, .unset, .unset, .unset, .unset] [(.int (1 : Int32)), (.int p1)]))
    refine own_via (fun _ k => XS.iand X19.here hx rfl (hb hby at_66) rfl k) ?_
    show own_Go p e below s _ _ _ (T19.setTop (mkF m 67 #[.val (.int p0), .val (.int p1), .val (.long p2), .second, .val (.int (1 : Int32)), .val (.ref w1), .val (.long (1 : Int64)), .second, .val (.long (5 : Int64)), .second, .unset, .unset, .unset, .unset, .unset, .unset, .unset, .unset, .unset] [(.int (p1 &&& (1 : Int32)))]))
    by_cases hc33 : (p1 &&& (1 : Int32)) = (0 : Int32)
    · refine own_via (fun _ k => XS.ifYes X19.here hx rfl (pc0 := 67) (pc' := 84) rfl (hb hby at_67) rfl ((if0 _ _).trans (teq hc33).1) (by decide) (by decide) k) ?_
      show own_Go p e below s _ _ _ (T19.setTop (mkF m 84 #[.val (.int p0), .val (.int p1), .val (.long p2), .second, .val (.int (1 : Int32)), .val (.ref w1), .val (.long (1 : Int64)), .second, .val (.long (5 : Int64)), .second, .unset, .unset, .unset, .unset, .unset, .unset, .unset, .unset, .unset] []))
      refine own_via (fun _ k => XS.lloadN X19.here hx rfl (hb hby at_84) rfl k) ?_
      show own_Go p e below s _ _ _ (T19.setTop (mkF m 85 #[.val (.int p0), .val (.int p1), .val (.long p2), .second, .val (.int (1 : Int32)), .val (.ref w1), .val (.long (1 : Int64)), .second, .val (.long (5 : Int64)), .second, .unset, .unset, .unset, .unset, .unset, .unset, .unset, .unset, .unset] [(.long p2)]))
      refine own_via (fun _ k => X19.ldc2Long hx hown (mvT hZ (hw _ (List.mem_of_getElem? (i := 21) rfl))) (g := (mkF m 85 #[.val (.int p0), .val (.int p1), .val (.long p2), .second, .val (.int (1 : Int32)), .val (.ref w1), .val (.long (1 : Int64)), .second, .val (.long (5 : Int64)), .second, .unset, .unset, .unset, .unset, .unset, .unset, .unset, .unset, .unset] [(.long p2)])) rfl (hb hby at_85) _ k) ?_
      show own_Go p e below s _ _ _ (T19.setTop (mkF m 88 #[.val (.int p0), .val (.int p1), .val (.long p2), .second, .val (.int (1 : Int32)), .val (.ref w1), .val (.long (1 : Int64)), .second, .val (.long (5 : Int64)), .second, .unset, .unset, .unset, .unset, .unset, .unset, .unset, .unset, .unset] [(.long (4611686018427387903 : Int64)), (.long p2)]))
      refine own_via (fun _ k => XS.land X19.here hx rfl (hb hby at_88) rfl k) ?_
      show own_Go p e below s _ _ _ (T19.setTop (mkF m 89 #[.val (.int p0), .val (.int p1), .val (.long p2), .second, .val (.int (1 : Int32)), .val (.ref w1), .val (.long (1 : Int64)), .second, .val (.long (5 : Int64)), .second, .unset, .unset, .unset, .unset, .unset, .unset, .unset, .unset, .unset] [(.long (p2 &&& (4611686018427387903 : Int64)))]))
      refine own_via (fun _ k => XS.lstore X19.here hx rfl (hb hby at_89) rfl (l' := #[.val (.int p0), .val (.int p1), .val (.long p2), .second, .val (.int (1 : Int32)), .val (.ref w1), .val (.long (1 : Int64)), .second, .val (.long (5 : Int64)), .second, .val (.long (p2 &&& (4611686018427387903 : Int64))), .second, .unset, .unset, .unset, .unset, .unset, .unset, .unset]) rfl k) ?_
      show own_Go p e below s _ _ _ (T19.setTop (mkF m 91 #[.val (.int p0), .val (.int p1), .val (.long p2), .second, .val (.int (1 : Int32)), .val (.ref w1), .val (.long (1 : Int64)), .second, .val (.long (5 : Int64)), .second, .val (.long (p2 &&& (4611686018427387903 : Int64))), .second, .unset, .unset, .unset, .unset, .unset, .unset, .unset] []))
      exact J20 T19 X19 e19 (p2 &&& (4611686018427387903 : Int64)) (own_c89 _)
    · refine own_via (fun _ k => XS.ifNo X19.here hx rfl (hb hby at_67) rfl ((if0 _ _).trans (feq hc33).1) k) ?_
      show own_Go p e below s _ _ _ (T19.setTop (mkF m 70 #[.val (.int p0), .val (.int p1), .val (.long p2), .second, .val (.int (1 : Int32)), .val (.ref w1), .val (.long (1 : Int64)), .second, .val (.long (5 : Int64)), .second, .unset, .unset, .unset, .unset, .unset, .unset, .unset, .unset, .unset] []))
      refine own_via (fun _ k => X19.ldc2Long hx hown (mvT hZ (hw _ (List.mem_of_getElem? (i := 6) rfl))) (g := (mkF m 70 #[.val (.int p0), .val (.int p1), .val (.long p2), .second, .val (.int (1 : Int32)), .val (.ref w1), .val (.long (1 : Int64)), .second, .val (.long (5 : Int64)), .second, .unset, .unset, .unset, .unset, .unset, .unset, .unset, .unset, .unset] [])) rfl (hb hby at_70) _ k) ?_
      show own_Go p e below s _ _ _ (T19.setTop (mkF m 73 #[.val (.int p0), .val (.int p1), .val (.long p2), .second, .val (.int (1 : Int32)), .val (.ref w1), .val (.long (1 : Int64)), .second, .val (.long (5 : Int64)), .second, .unset, .unset, .unset, .unset, .unset, .unset, .unset, .unset, .unset] [(.long (280 : Int64))]))
      refine own_via (fun _ k => XS.lloadN X19.here hx rfl (hb hby at_73) rfl k) ?_
      show own_Go p e below s _ _ _ (T19.setTop (mkF m 74 #[.val (.int p0), .val (.int p1), .val (.long p2), .second, .val (.int (1 : Int32)), .val (.ref w1), .val (.long (1 : Int64)), .second, .val (.long (5 : Int64)), .second, .unset, .unset, .unset, .unset, .unset, .unset, .unset, .unset, .unset] [(.long p2), (.long (280 : Int64))]))
      refine own_via (fun _ k => X19.ldc2Long hx hown (mvT hZ (hw _ (List.mem_of_getElem? (i := 7) rfl))) (g := (mkF m 74 #[.val (.int p0), .val (.int p1), .val (.long p2), .second, .val (.int (1 : Int32)), .val (.ref w1), .val (.long (1 : Int64)), .second, .val (.long (5 : Int64)), .second, .unset, .unset, .unset, .unset, .unset, .unset, .unset, .unset, .unset] [(.long p2), (.long (280 : Int64))])) rfl (hb hby at_74) _ k) ?_
      show own_Go p e below s _ _ _ (T19.setTop (mkF m 77 #[.val (.int p0), .val (.int p1), .val (.long p2), .second, .val (.int (1 : Int32)), .val (.ref w1), .val (.long (1 : Int64)), .second, .val (.long (5 : Int64)), .second, .unset, .unset, .unset, .unset, .unset, .unset, .unset, .unset, .unset] [(.long (63 : Int64)), (.long p2), (.long (280 : Int64))]))
      refine own_via (fun _ k => XS.land X19.here hx rfl (hb hby at_77) rfl k) ?_
      show own_Go p e below s _ _ _ (T19.setTop (mkF m 78 #[.val (.int p0), .val (.int p1), .val (.long p2), .second, .val (.int (1 : Int32)), .val (.ref w1), .val (.long (1 : Int64)), .second, .val (.long (5 : Int64)), .second, .unset, .unset, .unset, .unset, .unset, .unset, .unset, .unset, .unset] [(.long (p2 &&& (63 : Int64))), (.long (280 : Int64))]))
      refine own_via (fun _ k => XS.ladd X19.here hx rfl (hb hby at_78) rfl k) ?_
      show own_Go p e below s _ _ _ (T19.setTop (mkF m 79 #[.val (.int p0), .val (.int p1), .val (.long p2), .second, .val (.int (1 : Int32)), .val (.ref w1), .val (.long (1 : Int64)), .second, .val (.long (5 : Int64)), .second, .unset, .unset, .unset, .unset, .unset, .unset, .unset, .unset, .unset] [(.long ((280 : Int64) + (p2 &&& (63 : Int64))))]))
      refine own_via (fun _ k => XS.lstore X19.here hx rfl (hb hby at_79) rfl (l' := #[.val (.int p0), .val (.int p1), .val (.long p2), .second, .val (.int (1 : Int32)), .val (.ref w1), .val (.long (1 : Int64)), .second, .val (.long (5 : Int64)), .second, .val (.long ((280 : Int64) + (p2 &&& (63 : Int64)))), .second, .unset, .unset, .unset, .unset, .unset, .unset, .unset]) rfl k) ?_
      show own_Go p e below s _ _ _ (T19.setTop (mkF m 81 #[.val (.int p0), .val (.int p1), .val (.long p2), .second, .val (.int (1 : Int32)), .val (.ref w1), .val (.long (1 : Int64)), .second, .val (.long (5 : Int64)), .second, .val (.long ((280 : Int64) + (p2 &&& (63 : Int64)))), .second, .unset, .unset, .unset, .unset, .unset, .unset, .unset] []))
      refine own_via (fun _ k => XS.goto X19.here hx rfl (pc0 := 81) (pc' := 91) rfl (hb hby at_81) (by decide) (by decide) k) ?_
      show own_Go p e below s _ _ _ (T19.setTop (mkF m 91 #[.val (.int p0), .val (.int p1), .val (.long p2), .second, .val (.int (1 : Int32)), .val (.ref w1), .val (.long (1 : Int64)), .second, .val (.long (5 : Int64)), .second, .val (.long ((280 : Int64) + (p2 &&& (63 : Int64)))), .second, .unset, .unset, .unset, .unset, .unset, .unset, .unset] []))
      exact J20 T19 X19 e19 ((280 : Int64) + (p2 &&& (63 : Int64))) (own_c79 _)
  · rw [hk3]
    show own_Go p e below s _ _ _ (s₁.setTop (mkF m 6 #[.val (.int p0), .val (.int p1), .val (.long p2), .second, .unset, .unset, .unset, .unset, .unset, .unset, .unset, .unset, .unset, .unset, .unset, .unset, .unset, .unset, .unset] [(.int (2 : Int32))]))
    refine own_via (fun _ k => XS.istore X0.here hx rfl (hb hby at_6) rfl (l' := #[.val (.int p0), .val (.int p1), .val (.long p2), .second, .val (.int (2 : Int32)), .unset, .unset, .unset, .unset, .unset, .unset, .unset, .unset, .unset, .unset, .unset, .unset, .unset, .unset]) rfl k) ?_
    show own_Go p e below s _ _ _ (s₁.setTop (mkF m 8 #[.val (.int p0), .val (.int p1), .val (.long p2), .second, .val (.int (2 : Int32)), .unset, .unset, .unset, .unset, .unset, .unset, .unset, .unset, .unset, .unset, .unset, .unset, .unset, .unset] []))
    refine own_via (fun _ k => XS.iload X0.here hx rfl (hb hby at_8) rfl k) ?_
    show own_Go p e below s _ _ _ (s₁.setTop (mkF m 10 #[.val (.int p0), .val (.int p1), .val (.long p2), .second, .val (.int (2 : Int32)), .unset, .unset, .unset, .unset, .unset, .unset, .unset, .unset, .unset, .unset, .unset, .unset, .unset, .unset] [(.int (2 : Int32))]))
    refine own_via (fun _ k => XS.ifYes X0.here hx rfl (pc0 := 10) (pc' := 31) rfl (hb hby at_10) rfl ((if0 _ _).trans (feq (by decide : ¬ ((2 : Int32) = (0 : Int32)))).2) (by decide) (by decide) k) ?_
    show own_Go p e below s _ _ _ (s₁.setTop (mkF m 31 #[.val (.int p0), .val (.int p1), .val (.long p2), .second, .val (.int (2 : Int32)), .unset, .unset, .unset, .unset, .unset, .unset, .unset, .unset, .unset, .unset, .unset, .unset, .unset, .unset] []))
    refine own_via (fun _ k => XS.iload X0.here hx rfl (hb hby at_31) rfl k) ?_
    show own_Go p e below s _ _ _ (s₁.setTop (mkF m 33 #[.val (.int p0), .val (.int p1), .val (.long p2), .second, .val (.int (2 : Int32)), .unset, .unset, .unset, .unset, .unset, .unset, .unset, .unset, .unset, .unset, .unset, .unset, .unset, .unset] [(.int (2 : Int32))]))
    refine own_via (fun _ k => XS.iconst X0.here hx rfl (hb hby at_33) k) ?_
    show own_Go p e below s _ _ _ (s₁.setTop (mkF m 34 #[.val (.int p0), .val (.int p1), .val (.long p2), .second, .val (.int (2 : Int32)), .unset, .unset, .unset, .unset, .unset, .unset, .unset, .unset, .unset, .unset, .unset, .unset, .unset, .unset] [(.int (1 : Int32)), (.int (2 : Int32))]))
    refine own_via (fun _ k => XS.icmpYes X0.here hx rfl (pc0 := 34) (pc' := 53) rfl (hb hby at_34) rfl (feq (by decide : ¬ ((2 : Int32) = (1 : Int32)))).2 (by decide) (by decide) k) ?_
    show own_Go p e below s _ _ _ (s₁.setTop (mkF m 53 #[.val (.int p0), .val (.int p1), .val (.long p2), .second, .val (.int (2 : Int32)), .unset, .unset, .unset, .unset, .unset, .unset, .unset, .unset, .unset, .unset, .unset, .unset, .unset, .unset] []))
    obtain ⟨T34, X34, e34, st34⟩ := getS2 X0 hx hZ hown (host := "") (Or.inl (hw _ (List.mem_of_getElem? (i := 22) rfl))) Via.refl e0 S_w2 (g := (mkF m 53 #[.val (.int p0), .val (.int p1), .val (.long p2), .second, .val (.int (2 : Int32)), .unset, .unset, .unset, .unset, .unset, .unset, .unset, .unset, .unset, .unset, .unset, .unset, .unset, .unset] [])) rfl (hb hby at_53)
    refine own_via st34 ?_
    show own_Go p e below s _ _ _ (T34.setTop (mkF m 56 #[.val (.int p0), .val (.int p1), .val (.long p2), .second, .val (.int (2 : Int32)), .unset, .unset, .unset, .unset, .unset, .unset, .unset, .unset, .unset, .unset, .unset, .unset, .unset, .unset] [(.ref w2)]))
    refine own_via (fun _ k => XS.astore X34.here hx rfl (hb hby at_56) rfl rfl (l' := #[.val (.int p0), .val (.int p1), .val (.long p2), .second, .val (.int (2 : Int32)), .val (.ref w2), .unset, .unset, .unset, .unset, .unset, .unset, .unset, .unset, .unset, .unset, .unset, .unset, .unset]) rfl k) ?_
    show own_Go p e below s _ _ _ (T34.setTop (mkF m 58 #[.val (.int p0), .val (.int p1), .val (.long p2), .second, .val (.int (2 : Int32)), .val (.ref w2), .unset, .unset, .unset, .unset, .unset, .unset, .unset, .unset, .unset, .unset, .unset, .unset, .unset] []))
    refine own_via (fun _ k => XS.lconst X34.here hx rfl (hb hby at_58) k) ?_
    show own_Go p e below s _ _ _ (T34.setTop (mkF m 59 #[.val (.int p0), .val (.int p1), .val (.long p2), .second, .val (.int (2 : Int32)), .val (.ref w2), .unset, .unset, .unset, .unset, .unset, .unset, .unset, .unset, .unset, .unset, .unset, .unset, .unset] [(.long (1 : Int64))]))
    refine own_via (fun _ k => XS.lstore X34.here hx rfl (hb hby at_59) rfl (l' := #[.val (.int p0), .val (.int p1), .val (.long p2), .second, .val (.int (2 : Int32)), .val (.ref w2), .val (.long (1 : Int64)), .second, .unset, .unset, .unset, .unset, .unset, .unset, .unset, .unset, .unset, .unset, .unset]) rfl k) ?_
    show own_Go p e below s _ _ _ (T34.setTop (mkF m 61 #[.val (.int p0), .val (.int p1), .val (.long p2), .second, .val (.int (2 : Int32)), .val (.ref w2), .val (.long (1 : Int64)), .second, .unset, .unset, .unset, .unset, .unset, .unset, .unset, .unset, .unset, .unset, .unset] []))
    refine own_via (fun _ k => XS.lconst X34.here hx rfl (hb hby at_61) k) ?_
    show own_Go p e below s _ _ _ (T34.setTop (mkF m 62 #[.val (.int p0), .val (.int p1), .val (.long p2), .second, .val (.int (2 : Int32)), .val (.ref w2), .val (.long (1 : Int64)), .second, .unset, .unset, .unset, .unset, .unset, .unset, .unset, .unset, .unset, .unset, .unset] [(.long (1 : Int64))]))
    refine own_via (fun _ k => XS.lstore X34.here hx rfl (hb hby at_62) rfl (l' := #[.val (.int p0), .val (.int p1), .val (.long p2), .second, .val (.int (2 : Int32)), .val (.ref w2), .val (.long (1 : Int64)), .second, .val (.long (1 : Int64)), .second, .unset, .unset, .unset, .unset, .unset, .unset, .unset, .unset, .unset]) rfl k) ?_
    have J35 : ∀ (T35 : State) (X35 : Stand p l e room_1 s m #[(.int p0), (.int p1), (.long p2)] below meth c T35 [] 0 0) (e35 : T35.heap = h0) (c35 : Int64) (hb35 : 0 ≤ c35.toInt ∧ c35.toInt ≤ 4611686018427387903), own_Go p e below s (Q0 n0) 0 0 (T35.setTop (mkF m 91 #[.val (.int p0), .val (.int p1), .val (.long p2), .second, .val (.int (2 : Int32)), .val (.ref w2), .val (.long (1 : Int64)), .second, .val (.long (1 : Int64)), .second, .val (.long c35), .second, .unset, .unset, .unset, .unset, .unset, .unset, .unset] [])) := by
      intro T35 X35 e35 c35 hb35
      have J36 : ∀ (T36 : State) (X36 : Stand p l e room_1 s m #[(.int p0), (.int p1), (.long p2)] below meth c T36 [] 0 0) (e36 : T36.heap = h0) (r36 : Int64) (hb36 : (c35.toInt < 300 ∧ r36.toInt = (c35.toInt / 1 + 1) * 1) ∨ (300 ≤ c35.toInt ∧ r36.toInt = (c35.toInt / 1 + 1) * 1)), own_Go p e below s (Q0 n0) 0 0 (T36.setTop (mkF m 98 #[.val (.int p0), .val (.int p1), .val (.long p2), .second, .val (.int (2 : Int32)), .val (.ref w2), .val (.long (1 : Int64)), .second, .val (.long (1 : Int64)), .second, .val (.long c35), .second, .unset, .unset, .unset, .unset, .unset, .unset, .unset] [(.long r36)])) := by
        intro T36 X36 e36 r36 hb36
        show own_Go p e below s _ _ _ (T36.setTop (mkF m 98 #[.val (.int p0), .val (.int p1), .val (.long p2), .second, .val (.int (2 : Int32)), .val (.ref w2), .val (.long (1 : Int64)), .second, .val (.long (1 : Int64)), .second, .val (.long c35), .second, .unset, .unset, .unset, .unset, .unset, .unset, .unset] [(.long r36)]))
        refine own_via (fun _ k => XS.lstore X36.here hx rfl (hb hby at_98) rfl (l' := #[.val (.int p0), .val (.int p1), .val (.long p2), .second, .val (.int (2 : Int32)), .val (.ref w2), .val (.long (1 : Int64)), .second, .val (.long (1 : Int64)), .second, .val (.long c35), .second, .val (.long r36), .second, .unset, .unset, .unset, .unset, .unset]) rfl k) ?_
        show own_Go p e below s _ _ _ (T36.setTop (mkF m 100 #[.val (.int p0), .val (.int p1), .val (.long p2), .second, .val (.int (2 : Int32)), .val (.ref w2), .val (.long (1 : Int64)), .second, .val (.long (1 : Int64)), .second, .val (.long c35), .second, .val (.long r36), .second, .unset, .unset, .unset, .unset, .unset] []))
        refine own_via (fun _ k => XS.lload X36.here hx rfl (hb hby at_100) rfl k) ?_
        show own_Go p e below s _ _ _ (T36.setTop (mkF m 102 #[.val (.int p0), .val (.int p1), .val (.long p2), .second, .val (.int (2 : Int32)), .val (.ref w2), .val (.long (1 : Int64)), .second, .val (.long (1 : Int64)), .second, .val (.long c35), .second, .val (.long r36), .second, .unset, .unset, .unset, .unset, .unset] [(.long r36)]))
        refine own_via (fun _ k => XS.lload X36.here hx rfl (hb hby at_102) rfl k) ?_
        show own_Go p e below s _ _ _ (T36.setTop (mkF m 104 #[.val (.int p0), .val (.int p1), .val (.long p2), .second, .val (.int (2 : Int32)), .val (.ref w2), .val (.long (1 : Int64)), .second, .val (.long (1 : Int64)), .second, .val (.long c35), .second, .val (.long r36), .second, .unset, .unset, .unset, .unset, .unset] [(.long c35), (.long r36)]))
        refine own_via (fun _ k => XS.lcmp X36.here hx rfl (hb hby at_104) rfl k) ?_
        show own_Go p e below s _ _ _ (T36.setTop (mkF m 105 #[.val (.int p0), .val (.int p1), .val (.long p2), .second, .val (.int (2 : Int32)), .val (.ref w2), .val (.long (1 : Int64)), .second, .val (.long (1 : Int64)), .second, .val (.long c35), .second, .val (.long r36), .second, .unset, .unset, .unset, .unset, .unset] [(.int (lcmpW r36 c35))]))
        by_cases hc37 : c35 < r36
        · refine own_via (fun _ k => XS.ifNo X36.here hx rfl (hb hby at_105) rfl ((if0 _ _).trans (tlt ((lw_gt r36 c35).mpr hc37)).2.2.2) k) ?_
          show own_Go p e below s _ _ _ (T36.setTop (mkF m 108 #[.val (.int p0), .val (.int p1), .val (.long p2), .second, .val (.int (2 : Int32)), .val (.ref w2), .val (.long (1 : Int64)), .second, .val (.long (1 : Int64)), .second, .val (.long c35), .second, .val (.long r36), .second, .unset, .unset, .unset, .unset, .unset] []))
          refine own_via (fun _ k => XS.iconst X36.here hx rfl (hb hby at_108) k) ?_
          show own_Go p e below s _ _ _ (T36.setTop (mkF m 109 #[.val (.int p0), .val (.int p1), .val (.long p2), .second, .val (.int (2 : Int32)), .val (.ref w2), .val (.long (1 : Int64)), .second, .val (.long (1 : Int64)), .second, .val (.long c35), .second, .val (.long r36), .second, .unset, .unset, .unset, .unset, .unset] [(.int (1 : Int32))]))
          refine own_via (fun _ k => XS.goto X36.here hx rfl (pc0 := 109) (pc' := 113) rfl (hb hby at_109) (by decide) (by decide) k) ?_
          show own_Go p e below s _ _ _ (T36.setTop (mkF m 113 #[.val (.int p0), .val (.int p1), .val (.long p2), .second, .val (.int (2 : Int32)), .val (.ref w2), .val (.long (1 : Int64)), .second, .val (.long (1 : Int64)), .second, .val (.long c35), .second, .val (.long r36), .second, .unset, .unset, .unset, .unset, .unset] [(.int (1 : Int32))]))
          refine own_via (fun _ k => XS.istore X36.here hx rfl (hb hby at_113) rfl (l' := #[.val (.int p0), .val (.int p1), .val (.long p2), .second, .val (.int (2 : Int32)), .val (.ref w2), .val (.long (1 : Int64)), .second, .val (.long (1 : Int64)), .second, .val (.long c35), .second, .val (.long r36), .second, .val (.int (1 : Int32)), .unset, .unset, .unset, .unset]) rfl k) ?_
          show own_Go p e below s _ _ _ (T36.setTop (mkF m 115 #[.val (.int p0), .val (.int p1), .val (.long p2), .second, .val (.int (2 : Int32)), .val (.ref w2), .val (.long (1 : Int64)), .second, .val (.long (1 : Int64)), .second, .val (.long c35), .second, .val (.long r36), .second, .val (.int (1 : Int32)), .unset, .unset, .unset, .unset] []))
          refine own_via (fun _ k => XS.lload X36.here hx rfl (hb hby at_115) rfl k) ?_
          show own_Go p e below s _ _ _ (T36.setTop (mkF m 117 #[.val (.int p0), .val (.int p1), .val (.long p2), .second, .val (.int (2 : Int32)), .val (.ref w2), .val (.long (1 : Int64)), .second, .val (.long (1 : Int64)), .second, .val (.long c35), .second, .val (.long r36), .second, .val (.int (1 : Int32)), .unset, .unset, .unset, .unset] [(.long r36)]))
          refine own_via (fun _ k => XS.lload X36.here hx rfl (hb hby at_117) rfl k) ?_
          show own_Go p e below s _ _ _ (T36.setTop (mkF m 119 #[.val (.int p0), .val (.int p1), .val (.long p2), .second, .val (.int (2 : Int32)), .val (.ref w2), .val (.long (1 : Int64)), .second, .val (.long (1 : Int64)), .second, .val (.long c35), .second, .val (.long r36), .second, .val (.int (1 : Int32)), .unset, .unset, .unset, .unset] [(.long r36), (.long r36)]))
          refine own_via (fun _ k => X36.ldc2Long hx hown (mvT hZ (hw _ (List.mem_of_getElem? (i := 16) rfl))) (g := (mkF m 119 #[.val (.int p0), .val (.int p1), .val (.long p2), .second, .val (.int (2 : Int32)), .val (.ref w2), .val (.long (1 : Int64)), .second, .val (.long (1 : Int64)), .second, .val (.long c35), .second, .val (.long r36), .second, .val (.int (1 : Int32)), .unset, .unset, .unset, .unset] [(.long r36), (.long r36)])) rfl (hb hby at_119) _ k) ?_
          show own_Go p e below s _ _ _ (T36.setTop (mkF m 122 #[.val (.int p0), .val (.int p1), .val (.long p2), .second, .val (.int (2 : Int32)), .val (.ref w2), .val (.long (1 : Int64)), .second, .val (.long (1 : Int64)), .second, .val (.long c35), .second, .val (.long r36), .second, .val (.int (1 : Int32)), .unset, .unset, .unset, .unset] [(.long (300 : Int64)), (.long r36), (.long r36)]))
          refine own_via (fun _ k => XS.lcmp X36.here hx rfl (hb hby at_122) rfl k) ?_
          show own_Go p e below s _ _ _ (T36.setTop (mkF m 123 #[.val (.int p0), .val (.int p1), .val (.long p2), .second, .val (.int (2 : Int32)), .val (.ref w2), .val (.long (1 : Int64)), .second, .val (.long (1 : Int64)), .second, .val (.long c35), .second, .val (.long r36), .second, .val (.int (1 : Int32)), .unset, .unset, .unset, .unset] [(.int (lcmpW r36 (300 : Int64))), (.long r36)]))
          by_cases hc38 : r36 < (300 : Int64)
          · refine own_via (fun _ k => XS.ifNo X36.here hx rfl (hb hby at_123) rfl ((if0 _ _).trans (tlt ((lw_lt r36 (300 : Int64)).mpr hc38)).2.1) k) ?_
            show own_Go p e below s _ _ _ (T36.setTop (mkF m 126 #[.val (.int p0), .val (.int p1), .val (.long p2), .second, .val (.int (2 : Int32)), .val (.ref w2), .val (.long (1 : Int64)), .second, .val (.long (1 : Int64)), .second, .val (.long c35), .second, .val (.long r36), .second, .val (.int (1 : Int32)), .unset, .unset, .unset, .unset] [(.long r36)]))
            refine own_via (fun _ k => XS.lload X36.here hx rfl (hb hby at_126) rfl k) ?_
            show own_Go p e below s _ _ _ (T36.setTop (mkF m 128 #[.val (.int p0), .val (.int p1), .val (.long p2), .second, .val (.int (2 : Int32)), .val (.ref w2), .val (.long (1 : Int64)), .second, .val (.long (1 : Int64)), .second, .val (.long c35), .second, .val (.long r36), .second, .val (.int (1 : Int32)), .unset, .unset, .unset, .unset] [(.long (1 : Int64)), (.long r36)]))
            refine own_via (fun _ k => XS.goto X36.here hx rfl (pc0 := 128) (pc' := 133) rfl (hb hby at_128) (by decide) (by decide) k) ?_
            show own_Go p e below s _ _ _ (T36.setTop (mkF m 133 #[.val (.int p0), .val (.int p1), .val (.long p2), .second, .val (.int (2 : Int32)), .val (.ref w2), .val (.long (1 : Int64)), .second, .val (.long (1 : Int64)), .second, .val (.long c35), .second, .val (.long r36), .second, .val (.int (1 : Int32)), .unset, .unset, .unset, .unset] [(.long (1 : Int64)), (.long r36)]))
            refine own_via (fun _ k => XS.lrem X36.here hx rfl (hb hby at_133) rfl (by decide : ¬ ((1 : Int64) = (0 : Int64))) k) ?_
            show own_Go p e below s _ _ _ (T36.setTop (mkF m 134 #[.val (.int p0), .val (.int p1), .val (.long p2), .second, .val (.int (2 : Int32)), .val (.ref w2), .val (.long (1 : Int64)), .second, .val (.long (1 : Int64)), .second, .val (.long c35), .second, .val (.long r36), .second, .val (.int (1 : Int32)), .unset, .unset, .unset, .unset] [(.long (r36 - (r36 / (1 : Int64)) * (1 : Int64)))]))
            refine own_via (fun _ k => XS.lconst X36.here hx rfl (hb hby at_134) k) ?_
            show own_Go p e below s _ _ _ (T36.setTop (mkF m 135 #[.val (.int p0), .val (.int p1), .val (.long p2), .second, .val (.int (2 : Int32)), .val (.ref w2), .val (.long (1 : Int64)), .second, .val (.long (1 : Int64)), .second, .val (.long c35), .second, .val (.long r36), .second, .val (.int (1 : Int32)), .unset, .unset, .unset, .unset] [(.long (0 : Int64)), (.long (r36 - (r36 / (1 : Int64)) * (1 : Int64)))]))
            refine own_via (fun _ k => XS.lcmp X36.here hx rfl (hb hby at_135) rfl k) ?_
            show own_Go p e below s _ _ _ (T36.setTop (mkF m 136 #[.val (.int p0), .val (.int p1), .val (.long p2), .second, .val (.int (2 : Int32)), .val (.ref w2), .val (.long (1 : Int64)), .second, .val (.long (1 : Int64)), .second, .val (.long c35), .second, .val (.long r36), .second, .val (.int (1 : Int32)), .unset, .unset, .unset, .unset] [(.int (lcmpW (r36 - (r36 / (1 : Int64)) * (1 : Int64)) (0 : Int64)))]))
            by_cases hc39 : (r36 - (r36 / (1 : Int64)) * (1 : Int64)) = (0 : Int64)
            · refine own_via (fun _ k => XS.ifNo X36.here hx rfl (hb hby at_136) rfl ((if0 _ _).trans (teq ((lw_eq (r36 - (r36 / (1 : Int64)) * (1 : Int64)) (0 : Int64)).mpr hc39)).2) k) ?_
              show own_Go p e below s _ _ _ (T36.setTop (mkF m 139 #[.val (.int p0), .val (.int p1), .val (.long p2), .second, .val (.int (2 : Int32)), .val (.ref w2), .val (.long (1 : Int64)), .second, .val (.long (1 : Int64)), .second, .val (.long c35), .second, .val (.long r36), .second, .val (.int (1 : Int32)), .unset, .unset, .unset, .unset] []))
              refine own_via (fun _ k => XS.iconst X36.here hx rfl (hb hby at_139) k) ?_
              show own_Go p e below s _ _ _ (T36.setTop (mkF m 140 #[.val (.int p0), .val (.int p1), .val (.long p2), .second, .val (.int (2 : Int32)), .val (.ref w2), .val (.long (1 : Int64)), .second, .val (.long (1 : Int64)), .second, .val (.long c35), .second, .val (.long r36), .second, .val (.int (1 : Int32)), .unset, .unset, .unset, .unset] [(.int (1 : Int32))]))
              refine own_via (fun _ k => XS.goto X36.here hx rfl (pc0 := 140) (pc' := 144) rfl (hb hby at_140) (by decide) (by decide) k) ?_
              show own_Go p e below s _ _ _ (T36.setTop (mkF m 144 #[.val (.int p0), .val (.int p1), .val (.long p2), .second, .val (.int (2 : Int32)), .val (.ref w2), .val (.long (1 : Int64)), .second, .val (.long (1 : Int64)), .second, .val (.long c35), .second, .val (.long r36), .second, .val (.int (1 : Int32)), .unset, .unset, .unset, .unset] [(.int (1 : Int32))]))
              refine own_via (fun _ k => XS.istore X36.here hx rfl (hb hby at_144) rfl (l' := #[.val (.int p0), .val (.int p1), .val (.long p2), .second, .val (.int (2 : Int32)), .val (.ref w2), .val (.long (1 : Int64)), .second, .val (.long (1 : Int64)), .second, .val (.long c35), .second, .val (.long r36), .second, .val (.int (1 : Int32)), .val (.int (1 : Int32)), .unset, .unset, .unset]) rfl k) ?_
              show own_Go p e below s _ _ _ (T36.setTop (mkF m 146 #[.val (.int p0), .val (.int p1), .val (.long p2), .second, .val (.int (2 : Int32)), .val (.ref w2), .val (.long (1 : Int64)), .second, .val (.long (1 : Int64)), .second, .val (.long c35), .second, .val (.long r36), .second, .val (.int (1 : Int32)), .val (.int (1 : Int32)), .unset, .unset, .unset] []))
              refine own_via (fun _ k => XS.lload X36.here hx rfl (hb hby at_146) rfl k) ?_
              show own_Go p e below s _ _ _ (T36.setTop (mkF m 148 #[.val (.int p0), .val (.int p1), .val (.long p2), .second, .val (.int (2 : Int32)), .val (.ref w2), .val (.long (1 : Int64)), .second, .val (.long (1 : Int64)), .second, .val (.long c35), .second, .val (.long r36), .second, .val (.int (1 : Int32)), .val (.int (1 : Int32)), .unset, .unset, .unset] [(.long r36)]))
              refine own_via (fun _ k => X36.ldc2Long hx hown (mvT hZ (hw _ (List.mem_of_getElem? (i := 16) rfl))) (g := (mkF m 148 #[.val (.int p0), .val (.int p1), .val (.long p2), .second, .val (.int (2 : Int32)), .val (.ref w2), .val (.long (1 : Int64)), .second, .val (.long (1 : Int64)), .second, .val (.long c35), .second, .val (.long r36), .second, .val (.int (1 : Int32)), .val (.int (1 : Int32)), .unset, .unset, .unset] [(.long r36)])) rfl (hb hby at_148) _ k) ?_
              show own_Go p e below s _ _ _ (T36.setTop (mkF m 151 #[.val (.int p0), .val (.int p1), .val (.long p2), .second, .val (.int (2 : Int32)), .val (.ref w2), .val (.long (1 : Int64)), .second, .val (.long (1 : Int64)), .second, .val (.long c35), .second, .val (.long r36), .second, .val (.int (1 : Int32)), .val (.int (1 : Int32)), .unset, .unset, .unset] [(.long (300 : Int64)), (.long r36)]))
              refine own_via (fun _ k => XS.lcmp X36.here hx rfl (hb hby at_151) rfl k) ?_
              show own_Go p e below s _ _ _ (T36.setTop (mkF m 152 #[.val (.int p0), .val (.int p1), .val (.long p2), .second, .val (.int (2 : Int32)), .val (.ref w2), .val (.long (1 : Int64)), .second, .val (.long (1 : Int64)), .second, .val (.long c35), .second, .val (.long r36), .second, .val (.int (1 : Int32)), .val (.int (1 : Int32)), .unset, .unset, .unset] [(.int (lcmpW r36 (300 : Int64)))]))
              by_cases hc40 : (300 : Int64) < r36
              · refine own_via (fun _ k => XS.ifNo X36.here hx rfl (hb hby at_152) rfl ((if0 _ _).trans (tlt ((lw_gt r36 (300 : Int64)).mpr hc40)).2.2.2) k) ?_
                show own_Go p e below s _ _ _ (T36.setTop (mkF m 155 #[.val (.int p0), .val (.int p1), .val (.long p2), .second, .val (.int (2 : Int32)), .val (.ref w2), .val (.long (1 : Int64)), .second, .val (.long (1 : Int64)), .second, .val (.long c35), .second, .val (.long r36), .second, .val (.int (1 : Int32)), .val (.int (1 : Int32)), .unset, .unset, .unset] []))
                refine own_via (fun _ k => XS.lload X36.here hx rfl (hb hby at_155) rfl k) ?_
                show own_Go p e below s _ _ _ (T36.setTop (mkF m 157 #[.val (.int p0), .val (.int p1), .val (.long p2), .second, .val (.int (2 : Int32)), .val (.ref w2), .val (.long (1 : Int64)), .second, .val (.long (1 : Int64)), .second, .val (.long c35), .second, .val (.long r36), .second, .val (.int (1 : Int32)), .val (.int (1 : Int32)), .unset, .unset, .unset] [(.long (1 : Int64))]))
                refine own_via (fun _ k => XS.goto X36.here hx rfl (pc0 := 157) (pc' := 162) rfl (hb hby at_157) (by decide) (by decide) k) ?_
                show own_Go p e below s _ _ _ (T36.setTop (mkF m 162 #[.val (.int p0), .val (.int p1), .val (.long p2), .second, .val (.int (2 : Int32)), .val (.ref w2), .val (.long (1 : Int64)), .second, .val (.long (1 : Int64)), .second, .val (.long c35), .second, .val (.long r36), .second, .val (.int (1 : Int32)), .val (.int (1 : Int32)), .unset, .unset, .unset] [(.long (1 : Int64))]))
                refine own_via (fun _ k => XS.lstore X36.here hx rfl (hb hby at_162) rfl (l' := #[.val (.int p0), .val (.int p1), .val (.long p2), .second, .val (.int (2 : Int32)), .val (.ref w2), .val (.long (1 : Int64)), .second, .val (.long (1 : Int64)), .second, .val (.long c35), .second, .val (.long r36), .second, .val (.int (1 : Int32)), .val (.int (1 : Int32)), .val (.long (1 : Int64)), .second, .unset]) rfl k) ?_
                show own_Go p e below s _ _ _ (T36.setTop (mkF m 164 #[.val (.int p0), .val (.int p1), .val (.long p2), .second, .val (.int (2 : Int32)), .val (.ref w2), .val (.long (1 : Int64)), .second, .val (.long (1 : Int64)), .second, .val (.long c35), .second, .val (.long r36), .second, .val (.int (1 : Int32)), .val (.int (1 : Int32)), .val (.long (1 : Int64)), .second, .unset] []))
                refine own_via (fun _ k => XS.lload X36.here hx rfl (hb hby at_164) rfl k) ?_
                show own_Go p e below s _ _ _ (T36.setTop (mkF m 166 #[.val (.int p0), .val (.int p1), .val (.long p2), .second, .val (.int (2 : Int32)), .val (.ref w2), .val (.long (1 : Int64)), .second, .val (.long (1 : Int64)), .second, .val (.long c35), .second, .val (.long r36), .second, .val (.int (1 : Int32)), .val (.int (1 : Int32)), .val (.long (1 : Int64)), .second, .unset] [(.long r36)]))
                refine own_via (fun _ k => XS.lload X36.here hx rfl (hb hby at_166) rfl k) ?_
                show own_Go p e below s _ _ _ (T36.setTop (mkF m 168 #[.val (.int p0), .val (.int p1), .val (.long p2), .second, .val (.int (2 : Int32)), .val (.ref w2), .val (.long (1 : Int64)), .second, .val (.long (1 : Int64)), .second, .val (.long c35), .second, .val (.long r36), .second, .val (.int (1 : Int32)), .val (.int (1 : Int32)), .val (.long (1 : Int64)), .second, .unset] [(.long (1 : Int64)), (.long r36)]))
                refine own_via (fun _ k => XS.lsub X36.here hx rfl (hb hby at_168) rfl k) ?_
                show own_Go p e below s _ _ _ (T36.setTop (mkF m 169 #[.val (.int p0), .val (.int p1), .val (.long p2), .second, .val (.int (2 : Int32)), .val (.ref w2), .val (.long (1 : Int64)), .second, .val (.long (1 : Int64)), .second, .val (.long c35), .second, .val (.long r36), .second, .val (.int (1 : Int32)), .val (.int (1 : Int32)), .val (.long (1 : Int64)), .second, .unset] [(.long (r36 - (1 : Int64)))]))
                refine own_via (fun _ k => XS.lload X36.here hx rfl (hb hby at_169) rfl k) ?_
                show own_Go p e below s _ _ _ (T36.setTop (mkF m 171 #[.val (.int p0), .val (.int p1), .val (.long p2), .second, .val (.int (2 : Int32)), .val (.ref w2), .val (.long (1 : Int64)), .second, .val (.long (1 : Int64)), .second, .val (.long c35), .second, .val (.long r36), .second, .val (.int (1 : Int32)), .val (.int (1 : Int32)), .val (.long (1 : Int64)), .second, .unset] [(.long c35), (.long (r36 - (1 : Int64)))]))
                refine own_via (fun _ k => XS.lcmp X36.here hx rfl (hb hby at_171) rfl k) ?_
                show own_Go p e below s _ _ _ (T36.setTop (mkF m 172 #[.val (.int p0), .val (.int p1), .val (.long p2), .second, .val (.int (2 : Int32)), .val (.ref w2), .val (.long (1 : Int64)), .second, .val (.long (1 : Int64)), .second, .val (.long c35), .second, .val (.long r36), .second, .val (.int (1 : Int32)), .val (.int (1 : Int32)), .val (.long (1 : Int64)), .second, .unset] [(.int (lcmpW (r36 - (1 : Int64)) c35))]))
                by_cases hc41 : c35 < (r36 - (1 : Int64))
                · exfalso
                  have ar0 := rng64 c35
                  have ar1 := rng64 r36
                  have ar2 := c_lrem r36 (1 : Int64) 1 rfl
                  have ar3 := rng64 (r36 - (r36 / (1 : Int64)) * (1 : Int64))
                  have ar4 := c_lsub r36 (1 : Int64)
                  have ar5 := rng64 (r36 - (1 : Int64))
                  simp only [Int64.lt_iff_toInt_lt, ← Int64.toInt_inj, Int32.lt_iff_toInt_lt, ← Int32.toInt_inj, (show (0 : Int64).toInt = 0 from rfl), (show (1 : Int64).toInt = 1 from rfl), (show (300 : Int64).toInt = 300 from rfl)] at hc37 hc38 hc39 hc40 hc41 ar0 ar1 ar2 ar3 ar4 ar5
                  omega
                · refine own_via (fun _ k => XS.ifNo X36.here hx rfl (hb hby at_172) rfl ((if0 _ _).trans (flt (mt (lw_gt (r36 - (1 : Int64)) c35).mp hc41)).2.2.1) k) ?_
                  show own_Go p e below s _ _ _ (T36.setTop (mkF m 175 #[.val (.int p0), .val (.int p1), .val (.long p2), .second, .val (.int (2 : Int32)), .val (.ref w2), .val (.long (1 : Int64)), .second, .val (.long (1 : Int64)), .second, .val (.long c35), .second, .val (.long r36), .second, .val (.int (1 : Int32)), .val (.int (1 : Int32)), .val (.long (1 : Int64)), .second, .unset] []))
                  refine own_via (fun _ k => XS.iconst X36.here hx rfl (hb hby at_175) k) ?_
                  show own_Go p e below s _ _ _ (T36.setTop (mkF m 176 #[.val (.int p0), .val (.int p1), .val (.long p2), .second, .val (.int (2 : Int32)), .val (.ref w2), .val (.long (1 : Int64)), .second, .val (.long (1 : Int64)), .second, .val (.long c35), .second, .val (.long r36), .second, .val (.int (1 : Int32)), .val (.int (1 : Int32)), .val (.long (1 : Int64)), .second, .unset] [(.int (1 : Int32))]))
                  refine own_via (fun _ k => XS.goto X36.here hx rfl (pc0 := 176) (pc' := 180) rfl (hb hby at_176) (by decide) (by decide) k) ?_
                  show own_Go p e below s _ _ _ (T36.setTop (mkF m 180 #[.val (.int p0), .val (.int p1), .val (.long p2), .second, .val (.int (2 : Int32)), .val (.ref w2), .val (.long (1 : Int64)), .second, .val (.long (1 : Int64)), .second, .val (.long c35), .second, .val (.long r36), .second, .val (.int (1 : Int32)), .val (.int (1 : Int32)), .val (.long (1 : Int64)), .second, .unset] [(.int (1 : Int32))]))
                  refine own_via (fun _ k => XS.istore X36.here hx rfl (hb hby at_180) rfl (l' := #[.val (.int p0), .val (.int p1), .val (.long p2), .second, .val (.int (2 : Int32)), .val (.ref w2), .val (.long (1 : Int64)), .second, .val (.long (1 : Int64)), .second, .val (.long c35), .second, .val (.long r36), .second, .val (.int (1 : Int32)), .val (.int (1 : Int32)), .val (.long (1 : Int64)), .second, .val (.int (1 : Int32))]) rfl k) ?_
                  show own_Go p e below s _ _ _ (T36.setTop (mkF m 182 #[.val (.int p0), .val (.int p1), .val (.long p2), .second, .val (.int (2 : Int32)), .val (.ref w2), .val (.long (1 : Int64)), .second, .val (.long (1 : Int64)), .second, .val (.long c35), .second, .val (.long r36), .second, .val (.int (1 : Int32)), .val (.int (1 : Int32)), .val (.long (1 : Int64)), .second, .val (.int (1 : Int32))] []))
                  refine own_via (fun _ k => XS.iload X36.here hx rfl (hb hby at_182) rfl k) ?_
                  show own_Go p e below s _ _ _ (T36.setTop (mkF m 184 #[.val (.int p0), .val (.int p1), .val (.long p2), .second, .val (.int (2 : Int32)), .val (.ref w2), .val (.long (1 : Int64)), .second, .val (.long (1 : Int64)), .second, .val (.long c35), .second, .val (.long r36), .second, .val (.int (1 : Int32)), .val (.int (1 : Int32)), .val (.long (1 : Int64)), .second, .val (.int (1 : Int32))] [(.int (1 : Int32))]))
                  refine own_via (fun _ k => XS.ifNo X36.here hx rfl (hb hby at_184) rfl ((if0 _ _).trans (feq (by decide : ¬ ((1 : Int32) = (0 : Int32)))).1) k) ?_
                  show own_Go p e below s _ _ _ (T36.setTop (mkF m 187 #[.val (.int p0), .val (.int p1), .val (.long p2), .second, .val (.int (2 : Int32)), .val (.ref w2), .val (.long (1 : Int64)), .second, .val (.long (1 : Int64)), .second, .val (.long c35), .second, .val (.long r36), .second, .val (.int (1 : Int32)), .val (.int (1 : Int32)), .val (.long (1 : Int64)), .second, .val (.int (1 : Int32))] []))
                  refine own_via (fun _ k => XS.iload X36.here hx rfl (hb hby at_187) rfl k) ?_
                  show own_Go p e below s _ _ _ (T36.setTop (mkF m 189 #[.val (.int p0), .val (.int p1), .val (.long p2), .second, .val (.int (2 : Int32)), .val (.ref w2), .val (.long (1 : Int64)), .second, .val (.long (1 : Int64)), .second, .val (.long c35), .second, .val (.long r36), .second, .val (.int (1 : Int32)), .val (.int (1 : Int32)), .val (.long (1 : Int64)), .second, .val (.int (1 : Int32))] [(.int (1 : Int32))]))
                  refine own_via (fun _ k => XS.ifNo X36.here hx rfl (hb hby at_189) rfl ((if0 _ _).trans (feq (by decide : ¬ ((1 : Int32) = (0 : Int32)))).1) k) ?_
                  show own_Go p e below s _ _ _ (T36.setTop (mkF m 192 #[.val (.int p0), .val (.int p1), .val (.long p2), .second, .val (.int (2 : Int32)), .val (.ref w2), .val (.long (1 : Int64)), .second, .val (.long (1 : Int64)), .second, .val (.long c35), .second, .val (.long r36), .second, .val (.int (1 : Int32)), .val (.int (1 : Int32)), .val (.long (1 : Int64)), .second, .val (.int (1 : Int32))] []))
                  refine own_via (fun _ k => XS.iload X36.here hx rfl (hb hby at_192) rfl k) ?_
                  show own_Go p e below s _ _ _ (T36.setTop (mkF m 194 #[.val (.int p0), .val (.int p1), .val (.long p2), .second, .val (.int (2 : Int32)), .val (.ref w2), .val (.long (1 : Int64)), .second, .val (.long (1 : Int64)), .second, .val (.long c35), .second, .val (.long r36), .second, .val (.int (1 : Int32)), .val (.int (1 : Int32)), .val (.long (1 : Int64)), .second, .val (.int (1 : Int32))] [(.int (1 : Int32))]))
                  refine own_via (fun _ k => XS.ifNo X36.here hx rfl (hb hby at_194) rfl ((if0 _ _).trans (feq (by decide : ¬ ((1 : Int32) = (0 : Int32)))).1) k) ?_
                  show own_Go p e below s _ _ _ (T36.setTop (mkF m 197 #[.val (.int p0), .val (.int p1), .val (.long p2), .second, .val (.int (2 : Int32)), .val (.ref w2), .val (.long (1 : Int64)), .second, .val (.long (1 : Int64)), .second, .val (.long c35), .second, .val (.long r36), .second, .val (.int (1 : Int32)), .val (.int (1 : Int32)), .val (.long (1 : Int64)), .second, .val (.int (1 : Int32))] []))
                  refine own_via (fun _ k => XS.iconst X36.here hx rfl (hb hby at_197) k) ?_
                  show own_Go p e below s _ _ _ (T36.setTop (mkF m 198 #[.val (.int p0), .val (.int p1), .val (.long p2), .second, .val (.int (2 : Int32)), .val (.ref w2), .val (.long (1 : Int64)), .second, .val (.long (1 : Int64)), .second, .val (.long c35), .second, .val (.long r36), .second, .val (.int (1 : Int32)), .val (.int (1 : Int32)), .val (.long (1 : Int64)), .second, .val (.int (1 : Int32))] [(.int (1 : Int32))]))
                  refine own_via (fun _ k => XS.goto X36.here hx rfl (pc0 := 198) (pc' := 202) rfl (hb hby at_198) (by decide) (by decide) k) ?_
                  show own_Go p e below s _ _ _ (T36.setTop (mkF m 202 #[.val (.int p0), .val (.int p1), .val (.long p2), .second, .val (.int (2 : Int32)), .val (.ref w2), .val (.long (1 : Int64)), .second, .val (.long (1 : Int64)), .second, .val (.long c35), .second, .val (.long r36), .second, .val (.int (1 : Int32)), .val (.int (1 : Int32)), .val (.long (1 : Int64)), .second, .val (.int (1 : Int32))] [(.int (1 : Int32))]))
                  exact own_retZ X36 hx hlk (t := .boolean) Bd.returns (by simp) (hb hby at_202) (z' := (1 : Int32)) (by first | rfl | decide) ⟨rfl, (Fr.nil n0)⟩ (by decide) (by decide)
              · refine own_via (fun _ k => XS.ifYes X36.here hx rfl (pc0 := 152) (pc' := 160) rfl (hb hby at_152) rfl ((if0 _ _).trans (flt (mt (lw_gt r36 (300 : Int64)).mp hc40)).2.2.2) (by decide) (by decide) k) ?_
                show own_Go p e below s _ _ _ (T36.setTop (mkF m 160 #[.val (.int p0), .val (.int p1), .val (.long p2), .second, .val (.int (2 : Int32)), .val (.ref w2), .val (.long (1 : Int64)), .second, .val (.long (1 : Int64)), .second, .val (.long c35), .second, .val (.long r36), .second, .val (.int (1 : Int32)), .val (.int (1 : Int32)), .unset, .unset, .unset] []))
                refine own_via (fun _ k => XS.lload X36.here hx rfl (hb hby at_160) rfl k) ?_
                show own_Go p e below s _ _ _ (T36.setTop (mkF m 162 #[.val (.int p0), .val (.int p1), .val (.long p2), .second, .val (.int (2 : Int32)), .val (.ref w2), .val (.long (1 : Int64)), .second, .val (.long (1 : Int64)), .second, .val (.long c35), .second, .val (.long r36), .second, .val (.int (1 : Int32)), .val (.int (1 : Int32)), .unset, .unset, .unset] [(.long (1 : Int64))]))
                refine own_via (fun _ k => XS.lstore X36.here hx rfl (hb hby at_162) rfl (l' := #[.val (.int p0), .val (.int p1), .val (.long p2), .second, .val (.int (2 : Int32)), .val (.ref w2), .val (.long (1 : Int64)), .second, .val (.long (1 : Int64)), .second, .val (.long c35), .second, .val (.long r36), .second, .val (.int (1 : Int32)), .val (.int (1 : Int32)), .val (.long (1 : Int64)), .second, .unset]) rfl k) ?_
                show own_Go p e below s _ _ _ (T36.setTop (mkF m 164 #[.val (.int p0), .val (.int p1), .val (.long p2), .second, .val (.int (2 : Int32)), .val (.ref w2), .val (.long (1 : Int64)), .second, .val (.long (1 : Int64)), .second, .val (.long c35), .second, .val (.long r36), .second, .val (.int (1 : Int32)), .val (.int (1 : Int32)), .val (.long (1 : Int64)), .second, .unset] []))
                refine own_via (fun _ k => XS.lload X36.here hx rfl (hb hby at_164) rfl k) ?_
                show own_Go p e below s _ _ _ (T36.setTop (mkF m 166 #[.val (.int p0), .val (.int p1), .val (.long p2), .second, .val (.int (2 : Int32)), .val (.ref w2), .val (.long (1 : Int64)), .second, .val (.long (1 : Int64)), .second, .val (.long c35), .second, .val (.long r36), .second, .val (.int (1 : Int32)), .val (.int (1 : Int32)), .val (.long (1 : Int64)), .second, .unset] [(.long r36)]))
                refine own_via (fun _ k => XS.lload X36.here hx rfl (hb hby at_166) rfl k) ?_
                show own_Go p e below s _ _ _ (T36.setTop (mkF m 168 #[.val (.int p0), .val (.int p1), .val (.long p2), .second, .val (.int (2 : Int32)), .val (.ref w2), .val (.long (1 : Int64)), .second, .val (.long (1 : Int64)), .second, .val (.long c35), .second, .val (.long r36), .second, .val (.int (1 : Int32)), .val (.int (1 : Int32)), .val (.long (1 : Int64)), .second, .unset] [(.long (1 : Int64)), (.long r36)]))
                refine own_via (fun _ k => XS.lsub X36.here hx rfl (hb hby at_168) rfl k) ?_
                show own_Go p e below s _ _ _ (T36.setTop (mkF m 169 #[.val (.int p0), .val (.int p1), .val (.long p2), .second, .val (.int (2 : Int32)), .val (.ref w2), .val (.long (1 : Int64)), .second, .val (.long (1 : Int64)), .second, .val (.long c35), .second, .val (.long r36), .second, .val (.int (1 : Int32)), .val (.int (1 : Int32)), .val (.long (1 : Int64)), .second, .unset] [(.long (r36 - (1 : Int64)))]))
                refine own_via (fun _ k => XS.lload X36.here hx rfl (hb hby at_169) rfl k) ?_
                show own_Go p e below s _ _ _ (T36.setTop (mkF m 171 #[.val (.int p0), .val (.int p1), .val (.long p2), .second, .val (.int (2 : Int32)), .val (.ref w2), .val (.long (1 : Int64)), .second, .val (.long (1 : Int64)), .second, .val (.long c35), .second, .val (.long r36), .second, .val (.int (1 : Int32)), .val (.int (1 : Int32)), .val (.long (1 : Int64)), .second, .unset] [(.long c35), (.long (r36 - (1 : Int64)))]))
                refine own_via (fun _ k => XS.lcmp X36.here hx rfl (hb hby at_171) rfl k) ?_
                show own_Go p e below s _ _ _ (T36.setTop (mkF m 172 #[.val (.int p0), .val (.int p1), .val (.long p2), .second, .val (.int (2 : Int32)), .val (.ref w2), .val (.long (1 : Int64)), .second, .val (.long (1 : Int64)), .second, .val (.long c35), .second, .val (.long r36), .second, .val (.int (1 : Int32)), .val (.int (1 : Int32)), .val (.long (1 : Int64)), .second, .unset] [(.int (lcmpW (r36 - (1 : Int64)) c35))]))
                by_cases hc42 : c35 < (r36 - (1 : Int64))
                · exfalso
                  have ar0 := rng64 c35
                  have ar1 := rng64 r36
                  have ar2 := c_lrem r36 (1 : Int64) 1 rfl
                  have ar3 := rng64 (r36 - (r36 / (1 : Int64)) * (1 : Int64))
                  have ar4 := c_lsub r36 (1 : Int64)
                  have ar5 := rng64 (r36 - (1 : Int64))
                  simp only [Int64.lt_iff_toInt_lt, ← Int64.toInt_inj, Int32.lt_iff_toInt_lt, ← Int32.toInt_inj, (show (0 : Int64).toInt = 0 from rfl), (show (1 : Int64).toInt = 1 from rfl), (show (300 : Int64).toInt = 300 from rfl)] at hc37 hc38 hc39 hc40 hc42 ar0 ar1 ar2 ar3 ar4 ar5
                  omega
                · refine own_via (fun _ k => XS.ifNo X36.here hx rfl (hb hby at_172) rfl ((if0 _ _).trans (flt (mt (lw_gt (r36 - (1 : Int64)) c35).mp hc42)).2.2.1) k) ?_
                  show own_Go p e below s _ _ _ (T36.setTop (mkF m 175 #[.val (.int p0), .val (.int p1), .val (.long p2), .second, .val (.int (2 : Int32)), .val (.ref w2), .val (.long (1 : Int64)), .second, .val (.long (1 : Int64)), .second, .val (.long c35), .second, .val (.long r36), .second, .val (.int (1 : Int32)), .val (.int (1 : Int32)), .val (.long (1 : Int64)), .second, .unset] []))
                  refine own_via (fun _ k => XS.iconst X36.here hx rfl (hb hby at_175) k) ?_
                  show own_Go p e below s _ _ _ (T36.setTop (mkF m 176 #[.val (.int p0), .val (.int p1), .val (.long p2), .second, .val (.int (2 : Int32)), .val (.ref w2), .val (.long (1 : Int64)), .second, .val (.long (1 : Int64)), .second, .val (.long c35), .second, .val (.long r36), .second, .val (.int (1 : Int32)), .val (.int (1 : Int32)), .val (.long (1 : Int64)), .second, .unset] [(.int (1 : Int32))]))
                  refine own_via (fun _ k => XS.goto X36.here hx rfl (pc0 := 176) (pc' := 180) rfl (hb hby at_176) (by decide) (by decide) k) ?_
                  show own_Go p e below s _ _ _ (T36.setTop (mkF m 180 #[.val (.int p0), .val (.int p1), .val (.long p2), .second, .val (.int (2 : Int32)), .val (.ref w2), .val (.long (1 : Int64)), .second, .val (.long (1 : Int64)), .second, .val (.long c35), .second, .val (.long r36), .second, .val (.int (1 : Int32)), .val (.int (1 : Int32)), .val (.long (1 : Int64)), .second, .unset] [(.int (1 : Int32))]))
                  refine own_via (fun _ k => XS.istore X36.here hx rfl (hb hby at_180) rfl (l' := #[.val (.int p0), .val (.int p1), .val (.long p2), .second, .val (.int (2 : Int32)), .val (.ref w2), .val (.long (1 : Int64)), .second, .val (.long (1 : Int64)), .second, .val (.long c35), .second, .val (.long r36), .second, .val (.int (1 : Int32)), .val (.int (1 : Int32)), .val (.long (1 : Int64)), .second, .val (.int (1 : Int32))]) rfl k) ?_
                  show own_Go p e below s _ _ _ (T36.setTop (mkF m 182 #[.val (.int p0), .val (.int p1), .val (.long p2), .second, .val (.int (2 : Int32)), .val (.ref w2), .val (.long (1 : Int64)), .second, .val (.long (1 : Int64)), .second, .val (.long c35), .second, .val (.long r36), .second, .val (.int (1 : Int32)), .val (.int (1 : Int32)), .val (.long (1 : Int64)), .second, .val (.int (1 : Int32))] []))
                  refine own_via (fun _ k => XS.iload X36.here hx rfl (hb hby at_182) rfl k) ?_
                  show own_Go p e below s _ _ _ (T36.setTop (mkF m 184 #[.val (.int p0), .val (.int p1), .val (.long p2), .second, .val (.int (2 : Int32)), .val (.ref w2), .val (.long (1 : Int64)), .second, .val (.long (1 : Int64)), .second, .val (.long c35), .second, .val (.long r36), .second, .val (.int (1 : Int32)), .val (.int (1 : Int32)), .val (.long (1 : Int64)), .second, .val (.int (1 : Int32))] [(.int (1 : Int32))]))
                  refine own_via (fun _ k => XS.ifNo X36.here hx rfl (hb hby at_184) rfl ((if0 _ _).trans (feq (by decide : ¬ ((1 : Int32) = (0 : Int32)))).1) k) ?_
                  show own_Go p e below s _ _ _ (T36.setTop (mkF m 187 #[.val (.int p0), .val (.int p1), .val (.long p2), .second, .val (.int (2 : Int32)), .val (.ref w2), .val (.long (1 : Int64)), .second, .val (.long (1 : Int64)), .second, .val (.long c35), .second, .val (.long r36), .second, .val (.int (1 : Int32)), .val (.int (1 : Int32)), .val (.long (1 : Int64)), .second, .val (.int (1 : Int32))] []))
                  refine own_via (fun _ k => XS.iload X36.here hx rfl (hb hby at_187) rfl k) ?_
                  show own_Go p e below s _ _ _ (T36.setTop (mkF m 189 #[.val (.int p0), .val (.int p1), .val (.long p2), .second, .val (.int (2 : Int32)), .val (.ref w2), .val (.long (1 : Int64)), .second, .val (.long (1 : Int64)), .second, .val (.long c35), .second, .val (.long r36), .second, .val (.int (1 : Int32)), .val (.int (1 : Int32)), .val (.long (1 : Int64)), .second, .val (.int (1 : Int32))] [(.int (1 : Int32))]))
                  refine own_via (fun _ k => XS.ifNo X36.here hx rfl (hb hby at_189) rfl ((if0 _ _).trans (feq (by decide : ¬ ((1 : Int32) = (0 : Int32)))).1) k) ?_
                  show own_Go p e below s _ _ _ (T36.setTop (mkF m 192 #[.val (.int p0), .val (.int p1), .val (.long p2), .second, .val (.int (2 : Int32)), .val (.ref w2), .val (.long (1 : Int64)), .second, .val (.long (1 : Int64)), .second, .val (.long c35), .second, .val (.long r36), .second, .val (.int (1 : Int32)), .val (.int (1 : Int32)), .val (.long (1 : Int64)), .second, .val (.int (1 : Int32))] []))
                  refine own_via (fun _ k => XS.iload X36.here hx rfl (hb hby at_192) rfl k) ?_
                  show own_Go p e below s _ _ _ (T36.setTop (mkF m 194 #[.val (.int p0), .val (.int p1), .val (.long p2), .second, .val (.int (2 : Int32)), .val (.ref w2), .val (.long (1 : Int64)), .second, .val (.long (1 : Int64)), .second, .val (.long c35), .second, .val (.long r36), .second, .val (.int (1 : Int32)), .val (.int (1 : Int32)), .val (.long (1 : Int64)), .second, .val (.int (1 : Int32))] [(.int (1 : Int32))]))
                  refine own_via (fun _ k => XS.ifNo X36.here hx rfl (hb hby at_194) rfl ((if0 _ _).trans (feq (by decide : ¬ ((1 : Int32) = (0 : Int32)))).1) k) ?_
                  show own_Go p e below s _ _ _ (T36.setTop (mkF m 197 #[.val (.int p0), .val (.int p1), .val (.long p2), .second, .val (.int (2 : Int32)), .val (.ref w2), .val (.long (1 : Int64)), .second, .val (.long (1 : Int64)), .second, .val (.long c35), .second, .val (.long r36), .second, .val (.int (1 : Int32)), .val (.int (1 : Int32)), .val (.long (1 : Int64)), .second, .val (.int (1 : Int32))] []))
                  refine own_via (fun _ k => XS.iconst X36.here hx rfl (hb hby at_197) k) ?_
                  show own_Go p e below s _ _ _ (T36.setTop (mkF m 198 #[.val (.int p0), .val (.int p1), .val (.long p2), .second, .val (.int (2 : Int32)), .val (.ref w2), .val (.long (1 : Int64)), .second, .val (.long (1 : Int64)), .second, .val (.long c35), .second, .val (.long r36), .second, .val (.int (1 : Int32)), .val (.int (1 : Int32)), .val (.long (1 : Int64)), .second, .val (.int (1 : Int32))] [(.int (1 : Int32))]))
                  refine own_via (fun _ k => XS.goto X36.here hx rfl (pc0 := 198) (pc' := 202) rfl (hb hby at_198) (by decide) (by decide) k) ?_
                  show own_Go p e below s _ _ _ (T36.setTop (mkF m 202 #[.val (.int p0), .val (.int p1), .val (.long p2), .second, .val (.int (2 : Int32)), .val (.ref w2), .val (.long (1 : Int64)), .second, .val (.long (1 : Int64)), .second, .val (.long c35), .second, .val (.long r36), .second, .val (.int (1 : Int32)), .val (.int (1 : Int32)), .val (.long (1 : Int64)), .second, .val (.int (1 : Int32))] [(.int (1 : Int32))]))
                  exact own_retZ X36 hx hlk (t := .boolean) Bd.returns (by simp) (hb hby at_202) (z' := (1 : Int32)) (by first | rfl | decide) ⟨rfl, (Fr.nil n0)⟩ (by decide) (by decide)
            · exfalso
              have ar0 := rng64 c35
              have ar1 := rng64 r36
              have ar2 := c_lrem r36 (1 : Int64) 1 rfl
              have ar3 := rng64 (r36 - (r36 / (1 : Int64)) * (1 : Int64))
              simp only [Int64.lt_iff_toInt_lt, ← Int64.toInt_inj, Int32.lt_iff_toInt_lt, ← Int32.toInt_inj, (show (0 : Int64).toInt = 0 from rfl), (show (1 : Int64).toInt = 1 from rfl), (show (300 : Int64).toInt = 300 from rfl)] at hc37 hc38 hc39 ar0 ar1 ar2 ar3
              omega
          · refine own_via (fun _ k => XS.ifYes X36.here hx rfl (pc0 := 123) (pc' := 131) rfl (hb hby at_123) rfl ((if0 _ _).trans (flt (mt (lw_lt r36 (300 : Int64)).mp hc38)).2.1) (by decide) (by decide) k) ?_
            show own_Go p e below s _ _ _ (T36.setTop (mkF m 131 #[.val (.int p0), .val (.int p1), .val (.long p2), .second, .val (.int (2 : Int32)), .val (.ref w2), .val (.long (1 : Int64)), .second, .val (.long (1 : Int64)), .second, .val (.long c35), .second, .val (.long r36), .second, .val (.int (1 : Int32)), .unset, .unset, .unset, .unset] [(.long r36)]))
            refine own_via (fun _ k => XS.lload X36.here hx rfl (hb hby at_131) rfl k) ?_
            show own_Go p e below s _ _ _ (T36.setTop (mkF m 133 #[.val (.int p0), .val (.int p1), .val (.long p2), .second, .val (.int (2 : Int32)), .val (.ref w2), .val (.long (1 : Int64)), .second, .val (.long (1 : Int64)), .second, .val (.long c35), .second, .val (.long r36), .second, .val (.int (1 : Int32)), .unset, .unset, .unset, .unset] [(.long (1 : Int64)), (.long r36)]))
            refine own_via (fun _ k => XS.lrem X36.here hx rfl (hb hby at_133) rfl (by decide : ¬ ((1 : Int64) = (0 : Int64))) k) ?_
            show own_Go p e below s _ _ _ (T36.setTop (mkF m 134 #[.val (.int p0), .val (.int p1), .val (.long p2), .second, .val (.int (2 : Int32)), .val (.ref w2), .val (.long (1 : Int64)), .second, .val (.long (1 : Int64)), .second, .val (.long c35), .second, .val (.long r36), .second, .val (.int (1 : Int32)), .unset, .unset, .unset, .unset] [(.long (r36 - (r36 / (1 : Int64)) * (1 : Int64)))]))
            refine own_via (fun _ k => XS.lconst X36.here hx rfl (hb hby at_134) k) ?_
            show own_Go p e below s _ _ _ (T36.setTop (mkF m 135 #[.val (.int p0), .val (.int p1), .val (.long p2), .second, .val (.int (2 : Int32)), .val (.ref w2), .val (.long (1 : Int64)), .second, .val (.long (1 : Int64)), .second, .val (.long c35), .second, .val (.long r36), .second, .val (.int (1 : Int32)), .unset, .unset, .unset, .unset] [(.long (0 : Int64)), (.long (r36 - (r36 / (1 : Int64)) * (1 : Int64)))]))
            refine own_via (fun _ k => XS.lcmp X36.here hx rfl (hb hby at_135) rfl k) ?_
            show own_Go p e below s _ _ _ (T36.setTop (mkF m 136 #[.val (.int p0), .val (.int p1), .val (.long p2), .second, .val (.int (2 : Int32)), .val (.ref w2), .val (.long (1 : Int64)), .second, .val (.long (1 : Int64)), .second, .val (.long c35), .second, .val (.long r36), .second, .val (.int (1 : Int32)), .unset, .unset, .unset, .unset] [(.int (lcmpW (r36 - (r36 / (1 : Int64)) * (1 : Int64)) (0 : Int64)))]))
            by_cases hc43 : (r36 - (r36 / (1 : Int64)) * (1 : Int64)) = (0 : Int64)
            · refine own_via (fun _ k => XS.ifNo X36.here hx rfl (hb hby at_136) rfl ((if0 _ _).trans (teq ((lw_eq (r36 - (r36 / (1 : Int64)) * (1 : Int64)) (0 : Int64)).mpr hc43)).2) k) ?_
              show own_Go p e below s _ _ _ (T36.setTop (mkF m 139 #[.val (.int p0), .val (.int p1), .val (.long p2), .second, .val (.int (2 : Int32)), .val (.ref w2), .val (.long (1 : Int64)), .second, .val (.long (1 : Int64)), .second, .val (.long c35), .second, .val (.long r36), .second, .val (.int (1 : Int32)), .unset, .unset, .unset, .unset] []))
              refine own_via (fun _ k => XS.iconst X36.here hx rfl (hb hby at_139) k) ?_
              show own_Go p e below s _ _ _ (T36.setTop (mkF m 140 #[.val (.int p0), .val (.int p1), .val (.long p2), .second, .val (.int (2 : Int32)), .val (.ref w2), .val (.long (1 : Int64)), .second, .val (.long (1 : Int64)), .second, .val (.long c35), .second, .val (.long r36), .second, .val (.int (1 : Int32)), .unset, .unset, .unset, .unset] [(.int (1 : Int32))]))
              refine own_via (fun _ k => XS.goto X36.here hx rfl (pc0 := 140) (pc' := 144) rfl (hb hby at_140) (by decide) (by decide) k) ?_
              show own_Go p e below s _ _ _ (T36.setTop (mkF m 144 #[.val (.int p0), .val (.int p1), .val (.long p2), .second, .val (.int (2 : Int32)), .val (.ref w2), .val (.long (1 : Int64)), .second, .val (.long (1 : Int64)), .second, .val (.long c35), .second, .val (.long r36), .second, .val (.int (1 : Int32)), .unset, .unset, .unset, .unset] [(.int (1 : Int32))]))
              refine own_via (fun _ k => XS.istore X36.here hx rfl (hb hby at_144) rfl (l' := #[.val (.int p0), .val (.int p1), .val (.long p2), .second, .val (.int (2 : Int32)), .val (.ref w2), .val (.long (1 : Int64)), .second, .val (.long (1 : Int64)), .second, .val (.long c35), .second, .val (.long r36), .second, .val (.int (1 : Int32)), .val (.int (1 : Int32)), .unset, .unset, .unset]) rfl k) ?_
              show own_Go p e below s _ _ _ (T36.setTop (mkF m 146 #[.val (.int p0), .val (.int p1), .val (.long p2), .second, .val (.int (2 : Int32)), .val (.ref w2), .val (.long (1 : Int64)), .second, .val (.long (1 : Int64)), .second, .val (.long c35), .second, .val (.long r36), .second, .val (.int (1 : Int32)), .val (.int (1 : Int32)), .unset, .unset, .unset] []))
              refine own_via (fun _ k => XS.lload X36.here hx rfl (hb hby at_146) rfl k) ?_
              show own_Go p e below s _ _ _ (T36.setTop (mkF m 148 #[.val (.int p0), .val (.int p1), .val (.long p2), .second, .val (.int (2 : Int32)), .val (.ref w2), .val (.long (1 : Int64)), .second, .val (.long (1 : Int64)), .second, .val (.long c35), .second, .val (.long r36), .second, .val (.int (1 : Int32)), .val (.int (1 : Int32)), .unset, .unset, .unset] [(.long r36)]))
              refine own_via (fun _ k => X36.ldc2Long hx hown (mvT hZ (hw _ (List.mem_of_getElem? (i := 16) rfl))) (g := (mkF m 148 #[.val (.int p0), .val (.int p1), .val (.long p2), .second, .val (.int (2 : Int32)), .val (.ref w2), .val (.long (1 : Int64)), .second, .val (.long (1 : Int64)), .second, .val (.long c35), .second, .val (.long r36), .second, .val (.int (1 : Int32)), .val (.int (1 : Int32)), .unset, .unset, .unset] [(.long r36)])) rfl (hb hby at_148) _ k) ?_
              show own_Go p e below s _ _ _ (T36.setTop (mkF m 151 #[.val (.int p0), .val (.int p1), .val (.long p2), .second, .val (.int (2 : Int32)), .val (.ref w2), .val (.long (1 : Int64)), .second, .val (.long (1 : Int64)), .second, .val (.long c35), .second, .val (.long r36), .second, .val (.int (1 : Int32)), .val (.int (1 : Int32)), .unset, .unset, .unset] [(.long (300 : Int64)), (.long r36)]))
              refine own_via (fun _ k => XS.lcmp X36.here hx rfl (hb hby at_151) rfl k) ?_
              show own_Go p e below s _ _ _ (T36.setTop (mkF m 152 #[.val (.int p0), .val (.int p1), .val (.long p2), .second, .val (.int (2 : Int32)), .val (.ref w2), .val (.long (1 : Int64)), .second, .val (.long (1 : Int64)), .second, .val (.long c35), .second, .val (.long r36), .second, .val (.int (1 : Int32)), .val (.int (1 : Int32)), .unset, .unset, .unset] [(.int (lcmpW r36 (300 : Int64)))]))
              by_cases hc44 : (300 : Int64) < r36
              · refine own_via (fun _ k => XS.ifNo X36.here hx rfl (hb hby at_152) rfl ((if0 _ _).trans (tlt ((lw_gt r36 (300 : Int64)).mpr hc44)).2.2.2) k) ?_
                show own_Go p e below s _ _ _ (T36.setTop (mkF m 155 #[.val (.int p0), .val (.int p1), .val (.long p2), .second, .val (.int (2 : Int32)), .val (.ref w2), .val (.long (1 : Int64)), .second, .val (.long (1 : Int64)), .second, .val (.long c35), .second, .val (.long r36), .second, .val (.int (1 : Int32)), .val (.int (1 : Int32)), .unset, .unset, .unset] []))
                refine own_via (fun _ k => XS.lload X36.here hx rfl (hb hby at_155) rfl k) ?_
                show own_Go p e below s _ _ _ (T36.setTop (mkF m 157 #[.val (.int p0), .val (.int p1), .val (.long p2), .second, .val (.int (2 : Int32)), .val (.ref w2), .val (.long (1 : Int64)), .second, .val (.long (1 : Int64)), .second, .val (.long c35), .second, .val (.long r36), .second, .val (.int (1 : Int32)), .val (.int (1 : Int32)), .unset, .unset, .unset] [(.long (1 : Int64))]))
                refine own_via (fun _ k => XS.goto X36.here hx rfl (pc0 := 157) (pc' := 162) rfl (hb hby at_157) (by decide) (by decide) k) ?_
                show own_Go p e below s _ _ _ (T36.setTop (mkF m 162 #[.val (.int p0), .val (.int p1), .val (.long p2), .second, .val (.int (2 : Int32)), .val (.ref w2), .val (.long (1 : Int64)), .second, .val (.long (1 : Int64)), .second, .val (.long c35), .second, .val (.long r36), .second, .val (.int (1 : Int32)), .val (.int (1 : Int32)), .unset, .unset, .unset] [(.long (1 : Int64))]))
                refine own_via (fun _ k => XS.lstore X36.here hx rfl (hb hby at_162) rfl (l' := #[.val (.int p0), .val (.int p1), .val (.long p2), .second, .val (.int (2 : Int32)), .val (.ref w2), .val (.long (1 : Int64)), .second, .val (.long (1 : Int64)), .second, .val (.long c35), .second, .val (.long r36), .second, .val (.int (1 : Int32)), .val (.int (1 : Int32)), .val (.long (1 : Int64)), .second, .unset]) rfl k) ?_
                show own_Go p e below s _ _ _ (T36.setTop (mkF m 164 #[.val (.int p0), .val (.int p1), .val (.long p2), .second, .val (.int (2 : Int32)), .val (.ref w2), .val (.long (1 : Int64)), .second, .val (.long (1 : Int64)), .second, .val (.long c35), .second, .val (.long r36), .second, .val (.int (1 : Int32)), .val (.int (1 : Int32)), .val (.long (1 : Int64)), .second, .unset] []))
                refine own_via (fun _ k => XS.lload X36.here hx rfl (hb hby at_164) rfl k) ?_
                show own_Go p e below s _ _ _ (T36.setTop (mkF m 166 #[.val (.int p0), .val (.int p1), .val (.long p2), .second, .val (.int (2 : Int32)), .val (.ref w2), .val (.long (1 : Int64)), .second, .val (.long (1 : Int64)), .second, .val (.long c35), .second, .val (.long r36), .second, .val (.int (1 : Int32)), .val (.int (1 : Int32)), .val (.long (1 : Int64)), .second, .unset] [(.long r36)]))
                refine own_via (fun _ k => XS.lload X36.here hx rfl (hb hby at_166) rfl k) ?_
                show own_Go p e below s _ _ _ (T36.setTop (mkF m 168 #[.val (.int p0), .val (.int p1), .val (.long p2), .second, .val (.int (2 : Int32)), .val (.ref w2), .val (.long (1 : Int64)), .second, .val (.long (1 : Int64)), .second, .val (.long c35), .second, .val (.long r36), .second, .val (.int (1 : Int32)), .val (.int (1 : Int32)), .val (.long (1 : Int64)), .second, .unset] [(.long (1 : Int64)), (.long r36)]))
                refine own_via (fun _ k => XS.lsub X36.here hx rfl (hb hby at_168) rfl k) ?_
                show own_Go p e below s _ _ _ (T36.setTop (mkF m 169 #[.val (.int p0), .val (.int p1), .val (.long p2), .second, .val (.int (2 : Int32)), .val (.ref w2), .val (.long (1 : Int64)), .second, .val (.long (1 : Int64)), .second, .val (.long c35), .second, .val (.long r36), .second, .val (.int (1 : Int32)), .val (.int (1 : Int32)), .val (.long (1 : Int64)), .second, .unset] [(.long (r36 - (1 : Int64)))]))
                refine own_via (fun _ k => XS.lload X36.here hx rfl (hb hby at_169) rfl k) ?_
                show own_Go p e below s _ _ _ (T36.setTop (mkF m 171 #[.val (.int p0), .val (.int p1), .val (.long p2), .second, .val (.int (2 : Int32)), .val (.ref w2), .val (.long (1 : Int64)), .second, .val (.long (1 : Int64)), .second, .val (.long c35), .second, .val (.long r36), .second, .val (.int (1 : Int32)), .val (.int (1 : Int32)), .val (.long (1 : Int64)), .second, .unset] [(.long c35), (.long (r36 - (1 : Int64)))]))
                refine own_via (fun _ k => XS.lcmp X36.here hx rfl (hb hby at_171) rfl k) ?_
                show own_Go p e below s _ _ _ (T36.setTop (mkF m 172 #[.val (.int p0), .val (.int p1), .val (.long p2), .second, .val (.int (2 : Int32)), .val (.ref w2), .val (.long (1 : Int64)), .second, .val (.long (1 : Int64)), .second, .val (.long c35), .second, .val (.long r36), .second, .val (.int (1 : Int32)), .val (.int (1 : Int32)), .val (.long (1 : Int64)), .second, .unset] [(.int (lcmpW (r36 - (1 : Int64)) c35))]))
                by_cases hc45 : c35 < (r36 - (1 : Int64))
                · exfalso
                  have ar0 := rng64 c35
                  have ar1 := rng64 r36
                  have ar2 := c_lrem r36 (1 : Int64) 1 rfl
                  have ar3 := rng64 (r36 - (r36 / (1 : Int64)) * (1 : Int64))
                  have ar4 := c_lsub r36 (1 : Int64)
                  have ar5 := rng64 (r36 - (1 : Int64))
                  simp only [Int64.lt_iff_toInt_lt, ← Int64.toInt_inj, Int32.lt_iff_toInt_lt, ← Int32.toInt_inj, (show (0 : Int64).toInt = 0 from rfl), (show (1 : Int64).toInt = 1 from rfl), (show (300 : Int64).toInt = 300 from rfl)] at hc37 hc38 hc43 hc44 hc45 ar0 ar1 ar2 ar3 ar4 ar5
                  omega
                · refine own_via (fun _ k => XS.ifNo X36.here hx rfl (hb hby at_172) rfl ((if0 _ _).trans (flt (mt (lw_gt (r36 - (1 : Int64)) c35).mp hc45)).2.2.1) k) ?_
                  show own_Go p e below s _ _ _ (T36.setTop (mkF m 175 #[.val (.int p0), .val (.int p1), .val (.long p2), .second, .val (.int (2 : Int32)), .val (.ref w2), .val (.long (1 : Int64)), .second, .val (.long (1 : Int64)), .second, .val (.long c35), .second, .val (.long r36), .second, .val (.int (1 : Int32)), .val (.int (1 : Int32)), .val (.long (1 : Int64)), .second, .unset] []))
                  refine own_via (fun _ k => XS.iconst X36.here hx rfl (hb hby at_175) k) ?_
                  show own_Go p e below s _ _ _ (T36.setTop (mkF m 176 #[.val (.int p0), .val (.int p1), .val (.long p2), .second, .val (.int (2 : Int32)), .val (.ref w2), .val (.long (1 : Int64)), .second, .val (.long (1 : Int64)), .second, .val (.long c35), .second, .val (.long r36), .second, .val (.int (1 : Int32)), .val (.int (1 : Int32)), .val (.long (1 : Int64)), .second, .unset] [(.int (1 : Int32))]))
                  refine own_via (fun _ k => XS.goto X36.here hx rfl (pc0 := 176) (pc' := 180) rfl (hb hby at_176) (by decide) (by decide) k) ?_
                  show own_Go p e below s _ _ _ (T36.setTop (mkF m 180 #[.val (.int p0), .val (.int p1), .val (.long p2), .second, .val (.int (2 : Int32)), .val (.ref w2), .val (.long (1 : Int64)), .second, .val (.long (1 : Int64)), .second, .val (.long c35), .second, .val (.long r36), .second, .val (.int (1 : Int32)), .val (.int (1 : Int32)), .val (.long (1 : Int64)), .second, .unset] [(.int (1 : Int32))]))
                  refine own_via (fun _ k => XS.istore X36.here hx rfl (hb hby at_180) rfl (l' := #[.val (.int p0), .val (.int p1), .val (.long p2), .second, .val (.int (2 : Int32)), .val (.ref w2), .val (.long (1 : Int64)), .second, .val (.long (1 : Int64)), .second, .val (.long c35), .second, .val (.long r36), .second, .val (.int (1 : Int32)), .val (.int (1 : Int32)), .val (.long (1 : Int64)), .second, .val (.int (1 : Int32))]) rfl k) ?_
                  show own_Go p e below s _ _ _ (T36.setTop (mkF m 182 #[.val (.int p0), .val (.int p1), .val (.long p2), .second, .val (.int (2 : Int32)), .val (.ref w2), .val (.long (1 : Int64)), .second, .val (.long (1 : Int64)), .second, .val (.long c35), .second, .val (.long r36), .second, .val (.int (1 : Int32)), .val (.int (1 : Int32)), .val (.long (1 : Int64)), .second, .val (.int (1 : Int32))] []))
                  refine own_via (fun _ k => XS.iload X36.here hx rfl (hb hby at_182) rfl k) ?_
                  show own_Go p e below s _ _ _ (T36.setTop (mkF m 184 #[.val (.int p0), .val (.int p1), .val (.long p2), .second, .val (.int (2 : Int32)), .val (.ref w2), .val (.long (1 : Int64)), .second, .val (.long (1 : Int64)), .second, .val (.long c35), .second, .val (.long r36), .second, .val (.int (1 : Int32)), .val (.int (1 : Int32)), .val (.long (1 : Int64)), .second, .val (.int (1 : Int32))] [(.int (1 : Int32))]))
                  refine own_via (fun _ k => XS.ifNo X36.here hx rfl (hb hby at_184) rfl ((if0 _ _).trans (feq (by decide : ¬ ((1 : Int32) = (0 : Int32)))).1) k) ?_
                  show own_Go p e below s _ _ _ (T36.setTop (mkF m 187 #[.val (.int p0), .val (.int p1), .val (.long p2), .second, .val (.int (2 : Int32)), .val (.ref w2), .val (.long (1 : Int64)), .second, .val (.long (1 : Int64)), .second, .val (.long c35), .second, .val (.long r36), .second, .val (.int (1 : Int32)), .val (.int (1 : Int32)), .val (.long (1 : Int64)), .second, .val (.int (1 : Int32))] []))
                  refine own_via (fun _ k => XS.iload X36.here hx rfl (hb hby at_187) rfl k) ?_
                  show own_Go p e below s _ _ _ (T36.setTop (mkF m 189 #[.val (.int p0), .val (.int p1), .val (.long p2), .second, .val (.int (2 : Int32)), .val (.ref w2), .val (.long (1 : Int64)), .second, .val (.long (1 : Int64)), .second, .val (.long c35), .second, .val (.long r36), .second, .val (.int (1 : Int32)), .val (.int (1 : Int32)), .val (.long (1 : Int64)), .second, .val (.int (1 : Int32))] [(.int (1 : Int32))]))
                  refine own_via (fun _ k => XS.ifNo X36.here hx rfl (hb hby at_189) rfl ((if0 _ _).trans (feq (by decide : ¬ ((1 : Int32) = (0 : Int32)))).1) k) ?_
                  show own_Go p e below s _ _ _ (T36.setTop (mkF m 192 #[.val (.int p0), .val (.int p1), .val (.long p2), .second, .val (.int (2 : Int32)), .val (.ref w2), .val (.long (1 : Int64)), .second, .val (.long (1 : Int64)), .second, .val (.long c35), .second, .val (.long r36), .second, .val (.int (1 : Int32)), .val (.int (1 : Int32)), .val (.long (1 : Int64)), .second, .val (.int (1 : Int32))] []))
                  refine own_via (fun _ k => XS.iload X36.here hx rfl (hb hby at_192) rfl k) ?_
                  show own_Go p e below s _ _ _ (T36.setTop (mkF m 194 #[.val (.int p0), .val (.int p1), .val (.long p2), .second, .val (.int (2 : Int32)), .val (.ref w2), .val (.long (1 : Int64)), .second, .val (.long (1 : Int64)), .second, .val (.long c35), .second, .val (.long r36), .second, .val (.int (1 : Int32)), .val (.int (1 : Int32)), .val (.long (1 : Int64)), .second, .val (.int (1 : Int32))] [(.int (1 : Int32))]))
                  refine own_via (fun _ k => XS.ifNo X36.here hx rfl (hb hby at_194) rfl ((if0 _ _).trans (feq (by decide : ¬ ((1 : Int32) = (0 : Int32)))).1) k) ?_
                  show own_Go p e below s _ _ _ (T36.setTop (mkF m 197 #[.val (.int p0), .val (.int p1), .val (.long p2), .second, .val (.int (2 : Int32)), .val (.ref w2), .val (.long (1 : Int64)), .second, .val (.long (1 : Int64)), .second, .val (.long c35), .second, .val (.long r36), .second, .val (.int (1 : Int32)), .val (.int (1 : Int32)), .val (.long (1 : Int64)), .second, .val (.int (1 : Int32))] []))
                  refine own_via (fun _ k => XS.iconst X36.here hx rfl (hb hby at_197) k) ?_
                  show own_Go p e below s _ _ _ (T36.setTop (mkF m 198 #[.val (.int p0), .val (.int p1), .val (.long p2), .second, .val (.int (2 : Int32)), .val (.ref w2), .val (.long (1 : Int64)), .second, .val (.long (1 : Int64)), .second, .val (.long c35), .second, .val (.long r36), .second, .val (.int (1 : Int32)), .val (.int (1 : Int32)), .val (.long (1 : Int64)), .second, .val (.int (1 : Int32))] [(.int (1 : Int32))]))
                  refine own_via (fun _ k => XS.goto X36.here hx rfl (pc0 := 198) (pc' := 202) rfl (hb hby at_198) (by decide) (by decide) k) ?_
                  show own_Go p e below s _ _ _ (T36.setTop (mkF m 202 #[.val (.int p0), .val (.int p1), .val (.long p2), .second, .val (.int (2 : Int32)), .val (.ref w2), .val (.long (1 : Int64)), .second, .val (.long (1 : Int64)), .second, .val (.long c35), .second, .val (.long r36), .second, .val (.int (1 : Int32)), .val (.int (1 : Int32)), .val (.long (1 : Int64)), .second, .val (.int (1 : Int32))] [(.int (1 : Int32))]))
                  exact own_retZ X36 hx hlk (t := .boolean) Bd.returns (by simp) (hb hby at_202) (z' := (1 : Int32)) (by first | rfl | decide) ⟨rfl, (Fr.nil n0)⟩ (by decide) (by decide)
              · refine own_via (fun _ k => XS.ifYes X36.here hx rfl (pc0 := 152) (pc' := 160) rfl (hb hby at_152) rfl ((if0 _ _).trans (flt (mt (lw_gt r36 (300 : Int64)).mp hc44)).2.2.2) (by decide) (by decide) k) ?_
                show own_Go p e below s _ _ _ (T36.setTop (mkF m 160 #[.val (.int p0), .val (.int p1), .val (.long p2), .second, .val (.int (2 : Int32)), .val (.ref w2), .val (.long (1 : Int64)), .second, .val (.long (1 : Int64)), .second, .val (.long c35), .second, .val (.long r36), .second, .val (.int (1 : Int32)), .val (.int (1 : Int32)), .unset, .unset, .unset] []))
                refine own_via (fun _ k => XS.lload X36.here hx rfl (hb hby at_160) rfl k) ?_
                show own_Go p e below s _ _ _ (T36.setTop (mkF m 162 #[.val (.int p0), .val (.int p1), .val (.long p2), .second, .val (.int (2 : Int32)), .val (.ref w2), .val (.long (1 : Int64)), .second, .val (.long (1 : Int64)), .second, .val (.long c35), .second, .val (.long r36), .second, .val (.int (1 : Int32)), .val (.int (1 : Int32)), .unset, .unset, .unset] [(.long (1 : Int64))]))
                refine own_via (fun _ k => XS.lstore X36.here hx rfl (hb hby at_162) rfl (l' := #[.val (.int p0), .val (.int p1), .val (.long p2), .second, .val (.int (2 : Int32)), .val (.ref w2), .val (.long (1 : Int64)), .second, .val (.long (1 : Int64)), .second, .val (.long c35), .second, .val (.long r36), .second, .val (.int (1 : Int32)), .val (.int (1 : Int32)), .val (.long (1 : Int64)), .second, .unset]) rfl k) ?_
                show own_Go p e below s _ _ _ (T36.setTop (mkF m 164 #[.val (.int p0), .val (.int p1), .val (.long p2), .second, .val (.int (2 : Int32)), .val (.ref w2), .val (.long (1 : Int64)), .second, .val (.long (1 : Int64)), .second, .val (.long c35), .second, .val (.long r36), .second, .val (.int (1 : Int32)), .val (.int (1 : Int32)), .val (.long (1 : Int64)), .second, .unset] []))
                refine own_via (fun _ k => XS.lload X36.here hx rfl (hb hby at_164) rfl k) ?_
                show own_Go p e below s _ _ _ (T36.setTop (mkF m 166 #[.val (.int p0), .val (.int p1), .val (.long p2), .second, .val (.int (2 : Int32)), .val (.ref w2), .val (.long (1 : Int64)), .second, .val (.long (1 : Int64)), .second, .val (.long c35), .second, .val (.long r36), .second, .val (.int (1 : Int32)), .val (.int (1 : Int32)), .val (.long (1 : Int64)), .second, .unset] [(.long r36)]))
                refine own_via (fun _ k => XS.lload X36.here hx rfl (hb hby at_166) rfl k) ?_
                show own_Go p e below s _ _ _ (T36.setTop (mkF m 168 #[.val (.int p0), .val (.int p1), .val (.long p2), .second, .val (.int (2 : Int32)), .val (.ref w2), .val (.long (1 : Int64)), .second, .val (.long (1 : Int64)), .second, .val (.long c35), .second, .val (.long r36), .second, .val (.int (1 : Int32)), .val (.int (1 : Int32)), .val (.long (1 : Int64)), .second, .unset] [(.long (1 : Int64)), (.long r36)]))
                refine own_via (fun _ k => XS.lsub X36.here hx rfl (hb hby at_168) rfl k) ?_
                show own_Go p e below s _ _ _ (T36.setTop (mkF m 169 #[.val (.int p0), .val (.int p1), .val (.long p2), .second, .val (.int (2 : Int32)), .val (.ref w2), .val (.long (1 : Int64)), .second, .val (.long (1 : Int64)), .second, .val (.long c35), .second, .val (.long r36), .second, .val (.int (1 : Int32)), .val (.int (1 : Int32)), .val (.long (1 : Int64)), .second, .unset] [(.long (r36 - (1 : Int64)))]))
                refine own_via (fun _ k => XS.lload X36.here hx rfl (hb hby at_169) rfl k) ?_
                show own_Go p e below s _ _ _ (T36.setTop (mkF m 171 #[.val (.int p0), .val (.int p1), .val (.long p2), .second, .val (.int (2 : Int32)), .val (.ref w2), .val (.long (1 : Int64)), .second, .val (.long (1 : Int64)), .second, .val (.long c35), .second, .val (.long r36), .second, .val (.int (1 : Int32)), .val (.int (1 : Int32)), .val (.long (1 : Int64)), .second, .unset] [(.long c35), (.long (r36 - (1 : Int64)))]))
                refine own_via (fun _ k => XS.lcmp X36.here hx rfl (hb hby at_171) rfl k) ?_
                show own_Go p e below s _ _ _ (T36.setTop (mkF m 172 #[.val (.int p0), .val (.int p1), .val (.long p2), .second, .val (.int (2 : Int32)), .val (.ref w2), .val (.long (1 : Int64)), .second, .val (.long (1 : Int64)), .second, .val (.long c35), .second, .val (.long r36), .second, .val (.int (1 : Int32)), .val (.int (1 : Int32)), .val (.long (1 : Int64)), .second, .unset] [(.int (lcmpW (r36 - (1 : Int64)) c35))]))
                by_cases hc46 : c35 < (r36 - (1 : Int64))
                · exfalso
                  have ar0 := rng64 c35
                  have ar1 := rng64 r36
                  have ar2 := c_lrem r36 (1 : Int64) 1 rfl
                  have ar3 := rng64 (r36 - (r36 / (1 : Int64)) * (1 : Int64))
                  have ar4 := c_lsub r36 (1 : Int64)
                  have ar5 := rng64 (r36 - (1 : Int64))
                  simp only [Int64.lt_iff_toInt_lt, ← Int64.toInt_inj, Int32.lt_iff_toInt_lt, ← Int32.toInt_inj, (show (0 : Int64).toInt = 0 from rfl), (show (1 : Int64).toInt = 1 from rfl), (show (300 : Int64).toInt = 300 from rfl)] at hc37 hc38 hc43 hc44 hc46 ar0 ar1 ar2 ar3 ar4 ar5
                  omega
                · refine own_via (fun _ k => XS.ifNo X36.here hx rfl (hb hby at_172) rfl ((if0 _ _).trans (flt (mt (lw_gt (r36 - (1 : Int64)) c35).mp hc46)).2.2.1) k) ?_
                  show own_Go p e below s _ _ _ (T36.setTop (mkF m 175 #[.val (.int p0), .val (.int p1), .val (.long p2), .second, .val (.int (2 : Int32)), .val (.ref w2), .val (.long (1 : Int64)), .second, .val (.long (1 : Int64)), .second, .val (.long c35), .second, .val (.long r36), .second, .val (.int (1 : Int32)), .val (.int (1 : Int32)), .val (.long (1 : Int64)), .second, .unset] []))
                  refine own_via (fun _ k => XS.iconst X36.here hx rfl (hb hby at_175) k) ?_
                  show own_Go p e below s _ _ _ (T36.setTop (mkF m 176 #[.val (.int p0), .val (.int p1), .val (.long p2), .second, .val (.int (2 : Int32)), .val (.ref w2), .val (.long (1 : Int64)), .second, .val (.long (1 : Int64)), .second, .val (.long c35), .second, .val (.long r36), .second, .val (.int (1 : Int32)), .val (.int (1 : Int32)), .val (.long (1 : Int64)), .second, .unset] [(.int (1 : Int32))]))
                  refine own_via (fun _ k => XS.goto X36.here hx rfl (pc0 := 176) (pc' := 180) rfl (hb hby at_176) (by decide) (by decide) k) ?_
                  show own_Go p e below s _ _ _ (T36.setTop (mkF m 180 #[.val (.int p0), .val (.int p1), .val (.long p2), .second, .val (.int (2 : Int32)), .val (.ref w2), .val (.long (1 : Int64)), .second, .val (.long (1 : Int64)), .second, .val (.long c35), .second, .val (.long r36), .second, .val (.int (1 : Int32)), .val (.int (1 : Int32)), .val (.long (1 : Int64)), .second, .unset] [(.int (1 : Int32))]))
                  refine own_via (fun _ k => XS.istore X36.here hx rfl (hb hby at_180) rfl (l' := #[.val (.int p0), .val (.int p1), .val (.long p2), .second, .val (.int (2 : Int32)), .val (.ref w2), .val (.long (1 : Int64)), .second, .val (.long (1 : Int64)), .second, .val (.long c35), .second, .val (.long r36), .second, .val (.int (1 : Int32)), .val (.int (1 : Int32)), .val (.long (1 : Int64)), .second, .val (.int (1 : Int32))]) rfl k) ?_
                  show own_Go p e below s _ _ _ (T36.setTop (mkF m 182 #[.val (.int p0), .val (.int p1), .val (.long p2), .second, .val (.int (2 : Int32)), .val (.ref w2), .val (.long (1 : Int64)), .second, .val (.long (1 : Int64)), .second, .val (.long c35), .second, .val (.long r36), .second, .val (.int (1 : Int32)), .val (.int (1 : Int32)), .val (.long (1 : Int64)), .second, .val (.int (1 : Int32))] []))
                  refine own_via (fun _ k => XS.iload X36.here hx rfl (hb hby at_182) rfl k) ?_
                  show own_Go p e below s _ _ _ (T36.setTop (mkF m 184 #[.val (.int p0), .val (.int p1), .val (.long p2), .second, .val (.int (2 : Int32)), .val (.ref w2), .val (.long (1 : Int64)), .second, .val (.long (1 : Int64)), .second, .val (.long c35), .second, .val (.long r36), .second, .val (.int (1 : Int32)), .val (.int (1 : Int32)), .val (.long (1 : Int64)), .second, .val (.int (1 : Int32))] [(.int (1 : Int32))]))
                  refine own_via (fun _ k => XS.ifNo X36.here hx rfl (hb hby at_184) rfl ((if0 _ _).trans (feq (by decide : ¬ ((1 : Int32) = (0 : Int32)))).1) k) ?_
                  show own_Go p e below s _ _ _ (T36.setTop (mkF m 187 #[.val (.int p0), .val (.int p1), .val (.long p2), .second, .val (.int (2 : Int32)), .val (.ref w2), .val (.long (1 : Int64)), .second, .val (.long (1 : Int64)), .second, .val (.long c35), .second, .val (.long r36), .second, .val (.int (1 : Int32)), .val (.int (1 : Int32)), .val (.long (1 : Int64)), .second, .val (.int (1 : Int32))] []))
                  refine own_via (fun _ k => XS.iload X36.here hx rfl (hb hby at_187) rfl k) ?_
                  show own_Go p e below s _ _ _ (T36.setTop (mkF m 189 #[.val (.int p0), .val (.int p1), .val (.long p2), .second, .val (.int (2 : Int32)), .val (.ref w2), .val (.long (1 : Int64)), .second, .val (.long (1 : Int64)), .second, .val (.long c35), .second, .val (.long r36), .second, .val (.int (1 : Int32)), .val (.int (1 : Int32)), .val (.long (1 : Int64)), .second, .val (.int (1 : Int32))] [(.int (1 : Int32))]))
                  refine own_via (fun _ k => XS.ifNo X36.here hx rfl (hb hby at_189) rfl ((if0 _ _).trans (feq (by decide : ¬ ((1 : Int32) = (0 : Int32)))).1) k) ?_
                  show own_Go p e below s _ _ _ (T36.setTop (mkF m 192 #[.val (.int p0), .val (.int p1), .val (.long p2), .second, .val (.int (2 : Int32)), .val (.ref w2), .val (.long (1 : Int64)), .second, .val (.long (1 : Int64)), .second, .val (.long c35), .second, .val (.long r36), .second, .val (.int (1 : Int32)), .val (.int (1 : Int32)), .val (.long (1 : Int64)), .second, .val (.int (1 : Int32))] []))
                  refine own_via (fun _ k => XS.iload X36.here hx rfl (hb hby at_192) rfl k) ?_
                  show own_Go p e below s _ _ _ (T36.setTop (mkF m 194 #[.val (.int p0), .val (.int p1), .val (.long p2), .second, .val (.int (2 : Int32)), .val (.ref w2), .val (.long (1 : Int64)), .second, .val (.long (1 : Int64)), .second, .val (.long c35), .second, .val (.long r36), .second, .val (.int (1 : Int32)), .val (.int (1 : Int32)), .val (.long (1 : Int64)), .second, .val (.int (1 : Int32))] [(.int (1 : Int32))]))
                  refine own_via (fun _ k => XS.ifNo X36.here hx rfl (hb hby at_194) rfl ((if0 _ _).trans (feq (by decide : ¬ ((1 : Int32) = (0 : Int32)))).1) k) ?_
                  show own_Go p e below s _ _ _ (T36.setTop (mkF m 197 #[.val (.int p0), .val (.int p1), .val (.long p2), .second, .val (.int (2 : Int32)), .val (.ref w2), .val (.long (1 : Int64)), .second, .val (.long (1 : Int64)), .second, .val (.long c35), .second, .val (.long r36), .second, .val (.int (1 : Int32)), .val (.int (1 : Int32)), .val (.long (1 : Int64)), .second, .val (.int (1 : Int32))] []))
                  refine own_via (fun _ k => XS.iconst X36.here hx rfl (hb hby at_197) k) ?_
                  show own_Go p e below s _ _ _ (T36.setTop (mkF m 198 #[.val (.int p0), .val (.int p1), .val (.long p2), .second, .val (.int (2 : Int32)), .val (.ref w2), .val (.long (1 : Int64)), .second, .val (.long (1 : Int64)), .second, .val (.long c35), .second, .val (.long r36), .second, .val (.int (1 : Int32)), .val (.int (1 : Int32)), .val (.long (1 : Int64)), .second, .val (.int (1 : Int32))] [(.int (1 : Int32))]))
                  refine own_via (fun _ k => XS.goto X36.here hx rfl (pc0 := 198) (pc' := 202) rfl (hb hby at_198) (by decide) (by decide) k) ?_
                  show own_Go p e below s _ _ _ (T36.setTop (mkF m 202 #[.val (.int p0), .val (.int p1), .val (.long p2), .second, .val (.int (2 : Int32)), .val (.ref w2), .val (.long (1 : Int64)), .second, .val (.long (1 : Int64)), .second, .val (.long c35), .second, .val (.long r36), .second, .val (.int (1 : Int32)), .val (.int (1 : Int32)), .val (.long (1 : Int64)), .second, .val (.int (1 : Int32))] [(.int (1 : Int32))]))
                  exact own_retZ X36 hx hlk (t := .boolean) Bd.returns (by simp) (hb hby at_202) (z' := (1 : Int32)) (by first | rfl | decide) ⟨rfl, (Fr.nil n0)⟩ (by decide) (by decide)
            · exfalso
              have ar0 := rng64 c35
              have ar1 := rng64 r36
              have ar2 := c_lrem r36 (1 : Int64) 1 rfl
              have ar3 := rng64 (r36 - (r36 / (1 : Int64)) * (1 : Int64))
              simp only [Int64.lt_iff_toInt_lt, ← Int64.toInt_inj, Int32.lt_iff_toInt_lt, ← Int32.toInt_inj, (show (0 : Int64).toInt = 0 from rfl), (show (1 : Int64).toInt = 1 from rfl), (show (300 : Int64).toInt = 300 from rfl)] at hc37 hc38 hc43 ar0 ar1 ar2 ar3
              omega
        · exfalso
          have ar0 := rng64 c35
          have ar1 := rng64 r36
          simp only [Int64.lt_iff_toInt_lt, ← Int64.toInt_inj, Int32.lt_iff_toInt_lt, ← Int32.toInt_inj] at hc37 ar0 ar1
          omega
      show own_Go p e below s _ _ _ (T35.setTop (mkF m 91 #[.val (.int p0), .val (.int p1), .val (.long p2), .second, .val (.int (2 : Int32)), .val (.ref w2), .val (.long (1 : Int64)), .second, .val (.long (1 : Int64)), .second, .val (.long c35), .second, .unset, .unset, .unset, .unset, .unset, .unset, .unset] []))
      refine own_via (fun _ k => XS.aload X35.here hx rfl (hb hby at_91) rfl rfl k) ?_
      show own_Go p e below s _ _ _ (T35.setTop (mkF m 93 #[.val (.int p0), .val (.int p1), .val (.long p2), .second, .val (.int (2 : Int32)), .val (.ref w2), .val (.long (1 : Int64)), .second, .val (.long (1 : Int64)), .second, .val (.long c35), .second, .unset, .unset, .unset, .unset, .unset, .unset, .unset] [(.ref w2)]))
      refine own_via (fun _ k => XS.lload X35.here hx rfl (hb hby at_93) rfl k) ?_
      show own_Go p e below s _ _ _ (T35.setTop (mkF m 95 #[.val (.int p0), .val (.int p1), .val (.long p2), .second, .val (.int (2 : Int32)), .val (.ref w2), .val (.long (1 : Int64)), .second, .val (.long (1 : Int64)), .second, .val (.long c35), .second, .unset, .unset, .unset, .unset, .unset, .unset, .unset] [(.long c35), (.ref w2)]))
      obtain ⟨cq47, kq47, q47a, q47b, q47c⟩ := isOf hZ e35 E_w2
      obtain ⟨_, _, ⟨T47, L47, k47, n47⟩, -, X47, ⟨Lc47, hQ47, l47, y47, z47⟩, st47⟩ := X35.virtualBack hx (y := (⟨"com/example/strikeline/strikeline/PennyProgram", "priceAbove", "(J)J"⟩ : MethodName)) (z := (⟨"com/example/strikeline/strikeline/PennyProgram", "priceAbove", "(J)J"⟩ : MethodName)) hown (mvT hZ (hw _ (List.mem_of_getElem? (i := 8) rfl))) (mvT hZ (hw _ (List.mem_of_getElem? (i := 9) rfl))) (notFace_of_selects (args := #[]) (mvT hZ (hw _ (List.mem_of_getElem? (i := 11) rfl)))) (mvT hZ (hw _ (List.mem_of_getElem? (i := 11) rfl))) (mvT hZ (hw _ (List.mem_of_getElem? (i := 10) rfl))) (by decide) (backOf (W := 0) (rm1_2 l Z a0 hw [] c35 w0 w1 w2 h0 n0 Z0 K0) hZ (hw _ (List.mem_of_getElem? (i := 12) rfl)) (hw _ (List.mem_of_getElem? (i := 2) rfl)) (by decide) (by decide)) q47a q47c (g := (mkF m 95 #[.val (.int p0), .val (.int p1), .val (.long p2), .second, .val (.int (2 : Int32)), .val (.ref w2), .val (.long (1 : Int64)), .second, .val (.long (1 : Int64)), .second, .val (.long c35), .second, .unset, .unset, .unset, .unset, .unset, .unset, .unset] [(.long c35), (.ref w2)])) rfl (by rw [hml]; rfl) (Steps.refl _) (argsL := [(.long c35)]) (rest := []) (lenOf pd0 rfl) rfl (by show 2 * 0 + _ ≤ _; exact Nat.le_of_eq rfl) (hb hby at_95) (fun _ _ => ⟨rfl, e35, (by decide : 0 + 0 ≤ _), (by decide : 0 + 0 ≤ _)⟩)
      dsimp only [Pt.U, Pt.locs, Pt.cells, Pt.slots] at X47 l47 y47 z47 st47 hQ47
      subst l47 y47 z47
      obtain ⟨rfl, e47, hO47⟩ := hQ47
      rcases hO47 with ⟨hr47_0_0, rfl⟩ | ⟨hr47_1_0, rfl⟩
      · refine own_tr st47 ?_
        show own_Go p e below s _ _ _ (T47.setTop (mkF m 98 #[.val (.int p0), .val (.int p1), .val (.long p2), .second, .val (.int (2 : Int32)), .val (.ref w2), .val (.long (1 : Int64)), .second, .val (.long (1 : Int64)), .second, .val (.long c35), .second, .unset, .unset, .unset, .unset, .unset, .unset, .unset] [(.long (((c35 / (1 : Int64)) + (1 : Int64)) * (1 : Int64)))]))
        exact J36 T47 X47 e47 (((c35 / (1 : Int64)) + (1 : Int64)) * (1 : Int64)) (Or.inl ⟨own_ltL hr47_0_0, own_above1 _ hb35⟩)
      · refine own_tr st47 ?_
        show own_Go p e below s _ _ _ (T47.setTop (mkF m 98 #[.val (.int p0), .val (.int p1), .val (.long p2), .second, .val (.int (2 : Int32)), .val (.ref w2), .val (.long (1 : Int64)), .second, .val (.long (1 : Int64)), .second, .val (.long c35), .second, .unset, .unset, .unset, .unset, .unset, .unset, .unset] [(.long (((c35 / (1 : Int64)) + (1 : Int64)) * (1 : Int64)))]))
        exact J36 T47 X47 e47 (((c35 / (1 : Int64)) + (1 : Int64)) * (1 : Int64)) (Or.inr ⟨own_geL hr47_1_0, own_above1 _ hb35⟩)
    show own_Go p e below s _ _ _ (T34.setTop (mkF m 64 #[.val (.int p0), .val (.int p1), .val (.long p2), .second, .val (.int (2 : Int32)), .val (.ref w2), .val (.long (1 : Int64)), .second, .val (.long (1 : Int64)), .second, .unset, .unset, .unset, .unset, .unset, .unset, .unset, .unset, .unset] []))
    refine own_via (fun _ k => XS.iloadN X34.here hx rfl (hb hby at_64) rfl k) ?_
    show own_Go p e below s _ _ _ (T34.setTop (mkF m 65 #[.val (.int p0), .val (.int p1), .val (.long p2), .second, .val (.int (2 : Int32)), .val (.ref w2), .val (.long (1 : Int64)), .second, .val (.long (1 : Int64)), .second, .unset, .unset, .unset, .unset, .unset, .unset, .unset, .unset, .unset] [(.int p1)]))
    refine own_via (fun _ k => XS.iconst X34.here hx rfl (hb hby at_65) k) ?_
    show own_Go p e below s _ _ _ (T34.setTop (mkF m 66 #[.val (.int p0), .val (.int p1), .val (.long p2), .second, .val (.int (2 : Int32)), .val (.ref w2), .val (.long (1 : Int64)), .second, .val (.long (1 : Int64)), .second, .unset, .unset, .unset, .unset, .unset, .unset, .unset, .unset, .unset] [(.int (1 : Int32)), (.int p1)]))
    refine own_via (fun _ k => XS.iand X34.here hx rfl (hb hby at_66) rfl k) ?_
    show own_Go p e below s _ _ _ (T34.setTop (mkF m 67 #[.val (.int p0), .val (.int p1), .val (.long p2), .second, .val (.int (2 : Int32)), .val (.ref w2), .val (.long (1 : Int64)), .second, .val (.long (1 : Int64)), .second, .unset, .unset, .unset, .unset, .unset, .unset, .unset, .unset, .unset] [(.int (p1 &&& (1 : Int32)))]))
    by_cases hc48 : (p1 &&& (1 : Int32)) = (0 : Int32)
    · refine own_via (fun _ k => XS.ifYes X34.here hx rfl (pc0 := 67) (pc' := 84) rfl (hb hby at_67) rfl ((if0 _ _).trans (teq hc48).1) (by decide) (by decide) k) ?_
      show own_Go p e below s _ _ _ (T34.setTop (mkF m 84 #[.val (.int p0), .val (.int p1), .val (.long p2), .second, .val (.int (2 : Int32)), .val (.ref w2), .val (.long (1 : Int64)), .second, .val (.long (1 : Int64)), .second, .unset, .unset, .unset, .unset, .unset, .unset, .unset, .unset, .unset] []))
      refine own_via (fun _ k => XS.lloadN X34.here hx rfl (hb hby at_84) rfl k) ?_
      show own_Go p e below s _ _ _ (T34.setTop (mkF m 85 #[.val (.int p0), .val (.int p1), .val (.long p2), .second, .val (.int (2 : Int32)), .val (.ref w2), .val (.long (1 : Int64)), .second, .val (.long (1 : Int64)), .second, .unset, .unset, .unset, .unset, .unset, .unset, .unset, .unset, .unset] [(.long p2)]))
      refine own_via (fun _ k => X34.ldc2Long hx hown (mvT hZ (hw _ (List.mem_of_getElem? (i := 21) rfl))) (g := (mkF m 85 #[.val (.int p0), .val (.int p1), .val (.long p2), .second, .val (.int (2 : Int32)), .val (.ref w2), .val (.long (1 : Int64)), .second, .val (.long (1 : Int64)), .second, .unset, .unset, .unset, .unset, .unset, .unset, .unset, .unset, .unset] [(.long p2)])) rfl (hb hby at_85) _ k) ?_
      show own_Go p e below s _ _ _ (T34.setTop (mkF m 88 #[.val (.int p0), .val (.int p1), .val (.long p2), .second, .val (.int (2 : Int32)), .val (.ref w2), .val (.long (1 : Int64)), .second, .val (.long (1 : Int64)), .second, .unset, .unset, .unset, .unset, .unset, .unset, .unset, .unset, .unset] [(.long (4611686018427387903 : Int64)), (.long p2)]))
      refine own_via (fun _ k => XS.land X34.here hx rfl (hb hby at_88) rfl k) ?_
      show own_Go p e below s _ _ _ (T34.setTop (mkF m 89 #[.val (.int p0), .val (.int p1), .val (.long p2), .second, .val (.int (2 : Int32)), .val (.ref w2), .val (.long (1 : Int64)), .second, .val (.long (1 : Int64)), .second, .unset, .unset, .unset, .unset, .unset, .unset, .unset, .unset, .unset] [(.long (p2 &&& (4611686018427387903 : Int64)))]))
      refine own_via (fun _ k => XS.lstore X34.here hx rfl (hb hby at_89) rfl (l' := #[.val (.int p0), .val (.int p1), .val (.long p2), .second, .val (.int (2 : Int32)), .val (.ref w2), .val (.long (1 : Int64)), .second, .val (.long (1 : Int64)), .second, .val (.long (p2 &&& (4611686018427387903 : Int64))), .second, .unset, .unset, .unset, .unset, .unset, .unset, .unset]) rfl k) ?_
      show own_Go p e below s _ _ _ (T34.setTop (mkF m 91 #[.val (.int p0), .val (.int p1), .val (.long p2), .second, .val (.int (2 : Int32)), .val (.ref w2), .val (.long (1 : Int64)), .second, .val (.long (1 : Int64)), .second, .val (.long (p2 &&& (4611686018427387903 : Int64))), .second, .unset, .unset, .unset, .unset, .unset, .unset, .unset] []))
      exact J35 T34 X34 e34 (p2 &&& (4611686018427387903 : Int64)) (own_c89 _)
    · refine own_via (fun _ k => XS.ifNo X34.here hx rfl (hb hby at_67) rfl ((if0 _ _).trans (feq hc48).1) k) ?_
      show own_Go p e below s _ _ _ (T34.setTop (mkF m 70 #[.val (.int p0), .val (.int p1), .val (.long p2), .second, .val (.int (2 : Int32)), .val (.ref w2), .val (.long (1 : Int64)), .second, .val (.long (1 : Int64)), .second, .unset, .unset, .unset, .unset, .unset, .unset, .unset, .unset, .unset] []))
      refine own_via (fun _ k => X34.ldc2Long hx hown (mvT hZ (hw _ (List.mem_of_getElem? (i := 6) rfl))) (g := (mkF m 70 #[.val (.int p0), .val (.int p1), .val (.long p2), .second, .val (.int (2 : Int32)), .val (.ref w2), .val (.long (1 : Int64)), .second, .val (.long (1 : Int64)), .second, .unset, .unset, .unset, .unset, .unset, .unset, .unset, .unset, .unset] [])) rfl (hb hby at_70) _ k) ?_
      show own_Go p e below s _ _ _ (T34.setTop (mkF m 73 #[.val (.int p0), .val (.int p1), .val (.long p2), .second, .val (.int (2 : Int32)), .val (.ref w2), .val (.long (1 : Int64)), .second, .val (.long (1 : Int64)), .second, .unset, .unset, .unset, .unset, .unset, .unset, .unset, .unset, .unset] [(.long (280 : Int64))]))
      refine own_via (fun _ k => XS.lloadN X34.here hx rfl (hb hby at_73) rfl k) ?_
      show own_Go p e below s _ _ _ (T34.setTop (mkF m 74 #[.val (.int p0), .val (.int p1), .val (.long p2), .second, .val (.int (2 : Int32)), .val (.ref w2), .val (.long (1 : Int64)), .second, .val (.long (1 : Int64)), .second, .unset, .unset, .unset, .unset, .unset, .unset, .unset, .unset, .unset] [(.long p2), (.long (280 : Int64))]))
      refine own_via (fun _ k => X34.ldc2Long hx hown (mvT hZ (hw _ (List.mem_of_getElem? (i := 7) rfl))) (g := (mkF m 74 #[.val (.int p0), .val (.int p1), .val (.long p2), .second, .val (.int (2 : Int32)), .val (.ref w2), .val (.long (1 : Int64)), .second, .val (.long (1 : Int64)), .second, .unset, .unset, .unset, .unset, .unset, .unset, .unset, .unset, .unset] [(.long p2), (.long (280 : Int64))])) rfl (hb hby at_74) _ k) ?_
      show own_Go p e below s _ _ _ (T34.setTop (mkF m 77 #[.val (.int p0), .val (.int p1), .val (.long p2), .second, .val (.int (2 : Int32)), .val (.ref w2), .val (.long (1 : Int64)), .second, .val (.long (1 : Int64)), .second, .unset, .unset, .unset, .unset, .unset, .unset, .unset, .unset, .unset] [(.long (63 : Int64)), (.long p2), (.long (280 : Int64))]))
      refine own_via (fun _ k => XS.land X34.here hx rfl (hb hby at_77) rfl k) ?_
      show own_Go p e below s _ _ _ (T34.setTop (mkF m 78 #[.val (.int p0), .val (.int p1), .val (.long p2), .second, .val (.int (2 : Int32)), .val (.ref w2), .val (.long (1 : Int64)), .second, .val (.long (1 : Int64)), .second, .unset, .unset, .unset, .unset, .unset, .unset, .unset, .unset, .unset] [(.long (p2 &&& (63 : Int64))), (.long (280 : Int64))]))
      refine own_via (fun _ k => XS.ladd X34.here hx rfl (hb hby at_78) rfl k) ?_
      show own_Go p e below s _ _ _ (T34.setTop (mkF m 79 #[.val (.int p0), .val (.int p1), .val (.long p2), .second, .val (.int (2 : Int32)), .val (.ref w2), .val (.long (1 : Int64)), .second, .val (.long (1 : Int64)), .second, .unset, .unset, .unset, .unset, .unset, .unset, .unset, .unset, .unset] [(.long ((280 : Int64) + (p2 &&& (63 : Int64))))]))
      refine own_via (fun _ k => XS.lstore X34.here hx rfl (hb hby at_79) rfl (l' := #[.val (.int p0), .val (.int p1), .val (.long p2), .second, .val (.int (2 : Int32)), .val (.ref w2), .val (.long (1 : Int64)), .second, .val (.long (1 : Int64)), .second, .val (.long ((280 : Int64) + (p2 &&& (63 : Int64)))), .second, .unset, .unset, .unset, .unset, .unset, .unset, .unset]) rfl k) ?_
      show own_Go p e below s _ _ _ (T34.setTop (mkF m 81 #[.val (.int p0), .val (.int p1), .val (.long p2), .second, .val (.int (2 : Int32)), .val (.ref w2), .val (.long (1 : Int64)), .second, .val (.long (1 : Int64)), .second, .val (.long ((280 : Int64) + (p2 &&& (63 : Int64)))), .second, .unset, .unset, .unset, .unset, .unset, .unset, .unset] []))
      refine own_via (fun _ k => XS.goto X34.here hx rfl (pc0 := 81) (pc' := 91) rfl (hb hby at_81) (by decide) (by decide) k) ?_
      show own_Go p e below s _ _ _ (T34.setTop (mkF m 91 #[.val (.int p0), .val (.int p1), .val (.long p2), .second, .val (.int (2 : Int32)), .val (.ref w2), .val (.long (1 : Int64)), .second, .val (.long (1 : Int64)), .second, .val (.long ((280 : Int64) + (p2 &&& (63 : Int64)))), .second, .unset, .unset, .unset, .unset, .unset, .unset, .unset] []))
      exact J35 T34 X34 e34 ((280 : Int64) + (p2 &&& (63 : Int64))) (own_c79 _)
set_option maxRecDepth 65536 in
set_option maxHeartbeats 40000000 in
theorem comes_1 {Post : Tables → Env → Array Value → State → Outcome → State → Prop} (hpost : ∀ tb e args s v u, (limb_1_1.after args s (.returned v) u = true ∧ limb_1_2.after args s (.returned v) u = true ∧ True) → FrameEnd s (.returned v) u (Jvm.fieldLocs frame_1_writes args s ++ Jvm.arrayLocs frame_1_arrays args s ++ Jvm.staticLocs frame_1_statics s) 0 0 → Post tb e args s (.returned v) u) :
    ArmFor flags0 classFile x code maxLocals ret World_1 tables_1 room_1 Calls_1 rest_1 Pre_1 Post := by
  intro l hfl _ _ p e ha hc hk s m args below hf hA hF happ hP
  obtain ⟨hcalls, hrest, hpre⟩ := hP
  obtain ⟨-, -, -, hnamed, -, -, -, hat⟩ := (Spec.applies_iff hf).mp happ
  obtain ⟨hg, hn⟩ := and_e (Cond.before_iff.mp (show (Jvm.Cond.and given_1 narrow_1).before args s = true from hpre))
  obtain ⟨g0, hg0⟩ := and_e hg
  obtain ⟨g1, hg1⟩ := and_e hg0
  obtain ⟨g2, hg2⟩ := and_e hg1
  obtain ⟨u0, u1, u2, rfl⟩ : ∃ u0 u1 u2 : Value, args = #[u0, u1, u2] := by
    have hs : args.size = 3 := by simpa [Cond.value, given_1] using g0
    obtain ⟨L⟩ := args
    match L, hs with
    | [u0, u1, u2], _ => exact ⟨u0, u1, u2, rfl⟩
  have hw := fun d (hd : d ∈ tables_1) => atoms_spec (ws := Jvm.Cond.code x code maxLocals ret :: tables_1) hat d (List.mem_cons_of_mem _ hd)
  obtain ⟨i0, ei0⟩ := is_v g1
  obtain rfl : u0 = (.int i0) := Option.some.inj ei0
  obtain ⟨i1, ei1⟩ := is_v g2
  obtain rfl : u1 = (.int i1) := Option.some.inj ei1
  obtain ⟨i2, ei2⟩ := isL_v hg2
  obtain rfl : u2 = (.long i2) := Option.some.inj ei2
  obtain ⟨t0, hn0⟩ := and_e hn
  obtain ⟨t1, hn1⟩ := and_e hn0
  obtain ⟨t2, hn2⟩ := and_e hn1
  obtain ⟨t3, hn3⟩ := and_e hn2
  obtain ⟨t4, hn4⟩ := and_e hn3
  obtain ⟨t5, hn5⟩ := and_e hn4
  obtain ⟨t6, hn6⟩ := and_e hn5
  obtain ⟨t7, hn7⟩ := and_e hn6
  obtain ⟨w0, v_w0⟩ := exa_v t0
  have E_w0 := Exa.start v_w0 t0
  have S_w0 := Sta.start v_w0 (Or.inr ⟨(hw _ (List.mem_of_getElem? (i := 2) rfl)), (hw _ (List.mem_of_getElem? (i := 3) rfl))⟩)
  obtain ⟨w1, v_w1⟩ := exa_v t2
  have E_w1 := Exa.start v_w1 t2
  have S_w1 := Sta.start v_w1 (Or.inr ⟨(hw _ (List.mem_of_getElem? (i := 2) rfl)), (hw _ (List.mem_of_getElem? (i := 18) rfl))⟩)
  obtain ⟨w2, v_w2⟩ := exa_v t5
  have E_w2 := Exa.start v_w2 t5
  have S_w2 := Sta.start v_w2 (Or.inr ⟨(hw _ (List.mem_of_getElem? (i := 2) rfl)), (hw _ (List.mem_of_getElem? (i := 23) rfl))⟩)
  have F_w0_below := own_fldL v_w0 t1
  have F_w1_from := own_fldL v_w1 t3
  have F_w0_from := own_fldL v_w0 t4
  have F_w2_below := own_fldL v_w2 t6
  have F_w2_from := own_fldL v_w2 t7
  have F_w1_below := own_fldL v_w1 hn7
  have n_w0_w1 : ¬ (w0 = w1) := Fld.ne F_w0_below F_w1_below (by decide)
  have n_w0_w2 : ¬ (w0 = w2) := Fld.ne F_w0_below F_w2_below (by decide)
  have n_w1_w2 : ¬ (w1 = w2) := Fld.ne F_w1_from F_w2_from (by decide)
  obtain ⟨n, o, h1, h2, h3, _, L, rfl, ⟨rfl, N⟩, hq⟩ := rm0 l s _ hw tables_1 i0 i1 i2 w0 w1 w2 s.heap s.heap.size (Nat.le_refl _) ⟨S_w0, S_w1, S_w2, E_w0, E_w1, E_w2, F_w0_below, F_w1_from, F_w0_from, F_w2_below, F_w2_from, F_w1_below, n_w0_w1, n_w0_w2, n_w1_w2⟩ p e ha hc hk s m _ below hf ((Spec.applies_iff_loose hf).mp happ).1 ⟨rfl, State.Warmed39.refl s, rfl⟩ trivial
  refine ⟨n, _, h1, h2, h3, hpost _ _ _ _ _ _ ⟨Cond.after_iff.mpr rfl, Cond.after_iff.mpr (eq_i res_at (Term.int_eval (1)) rfl), trivial⟩ ⟨hq.1, hq.2.1, (hq.2.2.sift fun y hy => Or.inr (N y hy)).mono (by decide) (by decide)⟩⟩
theorem main_1_1 : Claimed_1_1 := comes_1 fun _ _ _ _ _ _ h hF => ⟨h.1, hF⟩
theorem main_1_2 : Claimed_1_2 := comes_1 fun _ _ _ _ _ _ h hF => ⟨h.2.1, hF⟩
end Jvm.Pilot.@@N@@
namespace Jvm.Pilot.@@N@@
open Jvm Jvm.ClassFile Sem Op Lib Jvm.Free Jvm.Stand Jvm.Pilot.@@N@@.Jvm.D
/-! MADE BY PROGRAM (witnessworld.py) out of the Statement's table words and the real class files: 12 classes; the members and pool entries that the words name. The judged class is class 1, her method 1. -/
namespace start1
open Jvm.ClassFile
def u (s : String) : CpInfo := .utf8 (stringToUtf16 s)
/-- a pool by its gaps: so many unusable entries, then the entry; so many at the end -/
def gap : Nat → List CpInfo → List CpInfo
  | 0, r => r
  | n + 1, r => .unusable :: gap n r
def poolList (es : List (Nat × CpInfo)) (last : Nat) : List CpInfo := es.foldr (fun e r => gap e.1 (e.2 :: r)) (gap last [])
def pool (es : List (Nat × CpInfo)) (last : Nat) : Array CpInfo := ⟨poolList es last⟩
def fileOf (pool : Array CpInfo) (this : Nat) (attrs : Array Attribute := #[]) (ms : Array MethodInfo := #[]) (fl : Nat := 33) (sup : Nat := 0) (ifs : Array Nat := #[]) (fds : Array FieldInfo := #[]) : ClassFile where
  minorVersion := 0
  majorVersion := 65
  constantPool := pool
  accessFlags := fl
  thisClass := this
  superClass := sup
  interfaces := ifs
  fields := fds
  methods := ms
  attributes := attrs
def plain (name : String) (sup : Option ClassId) : Class where
  name := name
  kind := .ordinary
  loader := none
  accessFlags := 33
  super := sup
  interfaces := #[]
  cf := none
  fields := #[]
  methods := #[]
  instanceTypes := #[]
  staticTypes := #[]
  resolved := #[]
  callSites := []
  init := .initialized
  statics := none
  mirror := none

def pool0 : Array CpInfo := pool [(5, u "<init>"), (0, u "()V"), (1, .class_ 10), (1, u "java/lang/Object")] 113

def k0m0 : Method := { name := "<init>", desc := "()V", sig := { parameters := [], returnType := none }, accessFlags := 1, code := none }
/-- java/lang/Object -/
def k0 : Class := { plain "java/lang/Object" none with
  accessFlags := 33
  interfaces := #[]
  cf := some (fileOf pool0 8 #[] #[{ accessFlags := 1, nameIndex := 5, descriptorIndex := 6, attributes := #[] }] 33 0 #[] #[])
  fields := #[]
  methods := #[k0m0]
  instanceTypes := #[]
  staticTypes := #[]
  resolved := Array.replicate 124 none
  statics := none }

def pool1 : Array CpInfo := pool [(2, .class_ 4), (1, u "java/lang/Object"), (0, u "<init>"), (0, u "()V"), (0, .integer 2147483647), (0, .fieldref 9 10), (0, .class_ 11), (0, .nameAndType 12 13), (0, u "com/example/strikeline/strikeline/PennyProgram"), (0, u "NO"), (0, u "Lcom/example/strikeline/strikeline/PennyProgram;"), (0, .long 5), (1, .long 10), (1, .fieldref 9 19), (0, .nameAndType 20 13), (0, u "YES"), (0, .fieldref 9 22), (0, .nameAndType 23 13), (0, u "ALL"), (0, .long 280), (1, .long 63), (1, .long 4611686018427387903), (1, .methodref 9 31), (0, .nameAndType 32 33), (0, u "priceAbove"), (0, u "(J)J"), (0, .long 300), (1, .class_ 37), (0, u "com/example/strikeline/strikeline/PennyProgramPriceAbovePinLaw"), (2, u "law"), (0, u "(IIJ)Z")] 3

def k1m0 : Method := { name := "<init>", desc := "()V", sig := { parameters := [], returnType := none }, accessFlags := 1, code := none }
def k1c1 : Code := { maxStack := 6, maxLocals := 19, code := code, exceptionTable := #[], attributes := #[] }
def k1m1 : Method := { name := "law", desc := "(IIJ)Z", sig := { parameters := [.int, .int, .long], returnType := some .boolean }, accessFlags := 9, code := some k1c1 }
/-- com/example/strikeline/strikeline/PennyProgramPriceAbovePinLaw -/
def k1 : Class := { plain "com/example/strikeline/strikeline/PennyProgramPriceAbovePinLaw" (some 0) with
  accessFlags := 49
  interfaces := #[]
  cf := some (fileOf pool1 36 #[] #[{ accessFlags := 1, nameIndex := 5, descriptorIndex := 6, attributes := #[] }, { accessFlags := 9, nameIndex := 40, descriptorIndex := 41, attributes := #[] }] 49 2 #[] #[])
  fields := #[]
  methods := #[k1m0, k1m1]
  instanceTypes := #[]
  staticTypes := #[]
  resolved := Array.replicate 45 none
  statics := none }

def pool2 : Array CpInfo := pool [(1, .class_ 2), (0, u "java/lang/constant/Constable"), (0, .class_ 4), (0, u "java/lang/Object")] 6

/-- java/lang/constant/Constable -/
def k2 : Class := { plain "java/lang/constant/Constable" (some 0) with
  accessFlags := 1537
  interfaces := #[]
  cf := some (fileOf pool2 1 #[] #[] 1537 3 #[] #[])
  fields := #[]
  methods := #[]
  instanceTypes := #[]
  staticTypes := #[]
  resolved := Array.replicate 11 none
  statics := none }

def pool3 : Array CpInfo := pool [(1, .class_ 2), (0, u "java/lang/Comparable"), (0, .class_ 4), (0, u "java/lang/Object")] 7

/-- java/lang/Comparable -/
def k3 : Class := { plain "java/lang/Comparable" (some 0) with
  accessFlags := 1537
  interfaces := #[]
  cf := some (fileOf pool3 1 #[] #[] 1537 3 #[] #[])
  fields := #[]
  methods := #[]
  instanceTypes := #[]
  staticTypes := #[]
  resolved := Array.replicate 12 none
  statics := none }

def pool4 : Array CpInfo := pool [(1, .class_ 2), (0, u "java/io/Serializable"), (0, .class_ 4), (0, u "java/lang/Object")] 2

/-- java/io/Serializable -/
def k4 : Class := { plain "java/io/Serializable" (some 0) with
  accessFlags := 1537
  interfaces := #[]
  cf := some (fileOf pool4 1 #[] #[] 1537 3 #[] #[])
  fields := #[]
  methods := #[]
  instanceTypes := #[]
  staticTypes := #[]
  resolved := Array.replicate 7 none
  statics := none }

def pool5 : Array CpInfo := pool [(2, .class_ 4), (1, u "java/lang/Enum"), (0, u "name"), (0, u "Ljava/lang/String;"), (2, u "ordinal"), (0, u "I"), (1, .class_ 14), (1, u "java/lang/Object"), (4, u "hash"), (86, .class_ 108), (1, u "java/lang/Enum$EnumDesc"), (2, .class_ 112), (0, u "java/lang/constant/Constable"), (0, .class_ 114), (0, u "java/lang/Comparable"), (0, .class_ 116), (0, u "java/io/Serializable")] 87

/-- java/lang/Enum -/
def k5 : Class := { plain "java/lang/Enum" (some 0) with
  accessFlags := 1057
  interfaces := #[2, 3, 4]
  cf := some (fileOf pool5 2 #[.nestMembers #[106]] #[] 1057 12 #[111, 113, 115] #[{ accessFlags := 18, nameIndex := 5, descriptorIndex := 6, attributes := #[] }, { accessFlags := 18, nameIndex := 9, descriptorIndex := 10, attributes := #[] }, { accessFlags := 2, nameIndex := 19, descriptorIndex := 10, attributes := #[] }])
  fields := #[{ name := "name", type := (.object "java/lang/String"), accessFlags := 18, slot := 0, constantValue := 0 }, { name := "ordinal", type := .int, accessFlags := 18, slot := 1, constantValue := 0 }, { name := "hash", type := .int, accessFlags := 2, slot := 2, constantValue := 0 }]
  methods := #[]
  instanceTypes := #[(.object "java/lang/String"), .int, .int]
  staticTypes := #[]
  resolved := Array.replicate 204 none
  statics := none }

def pool6 : Array CpInfo := pool [(1, .class_ 2), (0, u "com/example/strikeline/strikeline/PennyProgram"), (2, u "NO"), (0, u "Lcom/example/strikeline/strikeline/PennyProgram;"), (2, u "YES"), (2, u "ALL"), (2, u "$VALUES"), (0, u "[Lcom/example/strikeline/strikeline/PennyProgram;"), (6, .class_ 25), (1, u "java/lang/Enum"), (8, u "word"), (0, u "Ljava/lang/String;"), (0, .fieldref 1 37), (0, .nameAndType 38 39), (0, u "below"), (0, u "J"), (0, .fieldref 1 41), (0, .nameAndType 42 39), (0, u "from"), (0, .long 300), (21, u "BREAK"), (13, u "(J)J"), (0, u "priceAbove")] 5

def k6c0 : Code := { maxStack := 4, maxLocals := 5, code := prog_68_method_7_code, exceptionTable := #[], attributes := #[] }
def k6m0 : Method := { name := "priceAbove", desc := "(J)J", sig := { parameters := [.long], returnType := some .long }, accessFlags := 0, code := some k6c0 }
/-- com/example/strikeline/strikeline/PennyProgram -/
def k6 : Class := { plain "com/example/strikeline/strikeline/PennyProgram" (some 5) with
  accessFlags := 16432
  interfaces := #[]
  cf := some (fileOf pool6 1 #[] #[{ accessFlags := 0, nameIndex := 80, descriptorIndex := 79, attributes := #[] }] 16432 23 #[] #[{ accessFlags := 16409, nameIndex := 5, descriptorIndex := 6, attributes := #[] }, { accessFlags := 16409, nameIndex := 9, descriptorIndex := 6, attributes := #[] }, { accessFlags := 16409, nameIndex := 12, descriptorIndex := 6, attributes := #[] }, { accessFlags := 26, nameIndex := 65, descriptorIndex := 39, attributes := #[] }, { accessFlags := 18, nameIndex := 34, descriptorIndex := 35, attributes := #[] }, { accessFlags := 18, nameIndex := 38, descriptorIndex := 39, attributes := #[] }, { accessFlags := 18, nameIndex := 42, descriptorIndex := 39, attributes := #[] }, { accessFlags := 4122, nameIndex := 15, descriptorIndex := 16, attributes := #[] }])
  fields := #[{ name := "NO", type := (.object "com/example/strikeline/strikeline/PennyProgram"), accessFlags := 16409, slot := 0, constantValue := 0 }, { name := "YES", type := (.object "com/example/strikeline/strikeline/PennyProgram"), accessFlags := 16409, slot := 1, constantValue := 0 }, { name := "ALL", type := (.object "com/example/strikeline/strikeline/PennyProgram"), accessFlags := 16409, slot := 2, constantValue := 0 }, { name := "BREAK", type := .long, accessFlags := 26, slot := 3, constantValue := 0 }, { name := "word", type := (.object "java/lang/String"), accessFlags := 18, slot := 3, constantValue := 0 }, { name := "below", type := .long, accessFlags := 18, slot := 4, constantValue := 0 }, { name := "from", type := .long, accessFlags := 18, slot := 5, constantValue := 0 }, { name := "$VALUES", type := (.array (.object "com/example/strikeline/strikeline/PennyProgram")), accessFlags := 4122, slot := 4, constantValue := 0 }]
  methods := #[k6m0]
  instanceTypes := #[(.object "java/lang/String"), .int, .int, (.object "java/lang/String"), .long, .long]
  staticTypes := #[(.object "com/example/strikeline/strikeline/PennyProgram"), (.object "com/example/strikeline/strikeline/PennyProgram"), (.object "com/example/strikeline/strikeline/PennyProgram"), .long, (.array (.object "com/example/strikeline/strikeline/PennyProgram"))]
  resolved := Array.replicate 86 none
  statics := some 0 }

def pool7 : Array CpInfo := pool [(1, u "java/lang/Cloneable"), (0, .class_ 1), (0, u "java/lang/Object"), (0, .class_ 3)] 3

/-- java/lang/Cloneable -/
def k7 : Class := { plain "java/lang/Cloneable" (some 0) with
  accessFlags := 1537
  interfaces := #[]
  cf := some (fileOf pool7 2 #[] #[] 1537 4 #[] #[])
  fields := #[]
  methods := #[]
  instanceTypes := #[]
  staticTypes := #[]
  resolved := Array.replicate 8 none
  statics := none }

/-- the primitive byte -/
def k8 : Class := { plain "byte" none with kind := .primitive 'B', accessFlags := 0x411 }
/-- [B -/
def k9 : Class := { plain "[B" (some 0) with kind := .array 8 .byte, interfaces := #[7, 4], accessFlags := 1041 }

/-- the primitive int -/
def k10 : Class := { plain "int" none with kind := .primitive 'I', accessFlags := 0x411 }
/-- [I -/
def k11 : Class := { plain "[I" (some 0) with kind := .array 10 .int, interfaces := #[7, 4], accessFlags := 1041 }

def heap : Heap := #[{ cls := 6, slots := #[.ref 1, .ref 2, .ref 3, .long 0, .null], vm := .statics 6 },
  { cls := 6, slots := #[.null, .int 0, .int 0, .null, .long 5, .long 10], vm := .none },
  { cls := 6, slots := #[.null, .int 0, .int 0, .null, .long 1, .long 5], vm := .none },
  { cls := 6, slots := #[.null, .int 0, .int 0, .null, .long 1, .long 1], vm := .none }]
def classes : Array Class := #[k0, k1, k2, k3, k4, k5, k6, k7, k8, k9, k10, k11]
def interned : List (Array UInt16 × Addr) := []
def slotsUsed : Nat := 23
def theMethod : MethodId := ⟨1, 1⟩
def args0 : Array Value := #[.int 5, .int 5, .long 5]
def aboutOver (below : List Frame) : State where
  vm := { classes := classes, interned := interned.toArray }
  heap := heap
  slotsUsed := slotsUsed
  threads := #[{ frames := .invoking theMethod args0 :: below }]
def below0 : List Frame := [.native { method := ⟨0, 0⟩, args := #[] }]
def about1 : State := aboutOver below0
def p0 : Program := .bare "" "" ""
def e0 : Env := launch0.env 0 0 0
theorem w_frames : about1.frames = Frame.invoking theMethod args0 :: below0 := rfl
set_option maxRecDepth 65536 in
theorem w_args : argsFit about1.vm theMethod args0 = true := by decide +kernel
set_option maxRecDepth 65536 in
theorem w_heap : heapFits about1 = true := by decide +kernel
set_option maxRecDepth 65536 in
theorem w_runnable : about1.curStatus? = some .runnable := by decide +kernel
set_option maxRecDepth 65536 in
theorem w_alone : about1.alone = true := by decide +kernel
set_option maxRecDepth 65536 in
theorem w_named : about1.methodNamed? x = some theMethod := by decide +kernel
set_option maxRecDepth 65536 in
theorem w_hears : about1.hears theMethod below0 = true := by decide +kernel
set_option maxRecDepth 65536 in
theorem w_ripe : about1.ripe theMethod args0 below0 = true := by decide +kernel
theorem w_running : about1.status = .running := rfl
set_option maxRecDepth 65536 in
theorem w_room : about1.hasRoom e0.platform room_1 = true :=
  launch0.hasRoom_least _ room_1 (by decide +kernel) (by decide +kernel) (by decide +kernel) (by decide +kernel) (by decide +kernel) (by decide +kernel)
theorem allAtoms_all (ts : List Jvm.Cond) (a : Array Jvm.Value) (st : Jvm.State) : (allAtoms ts).before a st = ts.all (fun c => c.before a st) := by
  induction ts with
  | nil => rfl
  | cons c t ih =>
    show (Jvm.Cond.and c (allAtoms t)).before a st = _
    rw [Jvm.Cond.before_and, ih, List.all_cons]
def words1 : List Jvm.Cond := Jvm.Cond.code x code maxLocals ret :: tables_1
/-- a 'code' word, met by the world's own term for the bytes: nothing is compared byte by byte -/
theorem code_word {y : MethodName} {bytes : ByteArray} {mx : Nat} {rt : Option FieldType} {a : Array Value} {s : State} {m : MethodId} {meth : Method} {c : Code} (h1 : s.methodNamed? y = some m) (h2 : s.vm.method? m = some meth) (h3 : meth.code = some c) (h4 : c.code = bytes)
    (h5 : (c.maxLocals == mx && c.exceptionTable.isEmpty && decide (c.maxStack ≤ mostOperands) && decide (meth.sig.returnType = rt) && !meth.locks && decide (parseMethodDescriptor y.desc = some meth.sig)) = true) : (Jvm.Cond.code y bytes mx rt).before a s = true := by
  simp only [Bool.and_eq_true, beq_iff_eq, Bool.not_eq_true', decide_eq_true_eq] at h5
  obtain ⟨⟨⟨⟨⟨g1, g2⟩, g3⟩, g4⟩, g5⟩, g6⟩ := h5
  simp [Cond.before, Cond.holds, Cond.value, h1, h2, h3, h4, g1, g2, g3, g4, g5, g6]
def isCode : Jvm.Cond → Bool
  | .code _ _ _ _ => true
  | _ => false
theorem all_split {L : List Jvm.Cond} {P : Jvm.Cond → Bool} (h1 : L.all (fun c => isCode c || P c) = true) (h2 : ∀ c ∈ L.filter isCode, P c = true) : L.all P = true := by
  refine List.all_eq_true.mpr fun c hc => ?_
  have h := List.all_eq_true.mp h1 c hc
  rcases Bool.eq_false_or_eq_true (isCode c) with hi | hi
  · exact h2 c (List.mem_filter.mpr ⟨hc, hi⟩)
  · simpa [hi] using h
set_option maxRecDepth 65536 in
theorem w_c0 : (Jvm.Cond.code x code maxLocals ret).before args0 about1 = true := code_word (m := ⟨1, 1⟩) (meth := k1m1) (c := k1c1) (by decide +kernel) rfl rfl rfl (by decide +kernel)
set_option maxRecDepth 65536 in
theorem w_c1 : (Jvm.Cond.code ({ cls := "com/example/strikeline/strikeline/PennyProgram", name := "priceAbove", desc := "(J)J" } : Jvm.MethodName) prog_68_method_7_code (5 : Nat) (Option.some Jvm.ClassFile.FieldType.long)).before args0 about1 = true := code_word (m := ⟨6, 0⟩) (meth := k6m0) (c := k6c0) (by decide +kernel) rfl rfl rfl (by decide +kernel)
def codes1 : List Jvm.Cond := [Jvm.Cond.code x code maxLocals ret, Jvm.Cond.code ({ cls := "com/example/strikeline/strikeline/PennyProgram", name := "priceAbove", desc := "(J)J" } : Jvm.MethodName) prog_68_method_7_code (5 : Nat) (Option.some Jvm.ClassFile.FieldType.long)]
set_option maxRecDepth 65536 in
theorem codes_eq : words1.filter isCode = codes1 := rfl
theorem w_codes : ∀ c ∈ words1.filter isCode, c.before args0 about1 = true := by
  rw [codes_eq]
  intro c hc
  simp only [codes1, List.mem_cons, List.not_mem_nil, or_false] at hc
  rcases hc with rfl | rfl
  · exact w_c0
  · exact w_c1
set_option maxRecDepth 65536 in
theorem w_t1 : (words1.take 24).all (fun c => isCode c || c.before args0 about1) = true := by decide +kernel
set_option maxRecDepth 65536 in
theorem w_t2 : (words1.drop 24).all (fun c => isCode c || c.before args0 about1) = true := by decide +kernel
theorem w_tables : (allAtoms (Jvm.Cond.code x code maxLocals ret :: tables_1)).before args0 about1 = true := by
  rw [allAtoms_all]
  show words1.all (fun c => c.before args0 about1) = true
  refine all_split ?_ w_codes
  rw [← List.take_append_drop 24 words1, List.all_append, w_t1, w_t2]
  rfl
set_option maxRecDepth 65536 in
theorem w_case : (Jvm.Cond.and given_1 narrow_1).before args0 about1 = true := by decide +kernel
theorem w_applies : (headSpec (Jvm.Cond.code x code maxLocals ret :: tables_1) room_1).applies x e0.platform about1 = true :=
  (Spec.applies_iff w_frames).mpr ⟨w_running, w_runnable, w_alone, w_named, w_hears, w_ripe, w_room, w_tables⟩
theorem atStart : AtStart classFile x code maxLocals ret World_1 tables_1 room_1 Calls_1 rest_1 Pre_1 launch0 p0 e0 about1 theMethod args0 below0 :=
  ⟨lists_1, trivial, launch0.admits_env _ _ _, launch0.least_env, fairChoices_fair.cas, fairChoices_fair.clock, w_frames, w_args, w_heap, w_applies, trivial, trivial, w_case⟩
end start1
theorem witness_1 : WitnessClaimed_1 := ⟨start1.p0, start1.e0, start1.about1, start1.theMethod, start1.args0, start1.below0, start1.atStart⟩
end Jvm.Pilot.@@N@@
