import JvmDerived
import JvmDerived.Pilot.@@N@@Statement
import JvmDerived.Pilot.@@N@@Code
set_option linter.unusedVariables false
set_option linter.unusedSimpArgs false
namespace Jvm.Pilot.@@N@@
open Jvm Jvm.ClassFile Sem Op Lib Jvm.Free Jvm.Stand Jvm.LawKit Jvm.RoadKit Bundle Jvm.Pilot.@@N@@.Jvm.D
def own_Go (p : Program) (e : Env) (below : List Frame) (s : State) (Q : Option Value → Heap → List Loc → Prop) (kc ks : Nat) (A : State) : Prop :=
  ∃ s₂ o, Steps p.tables e below A s₂ ∧ s₂.status = .running ∧ Ended s₂ below o ∧ ∃ v L, o = .returned v ∧ Q v s₂.heap L ∧ FrameEnd s o s₂ L kc ks
section OwnLayer
variable {p : Program} {l : Launch} {e : Env} {R : Room} {s : State} {m : MethodId} {args : Array Value} {below : List Frame} {meth : Method} {c : Code} {T : State} {locs : List Loc} {cells slots : Nat}
variable {Q : Option Value → Heap → List Loc → Prop} {kc ks : Nat} {A B : State}
theorem own_via (h : ∀ t, Steps p.tables e below B t → Steps p.tables e below A t) (g : own_Go p e below s Q kc ks B) : own_Go p e below s Q kc ks A := by
  obtain ⟨t, o, h1, r⟩ := g
  exact ⟨t, o, h _ h1, r⟩
theorem own_tr (h : Steps p.tables e below A B) (g : own_Go p e below s Q kc ks B) : own_Go p e below s Q kc ks A := by
  obtain ⟨t, o, h1, r⟩ := g
  exact ⟨t, o, h.trans h1, r⟩
theorem own_end (X : Stand p l e R s m args below meth c T locs cells slots) (hlk : meth.locks = false) {v : Option Value} (hv : meth.sig.returnType = none → v = none) {A : State}
    (hstep : ∀ fs, (∀ (f : JFrame) (acts : List Action), f.method = m → f.locked = none → f.entered = [] → (doReturn e (T.setTop f) acts v).1 = T.setFrames fs) → Steps p.tables e below A (T.setFrames fs))
    (hQ : Q v T.heap locs) (hc : cells ≤ kc) (hs : slots ≤ ks) : own_Go p e below s Q kc ks A := by
  obtain ⟨fs, hr, hrun, hended, hW, hsame⟩ := X.leave (v := v) hv hlk
  exact ⟨_, _, hstep fs hr, hrun, hended, _, _, rfl, hQ, ⟨_, rfl⟩, hW, hsame.mono hc hs⟩
theorem own_retZ (X : Stand p l e R s m args below meth c T locs cells slots) (hx : p.tables.exec = Jvm.exec) (hlk : meth.locks = false) {pc : Nat} {Ls : Array Slot} {z z' : Int32} {t : FieldType} {rest : List Value} (hret : meth.sig.returnType = some t) (ht : t = .boolean ∨ t = .byte ∨ t = .char ∨ t = .short)
    (hd : decode c.code pc = .ok (.ireturn, 1)) (hz : nar t z = z') (hQ : Q (some (.int z')) T.heap locs) (hc : cells ≤ kc) (hs : slots ≤ ks) : own_Go p e below s Q kc ks (T.setTop (mkF m pc Ls (.int z :: rest))) := by
  subst hz
  exact own_end X hlk (fun h => by rw [hret] at h; cases h) (fun fs hr => retN X hx hret ht hd hr) hQ hc hs
theorem own_retO (X : Stand p l e R s m args below meth c T locs cells slots) (hx : p.tables.exec = Jvm.exec) (hlk : meth.locks = false) {pc : Nat} {Ls : Array Slot} {w : Value} {t : FieldType} {i : Instr} {rest : List Value} (hret : meth.sig.returnType = some t) (hn : narrow t w = w)
    (hi : (i = .ireturn ∧ (t = .int ∨ t = .boolean ∨ t = .byte ∨ t = .char ∨ t = .short) ∧ ∃ z, w = .int z) ∨ (i = .lreturn ∧ t = .long ∧ ∃ z, w = .long z) ∨ (i = .dreturn ∧ t = .double ∧ ∃ z, w = .double z) ∨ (i = .freturn ∧ t = .float ∧ ∃ z, w = .float z) ∨ (i = .areturn ∧ t.isReference = true ∧ w.isRef = true))
    (hd : decode c.code pc = .ok (i, 1)) (hQ : Q (some w) T.heap locs) (hc : cells ≤ kc) (hs : slots ≤ ks) : own_Go p e below s Q kc ks (T.setTop (mkF m pc Ls (w :: rest))) :=
  own_end X hlk (fun h => by rw [hret] at h; cases h) (fun fs hr => retOut X hx hret hn hi hd hr) hQ hc hs
theorem own_retI (X : Stand p l e R s m args below meth c T locs cells slots) (hx : p.tables.exec = Jvm.exec) (hlk : meth.locks = false) {pc : Nat} {Ls : Array Slot} {z : Int32} {rest : List Value} (hret : meth.sig.returnType = some .int)
    (hd : decode c.code pc = .ok (.ireturn, 1)) (hQ : Q (some (.int z)) T.heap locs) (hc : cells ≤ kc) (hs : slots ≤ ks) : own_Go p e below s Q kc ks (T.setTop (mkF m pc Ls (.int z :: rest))) :=
  own_retO X hx hlk hret rfl (Or.inl ⟨rfl, Or.inl rfl, _, rfl⟩) hd hQ hc hs
theorem own_retJ (X : Stand p l e R s m args below meth c T locs cells slots) (hx : p.tables.exec = Jvm.exec) (hlk : meth.locks = false) {pc : Nat} {Ls : Array Slot} {z : Int64} {rest : List Value} (hret : meth.sig.returnType = some .long)
    (hd : decode c.code pc = .ok (.lreturn, 1)) (hQ : Q (some (.long z)) T.heap locs) (hc : cells ≤ kc) (hs : slots ≤ ks) : own_Go p e below s Q kc ks (T.setTop (mkF m pc Ls (.long z :: rest))) :=
  own_retO X hx hlk hret rfl (Or.inr (Or.inl ⟨rfl, rfl, _, rfl⟩)) hd hQ hc hs
theorem own_retR (X : Stand p l e R s m args below meth c T locs cells slots) (hx : p.tables.exec = Jvm.exec) (hlk : meth.locks = false) {pc : Nat} {Ls : Array Slot} {w : Value} {t : FieldType} {rest : List Value} (hret : meth.sig.returnType = some t) (ht : t.isReference = true) (hw : w.isRef = true)
    (hd : decode c.code pc = .ok (.areturn, 1)) (hQ : Q (some w) T.heap locs) (hc : cells ≤ kc) (hs : slots ≤ ks) : own_Go p e below s Q kc ks (T.setTop (mkF m pc Ls (w :: rest))) :=
  own_retO X hx hlk hret (by cases t <;> first | (cases ht; done) | rfl) (Or.inr (Or.inr (Or.inr (Or.inr ⟨rfl, ht, hw⟩)))) hd hQ hc hs
theorem own_retV (X : Stand p l e R s m args below meth c T locs cells slots) (hx : p.tables.exec = Jvm.exec) (hlk : meth.locks = false) {pc : Nat} {Ls : Array Slot} (hret : meth.sig.returnType = none)
    (hd : decode c.code pc = .ok (.return_, 1)) (hQ : Q none T.heap locs) (hc : cells ≤ kc) (hs : slots ≤ ks) : own_Go p e below s Q kc ks (T.setTop (mkF m pc Ls [])) :=
  own_end X hlk (fun _ => rfl) (fun fs hr => X.returnOut hx hret hd hr) hQ hc hs
end OwnLayer
theorem own_eqv {args : Array Value} {Z : State} {t : Term} {k : Int32} (h : (Jvm.Cond.eq t (Term.int k)).value args Z none Z [] = some true) : t.eval args Z none [] Z = some (.int k) := by
  simp only [Jvm.Cond.value, Term.eval] at h
  cases ht : t.eval args Z none [] Z with
  | none => simp [ht] at h
  | some x => cases x <;> simp [ht] at h ⊢; exact h
theorem own_eqvL {args : Array Value} {Z : State} {t : Term} {k : Int64} (h : (Jvm.Cond.eq t (Term.long k)).value args Z none Z [] = some true) : t.eval args Z none [] Z = some (.long k) := by
  simp only [Jvm.Cond.value, Term.eval] at h
  cases ht : t.eval args Z none [] Z with
  | none => simp [ht] at h
  | some x => cases x <;> simp [ht] at h ⊢; exact h
theorem own_fld {args : Array Value} {Z : State} {t : Term} {C n d : String} {a : Addr} {k : Int32} (ev : t.eval args Z none [] Z = some (.ref a)) (h : (Jvm.Cond.eq (Term.field t C n d) (Term.int k)).value args Z none Z [] = some true) : Fld Z Z.heap a C n d (.int k) :=
  Fld.start ((fld_at ev).symm.trans (own_eqv h))
theorem own_fldL {args : Array Value} {Z : State} {t : Term} {C n d : String} {a : Addr} {k : Int64} (ev : t.eval args Z none [] Z = some (.ref a)) (h : (Jvm.Cond.eq (Term.field t C n d) (Term.long k)).value args Z none Z [] = some true) : Fld Z Z.heap a C n d (.long k) :=
  Fld.start ((fld_at ev).symm.trans (own_eqvL h))
theorem own_mod (x : Int32) (n : Int32) (k : Int) (hn : n.toInt = k) (hk : 0 < k) : 0 ≤ ((x &&& 2147483647) % n).toInt ∧ ((x &&& 2147483647) % n).toInt < k := by
  have h := (c_and x 2147483647 (by decide)).1
  rw [Int32.toInt_mod, hn, Int.tmod_eq_emod_of_nonneg h]
  exact ⟨Int.emod_nonneg _ (by omega), Int.emod_lt_of_pos _ hk⟩
theorem own_z {x y : Int32} (h : x.toInt = y.toInt) : x = y := Int32.toInt_inj.mp h
theorem own_mod3 (x : Int32) : (x &&& 2147483647) % 3 = 0 ∨ (x &&& 2147483647) % 3 = 1 ∨ (x &&& 2147483647) % 3 = 2 := by
  have h := own_mod x 3 3 rfl (by decide)
  simp only [← Int32.toInt_inj, show (0 : Int32).toInt = 0 from rfl, show (1 : Int32).toInt = 1 from rfl, show (2 : Int32).toInt = 2 from rfl]
  omega
theorem own_mod5 (x : Int32) : (x &&& 2147483647) % 5 = 0 ∨ (x &&& 2147483647) % 5 = 1 ∨ (x &&& 2147483647) % 5 = 2 ∨ (x &&& 2147483647) % 5 = 3 ∨ (x &&& 2147483647) % 5 = 4 := by
  have h := own_mod x 5 5 rfl (by decide)
  simp only [← Int32.toInt_inj, show (0 : Int32).toInt = 0 from rfl, show (1 : Int32).toInt = 1 from rfl, show (2 : Int32).toInt = 2 from rfl, show (3 : Int32).toInt = 3 from rfl, show (4 : Int32).toInt = 4 from rfl]
  omega
theorem own_mod6 (x : Int32) : (x &&& 2147483647) % 6 = 0 ∨ (x &&& 2147483647) % 6 = 1 ∨ (x &&& 2147483647) % 6 = 2 ∨ (x &&& 2147483647) % 6 = 3 ∨ (x &&& 2147483647) % 6 = 4 ∨ (x &&& 2147483647) % 6 = 5 := by
  have h := own_mod x 6 6 rfl (by decide)
  simp only [← Int32.toInt_inj, show (0 : Int32).toInt = 0 from rfl, show (1 : Int32).toInt = 1 from rfl, show (2 : Int32).toInt = 2 from rfl, show (3 : Int32).toInt = 3 from rfl, show (4 : Int32).toInt = 4 from rfl, show (5 : Int32).toInt = 5 from rfl]
  omega
theorem own_and1 (x : Int32) : x &&& 1 = 0 ∨ x &&& 1 = 1 := by
  have h := c_and x 1 (by decide)
  simp only [← Int32.toInt_inj, show (0 : Int32).toInt = 0 from rfl, show (1 : Int32).toInt = 1 from rfl] at *
  omega
theorem own_and3 (x : Int32) : x &&& 3 = 0 ∨ x &&& 3 = 1 ∨ x &&& 3 = 2 ∨ x &&& 3 = 3 := by
  have h := c_and x 3 (by decide)
  simp only [← Int32.toInt_inj, show (0 : Int32).toInt = 0 from rfl, show (1 : Int32).toInt = 1 from rfl, show (2 : Int32).toInt = 2 from rfl, show (3 : Int32).toInt = 3 from rfl] at *
  omega
theorem own_rem1 (x : Int64) : x - (x / 1) * 1 = 0 := by
  have h := c_lrem x 1 1 rfl
  rw [← Int64.toInt_inj]
  have e0 : (0 : Int64).toInt = 0 := rfl
  rw [e0]
  omega
theorem own_c79 (x : Int64) : 0 ≤ ((280 : Int64) + (x &&& (63 : Int64))).toInt ∧ ((280 : Int64) + (x &&& (63 : Int64))).toInt ≤ 4611686018427387903 := by
  have h1 := c_ladd 280 (x &&& 63)
  have h2 := c_maskL x 63 6 (by decide) (by decide)
  have h3 := rng64 ((280 : Int64) + (x &&& (63 : Int64)))
  have e0 : (280 : Int64).toInt = 280 := rfl
  omega
theorem own_c89 (x : Int64) : 0 ≤ (x &&& (4611686018427387903 : Int64)).toInt ∧ (x &&& (4611686018427387903 : Int64)).toInt ≤ 4611686018427387903 := by
  have h2 := c_maskL x 4611686018427387903 62 (by decide) (by decide)
  omega
theorem own_above1 (c : Int64) (h : 0 ≤ c.toInt ∧ c.toInt ≤ 4611686018427387903) : ((c / 1 + 1) * 1).toInt = (c.toInt / 1 + 1) * 1 := by
  have h1 := c_ldiv c 1 1 rfl (by decide)
  have h2 := c_ladd (c / 1) 1
  have h3 := c_lmul (c / 1 + 1) 1
  have h4 := rng64 (c / 1 + 1)
  have h5 := rng64 ((c / 1 + 1) * 1)
  have e0 : (1 : Int64).toInt = 1 := rfl
  rw [e0] at h2 h3
  omega
theorem own_above5 (c : Int64) (h : 0 ≤ c.toInt ∧ c.toInt ≤ 4611686018427387903) : ((c / 5 + 1) * 5).toInt = (c.toInt / 5 + 1) * 5 := by
  have h1 := c_ldiv c 5 5 rfl (by decide)
  have h2 := c_ladd (c / 5) 1
  have h3 := c_lmul (c / 5 + 1) 5
  have h4 := rng64 (c / 5 + 1)
  have h5 := rng64 ((c / 5 + 1) * 5)
  have e0 : (1 : Int64).toInt = 1 := rfl
  have e1 : (5 : Int64).toInt = 5 := rfl
  rw [e0] at h2
  rw [e1] at h3
  omega
theorem own_above10 (c : Int64) (h : 0 ≤ c.toInt ∧ c.toInt ≤ 4611686018427387903) : ((c / 10 + 1) * 10).toInt = (c.toInt / 10 + 1) * 10 := by
  have h1 := c_ldiv c 10 10 rfl (by decide)
  have h2 := c_ladd (c / 10) 1
  have h3 := c_lmul (c / 10 + 1) 10
  have h4 := rng64 (c / 10 + 1)
  have h5 := rng64 ((c / 10 + 1) * 10)
  have e0 : (1 : Int64).toInt = 1 := rfl
  have e1 : (10 : Int64).toInt = 10 := rfl
  rw [e0] at h2
  rw [e1] at h3
  omega
theorem own_c86 (x : Int64) : 1 ≤ ((1 : Int64) + (x &&& (1023 : Int64))).toInt := by
  have h1 := c_ladd 1 (x &&& 1023)
  have h2 := c_maskL x 1023 10 (by decide) (by decide)
  have h3 := rng64 ((1 : Int64) + (x &&& (1023 : Int64)))
  have e0 : (1 : Int64).toInt = 1 := rfl
  omega
theorem own_lt1 {e : Int64} (h : (1 : Int64) < e) : 1 ≤ e.toInt := by
  rw [Int64.lt_iff_toInt_lt] at h
  have e0 : (1 : Int64).toInt = 1 := rfl
  omega
theorem own_below1 (c : Int64) (h : 1 ≤ c.toInt) : (((c - 1) / 1) * 1).toInt = ((c.toInt - 1) / 1) * 1 := by
  have h0 := c_lsub c 1
  have h1 := c_ldiv (c - 1) 1 1 rfl (by decide)
  have h3 := c_lmul ((c - 1) / 1) 1
  have h4 := rng64 (c - 1)
  have h5 := rng64 (((c - 1) / 1) * 1)
  have h6 := rng64 c
  have e0 : (1 : Int64).toInt = 1 := rfl
  rw [e0] at h0 h3
  have h7 : (c - 1).toInt = c.toInt - 1 := by omega
  rw [h7] at h1 h4
  omega
theorem own_below5 (c : Int64) (h : 1 ≤ c.toInt) : (((c - 1) / 5) * 5).toInt = ((c.toInt - 1) / 5) * 5 := by
  have h0 := c_lsub c 1
  have h1 := c_ldiv (c - 1) 5 5 rfl (by decide)
  have h3 := c_lmul ((c - 1) / 5) 5
  have h4 := rng64 (c - 1)
  have h5 := rng64 (((c - 1) / 5) * 5)
  have h6 := rng64 c
  have e0 : (1 : Int64).toInt = 1 := rfl
  have e1 : (5 : Int64).toInt = 5 := rfl
  rw [e0] at h0
  rw [e1] at h3
  have h7 : (c - 1).toInt = c.toInt - 1 := by omega
  rw [h7] at h1 h4
  omega
theorem own_below10 (c : Int64) (h : 1 ≤ c.toInt) : (((c - 1) / 10) * 10).toInt = ((c.toInt - 1) / 10) * 10 := by
  have h0 := c_lsub c 1
  have h1 := c_ldiv (c - 1) 10 10 rfl (by decide)
  have h3 := c_lmul ((c - 1) / 10) 10
  have h4 := rng64 (c - 1)
  have h5 := rng64 (((c - 1) / 10) * 10)
  have h6 := rng64 c
  have e0 : (1 : Int64).toInt = 1 := rfl
  have e1 : (10 : Int64).toInt = 10 := rfl
  rw [e0] at h0
  rw [e1] at h3
  have h7 : (c - 1).toInt = c.toInt - 1 := by omega
  rw [h7] at h1 h4
  omega
theorem own_ltL {x y : Int64} (h : x < y) : x.toInt < y.toInt := Int64.lt_iff_toInt_lt.mp h
theorem own_geL {x y : Int64} (h : ¬ (x < y)) : y.toInt ≤ x.toInt := Int.not_lt.mp (mt Int64.lt_iff_toInt_lt.mpr h)
def own_K (Z : State) (h0 : Heap) (w0 : Addr) (w1 : Addr) (w2 : Addr) : Prop :=
  Sta Z h0 "com/example/strikeline/strikeline/PennyProgram" "NO" "Lcom/example/strikeline/strikeline/PennyProgram;" (.ref w0) ∧
  Sta Z h0 "com/example/strikeline/strikeline/PennyProgram" "YES" "Lcom/example/strikeline/strikeline/PennyProgram;" (.ref w1) ∧
  Sta Z h0 "com/example/strikeline/strikeline/PennyProgram" "ALL" "Lcom/example/strikeline/strikeline/PennyProgram;" (.ref w2) ∧
  Exa Z h0 w0 "com/example/strikeline/strikeline/PennyProgram" ∧
  Exa Z h0 w1 "com/example/strikeline/strikeline/PennyProgram" ∧
  Exa Z h0 w2 "com/example/strikeline/strikeline/PennyProgram" ∧
  Fld Z h0 w0 "com/example/strikeline/strikeline/PennyProgram" "below" "J" (.long (5 : Int64)) ∧
  Fld Z h0 w0 "com/example/strikeline/strikeline/PennyProgram" "from" "J" (.long (10 : Int64)) ∧
  Fld Z h0 w1 "com/example/strikeline/strikeline/PennyProgram" "from" "J" (.long (5 : Int64)) ∧
  Fld Z h0 w2 "com/example/strikeline/strikeline/PennyProgram" "from" "J" (.long (1 : Int64)) ∧
  Fld Z h0 w1 "com/example/strikeline/strikeline/PennyProgram" "below" "J" (.long (1 : Int64)) ∧
  Fld Z h0 w2 "com/example/strikeline/strikeline/PennyProgram" "below" "J" (.long (1 : Int64)) ∧
  ¬ (w0 = w1) ∧
  ¬ (w0 = w2) ∧
  ¬ (w1 = w2)
theorem pn0 : plainName "com/example/strikeline/strikeline/PennyProgram" = true := by first | (simp [plainName, overriddenIn]; done) | decide +kernel
theorem pn1 : plainName "com/example/strikeline/strikeline/PennyProgramIsOnGridPinLaw" = true := by first | (simp [plainName, overriddenIn]; done) | decide +kernel
theorem pd0 : parseMethodDescriptor "(J)Z" = some ⟨[.long], some .boolean⟩ := by decide +kernel
theorem d1_0 : decode prog_68_method_5_code 0 = .ok (.lload_n 1, 1) := by decide +kernel
theorem d1_1 : decode prog_68_method_5_code 1 = .ok (.lload_n 1, 1) := by decide +kernel
theorem d1_2 : decode prog_68_method_5_code 2 = .ok (.ldc2_w 43, 3) := by decide +kernel
theorem d1_5 : decode prog_68_method_5_code 5 = .ok (.lcmp, 1) := by decide +kernel
theorem d1_6 : decode prog_68_method_5_code 6 = .ok (.ifCond .ge 10, 3) := by decide +kernel
theorem d1_9 : decode prog_68_method_5_code 9 = .ok (.aload_n 0, 1) := by decide +kernel
theorem d1_10 : decode prog_68_method_5_code 10 = .ok (.getfield 36, 3) := by decide +kernel
theorem d1_13 : decode prog_68_method_5_code 13 = .ok (.goto 7, 3) := by decide +kernel
theorem d1_16 : decode prog_68_method_5_code 16 = .ok (.aload_n 0, 1) := by decide +kernel
theorem d1_17 : decode prog_68_method_5_code 17 = .ok (.getfield 40, 3) := by decide +kernel
theorem d1_20 : decode prog_68_method_5_code 20 = .ok (.lrem, 1) := by decide +kernel
theorem d1_21 : decode prog_68_method_5_code 21 = .ok (.lconst 0, 1) := by decide +kernel
theorem d1_22 : decode prog_68_method_5_code 22 = .ok (.lcmp, 1) := by decide +kernel
theorem d1_23 : decode prog_68_method_5_code 23 = .ok (.ifCond .ne 7, 3) := by decide +kernel
theorem d1_26 : decode prog_68_method_5_code 26 = .ok (.iconst 1, 1) := by decide +kernel
theorem d1_27 : decode prog_68_method_5_code 27 = .ok (.goto 4, 3) := by decide +kernel
theorem d1_30 : decode prog_68_method_5_code 30 = .ok (.iconst 0, 1) := by decide +kernel
theorem d1_31 : decode prog_68_method_5_code 31 = .ok (.ireturn, 1) := by decide +kernel
def Q1_0 (x1 : Int64) (w0 : Addr) (w1 : Addr) (w2 : Addr) (h0 : Heap) (v : Option Value) (h : Heap) (L : List Loc) : Prop := L = [] ∧ h = h0 ∧ ((x1 < (300 : Int64) ∧ (x1 - (x1 / (5 : Int64)) * (5 : Int64)) = (0 : Int64) ∧ v = some (.int (1 : Int32))) ∨ (x1 < (300 : Int64) ∧ ¬ ((x1 - (x1 / (5 : Int64)) * (5 : Int64)) = (0 : Int64)) ∧ v = some (.int (0 : Int32))) ∨ (¬ (x1 < (300 : Int64)) ∧ (x1 - (x1 / (10 : Int64)) * (10 : Int64)) = (0 : Int64) ∧ v = some (.int (1 : Int32))) ∨ (¬ (x1 < (300 : Int64)) ∧ ¬ ((x1 - (x1 / (10 : Int64)) * (10 : Int64)) = (0 : Int64)) ∧ v = some (.int (0 : Int32))))
set_option maxRecDepth 65536 in
set_option maxHeartbeats 40000000 in
theorem rm1_0 (l : Launch) (Z : State) (a0 : Array Value) (hw : ∀ d ∈ tables_1, d.before a0 Z = true) (ws : List Jvm.Cond) (x1 : Int64) (w0 : Addr) (w1 : Addr) (w2 : Addr) (h0 : Heap) (n0 : Nat) (Z0 : n0 ≤ h0.size) (K : own_K Z h0 w0 w1 w2) :
    MetFree l (⟨"com/example/strikeline/strikeline/PennyProgram", "isOnGrid", "(J)Z"⟩ : MethodName) (head1 (Jvm.Cond.code (⟨"com/example/strikeline/strikeline/PennyProgram", "isOnGrid", "(J)Z"⟩ : MethodName) prog_68_method_5_code 3 (some .boolean) :: ws) ({ frames := 0, cells := 0, slots := 0, locals := 0 } : Room)) (fun a U => a = #[(.ref w0), (.long x1)] ∧ Z.Warmed39 U.vm ∧ U.heap = h0) (fun _ _ _ _ _ => True) (fun _ U o U' => ∃ v L, o = .returned v ∧ Q1_0 x1 w0 w1 w2 h0 v U'.heap L ∧ FrameEnd U o U' L ({ frames := 0, cells := 0, slots := 0, locals := 0 } : Room).cells ({ frames := 0, cells := 0, slots := 0, locals := 0 } : Room).slots) := by
  refine MetFree.of_bodySF (plainFor_of_name pn0) hisR ?_
  intro p e s m args below meth c s₁ Bd hml0 hP hK
  obtain ⟨rfl, hZ, hh⟩ := hP
  have hx := Bd.exec
  have hby := Bd.bytes
  have hml : c.maxLocals = 3 := hml0
  have hown : s.vm.findClass "com/example/strikeline/strikeline/PennyProgram" = some m.cls := findClass_of_methodNamed Bd.named
  have hnm := (name_of_methodNamed Bd.named Bd.method).1
  have hlk := Bd.notSynchronized
  have X0 : Stand p l e ({ frames := 0, cells := 0, slots := 0, locals := 0 } : Room) s m #[(.ref w0), (.long x1)] below meth c s₁ [] 0 0 := Stand.of_body Bd
  have e0 : s₁.heap = h0 := by rw [← hh, Bd.state]; rfl
  have K0 := K
  obtain ⟨S_w0, S_w1, S_w2, E_w0, E_w1, E_w2, F_w0_below, F_w0_from, F_w1_from, F_w2_from, F_w1_below, F_w2_below, n_w0_w1, n_w0_w2, n_w1_w2⟩ := K
  show own_Go p e below s (Q1_0 x1 w0 w1 w2 h0) 0 0 (s₁.setTop (entryFrame m #[(.ref w0), (.long x1)] 3))
  rw [show entryFrame m #[(.ref w0), (.long x1)] 3 = mkF m 0 #[.val (.ref w0), .val (.long x1), .second] [] from by first | (simp [entryFrame, mkF, argsToLocals, Value.category]; done) | rfl]
  show own_Go p e below s _ _ _ (s₁.setTop (mkF m 0 #[.val (.ref w0), .val (.long x1), .second] []))
  refine own_via (fun _ k => XS.lloadN X0.here hx rfl (hb hby d1_0) rfl k) ?_
  show own_Go p e below s _ _ _ (s₁.setTop (mkF m 1 #[.val (.ref w0), .val (.long x1), .second] [(.long x1)]))
  refine own_via (fun _ k => XS.lloadN X0.here hx rfl (hb hby d1_1) rfl k) ?_
  show own_Go p e below s _ _ _ (s₁.setTop (mkF m 2 #[.val (.ref w0), .val (.long x1), .second] [(.long x1), (.long x1)]))
  refine own_via (fun _ k => X0.ldc2Long hx hown (mvT hZ (hw _ (List.mem_of_getElem? (i := 13) rfl))) (g := (mkF m 2 #[.val (.ref w0), .val (.long x1), .second] [(.long x1), (.long x1)])) rfl (hb hby d1_2) _ k) ?_
  show own_Go p e below s _ _ _ (s₁.setTop (mkF m 5 #[.val (.ref w0), .val (.long x1), .second] [(.long (300 : Int64)), (.long x1), (.long x1)]))
  refine own_via (fun _ k => XS.lcmp X0.here hx rfl (hb hby d1_5) rfl k) ?_
  show own_Go p e below s _ _ _ (s₁.setTop (mkF m 6 #[.val (.ref w0), .val (.long x1), .second] [(.int (lcmpW x1 (300 : Int64))), (.long x1)]))
  by_cases hc1 : x1 < (300 : Int64)
  · refine own_via (fun _ k => XS.ifNo X0.here hx rfl (hb hby d1_6) rfl ((if0 _ _).trans (tlt ((lw_lt x1 (300 : Int64)).mpr hc1)).2.1) k) ?_
    show own_Go p e below s _ _ _ (s₁.setTop (mkF m 9 #[.val (.ref w0), .val (.long x1), .second] [(.long x1)]))
    refine own_via (fun _ k => XS.aloadN X0.here hx rfl (hb hby d1_9) rfl rfl k) ?_
    show own_Go p e below s _ _ _ (s₁.setTop (mkF m 10 #[.val (.ref w0), .val (.long x1), .second] [(.ref w0), (.long x1)]))
    obtain ⟨T2, X2, e2, st2⟩ := getF X0 hx hZ hown (host := "") (Or.inl (hw _ (List.mem_of_getElem? (i := 14) rfl))) Via.refl e0 F_w0_below (g := (mkF m 10 #[.val (.ref w0), .val (.long x1), .second] [(.ref w0), (.long x1)])) rfl rfl (hb hby d1_10)
    refine own_via st2 ?_
    show own_Go p e below s _ _ _ (T2.setTop (mkF m 13 #[.val (.ref w0), .val (.long x1), .second] [(.long (5 : Int64)), (.long x1)]))
    refine own_via (fun _ k => XS.goto X2.here hx rfl (pc0 := 13) (pc' := 20) rfl (hb hby d1_13) (by decide) (by decide) k) ?_
    show own_Go p e below s _ _ _ (T2.setTop (mkF m 20 #[.val (.ref w0), .val (.long x1), .second] [(.long (5 : Int64)), (.long x1)]))
    refine own_via (fun _ k => XS.lrem X2.here hx rfl (hb hby d1_20) rfl (by decide : ¬ ((5 : Int64) = (0 : Int64))) k) ?_
    show own_Go p e below s _ _ _ (T2.setTop (mkF m 21 #[.val (.ref w0), .val (.long x1), .second] [(.long (x1 - (x1 / (5 : Int64)) * (5 : Int64)))]))
    refine own_via (fun _ k => XS.lconst X2.here hx rfl (hb hby d1_21) k) ?_
    show own_Go p e below s _ _ _ (T2.setTop (mkF m 22 #[.val (.ref w0), .val (.long x1), .second] [(.long (0 : Int64)), (.long (x1 - (x1 / (5 : Int64)) * (5 : Int64)))]))
    refine own_via (fun _ k => XS.lcmp X2.here hx rfl (hb hby d1_22) rfl k) ?_
    show own_Go p e below s _ _ _ (T2.setTop (mkF m 23 #[.val (.ref w0), .val (.long x1), .second] [(.int (lcmpW (x1 - (x1 / (5 : Int64)) * (5 : Int64)) (0 : Int64)))]))
    by_cases hc3 : (x1 - (x1 / (5 : Int64)) * (5 : Int64)) = (0 : Int64)
    · refine own_via (fun _ k => XS.ifNo X2.here hx rfl (hb hby d1_23) rfl ((if0 _ _).trans (teq ((lw_eq (x1 - (x1 / (5 : Int64)) * (5 : Int64)) (0 : Int64)).mpr hc3)).2) k) ?_
      show own_Go p e below s _ _ _ (T2.setTop (mkF m 26 #[.val (.ref w0), .val (.long x1), .second] []))
      refine own_via (fun _ k => XS.iconst X2.here hx rfl (hb hby d1_26) k) ?_
      show own_Go p e below s _ _ _ (T2.setTop (mkF m 27 #[.val (.ref w0), .val (.long x1), .second] [(.int (1 : Int32))]))
      refine own_via (fun _ k => XS.goto X2.here hx rfl (pc0 := 27) (pc' := 31) rfl (hb hby d1_27) (by decide) (by decide) k) ?_
      show own_Go p e below s _ _ _ (T2.setTop (mkF m 31 #[.val (.ref w0), .val (.long x1), .second] [(.int (1 : Int32))]))
      exact own_retZ X2 hx hlk (t := .boolean) Bd.returns (by simp) (hb hby d1_31) (z' := (1 : Int32)) (by first | rfl | decide) ⟨rfl, e2, Or.inl ⟨hc1, hc3, rfl⟩⟩ (by decide) (by decide)
    · refine own_via (fun _ k => XS.ifYes X2.here hx rfl (pc0 := 23) (pc' := 30) rfl (hb hby d1_23) rfl ((if0 _ _).trans (feq (mt (lw_eq (x1 - (x1 / (5 : Int64)) * (5 : Int64)) (0 : Int64)).mp hc3)).2) (by decide) (by decide) k) ?_
      show own_Go p e below s _ _ _ (T2.setTop (mkF m 30 #[.val (.ref w0), .val (.long x1), .second] []))
      refine own_via (fun _ k => XS.iconst X2.here hx rfl (hb hby d1_30) k) ?_
      show own_Go p e below s _ _ _ (T2.setTop (mkF m 31 #[.val (.ref w0), .val (.long x1), .second] [(.int (0 : Int32))]))
      exact own_retZ X2 hx hlk (t := .boolean) Bd.returns (by simp) (hb hby d1_31) (z' := (0 : Int32)) (by first | rfl | decide) ⟨rfl, e2, Or.inr (Or.inl ⟨hc1, hc3, rfl⟩)⟩ (by decide) (by decide)
  · refine own_via (fun _ k => XS.ifYes X0.here hx rfl (pc0 := 6) (pc' := 16) rfl (hb hby d1_6) rfl ((if0 _ _).trans (flt (mt (lw_lt x1 (300 : Int64)).mp hc1)).2.1) (by decide) (by decide) k) ?_
    show own_Go p e below s _ _ _ (s₁.setTop (mkF m 16 #[.val (.ref w0), .val (.long x1), .second] [(.long x1)]))
    refine own_via (fun _ k => XS.aloadN X0.here hx rfl (hb hby d1_16) rfl rfl k) ?_
    show own_Go p e below s _ _ _ (s₁.setTop (mkF m 17 #[.val (.ref w0), .val (.long x1), .second] [(.ref w0), (.long x1)]))
    obtain ⟨T4, X4, e4, st4⟩ := getF X0 hx hZ hown (host := "") (Or.inl (hw _ (List.mem_of_getElem? (i := 17) rfl))) Via.refl e0 F_w0_from (g := (mkF m 17 #[.val (.ref w0), .val (.long x1), .second] [(.ref w0), (.long x1)])) rfl rfl (hb hby d1_17)
    refine own_via st4 ?_
    show own_Go p e below s _ _ _ (T4.setTop (mkF m 20 #[.val (.ref w0), .val (.long x1), .second] [(.long (10 : Int64)), (.long x1)]))
    refine own_via (fun _ k => XS.lrem X4.here hx rfl (hb hby d1_20) rfl (by decide : ¬ ((10 : Int64) = (0 : Int64))) k) ?_
    show own_Go p e below s _ _ _ (T4.setTop (mkF m 21 #[.val (.ref w0), .val (.long x1), .second] [(.long (x1 - (x1 / (10 : Int64)) * (10 : Int64)))]))
    refine own_via (fun _ k => XS.lconst X4.here hx rfl (hb hby d1_21) k) ?_
    show own_Go p e below s _ _ _ (T4.setTop (mkF m 22 #[.val (.ref w0), .val (.long x1), .second] [(.long (0 : Int64)), (.long (x1 - (x1 / (10 : Int64)) * (10 : Int64)))]))
    refine own_via (fun _ k => XS.lcmp X4.here hx rfl (hb hby d1_22) rfl k) ?_
    show own_Go p e below s _ _ _ (T4.setTop (mkF m 23 #[.val (.ref w0), .val (.long x1), .second] [(.int (lcmpW (x1 - (x1 / (10 : Int64)) * (10 : Int64)) (0 : Int64)))]))
    by_cases hc5 : (x1 - (x1 / (10 : Int64)) * (10 : Int64)) = (0 : Int64)
    · refine own_via (fun _ k => XS.ifNo X4.here hx rfl (hb hby d1_23) rfl ((if0 _ _).trans (teq ((lw_eq (x1 - (x1 / (10 : Int64)) * (10 : Int64)) (0 : Int64)).mpr hc5)).2) k) ?_
      show own_Go p e below s _ _ _ (T4.setTop (mkF m 26 #[.val (.ref w0), .val (.long x1), .second] []))
      refine own_via (fun _ k => XS.iconst X4.here hx rfl (hb hby d1_26) k) ?_
      show own_Go p e below s _ _ _ (T4.setTop (mkF m 27 #[.val (.ref w0), .val (.long x1), .second] [(.int (1 : Int32))]))
      refine own_via (fun _ k => XS.goto X4.here hx rfl (pc0 := 27) (pc' := 31) rfl (hb hby d1_27) (by decide) (by decide) k) ?_
      show own_Go p e below s _ _ _ (T4.setTop (mkF m 31 #[.val (.ref w0), .val (.long x1), .second] [(.int (1 : Int32))]))
      exact own_retZ X4 hx hlk (t := .boolean) Bd.returns (by simp) (hb hby d1_31) (z' := (1 : Int32)) (by first | rfl | decide) ⟨rfl, e4, Or.inr (Or.inr (Or.inl ⟨hc1, hc5, rfl⟩))⟩ (by decide) (by decide)
    · refine own_via (fun _ k => XS.ifYes X4.here hx rfl (pc0 := 23) (pc' := 30) rfl (hb hby d1_23) rfl ((if0 _ _).trans (feq (mt (lw_eq (x1 - (x1 / (10 : Int64)) * (10 : Int64)) (0 : Int64)).mp hc5)).2) (by decide) (by decide) k) ?_
      show own_Go p e below s _ _ _ (T4.setTop (mkF m 30 #[.val (.ref w0), .val (.long x1), .second] []))
      refine own_via (fun _ k => XS.iconst X4.here hx rfl (hb hby d1_30) k) ?_
      show own_Go p e below s _ _ _ (T4.setTop (mkF m 31 #[.val (.ref w0), .val (.long x1), .second] [(.int (0 : Int32))]))
      exact own_retZ X4 hx hlk (t := .boolean) Bd.returns (by simp) (hb hby d1_31) (z' := (0 : Int32)) (by first | rfl | decide) ⟨rfl, e4, Or.inr (Or.inr (Or.inr (⟨hc1, hc5, rfl⟩)))⟩ (by decide) (by decide)
def Q1_1 (x1 : Int64) (w0 : Addr) (w1 : Addr) (w2 : Addr) (h0 : Heap) (v : Option Value) (h : Heap) (L : List Loc) : Prop := L = [] ∧ h = h0 ∧ ((x1 < (300 : Int64) ∧ (x1 - (x1 / (1 : Int64)) * (1 : Int64)) = (0 : Int64) ∧ v = some (.int (1 : Int32))) ∨ (x1 < (300 : Int64) ∧ ¬ ((x1 - (x1 / (1 : Int64)) * (1 : Int64)) = (0 : Int64)) ∧ v = some (.int (0 : Int32))) ∨ (¬ (x1 < (300 : Int64)) ∧ (x1 - (x1 / (5 : Int64)) * (5 : Int64)) = (0 : Int64) ∧ v = some (.int (1 : Int32))) ∨ (¬ (x1 < (300 : Int64)) ∧ ¬ ((x1 - (x1 / (5 : Int64)) * (5 : Int64)) = (0 : Int64)) ∧ v = some (.int (0 : Int32))))
set_option maxRecDepth 65536 in
set_option maxHeartbeats 40000000 in
theorem rm1_1 (l : Launch) (Z : State) (a0 : Array Value) (hw : ∀ d ∈ tables_1, d.before a0 Z = true) (ws : List Jvm.Cond) (x1 : Int64) (w0 : Addr) (w1 : Addr) (w2 : Addr) (h0 : Heap) (n0 : Nat) (Z0 : n0 ≤ h0.size) (K : own_K Z h0 w0 w1 w2) :
    MetFree l (⟨"com/example/strikeline/strikeline/PennyProgram", "isOnGrid", "(J)Z"⟩ : MethodName) (head1 (Jvm.Cond.code (⟨"com/example/strikeline/strikeline/PennyProgram", "isOnGrid", "(J)Z"⟩ : MethodName) prog_68_method_5_code 3 (some .boolean) :: ws) ({ frames := 0, cells := 0, slots := 0, locals := 0 } : Room)) (fun a U => a = #[(.ref w1), (.long x1)] ∧ Z.Warmed39 U.vm ∧ U.heap = h0) (fun _ _ _ _ _ => True) (fun _ U o U' => ∃ v L, o = .returned v ∧ Q1_1 x1 w0 w1 w2 h0 v U'.heap L ∧ FrameEnd U o U' L ({ frames := 0, cells := 0, slots := 0, locals := 0 } : Room).cells ({ frames := 0, cells := 0, slots := 0, locals := 0 } : Room).slots) := by
  refine MetFree.of_bodySF (plainFor_of_name pn0) hisR ?_
  intro p e s m args below meth c s₁ Bd hml0 hP hK
  obtain ⟨rfl, hZ, hh⟩ := hP
  have hx := Bd.exec
  have hby := Bd.bytes
  have hml : c.maxLocals = 3 := hml0
  have hown : s.vm.findClass "com/example/strikeline/strikeline/PennyProgram" = some m.cls := findClass_of_methodNamed Bd.named
  have hnm := (name_of_methodNamed Bd.named Bd.method).1
  have hlk := Bd.notSynchronized
  have X0 : Stand p l e ({ frames := 0, cells := 0, slots := 0, locals := 0 } : Room) s m #[(.ref w1), (.long x1)] below meth c s₁ [] 0 0 := Stand.of_body Bd
  have e0 : s₁.heap = h0 := by rw [← hh, Bd.state]; rfl
  have K0 := K
  obtain ⟨S_w0, S_w1, S_w2, E_w0, E_w1, E_w2, F_w0_below, F_w0_from, F_w1_from, F_w2_from, F_w1_below, F_w2_below, n_w0_w1, n_w0_w2, n_w1_w2⟩ := K
  show own_Go p e below s (Q1_1 x1 w0 w1 w2 h0) 0 0 (s₁.setTop (entryFrame m #[(.ref w1), (.long x1)] 3))
  rw [show entryFrame m #[(.ref w1), (.long x1)] 3 = mkF m 0 #[.val (.ref w1), .val (.long x1), .second] [] from by first | (simp [entryFrame, mkF, argsToLocals, Value.category]; done) | rfl]
  show own_Go p e below s _ _ _ (s₁.setTop (mkF m 0 #[.val (.ref w1), .val (.long x1), .second] []))
  refine own_via (fun _ k => XS.lloadN X0.here hx rfl (hb hby d1_0) rfl k) ?_
  show own_Go p e below s _ _ _ (s₁.setTop (mkF m 1 #[.val (.ref w1), .val (.long x1), .second] [(.long x1)]))
  refine own_via (fun _ k => XS.lloadN X0.here hx rfl (hb hby d1_1) rfl k) ?_
  show own_Go p e below s _ _ _ (s₁.setTop (mkF m 2 #[.val (.ref w1), .val (.long x1), .second] [(.long x1), (.long x1)]))
  refine own_via (fun _ k => X0.ldc2Long hx hown (mvT hZ (hw _ (List.mem_of_getElem? (i := 13) rfl))) (g := (mkF m 2 #[.val (.ref w1), .val (.long x1), .second] [(.long x1), (.long x1)])) rfl (hb hby d1_2) _ k) ?_
  show own_Go p e below s _ _ _ (s₁.setTop (mkF m 5 #[.val (.ref w1), .val (.long x1), .second] [(.long (300 : Int64)), (.long x1), (.long x1)]))
  refine own_via (fun _ k => XS.lcmp X0.here hx rfl (hb hby d1_5) rfl k) ?_
  show own_Go p e below s _ _ _ (s₁.setTop (mkF m 6 #[.val (.ref w1), .val (.long x1), .second] [(.int (lcmpW x1 (300 : Int64))), (.long x1)]))
  by_cases hc1 : x1 < (300 : Int64)
  · refine own_via (fun _ k => XS.ifNo X0.here hx rfl (hb hby d1_6) rfl ((if0 _ _).trans (tlt ((lw_lt x1 (300 : Int64)).mpr hc1)).2.1) k) ?_
    show own_Go p e below s _ _ _ (s₁.setTop (mkF m 9 #[.val (.ref w1), .val (.long x1), .second] [(.long x1)]))
    refine own_via (fun _ k => XS.aloadN X0.here hx rfl (hb hby d1_9) rfl rfl k) ?_
    show own_Go p e below s _ _ _ (s₁.setTop (mkF m 10 #[.val (.ref w1), .val (.long x1), .second] [(.ref w1), (.long x1)]))
    obtain ⟨T2, X2, e2, st2⟩ := getF X0 hx hZ hown (host := "") (Or.inl (hw _ (List.mem_of_getElem? (i := 14) rfl))) Via.refl e0 F_w1_below (g := (mkF m 10 #[.val (.ref w1), .val (.long x1), .second] [(.ref w1), (.long x1)])) rfl rfl (hb hby d1_10)
    refine own_via st2 ?_
    show own_Go p e below s _ _ _ (T2.setTop (mkF m 13 #[.val (.ref w1), .val (.long x1), .second] [(.long (1 : Int64)), (.long x1)]))
    refine own_via (fun _ k => XS.goto X2.here hx rfl (pc0 := 13) (pc' := 20) rfl (hb hby d1_13) (by decide) (by decide) k) ?_
    show own_Go p e below s _ _ _ (T2.setTop (mkF m 20 #[.val (.ref w1), .val (.long x1), .second] [(.long (1 : Int64)), (.long x1)]))
    refine own_via (fun _ k => XS.lrem X2.here hx rfl (hb hby d1_20) rfl (by decide : ¬ ((1 : Int64) = (0 : Int64))) k) ?_
    show own_Go p e below s _ _ _ (T2.setTop (mkF m 21 #[.val (.ref w1), .val (.long x1), .second] [(.long (x1 - (x1 / (1 : Int64)) * (1 : Int64)))]))
    refine own_via (fun _ k => XS.lconst X2.here hx rfl (hb hby d1_21) k) ?_
    show own_Go p e below s _ _ _ (T2.setTop (mkF m 22 #[.val (.ref w1), .val (.long x1), .second] [(.long (0 : Int64)), (.long (x1 - (x1 / (1 : Int64)) * (1 : Int64)))]))
    refine own_via (fun _ k => XS.lcmp X2.here hx rfl (hb hby d1_22) rfl k) ?_
    show own_Go p e below s _ _ _ (T2.setTop (mkF m 23 #[.val (.ref w1), .val (.long x1), .second] [(.int (lcmpW (x1 - (x1 / (1 : Int64)) * (1 : Int64)) (0 : Int64)))]))
    by_cases hc3 : (x1 - (x1 / (1 : Int64)) * (1 : Int64)) = (0 : Int64)
    · refine own_via (fun _ k => XS.ifNo X2.here hx rfl (hb hby d1_23) rfl ((if0 _ _).trans (teq ((lw_eq (x1 - (x1 / (1 : Int64)) * (1 : Int64)) (0 : Int64)).mpr hc3)).2) k) ?_
      show own_Go p e below s _ _ _ (T2.setTop (mkF m 26 #[.val (.ref w1), .val (.long x1), .second] []))
      refine own_via (fun _ k => XS.iconst X2.here hx rfl (hb hby d1_26) k) ?_
      show own_Go p e below s _ _ _ (T2.setTop (mkF m 27 #[.val (.ref w1), .val (.long x1), .second] [(.int (1 : Int32))]))
      refine own_via (fun _ k => XS.goto X2.here hx rfl (pc0 := 27) (pc' := 31) rfl (hb hby d1_27) (by decide) (by decide) k) ?_
      show own_Go p e below s _ _ _ (T2.setTop (mkF m 31 #[.val (.ref w1), .val (.long x1), .second] [(.int (1 : Int32))]))
      exact own_retZ X2 hx hlk (t := .boolean) Bd.returns (by simp) (hb hby d1_31) (z' := (1 : Int32)) (by first | rfl | decide) ⟨rfl, e2, Or.inl ⟨hc1, hc3, rfl⟩⟩ (by decide) (by decide)
    · refine own_via (fun _ k => XS.ifYes X2.here hx rfl (pc0 := 23) (pc' := 30) rfl (hb hby d1_23) rfl ((if0 _ _).trans (feq (mt (lw_eq (x1 - (x1 / (1 : Int64)) * (1 : Int64)) (0 : Int64)).mp hc3)).2) (by decide) (by decide) k) ?_
      show own_Go p e below s _ _ _ (T2.setTop (mkF m 30 #[.val (.ref w1), .val (.long x1), .second] []))
      refine own_via (fun _ k => XS.iconst X2.here hx rfl (hb hby d1_30) k) ?_
      show own_Go p e below s _ _ _ (T2.setTop (mkF m 31 #[.val (.ref w1), .val (.long x1), .second] [(.int (0 : Int32))]))
      exact own_retZ X2 hx hlk (t := .boolean) Bd.returns (by simp) (hb hby d1_31) (z' := (0 : Int32)) (by first | rfl | decide) ⟨rfl, e2, Or.inr (Or.inl ⟨hc1, hc3, rfl⟩)⟩ (by decide) (by decide)
  · refine own_via (fun _ k => XS.ifYes X0.here hx rfl (pc0 := 6) (pc' := 16) rfl (hb hby d1_6) rfl ((if0 _ _).trans (flt (mt (lw_lt x1 (300 : Int64)).mp hc1)).2.1) (by decide) (by decide) k) ?_
    show own_Go p e below s _ _ _ (s₁.setTop (mkF m 16 #[.val (.ref w1), .val (.long x1), .second] [(.long x1)]))
    refine own_via (fun _ k => XS.aloadN X0.here hx rfl (hb hby d1_16) rfl rfl k) ?_
    show own_Go p e below s _ _ _ (s₁.setTop (mkF m 17 #[.val (.ref w1), .val (.long x1), .second] [(.ref w1), (.long x1)]))
    obtain ⟨T4, X4, e4, st4⟩ := getF X0 hx hZ hown (host := "") (Or.inl (hw _ (List.mem_of_getElem? (i := 17) rfl))) Via.refl e0 F_w1_from (g := (mkF m 17 #[.val (.ref w1), .val (.long x1), .second] [(.ref w1), (.long x1)])) rfl rfl (hb hby d1_17)
    refine own_via st4 ?_
    show own_Go p e below s _ _ _ (T4.setTop (mkF m 20 #[.val (.ref w1), .val (.long x1), .second] [(.long (5 : Int64)), (.long x1)]))
    refine own_via (fun _ k => XS.lrem X4.here hx rfl (hb hby d1_20) rfl (by decide : ¬ ((5 : Int64) = (0 : Int64))) k) ?_
    show own_Go p e below s _ _ _ (T4.setTop (mkF m 21 #[.val (.ref w1), .val (.long x1), .second] [(.long (x1 - (x1 / (5 : Int64)) * (5 : Int64)))]))
    refine own_via (fun _ k => XS.lconst X4.here hx rfl (hb hby d1_21) k) ?_
    show own_Go p e below s _ _ _ (T4.setTop (mkF m 22 #[.val (.ref w1), .val (.long x1), .second] [(.long (0 : Int64)), (.long (x1 - (x1 / (5 : Int64)) * (5 : Int64)))]))
    refine own_via (fun _ k => XS.lcmp X4.here hx rfl (hb hby d1_22) rfl k) ?_
    show own_Go p e below s _ _ _ (T4.setTop (mkF m 23 #[.val (.ref w1), .val (.long x1), .second] [(.int (lcmpW (x1 - (x1 / (5 : Int64)) * (5 : Int64)) (0 : Int64)))]))
    by_cases hc5 : (x1 - (x1 / (5 : Int64)) * (5 : Int64)) = (0 : Int64)
    · refine own_via (fun _ k => XS.ifNo X4.here hx rfl (hb hby d1_23) rfl ((if0 _ _).trans (teq ((lw_eq (x1 - (x1 / (5 : Int64)) * (5 : Int64)) (0 : Int64)).mpr hc5)).2) k) ?_
      show own_Go p e below s _ _ _ (T4.setTop (mkF m 26 #[.val (.ref w1), .val (.long x1), .second] []))
      refine own_via (fun _ k => XS.iconst X4.here hx rfl (hb hby d1_26) k) ?_
      show own_Go p e below s _ _ _ (T4.setTop (mkF m 27 #[.val (.ref w1), .val (.long x1), .second] [(.int (1 : Int32))]))
      refine own_via (fun _ k => XS.goto X4.here hx rfl (pc0 := 27) (pc' := 31) rfl (hb hby d1_27) (by decide) (by decide) k) ?_
      show own_Go p e below s _ _ _ (T4.setTop (mkF m 31 #[.val (.ref w1), .val (.long x1), .second] [(.int (1 : Int32))]))
      exact own_retZ X4 hx hlk (t := .boolean) Bd.returns (by simp) (hb hby d1_31) (z' := (1 : Int32)) (by first | rfl | decide) ⟨rfl, e4, Or.inr (Or.inr (Or.inl ⟨hc1, hc5, rfl⟩))⟩ (by decide) (by decide)
    · refine own_via (fun _ k => XS.ifYes X4.here hx rfl (pc0 := 23) (pc' := 30) rfl (hb hby d1_23) rfl ((if0 _ _).trans (feq (mt (lw_eq (x1 - (x1 / (5 : Int64)) * (5 : Int64)) (0 : Int64)).mp hc5)).2) (by decide) (by decide) k) ?_
      show own_Go p e below s _ _ _ (T4.setTop (mkF m 30 #[.val (.ref w1), .val (.long x1), .second] []))
      refine own_via (fun _ k => XS.iconst X4.here hx rfl (hb hby d1_30) k) ?_
      show own_Go p e below s _ _ _ (T4.setTop (mkF m 31 #[.val (.ref w1), .val (.long x1), .second] [(.int (0 : Int32))]))
      exact own_retZ X4 hx hlk (t := .boolean) Bd.returns (by simp) (hb hby d1_31) (z' := (0 : Int32)) (by first | rfl | decide) ⟨rfl, e4, Or.inr (Or.inr (Or.inr (⟨hc1, hc5, rfl⟩)))⟩ (by decide) (by decide)
def Q1_2 (x1 : Int64) (w0 : Addr) (w1 : Addr) (w2 : Addr) (h0 : Heap) (v : Option Value) (h : Heap) (L : List Loc) : Prop := L = [] ∧ h = h0 ∧ ((x1 < (300 : Int64) ∧ (x1 - (x1 / (1 : Int64)) * (1 : Int64)) = (0 : Int64) ∧ v = some (.int (1 : Int32))) ∨ (x1 < (300 : Int64) ∧ ¬ ((x1 - (x1 / (1 : Int64)) * (1 : Int64)) = (0 : Int64)) ∧ v = some (.int (0 : Int32))) ∨ (¬ (x1 < (300 : Int64)) ∧ (x1 - (x1 / (1 : Int64)) * (1 : Int64)) = (0 : Int64) ∧ v = some (.int (1 : Int32))) ∨ (¬ (x1 < (300 : Int64)) ∧ ¬ ((x1 - (x1 / (1 : Int64)) * (1 : Int64)) = (0 : Int64)) ∧ v = some (.int (0 : Int32))))
set_option maxRecDepth 65536 in
set_option maxHeartbeats 40000000 in
theorem rm1_2 (l : Launch) (Z : State) (a0 : Array Value) (hw : ∀ d ∈ tables_1, d.before a0 Z = true) (ws : List Jvm.Cond) (x1 : Int64) (w0 : Addr) (w1 : Addr) (w2 : Addr) (h0 : Heap) (n0 : Nat) (Z0 : n0 ≤ h0.size) (K : own_K Z h0 w0 w1 w2) :
    MetFree l (⟨"com/example/strikeline/strikeline/PennyProgram", "isOnGrid", "(J)Z"⟩ : MethodName) (head1 (Jvm.Cond.code (⟨"com/example/strikeline/strikeline/PennyProgram", "isOnGrid", "(J)Z"⟩ : MethodName) prog_68_method_5_code 3 (some .boolean) :: ws) ({ frames := 0, cells := 0, slots := 0, locals := 0 } : Room)) (fun a U => a = #[(.ref w2), (.long x1)] ∧ Z.Warmed39 U.vm ∧ U.heap = h0) (fun _ _ _ _ _ => True) (fun _ U o U' => ∃ v L, o = .returned v ∧ Q1_2 x1 w0 w1 w2 h0 v U'.heap L ∧ FrameEnd U o U' L ({ frames := 0, cells := 0, slots := 0, locals := 0 } : Room).cells ({ frames := 0, cells := 0, slots := 0, locals := 0 } : Room).slots) := by
  refine MetFree.of_bodySF (plainFor_of_name pn0) hisR ?_
  intro p e s m args below meth c s₁ Bd hml0 hP hK
  obtain ⟨rfl, hZ, hh⟩ := hP
  have hx := Bd.exec
  have hby := Bd.bytes
  have hml : c.maxLocals = 3 := hml0
  have hown : s.vm.findClass "com/example/strikeline/strikeline/PennyProgram" = some m.cls := findClass_of_methodNamed Bd.named
  have hnm := (name_of_methodNamed Bd.named Bd.method).1
  have hlk := Bd.notSynchronized
  have X0 : Stand p l e ({ frames := 0, cells := 0, slots := 0, locals := 0 } : Room) s m #[(.ref w2), (.long x1)] below meth c s₁ [] 0 0 := Stand.of_body Bd
  have e0 : s₁.heap = h0 := by rw [← hh, Bd.state]; rfl
  have K0 := K
  obtain ⟨S_w0, S_w1, S_w2, E_w0, E_w1, E_w2, F_w0_below, F_w0_from, F_w1_from, F_w2_from, F_w1_below, F_w2_below, n_w0_w1, n_w0_w2, n_w1_w2⟩ := K
  show own_Go p e below s (Q1_2 x1 w0 w1 w2 h0) 0 0 (s₁.setTop (entryFrame m #[(.ref w2), (.long x1)] 3))
  rw [show entryFrame m #[(.ref w2), (.long x1)] 3 = mkF m 0 #[.val (.ref w2), .val (.long x1), .second] [] from by first | (simp [entryFrame, mkF, argsToLocals, Value.category]; done) | rfl]
  show own_Go p e below s _ _ _ (s₁.setTop (mkF m 0 #[.val (.ref w2), .val (.long x1), .second] []))
  refine own_via (fun _ k => XS.lloadN X0.here hx rfl (hb hby d1_0) rfl k) ?_
  show own_Go p e below s _ _ _ (s₁.setTop (mkF m 1 #[.val (.ref w2), .val (.long x1), .second] [(.long x1)]))
  refine own_via (fun _ k => XS.lloadN X0.here hx rfl (hb hby d1_1) rfl k) ?_
  show own_Go p e below s _ _ _ (s₁.setTop (mkF m 2 #[.val (.ref w2), .val (.long x1), .second] [(.long x1), (.long x1)]))
  refine own_via (fun _ k => X0.ldc2Long hx hown (mvT hZ (hw _ (List.mem_of_getElem? (i := 13) rfl))) (g := (mkF m 2 #[.val (.ref w2), .val (.long x1), .second] [(.long x1), (.long x1)])) rfl (hb hby d1_2) _ k) ?_
  show own_Go p e below s _ _ _ (s₁.setTop (mkF m 5 #[.val (.ref w2), .val (.long x1), .second] [(.long (300 : Int64)), (.long x1), (.long x1)]))
  refine own_via (fun _ k => XS.lcmp X0.here hx rfl (hb hby d1_5) rfl k) ?_
  show own_Go p e below s _ _ _ (s₁.setTop (mkF m 6 #[.val (.ref w2), .val (.long x1), .second] [(.int (lcmpW x1 (300 : Int64))), (.long x1)]))
  by_cases hc1 : x1 < (300 : Int64)
  · refine own_via (fun _ k => XS.ifNo X0.here hx rfl (hb hby d1_6) rfl ((if0 _ _).trans (tlt ((lw_lt x1 (300 : Int64)).mpr hc1)).2.1) k) ?_
    show own_Go p e below s _ _ _ (s₁.setTop (mkF m 9 #[.val (.ref w2), .val (.long x1), .second] [(.long x1)]))
    refine own_via (fun _ k => XS.aloadN X0.here hx rfl (hb hby d1_9) rfl rfl k) ?_
    show own_Go p e below s _ _ _ (s₁.setTop (mkF m 10 #[.val (.ref w2), .val (.long x1), .second] [(.ref w2), (.long x1)]))
    obtain ⟨T2, X2, e2, st2⟩ := getF X0 hx hZ hown (host := "") (Or.inl (hw _ (List.mem_of_getElem? (i := 14) rfl))) Via.refl e0 F_w2_below (g := (mkF m 10 #[.val (.ref w2), .val (.long x1), .second] [(.ref w2), (.long x1)])) rfl rfl (hb hby d1_10)
    refine own_via st2 ?_
    show own_Go p e below s _ _ _ (T2.setTop (mkF m 13 #[.val (.ref w2), .val (.long x1), .second] [(.long (1 : Int64)), (.long x1)]))
    refine own_via (fun _ k => XS.goto X2.here hx rfl (pc0 := 13) (pc' := 20) rfl (hb hby d1_13) (by decide) (by decide) k) ?_
    show own_Go p e below s _ _ _ (T2.setTop (mkF m 20 #[.val (.ref w2), .val (.long x1), .second] [(.long (1 : Int64)), (.long x1)]))
    refine own_via (fun _ k => XS.lrem X2.here hx rfl (hb hby d1_20) rfl (by decide : ¬ ((1 : Int64) = (0 : Int64))) k) ?_
    show own_Go p e below s _ _ _ (T2.setTop (mkF m 21 #[.val (.ref w2), .val (.long x1), .second] [(.long (x1 - (x1 / (1 : Int64)) * (1 : Int64)))]))
    refine own_via (fun _ k => XS.lconst X2.here hx rfl (hb hby d1_21) k) ?_
    show own_Go p e below s _ _ _ (T2.setTop (mkF m 22 #[.val (.ref w2), .val (.long x1), .second] [(.long (0 : Int64)), (.long (x1 - (x1 / (1 : Int64)) * (1 : Int64)))]))
    refine own_via (fun _ k => XS.lcmp X2.here hx rfl (hb hby d1_22) rfl k) ?_
    show own_Go p e below s _ _ _ (T2.setTop (mkF m 23 #[.val (.ref w2), .val (.long x1), .second] [(.int (lcmpW (x1 - (x1 / (1 : Int64)) * (1 : Int64)) (0 : Int64)))]))
    by_cases hc3 : (x1 - (x1 / (1 : Int64)) * (1 : Int64)) = (0 : Int64)
    · refine own_via (fun _ k => XS.ifNo X2.here hx rfl (hb hby d1_23) rfl ((if0 _ _).trans (teq ((lw_eq (x1 - (x1 / (1 : Int64)) * (1 : Int64)) (0 : Int64)).mpr hc3)).2) k) ?_
      show own_Go p e below s _ _ _ (T2.setTop (mkF m 26 #[.val (.ref w2), .val (.long x1), .second] []))
      refine own_via (fun _ k => XS.iconst X2.here hx rfl (hb hby d1_26) k) ?_
      show own_Go p e below s _ _ _ (T2.setTop (mkF m 27 #[.val (.ref w2), .val (.long x1), .second] [(.int (1 : Int32))]))
      refine own_via (fun _ k => XS.goto X2.here hx rfl (pc0 := 27) (pc' := 31) rfl (hb hby d1_27) (by decide) (by decide) k) ?_
      show own_Go p e below s _ _ _ (T2.setTop (mkF m 31 #[.val (.ref w2), .val (.long x1), .second] [(.int (1 : Int32))]))
      exact own_retZ X2 hx hlk (t := .boolean) Bd.returns (by simp) (hb hby d1_31) (z' := (1 : Int32)) (by first | rfl | decide) ⟨rfl, e2, Or.inl ⟨hc1, hc3, rfl⟩⟩ (by decide) (by decide)
    · refine own_via (fun _ k => XS.ifYes X2.here hx rfl (pc0 := 23) (pc' := 30) rfl (hb hby d1_23) rfl ((if0 _ _).trans (feq (mt (lw_eq (x1 - (x1 / (1 : Int64)) * (1 : Int64)) (0 : Int64)).mp hc3)).2) (by decide) (by decide) k) ?_
      show own_Go p e below s _ _ _ (T2.setTop (mkF m 30 #[.val (.ref w2), .val (.long x1), .second] []))
      refine own_via (fun _ k => XS.iconst X2.here hx rfl (hb hby d1_30) k) ?_
      show own_Go p e below s _ _ _ (T2.setTop (mkF m 31 #[.val (.ref w2), .val (.long x1), .second] [(.int (0 : Int32))]))
      exact own_retZ X2 hx hlk (t := .boolean) Bd.returns (by simp) (hb hby d1_31) (z' := (0 : Int32)) (by first | rfl | decide) ⟨rfl, e2, Or.inr (Or.inl ⟨hc1, hc3, rfl⟩)⟩ (by decide) (by decide)
  · refine own_via (fun _ k => XS.ifYes X0.here hx rfl (pc0 := 6) (pc' := 16) rfl (hb hby d1_6) rfl ((if0 _ _).trans (flt (mt (lw_lt x1 (300 : Int64)).mp hc1)).2.1) (by decide) (by decide) k) ?_
    show own_Go p e below s _ _ _ (s₁.setTop (mkF m 16 #[.val (.ref w2), .val (.long x1), .second] [(.long x1)]))
    refine own_via (fun _ k => XS.aloadN X0.here hx rfl (hb hby d1_16) rfl rfl k) ?_
    show own_Go p e below s _ _ _ (s₁.setTop (mkF m 17 #[.val (.ref w2), .val (.long x1), .second] [(.ref w2), (.long x1)]))
    obtain ⟨T4, X4, e4, st4⟩ := getF X0 hx hZ hown (host := "") (Or.inl (hw _ (List.mem_of_getElem? (i := 17) rfl))) Via.refl e0 F_w2_from (g := (mkF m 17 #[.val (.ref w2), .val (.long x1), .second] [(.ref w2), (.long x1)])) rfl rfl (hb hby d1_17)
    refine own_via st4 ?_
    show own_Go p e below s _ _ _ (T4.setTop (mkF m 20 #[.val (.ref w2), .val (.long x1), .second] [(.long (1 : Int64)), (.long x1)]))
    refine own_via (fun _ k => XS.lrem X4.here hx rfl (hb hby d1_20) rfl (by decide : ¬ ((1 : Int64) = (0 : Int64))) k) ?_
    show own_Go p e below s _ _ _ (T4.setTop (mkF m 21 #[.val (.ref w2), .val (.long x1), .second] [(.long (x1 - (x1 / (1 : Int64)) * (1 : Int64)))]))
    refine own_via (fun _ k => XS.lconst X4.here hx rfl (hb hby d1_21) k) ?_
    show own_Go p e below s _ _ _ (T4.setTop (mkF m 22 #[.val (.ref w2), .val (.long x1), .second] [(.long (0 : Int64)), (.long (x1 - (x1 / (1 : Int64)) * (1 : Int64)))]))
    refine own_via (fun _ k => XS.lcmp X4.here hx rfl (hb hby d1_22) rfl k) ?_
    show own_Go p e below s _ _ _ (T4.setTop (mkF m 23 #[.val (.ref w2), .val (.long x1), .second] [(.int (lcmpW (x1 - (x1 / (1 : Int64)) * (1 : Int64)) (0 : Int64)))]))
    by_cases hc5 : (x1 - (x1 / (1 : Int64)) * (1 : Int64)) = (0 : Int64)
    · refine own_via (fun _ k => XS.ifNo X4.here hx rfl (hb hby d1_23) rfl ((if0 _ _).trans (teq ((lw_eq (x1 - (x1 / (1 : Int64)) * (1 : Int64)) (0 : Int64)).mpr hc5)).2) k) ?_
      show own_Go p e below s _ _ _ (T4.setTop (mkF m 26 #[.val (.ref w2), .val (.long x1), .second] []))
      refine own_via (fun _ k => XS.iconst X4.here hx rfl (hb hby d1_26) k) ?_
      show own_Go p e below s _ _ _ (T4.setTop (mkF m 27 #[.val (.ref w2), .val (.long x1), .second] [(.int (1 : Int32))]))
      refine own_via (fun _ k => XS.goto X4.here hx rfl (pc0 := 27) (pc' := 31) rfl (hb hby d1_27) (by decide) (by decide) k) ?_
      show own_Go p e below s _ _ _ (T4.setTop (mkF m 31 #[.val (.ref w2), .val (.long x1), .second] [(.int (1 : Int32))]))
      exact own_retZ X4 hx hlk (t := .boolean) Bd.returns (by simp) (hb hby d1_31) (z' := (1 : Int32)) (by first | rfl | decide) ⟨rfl, e4, Or.inr (Or.inr (Or.inl ⟨hc1, hc5, rfl⟩))⟩ (by decide) (by decide)
    · refine own_via (fun _ k => XS.ifYes X4.here hx rfl (pc0 := 23) (pc' := 30) rfl (hb hby d1_23) rfl ((if0 _ _).trans (feq (mt (lw_eq (x1 - (x1 / (1 : Int64)) * (1 : Int64)) (0 : Int64)).mp hc5)).2) (by decide) (by decide) k) ?_
      show own_Go p e below s _ _ _ (T4.setTop (mkF m 30 #[.val (.ref w2), .val (.long x1), .second] []))
      refine own_via (fun _ k => XS.iconst X4.here hx rfl (hb hby d1_30) k) ?_
      show own_Go p e below s _ _ _ (T4.setTop (mkF m 31 #[.val (.ref w2), .val (.long x1), .second] [(.int (0 : Int32))]))
      exact own_retZ X4 hx hlk (t := .boolean) Bd.returns (by simp) (hb hby d1_31) (z' := (0 : Int32)) (by first | rfl | decide) ⟨rfl, e4, Or.inr (Or.inr (Or.inr (⟨hc1, hc5, rfl⟩)))⟩ (by decide) (by decide)
def Q0 (n0 : Nat) (v : Option Value) (h : Heap) (L : List Loc) : Prop := v = some (.int 1) ∧ Fr n0 L
set_option maxRecDepth 65536 in
set_option maxHeartbeats 40000000 in
theorem rm0 (l : Launch) (Z : State) (a0 : Array Value) (hw : ∀ d ∈ tables_1, d.before a0 Z = true) (ws : List Jvm.Cond) (p0 : Int32) (p1 : Int32) (p2 : Int64) (w0 : Addr) (w1 : Addr) (w2 : Addr) (h0 : Heap) (n0 : Nat) (Z0 : n0 ≤ h0.size) (K : own_K Z h0 w0 w1 w2) :
    MetFree l x (head1 (Jvm.Cond.code x code maxLocals ret :: ws) room_1) (fun a U => a = #[(.int p0), (.int p1), (.long p2)] ∧ Z.Warmed39 U.vm ∧ U.heap = h0) (fun _ _ _ _ _ => True) (fun _ U o U' => ∃ v L, o = .returned v ∧ Q0 n0 v U'.heap L ∧ FrameEnd U o U' L 0 0) := by
  refine MetFree.of_bodySF (plainFor_of_name pn1) hisR ?_
  intro p e s m args below meth c s₁ Bd hml0 hP hK
  obtain ⟨rfl, hZ, hh⟩ := hP
  have hx := Bd.exec
  have hby := Bd.bytes
  have hml : c.maxLocals = 10 := hml0
  have hown : s.vm.findClass "com/example/strikeline/strikeline/PennyProgramIsOnGridPinLaw" = some m.cls := findClass_of_methodNamed Bd.named
  have hnm := (name_of_methodNamed Bd.named Bd.method).1
  have hlk := Bd.notSynchronized
  have X0 : Stand p l e room_1 s m #[(.int p0), (.int p1), (.long p2)] below meth c s₁ [] 0 0 := Stand.of_body Bd
  have e0 : s₁.heap = h0 := by rw [← hh, Bd.state]; rfl
  have K0 := K
  obtain ⟨S_w0, S_w1, S_w2, E_w0, E_w1, E_w2, F_w0_below, F_w0_from, F_w1_from, F_w2_from, F_w1_below, F_w2_below, n_w0_w1, n_w0_w2, n_w1_w2⟩ := K
  show own_Go p e below s (Q0 n0) 0 0 (s₁.setTop (entryFrame m #[(.int p0), (.int p1), (.long p2)] maxLocals))
  rw [show entryFrame m #[(.int p0), (.int p1), (.long p2)] maxLocals = mkF m 0 #[.val (.int p0), .val (.int p1), .val (.long p2), .second, .unset, .unset, .unset, .unset, .unset, .unset] [] from by first | (simp [entryFrame, mkF, argsToLocals, Value.category, maxLocals]; done) | rfl]
  show own_Go p e below s _ _ _ (s₁.setTop (mkF m 0 #[.val (.int p0), .val (.int p1), .val (.long p2), .second, .unset, .unset, .unset, .unset, .unset, .unset] []))
  refine own_via (fun _ k => XS.iloadN X0.here hx rfl (hb hby at_0) rfl k) ?_
  show own_Go p e below s _ _ _ (s₁.setTop (mkF m 1 #[.val (.int p0), .val (.int p1), .val (.long p2), .second, .unset, .unset, .unset, .unset, .unset, .unset] [(.int p1)]))
  refine own_via (fun _ k => XS.iconst X0.here hx rfl (hb hby at_1) k) ?_
  show own_Go p e below s _ _ _ (s₁.setTop (mkF m 2 #[.val (.int p0), .val (.int p1), .val (.long p2), .second, .unset, .unset, .unset, .unset, .unset, .unset] [(.int (1 : Int32)), (.int p1)]))
  refine own_via (fun _ k => XS.iand X0.here hx rfl (hb hby at_2) rfl k) ?_
  show own_Go p e below s _ _ _ (s₁.setTop (mkF m 3 #[.val (.int p0), .val (.int p1), .val (.long p2), .second, .unset, .unset, .unset, .unset, .unset, .unset] [(.int (p1 &&& (1 : Int32)))]))
  by_cases hc1 : (p1 &&& (1 : Int32)) = (0 : Int32)
  · refine own_via (fun _ k => XS.ifYes X0.here hx rfl (pc0 := 3) (pc' := 18) rfl (hb hby at_3) rfl ((if0 _ _).trans (teq hc1).1) (by decide) (by decide) k) ?_
    show own_Go p e below s _ _ _ (s₁.setTop (mkF m 18 #[.val (.int p0), .val (.int p1), .val (.long p2), .second, .unset, .unset, .unset, .unset, .unset, .unset] []))
    refine own_via (fun _ k => XS.lloadN X0.here hx rfl (hb hby at_18) rfl k) ?_
    show own_Go p e below s _ _ _ (s₁.setTop (mkF m 19 #[.val (.int p0), .val (.int p1), .val (.long p2), .second, .unset, .unset, .unset, .unset, .unset, .unset] [(.long p2)]))
    refine own_via (fun _ k => X0.ldc2Long hx hown (mvT hZ (hw _ (List.mem_of_getElem? (i := 21) rfl))) (g := (mkF m 19 #[.val (.int p0), .val (.int p1), .val (.long p2), .second, .unset, .unset, .unset, .unset, .unset, .unset] [(.long p2)])) rfl (hb hby at_19) _ k) ?_
    show own_Go p e below s _ _ _ (s₁.setTop (mkF m 22 #[.val (.int p0), .val (.int p1), .val (.long p2), .second, .unset, .unset, .unset, .unset, .unset, .unset] [(.long (9223372036854775807 : Int64)), (.long p2)]))
    refine own_via (fun _ k => XS.land X0.here hx rfl (hb hby at_22) rfl k) ?_
    show own_Go p e below s _ _ _ (s₁.setTop (mkF m 23 #[.val (.int p0), .val (.int p1), .val (.long p2), .second, .unset, .unset, .unset, .unset, .unset, .unset] [(.long (p2 &&& (9223372036854775807 : Int64)))]))
    refine own_via (fun _ k => XS.lstore X0.here hx rfl (hb hby at_23) rfl (l' := #[.val (.int p0), .val (.int p1), .val (.long p2), .second, .val (.long (p2 &&& (9223372036854775807 : Int64))), .second, .unset, .unset, .unset, .unset]) rfl k) ?_
    show own_Go p e below s _ _ _ (s₁.setTop (mkF m 25 #[.val (.int p0), .val (.int p1), .val (.long p2), .second, .val (.long (p2 &&& (9223372036854775807 : Int64))), .second, .unset, .unset, .unset, .unset] []))
    refine own_via (fun _ k => XS.iloadN X0.here hx rfl (hb hby at_25) rfl k) ?_
    show own_Go p e below s _ _ _ (s₁.setTop (mkF m 26 #[.val (.int p0), .val (.int p1), .val (.long p2), .second, .val (.long (p2 &&& (9223372036854775807 : Int64))), .second, .unset, .unset, .unset, .unset] [(.int p0)]))
    refine own_via (fun _ k => X0.ldcInt hx hown (mvT hZ (hw _ (List.mem_of_getElem? (i := 2) rfl))) (g := (mkF m 26 #[.val (.int p0), .val (.int p1), .val (.long p2), .second, .val (.long (p2 &&& (9223372036854775807 : Int64))), .second, .unset, .unset, .unset, .unset] [(.int p0)])) rfl (hb hby at_26) _ k) ?_
    show own_Go p e below s _ _ _ (s₁.setTop (mkF m 28 #[.val (.int p0), .val (.int p1), .val (.long p2), .second, .val (.long (p2 &&& (9223372036854775807 : Int64))), .second, .unset, .unset, .unset, .unset] [(.int (2147483647 : Int32)), (.int p0)]))
    refine own_via (fun _ k => XS.iand X0.here hx rfl (hb hby at_28) rfl k) ?_
    show own_Go p e below s _ _ _ (s₁.setTop (mkF m 29 #[.val (.int p0), .val (.int p1), .val (.long p2), .second, .val (.long (p2 &&& (9223372036854775807 : Int64))), .second, .unset, .unset, .unset, .unset] [(.int (p0 &&& (2147483647 : Int32)))]))
    refine own_via (fun _ k => XS.iconst X0.here hx rfl (hb hby at_29) k) ?_
    show own_Go p e below s _ _ _ (s₁.setTop (mkF m 30 #[.val (.int p0), .val (.int p1), .val (.long p2), .second, .val (.long (p2 &&& (9223372036854775807 : Int64))), .second, .unset, .unset, .unset, .unset] [(.int (3 : Int32)), (.int (p0 &&& (2147483647 : Int32)))]))
    refine own_via (fun _ k => iremM X0 hx rfl (hb hby at_30) rfl (by decide : ¬ ((3 : Int32) = (0 : Int32))) k) ?_
    rcases (own_mod3 _ : ((p0 &&& (2147483647 : Int32)) % (3 : Int32)) = (0 : Int32) ∨ ((p0 &&& (2147483647 : Int32)) % (3 : Int32)) = (1 : Int32) ∨ ((p0 &&& (2147483647 : Int32)) % (3 : Int32)) = (2 : Int32)) with hk2 | hk3 | hk4
    · rw [hk2]
      show own_Go p e below s _ _ _ (s₁.setTop (mkF m 31 #[.val (.int p0), .val (.int p1), .val (.long p2), .second, .val (.long (p2 &&& (9223372036854775807 : Int64))), .second, .unset, .unset, .unset, .unset] [(.int (0 : Int32))]))
      refine own_via (fun _ k => XS.istore X0.here hx rfl (hb hby at_31) rfl (l' := #[.val (.int p0), .val (.int p1), .val (.long p2), .second, .val (.long (p2 &&& (9223372036854775807 : Int64))), .second, .val (.int (0 : Int32)), .unset, .unset, .unset]) rfl k) ?_
      show own_Go p e below s _ _ _ (s₁.setTop (mkF m 33 #[.val (.int p0), .val (.int p1), .val (.long p2), .second, .val (.long (p2 &&& (9223372036854775807 : Int64))), .second, .val (.int (0 : Int32)), .unset, .unset, .unset] []))
      refine own_via (fun _ k => XS.lload X0.here hx rfl (hb hby at_33) rfl k) ?_
      show own_Go p e below s _ _ _ (s₁.setTop (mkF m 35 #[.val (.int p0), .val (.int p1), .val (.long p2), .second, .val (.long (p2 &&& (9223372036854775807 : Int64))), .second, .val (.int (0 : Int32)), .unset, .unset, .unset] [(.long (p2 &&& (9223372036854775807 : Int64)))]))
      refine own_via (fun _ k => X0.ldc2Long hx hown (mvT hZ (hw _ (List.mem_of_getElem? (i := 3) rfl))) (g := (mkF m 35 #[.val (.int p0), .val (.int p1), .val (.long p2), .second, .val (.long (p2 &&& (9223372036854775807 : Int64))), .second, .val (.int (0 : Int32)), .unset, .unset, .unset] [(.long (p2 &&& (9223372036854775807 : Int64)))])) rfl (hb hby at_35) _ k) ?_
      show own_Go p e below s _ _ _ (s₁.setTop (mkF m 38 #[.val (.int p0), .val (.int p1), .val (.long p2), .second, .val (.long (p2 &&& (9223372036854775807 : Int64))), .second, .val (.int (0 : Int32)), .unset, .unset, .unset] [(.long (300 : Int64)), (.long (p2 &&& (9223372036854775807 : Int64)))]))
      refine own_via (fun _ k => XS.lcmp X0.here hx rfl (hb hby at_38) rfl k) ?_
      show own_Go p e below s _ _ _ (s₁.setTop (mkF m 39 #[.val (.int p0), .val (.int p1), .val (.long p2), .second, .val (.long (p2 &&& (9223372036854775807 : Int64))), .second, .val (.int (0 : Int32)), .unset, .unset, .unset] [(.int (lcmpW (p2 &&& (9223372036854775807 : Int64)) (300 : Int64)))]))
      by_cases hc5 : (p2 &&& (9223372036854775807 : Int64)) < (300 : Int64)
      · refine own_via (fun _ k => XS.ifNo X0.here hx rfl (hb hby at_39) rfl ((if0 _ _).trans (tlt ((lw_lt (p2 &&& (9223372036854775807 : Int64)) (300 : Int64)).mpr hc5)).2.1) k) ?_
        show own_Go p e below s _ _ _ (s₁.setTop (mkF m 42 #[.val (.int p0), .val (.int p1), .val (.long p2), .second, .val (.long (p2 &&& (9223372036854775807 : Int64))), .second, .val (.int (0 : Int32)), .unset, .unset, .unset] []))
        refine own_via (fun _ k => XS.iconst X0.here hx rfl (hb hby at_42) k) ?_
        show own_Go p e below s _ _ _ (s₁.setTop (mkF m 43 #[.val (.int p0), .val (.int p1), .val (.long p2), .second, .val (.long (p2 &&& (9223372036854775807 : Int64))), .second, .val (.int (0 : Int32)), .unset, .unset, .unset] [(.int (1 : Int32))]))
        refine own_via (fun _ k => XS.goto X0.here hx rfl (pc0 := 43) (pc' := 47) rfl (hb hby at_43) (by decide) (by decide) k) ?_
        show own_Go p e below s _ _ _ (s₁.setTop (mkF m 47 #[.val (.int p0), .val (.int p1), .val (.long p2), .second, .val (.long (p2 &&& (9223372036854775807 : Int64))), .second, .val (.int (0 : Int32)), .unset, .unset, .unset] [(.int (1 : Int32))]))
        refine own_via (fun _ k => XS.istore X0.here hx rfl (hb hby at_47) rfl (l' := #[.val (.int p0), .val (.int p1), .val (.long p2), .second, .val (.long (p2 &&& (9223372036854775807 : Int64))), .second, .val (.int (0 : Int32)), .val (.int (1 : Int32)), .unset, .unset]) rfl k) ?_
        show own_Go p e below s _ _ _ (s₁.setTop (mkF m 49 #[.val (.int p0), .val (.int p1), .val (.long p2), .second, .val (.long (p2 &&& (9223372036854775807 : Int64))), .second, .val (.int (0 : Int32)), .val (.int (1 : Int32)), .unset, .unset] []))
        refine own_via (fun _ k => XS.iload X0.here hx rfl (hb hby at_49) rfl k) ?_
        show own_Go p e below s _ _ _ (s₁.setTop (mkF m 51 #[.val (.int p0), .val (.int p1), .val (.long p2), .second, .val (.long (p2 &&& (9223372036854775807 : Int64))), .second, .val (.int (0 : Int32)), .val (.int (1 : Int32)), .unset, .unset] [(.int (0 : Int32))]))
        refine own_via (fun _ k => XS.ifNo X0.here hx rfl (hb hby at_51) rfl ((if0 _ _).trans (teq (by decide : (0 : Int32) = (0 : Int32))).2) k) ?_
        show own_Go p e below s _ _ _ (s₁.setTop (mkF m 54 #[.val (.int p0), .val (.int p1), .val (.long p2), .second, .val (.long (p2 &&& (9223372036854775807 : Int64))), .second, .val (.int (0 : Int32)), .val (.int (1 : Int32)), .unset, .unset] []))
        obtain ⟨T6, X6, e6, st6⟩ := getS2 X0 hx hZ hown (host := "") (Or.inl (hw _ (List.mem_of_getElem? (i := 4) rfl))) Via.refl e0 S_w0 (g := (mkF m 54 #[.val (.int p0), .val (.int p1), .val (.long p2), .second, .val (.long (p2 &&& (9223372036854775807 : Int64))), .second, .val (.int (0 : Int32)), .val (.int (1 : Int32)), .unset, .unset] [])) rfl (hb hby at_54)
        refine own_via st6 ?_
        show own_Go p e below s _ _ _ (T6.setTop (mkF m 57 #[.val (.int p0), .val (.int p1), .val (.long p2), .second, .val (.long (p2 &&& (9223372036854775807 : Int64))), .second, .val (.int (0 : Int32)), .val (.int (1 : Int32)), .unset, .unset] [(.ref w0)]))
        refine own_via (fun _ k => XS.astore X6.here hx rfl (hb hby at_57) rfl rfl (l' := #[.val (.int p0), .val (.int p1), .val (.long p2), .second, .val (.long (p2 &&& (9223372036854775807 : Int64))), .second, .val (.int (0 : Int32)), .val (.int (1 : Int32)), .val (.ref w0), .unset]) rfl k) ?_
        show own_Go p e below s _ _ _ (T6.setTop (mkF m 59 #[.val (.int p0), .val (.int p1), .val (.long p2), .second, .val (.long (p2 &&& (9223372036854775807 : Int64))), .second, .val (.int (0 : Int32)), .val (.int (1 : Int32)), .val (.ref w0), .unset] []))
        refine own_via (fun _ k => XS.iload X6.here hx rfl (hb hby at_59) rfl k) ?_
        show own_Go p e below s _ _ _ (T6.setTop (mkF m 61 #[.val (.int p0), .val (.int p1), .val (.long p2), .second, .val (.long (p2 &&& (9223372036854775807 : Int64))), .second, .val (.int (0 : Int32)), .val (.int (1 : Int32)), .val (.ref w0), .unset] [(.int (1 : Int32))]))
        refine own_via (fun _ k => XS.ifNo X6.here hx rfl (hb hby at_61) rfl ((if0 _ _).trans (feq (by decide : ¬ ((1 : Int32) = (0 : Int32)))).1) k) ?_
        show own_Go p e below s _ _ _ (T6.setTop (mkF m 64 #[.val (.int p0), .val (.int p1), .val (.long p2), .second, .val (.long (p2 &&& (9223372036854775807 : Int64))), .second, .val (.int (0 : Int32)), .val (.int (1 : Int32)), .val (.ref w0), .unset] []))
        refine own_via (fun _ k => XS.lload X6.here hx rfl (hb hby at_64) rfl k) ?_
        show own_Go p e below s _ _ _ (T6.setTop (mkF m 66 #[.val (.int p0), .val (.int p1), .val (.long p2), .second, .val (.long (p2 &&& (9223372036854775807 : Int64))), .second, .val (.int (0 : Int32)), .val (.int (1 : Int32)), .val (.ref w0), .unset] [(.long (p2 &&& (9223372036854775807 : Int64)))]))
        refine own_via (fun _ k => X6.ldc2Long hx hown (mvT hZ (hw _ (List.mem_of_getElem? (i := 7) rfl))) (g := (mkF m 66 #[.val (.int p0), .val (.int p1), .val (.long p2), .second, .val (.long (p2 &&& (9223372036854775807 : Int64))), .second, .val (.int (0 : Int32)), .val (.int (1 : Int32)), .val (.ref w0), .unset] [(.long (p2 &&& (9223372036854775807 : Int64)))])) rfl (hb hby at_66) _ k) ?_
        show own_Go p e below s _ _ _ (T6.setTop (mkF m 69 #[.val (.int p0), .val (.int p1), .val (.long p2), .second, .val (.long (p2 &&& (9223372036854775807 : Int64))), .second, .val (.int (0 : Int32)), .val (.int (1 : Int32)), .val (.ref w0), .unset] [(.long (5 : Int64)), (.long (p2 &&& (9223372036854775807 : Int64)))]))
        refine own_via (fun _ k => XS.lrem X6.here hx rfl (hb hby at_69) rfl (by decide : ¬ ((5 : Int64) = (0 : Int64))) k) ?_
        show own_Go p e below s _ _ _ (T6.setTop (mkF m 70 #[.val (.int p0), .val (.int p1), .val (.long p2), .second, .val (.long (p2 &&& (9223372036854775807 : Int64))), .second, .val (.int (0 : Int32)), .val (.int (1 : Int32)), .val (.ref w0), .unset] [(.long ((p2 &&& (9223372036854775807 : Int64)) - ((p2 &&& (9223372036854775807 : Int64)) / (5 : Int64)) * (5 : Int64)))]))
        refine own_via (fun _ k => XS.lconst X6.here hx rfl (hb hby at_70) k) ?_
        show own_Go p e below s _ _ _ (T6.setTop (mkF m 71 #[.val (.int p0), .val (.int p1), .val (.long p2), .second, .val (.long (p2 &&& (9223372036854775807 : Int64))), .second, .val (.int (0 : Int32)), .val (.int (1 : Int32)), .val (.ref w0), .unset] [(.long (0 : Int64)), (.long ((p2 &&& (9223372036854775807 : Int64)) - ((p2 &&& (9223372036854775807 : Int64)) / (5 : Int64)) * (5 : Int64)))]))
        refine own_via (fun _ k => XS.lcmp X6.here hx rfl (hb hby at_71) rfl k) ?_
        show own_Go p e below s _ _ _ (T6.setTop (mkF m 72 #[.val (.int p0), .val (.int p1), .val (.long p2), .second, .val (.long (p2 &&& (9223372036854775807 : Int64))), .second, .val (.int (0 : Int32)), .val (.int (1 : Int32)), .val (.ref w0), .unset] [(.int (lcmpW ((p2 &&& (9223372036854775807 : Int64)) - ((p2 &&& (9223372036854775807 : Int64)) / (5 : Int64)) * (5 : Int64)) (0 : Int64)))]))
        by_cases hc7 : ((p2 &&& (9223372036854775807 : Int64)) - ((p2 &&& (9223372036854775807 : Int64)) / (5 : Int64)) * (5 : Int64)) = (0 : Int64)
        · refine own_via (fun _ k => XS.ifNo X6.here hx rfl (hb hby at_72) rfl ((if0 _ _).trans (teq ((lw_eq ((p2 &&& (9223372036854775807 : Int64)) - ((p2 &&& (9223372036854775807 : Int64)) / (5 : Int64)) * (5 : Int64)) (0 : Int64)).mpr hc7)).2) k) ?_
          show own_Go p e below s _ _ _ (T6.setTop (mkF m 75 #[.val (.int p0), .val (.int p1), .val (.long p2), .second, .val (.long (p2 &&& (9223372036854775807 : Int64))), .second, .val (.int (0 : Int32)), .val (.int (1 : Int32)), .val (.ref w0), .unset] []))
          refine own_via (fun _ k => XS.iconst X6.here hx rfl (hb hby at_75) k) ?_
          show own_Go p e below s _ _ _ (T6.setTop (mkF m 76 #[.val (.int p0), .val (.int p1), .val (.long p2), .second, .val (.long (p2 &&& (9223372036854775807 : Int64))), .second, .val (.int (0 : Int32)), .val (.int (1 : Int32)), .val (.ref w0), .unset] [(.int (1 : Int32))]))
          refine own_via (fun _ k => XS.goto X6.here hx rfl (pc0 := 76) (pc' := 99) rfl (hb hby at_76) (by decide) (by decide) k) ?_
          show own_Go p e below s _ _ _ (T6.setTop (mkF m 99 #[.val (.int p0), .val (.int p1), .val (.long p2), .second, .val (.long (p2 &&& (9223372036854775807 : Int64))), .second, .val (.int (0 : Int32)), .val (.int (1 : Int32)), .val (.ref w0), .unset] [(.int (1 : Int32))]))
          refine own_via (fun _ k => XS.istore X6.here hx rfl (hb hby at_99) rfl (l' := #[.val (.int p0), .val (.int p1), .val (.long p2), .second, .val (.long (p2 &&& (9223372036854775807 : Int64))), .second, .val (.int (0 : Int32)), .val (.int (1 : Int32)), .val (.ref w0), .val (.int (1 : Int32))]) rfl k) ?_
          show own_Go p e below s _ _ _ (T6.setTop (mkF m 101 #[.val (.int p0), .val (.int p1), .val (.long p2), .second, .val (.long (p2 &&& (9223372036854775807 : Int64))), .second, .val (.int (0 : Int32)), .val (.int (1 : Int32)), .val (.ref w0), .val (.int (1 : Int32))] []))
          refine own_via (fun _ k => XS.goto X6.here hx rfl (pc0 := 101) (pc' := 153) rfl (hb hby at_101) (by decide) (by decide) k) ?_
          show own_Go p e below s _ _ _ (T6.setTop (mkF m 153 #[.val (.int p0), .val (.int p1), .val (.long p2), .second, .val (.long (p2 &&& (9223372036854775807 : Int64))), .second, .val (.int (0 : Int32)), .val (.int (1 : Int32)), .val (.ref w0), .val (.int (1 : Int32))] []))
          refine own_via (fun _ k => XS.aload X6.here hx rfl (hb hby at_153) rfl rfl k) ?_
          show own_Go p e below s _ _ _ (T6.setTop (mkF m 155 #[.val (.int p0), .val (.int p1), .val (.long p2), .second, .val (.long (p2 &&& (9223372036854775807 : Int64))), .second, .val (.int (0 : Int32)), .val (.int (1 : Int32)), .val (.ref w0), .val (.int (1 : Int32))] [(.ref w0)]))
          refine own_via (fun _ k => XS.lload X6.here hx rfl (hb hby at_155) rfl k) ?_
          show own_Go p e below s _ _ _ (T6.setTop (mkF m 157 #[.val (.int p0), .val (.int p1), .val (.long p2), .second, .val (.long (p2 &&& (9223372036854775807 : Int64))), .second, .val (.int (0 : Int32)), .val (.int (1 : Int32)), .val (.ref w0), .val (.int (1 : Int32))] [(.long (p2 &&& (9223372036854775807 : Int64))), (.ref w0)]))
          obtain ⟨cq8, kq8, q8a, q8b, q8c⟩ := isOf hZ e6 E_w0
          obtain ⟨_, _, ⟨T8, L8, k8, n8⟩, -, X8, ⟨Lc8, hQ8, l8, y8, z8⟩, st8⟩ := X6.virtualBack hx (y := (⟨"com/example/strikeline/strikeline/PennyProgram", "isOnGrid", "(J)Z"⟩ : MethodName)) (z := (⟨"com/example/strikeline/strikeline/PennyProgram", "isOnGrid", "(J)Z"⟩ : MethodName)) hown (mvT hZ (hw _ (List.mem_of_getElem? (i := 8) rfl))) (mvT hZ (hw _ (List.mem_of_getElem? (i := 9) rfl))) (notFace_of_selects (args := #[]) (mvT hZ (hw _ (List.mem_of_getElem? (i := 11) rfl)))) (mvT hZ (hw _ (List.mem_of_getElem? (i := 11) rfl))) (mvT hZ (hw _ (List.mem_of_getElem? (i := 10) rfl))) (by decide) (backOf (W := 0) (rm1_0 l Z a0 hw [] (p2 &&& (9223372036854775807 : Int64)) w0 w1 w2 h0 n0 Z0 K0) hZ (hw _ (List.mem_of_getElem? (i := 12) rfl)) (hw _ (List.mem_of_getElem? (i := 5) rfl)) (by decide) (by decide)) q8a q8c (g := (mkF m 157 #[.val (.int p0), .val (.int p1), .val (.long p2), .second, .val (.long (p2 &&& (9223372036854775807 : Int64))), .second, .val (.int (0 : Int32)), .val (.int (1 : Int32)), .val (.ref w0), .val (.int (1 : Int32))] [(.long (p2 &&& (9223372036854775807 : Int64))), (.ref w0)])) rfl (by rw [hml]; rfl) (Steps.refl _) (argsL := [(.long (p2 &&& (9223372036854775807 : Int64)))]) (rest := []) (lenOf pd0 rfl) rfl (by show 2 * 0 + _ ≤ _; exact Nat.le_of_eq rfl) (hb hby at_157) (fun _ _ => ⟨rfl, e6, (by decide : 0 + 0 ≤ _), (by decide : 0 + 0 ≤ _)⟩)
          dsimp only [Pt.U, Pt.locs, Pt.cells, Pt.slots] at X8 l8 y8 z8 st8 hQ8
          subst l8 y8 z8
          obtain ⟨rfl, e8, hO8⟩ := hQ8
          rcases hO8 with ⟨hr8_0_0, hr8_0_1, rfl⟩ | ⟨hr8_1_0, hr8_1_1, rfl⟩ | ⟨hr8_2_0, hr8_2_1, rfl⟩ | ⟨hr8_3_0, hr8_3_1, rfl⟩
          · refine own_tr st8 ?_
            show own_Go p e below s _ _ _ (T8.setTop (mkF m 160 #[.val (.int p0), .val (.int p1), .val (.long p2), .second, .val (.long (p2 &&& (9223372036854775807 : Int64))), .second, .val (.int (0 : Int32)), .val (.int (1 : Int32)), .val (.ref w0), .val (.int (1 : Int32))] [(.int (1 : Int32))]))
            refine own_via (fun _ k => XS.iload X8.here hx rfl (hb hby at_160) rfl k) ?_
            show own_Go p e below s _ _ _ (T8.setTop (mkF m 162 #[.val (.int p0), .val (.int p1), .val (.long p2), .second, .val (.long (p2 &&& (9223372036854775807 : Int64))), .second, .val (.int (0 : Int32)), .val (.int (1 : Int32)), .val (.ref w0), .val (.int (1 : Int32))] [(.int (1 : Int32)), (.int (1 : Int32))]))
            refine own_via (fun _ k => XS.icmpNo X8.here hx rfl (hb hby at_162) rfl (teq (by decide : (1 : Int32) = (1 : Int32))).2 k) ?_
            show own_Go p e below s _ _ _ (T8.setTop (mkF m 165 #[.val (.int p0), .val (.int p1), .val (.long p2), .second, .val (.long (p2 &&& (9223372036854775807 : Int64))), .second, .val (.int (0 : Int32)), .val (.int (1 : Int32)), .val (.ref w0), .val (.int (1 : Int32))] []))
            refine own_via (fun _ k => XS.iconst X8.here hx rfl (hb hby at_165) k) ?_
            show own_Go p e below s _ _ _ (T8.setTop (mkF m 166 #[.val (.int p0), .val (.int p1), .val (.long p2), .second, .val (.long (p2 &&& (9223372036854775807 : Int64))), .second, .val (.int (0 : Int32)), .val (.int (1 : Int32)), .val (.ref w0), .val (.int (1 : Int32))] [(.int (1 : Int32))]))
            refine own_via (fun _ k => XS.goto X8.here hx rfl (pc0 := 166) (pc' := 170) rfl (hb hby at_166) (by decide) (by decide) k) ?_
            show own_Go p e below s _ _ _ (T8.setTop (mkF m 170 #[.val (.int p0), .val (.int p1), .val (.long p2), .second, .val (.long (p2 &&& (9223372036854775807 : Int64))), .second, .val (.int (0 : Int32)), .val (.int (1 : Int32)), .val (.ref w0), .val (.int (1 : Int32))] [(.int (1 : Int32))]))
            exact own_retZ X8 hx hlk (t := .boolean) Bd.returns (by simp) (hb hby at_170) (z' := (1 : Int32)) (by first | rfl | decide) ⟨rfl, (Fr.nil n0)⟩ (by decide) (by decide)
          · exact absurd hc7 hr8_1_1
          · exact absurd hc5 hr8_2_0
          · exact absurd hc5 hr8_3_0
        · refine own_via (fun _ k => XS.ifYes X6.here hx rfl (pc0 := 72) (pc' := 79) rfl (hb hby at_72) rfl ((if0 _ _).trans (feq (mt (lw_eq ((p2 &&& (9223372036854775807 : Int64)) - ((p2 &&& (9223372036854775807 : Int64)) / (5 : Int64)) * (5 : Int64)) (0 : Int64)).mp hc7)).2) (by decide) (by decide) k) ?_
          show own_Go p e below s _ _ _ (T6.setTop (mkF m 79 #[.val (.int p0), .val (.int p1), .val (.long p2), .second, .val (.long (p2 &&& (9223372036854775807 : Int64))), .second, .val (.int (0 : Int32)), .val (.int (1 : Int32)), .val (.ref w0), .unset] []))
          refine own_via (fun _ k => XS.iconst X6.here hx rfl (hb hby at_79) k) ?_
          show own_Go p e below s _ _ _ (T6.setTop (mkF m 80 #[.val (.int p0), .val (.int p1), .val (.long p2), .second, .val (.long (p2 &&& (9223372036854775807 : Int64))), .second, .val (.int (0 : Int32)), .val (.int (1 : Int32)), .val (.ref w0), .unset] [(.int (0 : Int32))]))
          refine own_via (fun _ k => XS.goto X6.here hx rfl (pc0 := 80) (pc' := 99) rfl (hb hby at_80) (by decide) (by decide) k) ?_
          show own_Go p e below s _ _ _ (T6.setTop (mkF m 99 #[.val (.int p0), .val (.int p1), .val (.long p2), .second, .val (.long (p2 &&& (9223372036854775807 : Int64))), .second, .val (.int (0 : Int32)), .val (.int (1 : Int32)), .val (.ref w0), .unset] [(.int (0 : Int32))]))
          refine own_via (fun _ k => XS.istore X6.here hx rfl (hb hby at_99) rfl (l' := #[.val (.int p0), .val (.int p1), .val (.long p2), .second, .val (.long (p2 &&& (9223372036854775807 : Int64))), .second, .val (.int (0 : Int32)), .val (.int (1 : Int32)), .val (.ref w0), .val (.int (0 : Int32))]) rfl k) ?_
          show own_Go p e below s _ _ _ (T6.setTop (mkF m 101 #[.val (.int p0), .val (.int p1), .val (.long p2), .second, .val (.long (p2 &&& (9223372036854775807 : Int64))), .second, .val (.int (0 : Int32)), .val (.int (1 : Int32)), .val (.ref w0), .val (.int (0 : Int32))] []))
          refine own_via (fun _ k => XS.goto X6.here hx rfl (pc0 := 101) (pc' := 153) rfl (hb hby at_101) (by decide) (by decide) k) ?_
          show own_Go p e below s _ _ _ (T6.setTop (mkF m 153 #[.val (.int p0), .val (.int p1), .val (.long p2), .second, .val (.long (p2 &&& (9223372036854775807 : Int64))), .second, .val (.int (0 : Int32)), .val (.int (1 : Int32)), .val (.ref w0), .val (.int (0 : Int32))] []))
          refine own_via (fun _ k => XS.aload X6.here hx rfl (hb hby at_153) rfl rfl k) ?_
          show own_Go p e below s _ _ _ (T6.setTop (mkF m 155 #[.val (.int p0), .val (.int p1), .val (.long p2), .second, .val (.long (p2 &&& (9223372036854775807 : Int64))), .second, .val (.int (0 : Int32)), .val (.int (1 : Int32)), .val (.ref w0), .val (.int (0 : Int32))] [(.ref w0)]))
          refine own_via (fun _ k => XS.lload X6.here hx rfl (hb hby at_155) rfl k) ?_
          show own_Go p e below s _ _ _ (T6.setTop (mkF m 157 #[.val (.int p0), .val (.int p1), .val (.long p2), .second, .val (.long (p2 &&& (9223372036854775807 : Int64))), .second, .val (.int (0 : Int32)), .val (.int (1 : Int32)), .val (.ref w0), .val (.int (0 : Int32))] [(.long (p2 &&& (9223372036854775807 : Int64))), (.ref w0)]))
          obtain ⟨cq9, kq9, q9a, q9b, q9c⟩ := isOf hZ e6 E_w0
          obtain ⟨_, _, ⟨T9, L9, k9, n9⟩, -, X9, ⟨Lc9, hQ9, l9, y9, z9⟩, st9⟩ := X6.virtualBack hx (y := (⟨"com/example/strikeline/strikeline/PennyProgram", "isOnGrid", "(J)Z"⟩ : MethodName)) (z := (⟨"com/example/strikeline/strikeline/PennyProgram", "isOnGrid", "(J)Z"⟩ : MethodName)) hown (mvT hZ (hw _ (List.mem_of_getElem? (i := 8) rfl))) (mvT hZ (hw _ (List.mem_of_getElem? (i := 9) rfl))) (notFace_of_selects (args := #[]) (mvT hZ (hw _ (List.mem_of_getElem? (i := 11) rfl)))) (mvT hZ (hw _ (List.mem_of_getElem? (i := 11) rfl))) (mvT hZ (hw _ (List.mem_of_getElem? (i := 10) rfl))) (by decide) (backOf (W := 0) (rm1_0 l Z a0 hw [] (p2 &&& (9223372036854775807 : Int64)) w0 w1 w2 h0 n0 Z0 K0) hZ (hw _ (List.mem_of_getElem? (i := 12) rfl)) (hw _ (List.mem_of_getElem? (i := 5) rfl)) (by decide) (by decide)) q9a q9c (g := (mkF m 157 #[.val (.int p0), .val (.int p1), .val (.long p2), .second, .val (.long (p2 &&& (9223372036854775807 : Int64))), .second, .val (.int (0 : Int32)), .val (.int (1 : Int32)), .val (.ref w0), .val (.int (0 : Int32))] [(.long (p2 &&& (9223372036854775807 : Int64))), (.ref w0)])) rfl (by rw [hml]; rfl) (Steps.refl _) (argsL := [(.long (p2 &&& (9223372036854775807 : Int64)))]) (rest := []) (lenOf pd0 rfl) rfl (by show 2 * 0 + _ ≤ _; exact Nat.le_of_eq rfl) (hb hby at_157) (fun _ _ => ⟨rfl, e6, (by decide : 0 + 0 ≤ _), (by decide : 0 + 0 ≤ _)⟩)
          dsimp only [Pt.U, Pt.locs, Pt.cells, Pt.slots] at X9 l9 y9 z9 st9 hQ9
          subst l9 y9 z9
          obtain ⟨rfl, e9, hO9⟩ := hQ9
          rcases hO9 with ⟨hr9_0_0, hr9_0_1, rfl⟩ | ⟨hr9_1_0, hr9_1_1, rfl⟩ | ⟨hr9_2_0, hr9_2_1, rfl⟩ | ⟨hr9_3_0, hr9_3_1, rfl⟩
          · exact absurd hr9_0_1 hc7
          · refine own_tr st9 ?_
            show own_Go p e below s _ _ _ (T9.setTop (mkF m 160 #[.val (.int p0), .val (.int p1), .val (.long p2), .second, .val (.long (p2 &&& (9223372036854775807 : Int64))), .second, .val (.int (0 : Int32)), .val (.int (1 : Int32)), .val (.ref w0), .val (.int (0 : Int32))] [(.int (0 : Int32))]))
            refine own_via (fun _ k => XS.iload X9.here hx rfl (hb hby at_160) rfl k) ?_
            show own_Go p e below s _ _ _ (T9.setTop (mkF m 162 #[.val (.int p0), .val (.int p1), .val (.long p2), .second, .val (.long (p2 &&& (9223372036854775807 : Int64))), .second, .val (.int (0 : Int32)), .val (.int (1 : Int32)), .val (.ref w0), .val (.int (0 : Int32))] [(.int (0 : Int32)), (.int (0 : Int32))]))
            refine own_via (fun _ k => XS.icmpNo X9.here hx rfl (hb hby at_162) rfl (teq (by decide : (0 : Int32) = (0 : Int32))).2 k) ?_
            show own_Go p e below s _ _ _ (T9.setTop (mkF m 165 #[.val (.int p0), .val (.int p1), .val (.long p2), .second, .val (.long (p2 &&& (9223372036854775807 : Int64))), .second, .val (.int (0 : Int32)), .val (.int (1 : Int32)), .val (.ref w0), .val (.int (0 : Int32))] []))
            refine own_via (fun _ k => XS.iconst X9.here hx rfl (hb hby at_165) k) ?_
            show own_Go p e below s _ _ _ (T9.setTop (mkF m 166 #[.val (.int p0), .val (.int p1), .val (.long p2), .second, .val (.long (p2 &&& (9223372036854775807 : Int64))), .second, .val (.int (0 : Int32)), .val (.int (1 : Int32)), .val (.ref w0), .val (.int (0 : Int32))] [(.int (1 : Int32))]))
            refine own_via (fun _ k => XS.goto X9.here hx rfl (pc0 := 166) (pc' := 170) rfl (hb hby at_166) (by decide) (by decide) k) ?_
            show own_Go p e below s _ _ _ (T9.setTop (mkF m 170 #[.val (.int p0), .val (.int p1), .val (.long p2), .second, .val (.long (p2 &&& (9223372036854775807 : Int64))), .second, .val (.int (0 : Int32)), .val (.int (1 : Int32)), .val (.ref w0), .val (.int (0 : Int32))] [(.int (1 : Int32))]))
            exact own_retZ X9 hx hlk (t := .boolean) Bd.returns (by simp) (hb hby at_170) (z' := (1 : Int32)) (by first | rfl | decide) ⟨rfl, (Fr.nil n0)⟩ (by decide) (by decide)
          · exact absurd hc5 hr9_2_0
          · exact absurd hc5 hr9_3_0
      · refine own_via (fun _ k => XS.ifYes X0.here hx rfl (pc0 := 39) (pc' := 46) rfl (hb hby at_39) rfl ((if0 _ _).trans (flt (mt (lw_lt (p2 &&& (9223372036854775807 : Int64)) (300 : Int64)).mp hc5)).2.1) (by decide) (by decide) k) ?_
        show own_Go p e below s _ _ _ (s₁.setTop (mkF m 46 #[.val (.int p0), .val (.int p1), .val (.long p2), .second, .val (.long (p2 &&& (9223372036854775807 : Int64))), .second, .val (.int (0 : Int32)), .unset, .unset, .unset] []))
        refine own_via (fun _ k => XS.iconst X0.here hx rfl (hb hby at_46) k) ?_
        show own_Go p e below s _ _ _ (s₁.setTop (mkF m 47 #[.val (.int p0), .val (.int p1), .val (.long p2), .second, .val (.long (p2 &&& (9223372036854775807 : Int64))), .second, .val (.int (0 : Int32)), .unset, .unset, .unset] [(.int (0 : Int32))]))
        refine own_via (fun _ k => XS.istore X0.here hx rfl (hb hby at_47) rfl (l' := #[.val (.int p0), .val (.int p1), .val (.long p2), .second, .val (.long (p2 &&& (9223372036854775807 : Int64))), .second, .val (.int (0 : Int32)), .val (.int (0 : Int32)), .unset, .unset]) rfl k) ?_
        show own_Go p e below s _ _ _ (s₁.setTop (mkF m 49 #[.val (.int p0), .val (.int p1), .val (.long p2), .second, .val (.long (p2 &&& (9223372036854775807 : Int64))), .second, .val (.int (0 : Int32)), .val (.int (0 : Int32)), .unset, .unset] []))
        refine own_via (fun _ k => XS.iload X0.here hx rfl (hb hby at_49) rfl k) ?_
        show own_Go p e below s _ _ _ (s₁.setTop (mkF m 51 #[.val (.int p0), .val (.int p1), .val (.long p2), .second, .val (.long (p2 &&& (9223372036854775807 : Int64))), .second, .val (.int (0 : Int32)), .val (.int (0 : Int32)), .unset, .unset] [(.int (0 : Int32))]))
        refine own_via (fun _ k => XS.ifNo X0.here hx rfl (hb hby at_51) rfl ((if0 _ _).trans (teq (by decide : (0 : Int32) = (0 : Int32))).2) k) ?_
        show own_Go p e below s _ _ _ (s₁.setTop (mkF m 54 #[.val (.int p0), .val (.int p1), .val (.long p2), .second, .val (.long (p2 &&& (9223372036854775807 : Int64))), .second, .val (.int (0 : Int32)), .val (.int (0 : Int32)), .unset, .unset] []))
        obtain ⟨T10, X10, e10, st10⟩ := getS2 X0 hx hZ hown (host := "") (Or.inl (hw _ (List.mem_of_getElem? (i := 4) rfl))) Via.refl e0 S_w0 (g := (mkF m 54 #[.val (.int p0), .val (.int p1), .val (.long p2), .second, .val (.long (p2 &&& (9223372036854775807 : Int64))), .second, .val (.int (0 : Int32)), .val (.int (0 : Int32)), .unset, .unset] [])) rfl (hb hby at_54)
        refine own_via st10 ?_
        show own_Go p e below s _ _ _ (T10.setTop (mkF m 57 #[.val (.int p0), .val (.int p1), .val (.long p2), .second, .val (.long (p2 &&& (9223372036854775807 : Int64))), .second, .val (.int (0 : Int32)), .val (.int (0 : Int32)), .unset, .unset] [(.ref w0)]))
        refine own_via (fun _ k => XS.astore X10.here hx rfl (hb hby at_57) rfl rfl (l' := #[.val (.int p0), .val (.int p1), .val (.long p2), .second, .val (.long (p2 &&& (9223372036854775807 : Int64))), .second, .val (.int (0 : Int32)), .val (.int (0 : Int32)), .val (.ref w0), .unset]) rfl k) ?_
        show own_Go p e below s _ _ _ (T10.setTop (mkF m 59 #[.val (.int p0), .val (.int p1), .val (.long p2), .second, .val (.long (p2 &&& (9223372036854775807 : Int64))), .second, .val (.int (0 : Int32)), .val (.int (0 : Int32)), .val (.ref w0), .unset] []))
        refine own_via (fun _ k => XS.iload X10.here hx rfl (hb hby at_59) rfl k) ?_
        show own_Go p e below s _ _ _ (T10.setTop (mkF m 61 #[.val (.int p0), .val (.int p1), .val (.long p2), .second, .val (.long (p2 &&& (9223372036854775807 : Int64))), .second, .val (.int (0 : Int32)), .val (.int (0 : Int32)), .val (.ref w0), .unset] [(.int (0 : Int32))]))
        refine own_via (fun _ k => XS.ifYes X10.here hx rfl (pc0 := 61) (pc' := 83) rfl (hb hby at_61) rfl ((if0 _ _).trans (teq (by decide : (0 : Int32) = (0 : Int32))).1) (by decide) (by decide) k) ?_
        show own_Go p e below s _ _ _ (T10.setTop (mkF m 83 #[.val (.int p0), .val (.int p1), .val (.long p2), .second, .val (.long (p2 &&& (9223372036854775807 : Int64))), .second, .val (.int (0 : Int32)), .val (.int (0 : Int32)), .val (.ref w0), .unset] []))
        refine own_via (fun _ k => XS.lload X10.here hx rfl (hb hby at_83) rfl k) ?_
        show own_Go p e below s _ _ _ (T10.setTop (mkF m 85 #[.val (.int p0), .val (.int p1), .val (.long p2), .second, .val (.long (p2 &&& (9223372036854775807 : Int64))), .second, .val (.int (0 : Int32)), .val (.int (0 : Int32)), .val (.ref w0), .unset] [(.long (p2 &&& (9223372036854775807 : Int64)))]))
        refine own_via (fun _ k => X10.ldc2Long hx hown (mvT hZ (hw _ (List.mem_of_getElem? (i := 16) rfl))) (g := (mkF m 85 #[.val (.int p0), .val (.int p1), .val (.long p2), .second, .val (.long (p2 &&& (9223372036854775807 : Int64))), .second, .val (.int (0 : Int32)), .val (.int (0 : Int32)), .val (.ref w0), .unset] [(.long (p2 &&& (9223372036854775807 : Int64)))])) rfl (hb hby at_85) _ k) ?_
        show own_Go p e below s _ _ _ (T10.setTop (mkF m 88 #[.val (.int p0), .val (.int p1), .val (.long p2), .second, .val (.long (p2 &&& (9223372036854775807 : Int64))), .second, .val (.int (0 : Int32)), .val (.int (0 : Int32)), .val (.ref w0), .unset] [(.long (10 : Int64)), (.long (p2 &&& (9223372036854775807 : Int64)))]))
        refine own_via (fun _ k => XS.lrem X10.here hx rfl (hb hby at_88) rfl (by decide : ¬ ((10 : Int64) = (0 : Int64))) k) ?_
        show own_Go p e below s _ _ _ (T10.setTop (mkF m 89 #[.val (.int p0), .val (.int p1), .val (.long p2), .second, .val (.long (p2 &&& (9223372036854775807 : Int64))), .second, .val (.int (0 : Int32)), .val (.int (0 : Int32)), .val (.ref w0), .unset] [(.long ((p2 &&& (9223372036854775807 : Int64)) - ((p2 &&& (9223372036854775807 : Int64)) / (10 : Int64)) * (10 : Int64)))]))
        refine own_via (fun _ k => XS.lconst X10.here hx rfl (hb hby at_89) k) ?_
        show own_Go p e below s _ _ _ (T10.setTop (mkF m 90 #[.val (.int p0), .val (.int p1), .val (.long p2), .second, .val (.long (p2 &&& (9223372036854775807 : Int64))), .second, .val (.int (0 : Int32)), .val (.int (0 : Int32)), .val (.ref w0), .unset] [(.long (0 : Int64)), (.long ((p2 &&& (9223372036854775807 : Int64)) - ((p2 &&& (9223372036854775807 : Int64)) / (10 : Int64)) * (10 : Int64)))]))
        refine own_via (fun _ k => XS.lcmp X10.here hx rfl (hb hby at_90) rfl k) ?_
        show own_Go p e below s _ _ _ (T10.setTop (mkF m 91 #[.val (.int p0), .val (.int p1), .val (.long p2), .second, .val (.long (p2 &&& (9223372036854775807 : Int64))), .second, .val (.int (0 : Int32)), .val (.int (0 : Int32)), .val (.ref w0), .unset] [(.int (lcmpW ((p2 &&& (9223372036854775807 : Int64)) - ((p2 &&& (9223372036854775807 : Int64)) / (10 : Int64)) * (10 : Int64)) (0 : Int64)))]))
        by_cases hc11 : ((p2 &&& (9223372036854775807 : Int64)) - ((p2 &&& (9223372036854775807 : Int64)) / (10 : Int64)) * (10 : Int64)) = (0 : Int64)
        · refine own_via (fun _ k => XS.ifNo X10.here hx rfl (hb hby at_91) rfl ((if0 _ _).trans (teq ((lw_eq ((p2 &&& (9223372036854775807 : Int64)) - ((p2 &&& (9223372036854775807 : Int64)) / (10 : Int64)) * (10 : Int64)) (0 : Int64)).mpr hc11)).2) k) ?_
          show own_Go p e below s _ _ _ (T10.setTop (mkF m 94 #[.val (.int p0), .val (.int p1), .val (.long p2), .second, .val (.long (p2 &&& (9223372036854775807 : Int64))), .second, .val (.int (0 : Int32)), .val (.int (0 : Int32)), .val (.ref w0), .unset] []))
          refine own_via (fun _ k => XS.iconst X10.here hx rfl (hb hby at_94) k) ?_
          show own_Go p e below s _ _ _ (T10.setTop (mkF m 95 #[.val (.int p0), .val (.int p1), .val (.long p2), .second, .val (.long (p2 &&& (9223372036854775807 : Int64))), .second, .val (.int (0 : Int32)), .val (.int (0 : Int32)), .val (.ref w0), .unset] [(.int (1 : Int32))]))
          refine own_via (fun _ k => XS.goto X10.here hx rfl (pc0 := 95) (pc' := 99) rfl (hb hby at_95) (by decide) (by decide) k) ?_
          show own_Go p e below s _ _ _ (T10.setTop (mkF m 99 #[.val (.int p0), .val (.int p1), .val (.long p2), .second, .val (.long (p2 &&& (9223372036854775807 : Int64))), .second, .val (.int (0 : Int32)), .val (.int (0 : Int32)), .val (.ref w0), .unset] [(.int (1 : Int32))]))
          refine own_via (fun _ k => XS.istore X10.here hx rfl (hb hby at_99) rfl (l' := #[.val (.int p0), .val (.int p1), .val (.long p2), .second, .val (.long (p2 &&& (9223372036854775807 : Int64))), .second, .val (.int (0 : Int32)), .val (.int (0 : Int32)), .val (.ref w0), .val (.int (1 : Int32))]) rfl k) ?_
          show own_Go p e below s _ _ _ (T10.setTop (mkF m 101 #[.val (.int p0), .val (.int p1), .val (.long p2), .second, .val (.long (p2 &&& (9223372036854775807 : Int64))), .second, .val (.int (0 : Int32)), .val (.int (0 : Int32)), .val (.ref w0), .val (.int (1 : Int32))] []))
          refine own_via (fun _ k => XS.goto X10.here hx rfl (pc0 := 101) (pc' := 153) rfl (hb hby at_101) (by decide) (by decide) k) ?_
          show own_Go p e below s _ _ _ (T10.setTop (mkF m 153 #[.val (.int p0), .val (.int p1), .val (.long p2), .second, .val (.long (p2 &&& (9223372036854775807 : Int64))), .second, .val (.int (0 : Int32)), .val (.int (0 : Int32)), .val (.ref w0), .val (.int (1 : Int32))] []))
          refine own_via (fun _ k => XS.aload X10.here hx rfl (hb hby at_153) rfl rfl k) ?_
          show own_Go p e below s _ _ _ (T10.setTop (mkF m 155 #[.val (.int p0), .val (.int p1), .val (.long p2), .second, .val (.long (p2 &&& (9223372036854775807 : Int64))), .second, .val (.int (0 : Int32)), .val (.int (0 : Int32)), .val (.ref w0), .val (.int (1 : Int32))] [(.ref w0)]))
          refine own_via (fun _ k => XS.lload X10.here hx rfl (hb hby at_155) rfl k) ?_
          show own_Go p e below s _ _ _ (T10.setTop (mkF m 157 #[.val (.int p0), .val (.int p1), .val (.long p2), .second, .val (.long (p2 &&& (9223372036854775807 : Int64))), .second, .val (.int (0 : Int32)), .val (.int (0 : Int32)), .val (.ref w0), .val (.int (1 : Int32))] [(.long (p2 &&& (9223372036854775807 : Int64))), (.ref w0)]))
          obtain ⟨cq12, kq12, q12a, q12b, q12c⟩ := isOf hZ e10 E_w0
          obtain ⟨_, _, ⟨T12, L12, k12, n12⟩, -, X12, ⟨Lc12, hQ12, l12, y12, z12⟩, st12⟩ := X10.virtualBack hx (y := (⟨"com/example/strikeline/strikeline/PennyProgram", "isOnGrid", "(J)Z"⟩ : MethodName)) (z := (⟨"com/example/strikeline/strikeline/PennyProgram", "isOnGrid", "(J)Z"⟩ : MethodName)) hown (mvT hZ (hw _ (List.mem_of_getElem? (i := 8) rfl))) (mvT hZ (hw _ (List.mem_of_getElem? (i := 9) rfl))) (notFace_of_selects (args := #[]) (mvT hZ (hw _ (List.mem_of_getElem? (i := 11) rfl)))) (mvT hZ (hw _ (List.mem_of_getElem? (i := 11) rfl))) (mvT hZ (hw _ (List.mem_of_getElem? (i := 10) rfl))) (by decide) (backOf (W := 0) (rm1_0 l Z a0 hw [] (p2 &&& (9223372036854775807 : Int64)) w0 w1 w2 h0 n0 Z0 K0) hZ (hw _ (List.mem_of_getElem? (i := 12) rfl)) (hw _ (List.mem_of_getElem? (i := 5) rfl)) (by decide) (by decide)) q12a q12c (g := (mkF m 157 #[.val (.int p0), .val (.int p1), .val (.long p2), .second, .val (.long (p2 &&& (9223372036854775807 : Int64))), .second, .val (.int (0 : Int32)), .val (.int (0 : Int32)), .val (.ref w0), .val (.int (1 : Int32))] [(.long (p2 &&& (9223372036854775807 : Int64))), (.ref w0)])) rfl (by rw [hml]; rfl) (Steps.refl _) (argsL := [(.long (p2 &&& (9223372036854775807 : Int64)))]) (rest := []) (lenOf pd0 rfl) rfl (by show 2 * 0 + _ ≤ _; exact Nat.le_of_eq rfl) (hb hby at_157) (fun _ _ => ⟨rfl, e10, (by decide : 0 + 0 ≤ _), (by decide : 0 + 0 ≤ _)⟩)
          dsimp only [Pt.U, Pt.locs, Pt.cells, Pt.slots] at X12 l12 y12 z12 st12 hQ12
          subst l12 y12 z12
          obtain ⟨rfl, e12, hO12⟩ := hQ12
          rcases hO12 with ⟨hr12_0_0, hr12_0_1, rfl⟩ | ⟨hr12_1_0, hr12_1_1, rfl⟩ | ⟨hr12_2_0, hr12_2_1, rfl⟩ | ⟨hr12_3_0, hr12_3_1, rfl⟩
          · exact absurd hr12_0_0 hc5
          · exact absurd hr12_1_0 hc5
          · refine own_tr st12 ?_
            show own_Go p e below s _ _ _ (T12.setTop (mkF m 160 #[.val (.int p0), .val (.int p1), .val (.long p2), .second, .val (.long (p2 &&& (9223372036854775807 : Int64))), .second, .val (.int (0 : Int32)), .val (.int (0 : Int32)), .val (.ref w0), .val (.int (1 : Int32))] [(.int (1 : Int32))]))
            refine own_via (fun _ k => XS.iload X12.here hx rfl (hb hby at_160) rfl k) ?_
            show own_Go p e below s _ _ _ (T12.setTop (mkF m 162 #[.val (.int p0), .val (.int p1), .val (.long p2), .second, .val (.long (p2 &&& (9223372036854775807 : Int64))), .second, .val (.int (0 : Int32)), .val (.int (0 : Int32)), .val (.ref w0), .val (.int (1 : Int32))] [(.int (1 : Int32)), (.int (1 : Int32))]))
            refine own_via (fun _ k => XS.icmpNo X12.here hx rfl (hb hby at_162) rfl (teq (by decide : (1 : Int32) = (1 : Int32))).2 k) ?_
            show own_Go p e below s _ _ _ (T12.setTop (mkF m 165 #[.val (.int p0), .val (.int p1), .val (.long p2), .second, .val (.long (p2 &&& (9223372036854775807 : Int64))), .second, .val (.int (0 : Int32)), .val (.int (0 : Int32)), .val (.ref w0), .val (.int (1 : Int32))] []))
            refine own_via (fun _ k => XS.iconst X12.here hx rfl (hb hby at_165) k) ?_
            show own_Go p e below s _ _ _ (T12.setTop (mkF m 166 #[.val (.int p0), .val (.int p1), .val (.long p2), .second, .val (.long (p2 &&& (9223372036854775807 : Int64))), .second, .val (.int (0 : Int32)), .val (.int (0 : Int32)), .val (.ref w0), .val (.int (1 : Int32))] [(.int (1 : Int32))]))
            refine own_via (fun _ k => XS.goto X12.here hx rfl (pc0 := 166) (pc' := 170) rfl (hb hby at_166) (by decide) (by decide) k) ?_
            show own_Go p e below s _ _ _ (T12.setTop (mkF m 170 #[.val (.int p0), .val (.int p1), .val (.long p2), .second, .val (.long (p2 &&& (9223372036854775807 : Int64))), .second, .val (.int (0 : Int32)), .val (.int (0 : Int32)), .val (.ref w0), .val (.int (1 : Int32))] [(.int (1 : Int32))]))
            exact own_retZ X12 hx hlk (t := .boolean) Bd.returns (by simp) (hb hby at_170) (z' := (1 : Int32)) (by first | rfl | decide) ⟨rfl, (Fr.nil n0)⟩ (by decide) (by decide)
          · exact absurd hc11 hr12_3_1
        · refine own_via (fun _ k => XS.ifYes X10.here hx rfl (pc0 := 91) (pc' := 98) rfl (hb hby at_91) rfl ((if0 _ _).trans (feq (mt (lw_eq ((p2 &&& (9223372036854775807 : Int64)) - ((p2 &&& (9223372036854775807 : Int64)) / (10 : Int64)) * (10 : Int64)) (0 : Int64)).mp hc11)).2) (by decide) (by decide) k) ?_
          show own_Go p e below s _ _ _ (T10.setTop (mkF m 98 #[.val (.int p0), .val (.int p1), .val (.long p2), .second, .val (.long (p2 &&& (9223372036854775807 : Int64))), .second, .val (.int (0 : Int32)), .val (.int (0 : Int32)), .val (.ref w0), .unset] []))
          refine own_via (fun _ k => XS.iconst X10.here hx rfl (hb hby at_98) k) ?_
          show own_Go p e below s _ _ _ (T10.setTop (mkF m 99 #[.val (.int p0), .val (.int p1), .val (.long p2), .second, .val (.long (p2 &&& (9223372036854775807 : Int64))), .second, .val (.int (0 : Int32)), .val (.int (0 : Int32)), .val (.ref w0), .unset] [(.int (0 : Int32))]))
          refine own_via (fun _ k => XS.istore X10.here hx rfl (hb hby at_99) rfl (l' := #[.val (.int p0), .val (.int p1), .val (.long p2), .second, .val (.long (p2 &&& (9223372036854775807 : Int64))), .second, .val (.int (0 : Int32)), .val (.int (0 : Int32)), .val (.ref w0), .val (.int (0 : Int32))]) rfl k) ?_
          show own_Go p e below s _ _ _ (T10.setTop (mkF m 101 #[.val (.int p0), .val (.int p1), .val (.long p2), .second, .val (.long (p2 &&& (9223372036854775807 : Int64))), .second, .val (.int (0 : Int32)), .val (.int (0 : Int32)), .val (.ref w0), .val (.int (0 : Int32))] []))
          refine own_via (fun _ k => XS.goto X10.here hx rfl (pc0 := 101) (pc' := 153) rfl (hb hby at_101) (by decide) (by decide) k) ?_
          show own_Go p e below s _ _ _ (T10.setTop (mkF m 153 #[.val (.int p0), .val (.int p1), .val (.long p2), .second, .val (.long (p2 &&& (9223372036854775807 : Int64))), .second, .val (.int (0 : Int32)), .val (.int (0 : Int32)), .val (.ref w0), .val (.int (0 : Int32))] []))
          refine own_via (fun _ k => XS.aload X10.here hx rfl (hb hby at_153) rfl rfl k) ?_
          show own_Go p e below s _ _ _ (T10.setTop (mkF m 155 #[.val (.int p0), .val (.int p1), .val (.long p2), .second, .val (.long (p2 &&& (9223372036854775807 : Int64))), .second, .val (.int (0 : Int32)), .val (.int (0 : Int32)), .val (.ref w0), .val (.int (0 : Int32))] [(.ref w0)]))
          refine own_via (fun _ k => XS.lload X10.here hx rfl (hb hby at_155) rfl k) ?_
          show own_Go p e below s _ _ _ (T10.setTop (mkF m 157 #[.val (.int p0), .val (.int p1), .val (.long p2), .second, .val (.long (p2 &&& (9223372036854775807 : Int64))), .second, .val (.int (0 : Int32)), .val (.int (0 : Int32)), .val (.ref w0), .val (.int (0 : Int32))] [(.long (p2 &&& (9223372036854775807 : Int64))), (.ref w0)]))
          obtain ⟨cq13, kq13, q13a, q13b, q13c⟩ := isOf hZ e10 E_w0
          obtain ⟨_, _, ⟨T13, L13, k13, n13⟩, -, X13, ⟨Lc13, hQ13, l13, y13, z13⟩, st13⟩ := X10.virtualBack hx (y := (⟨"com/example/strikeline/strikeline/PennyProgram", "isOnGrid", "(J)Z"⟩ : MethodName)) (z := (⟨"com/example/strikeline/strikeline/PennyProgram", "isOnGrid", "(J)Z"⟩ : MethodName)) hown (mvT hZ (hw _ (List.mem_of_getElem? (i := 8) rfl))) (mvT hZ (hw _ (List.mem_of_getElem? (i := 9) rfl))) (notFace_of_selects (args := #[]) (mvT hZ (hw _ (List.mem_of_getElem? (i := 11) rfl)))) (mvT hZ (hw _ (List.mem_of_getElem? (i := 11) rfl))) (mvT hZ (hw _ (List.mem_of_getElem? (i := 10) rfl))) (by decide) (backOf (W := 0) (rm1_0 l Z a0 hw [] (p2 &&& (9223372036854775807 : Int64)) w0 w1 w2 h0 n0 Z0 K0) hZ (hw _ (List.mem_of_getElem? (i := 12) rfl)) (hw _ (List.mem_of_getElem? (i := 5) rfl)) (by decide) (by decide)) q13a q13c (g := (mkF m 157 #[.val (.int p0), .val (.int p1), .val (.long p2), .second, .val (.long (p2 &&& (9223372036854775807 : Int64))), .second, .val (.int (0 : Int32)), .val (.int (0 : Int32)), .val (.ref w0), .val (.int (0 : Int32))] [(.long (p2 &&& (9223372036854775807 : Int64))), (.ref w0)])) rfl (by rw [hml]; rfl) (Steps.refl _) (argsL := [(.long (p2 &&& (9223372036854775807 : Int64)))]) (rest := []) (lenOf pd0 rfl) rfl (by show 2 * 0 + _ ≤ _; exact Nat.le_of_eq rfl) (hb hby at_157) (fun _ _ => ⟨rfl, e10, (by decide : 0 + 0 ≤ _), (by decide : 0 + 0 ≤ _)⟩)
          dsimp only [Pt.U, Pt.locs, Pt.cells, Pt.slots] at X13 l13 y13 z13 st13 hQ13
          subst l13 y13 z13
          obtain ⟨rfl, e13, hO13⟩ := hQ13
          rcases hO13 with ⟨hr13_0_0, hr13_0_1, rfl⟩ | ⟨hr13_1_0, hr13_1_1, rfl⟩ | ⟨hr13_2_0, hr13_2_1, rfl⟩ | ⟨hr13_3_0, hr13_3_1, rfl⟩
          · exact absurd hr13_0_0 hc5
          · exact absurd hr13_1_0 hc5
          · exact absurd hr13_2_1 hc11
          · refine own_tr st13 ?_
            show own_Go p e below s _ _ _ (T13.setTop (mkF m 160 #[.val (.int p0), .val (.int p1), .val (.long p2), .second, .val (.long (p2 &&& (9223372036854775807 : Int64))), .second, .val (.int (0 : Int32)), .val (.int (0 : Int32)), .val (.ref w0), .val (.int (0 : Int32))] [(.int (0 : Int32))]))
            refine own_via (fun _ k => XS.iload X13.here hx rfl (hb hby at_160) rfl k) ?_
            show own_Go p e below s _ _ _ (T13.setTop (mkF m 162 #[.val (.int p0), .val (.int p1), .val (.long p2), .second, .val (.long (p2 &&& (9223372036854775807 : Int64))), .second, .val (.int (0 : Int32)), .val (.int (0 : Int32)), .val (.ref w0), .val (.int (0 : Int32))] [(.int (0 : Int32)), (.int (0 : Int32))]))
            refine own_via (fun _ k => XS.icmpNo X13.here hx rfl (hb hby at_162) rfl (teq (by decide : (0 : Int32) = (0 : Int32))).2 k) ?_
            show own_Go p e below s _ _ _ (T13.setTop (mkF m 165 #[.val (.int p0), .val (.int p1), .val (.long p2), .second, .val (.long (p2 &&& (9223372036854775807 : Int64))), .second, .val (.int (0 : Int32)), .val (.int (0 : Int32)), .val (.ref w0), .val (.int (0 : Int32))] []))
            refine own_via (fun _ k => XS.iconst X13.here hx rfl (hb hby at_165) k) ?_
            show own_Go p e below s _ _ _ (T13.setTop (mkF m 166 #[.val (.int p0), .val (.int p1), .val (.long p2), .second, .val (.long (p2 &&& (9223372036854775807 : Int64))), .second, .val (.int (0 : Int32)), .val (.int (0 : Int32)), .val (.ref w0), .val (.int (0 : Int32))] [(.int (1 : Int32))]))
            refine own_via (fun _ k => XS.goto X13.here hx rfl (pc0 := 166) (pc' := 170) rfl (hb hby at_166) (by decide) (by decide) k) ?_
            show own_Go p e below s _ _ _ (T13.setTop (mkF m 170 #[.val (.int p0), .val (.int p1), .val (.long p2), .second, .val (.long (p2 &&& (9223372036854775807 : Int64))), .second, .val (.int (0 : Int32)), .val (.int (0 : Int32)), .val (.ref w0), .val (.int (0 : Int32))] [(.int (1 : Int32))]))
            exact own_retZ X13 hx hlk (t := .boolean) Bd.returns (by simp) (hb hby at_170) (z' := (1 : Int32)) (by first | rfl | decide) ⟨rfl, (Fr.nil n0)⟩ (by decide) (by decide)
    · rw [hk3]
      show own_Go p e below s _ _ _ (s₁.setTop (mkF m 31 #[.val (.int p0), .val (.int p1), .val (.long p2), .second, .val (.long (p2 &&& (9223372036854775807 : Int64))), .second, .unset, .unset, .unset, .unset] [(.int (1 : Int32))]))
      refine own_via (fun _ k => XS.istore X0.here hx rfl (hb hby at_31) rfl (l' := #[.val (.int p0), .val (.int p1), .val (.long p2), .second, .val (.long (p2 &&& (9223372036854775807 : Int64))), .second, .val (.int (1 : Int32)), .unset, .unset, .unset]) rfl k) ?_
      show own_Go p e below s _ _ _ (s₁.setTop (mkF m 33 #[.val (.int p0), .val (.int p1), .val (.long p2), .second, .val (.long (p2 &&& (9223372036854775807 : Int64))), .second, .val (.int (1 : Int32)), .unset, .unset, .unset] []))
      refine own_via (fun _ k => XS.lload X0.here hx rfl (hb hby at_33) rfl k) ?_
      show own_Go p e below s _ _ _ (s₁.setTop (mkF m 35 #[.val (.int p0), .val (.int p1), .val (.long p2), .second, .val (.long (p2 &&& (9223372036854775807 : Int64))), .second, .val (.int (1 : Int32)), .unset, .unset, .unset] [(.long (p2 &&& (9223372036854775807 : Int64)))]))
      refine own_via (fun _ k => X0.ldc2Long hx hown (mvT hZ (hw _ (List.mem_of_getElem? (i := 3) rfl))) (g := (mkF m 35 #[.val (.int p0), .val (.int p1), .val (.long p2), .second, .val (.long (p2 &&& (9223372036854775807 : Int64))), .second, .val (.int (1 : Int32)), .unset, .unset, .unset] [(.long (p2 &&& (9223372036854775807 : Int64)))])) rfl (hb hby at_35) _ k) ?_
      show own_Go p e below s _ _ _ (s₁.setTop (mkF m 38 #[.val (.int p0), .val (.int p1), .val (.long p2), .second, .val (.long (p2 &&& (9223372036854775807 : Int64))), .second, .val (.int (1 : Int32)), .unset, .unset, .unset] [(.long (300 : Int64)), (.long (p2 &&& (9223372036854775807 : Int64)))]))
      refine own_via (fun _ k => XS.lcmp X0.here hx rfl (hb hby at_38) rfl k) ?_
      show own_Go p e below s _ _ _ (s₁.setTop (mkF m 39 #[.val (.int p0), .val (.int p1), .val (.long p2), .second, .val (.long (p2 &&& (9223372036854775807 : Int64))), .second, .val (.int (1 : Int32)), .unset, .unset, .unset] [(.int (lcmpW (p2 &&& (9223372036854775807 : Int64)) (300 : Int64)))]))
      by_cases hc14 : (p2 &&& (9223372036854775807 : Int64)) < (300 : Int64)
      · refine own_via (fun _ k => XS.ifNo X0.here hx rfl (hb hby at_39) rfl ((if0 _ _).trans (tlt ((lw_lt (p2 &&& (9223372036854775807 : Int64)) (300 : Int64)).mpr hc14)).2.1) k) ?_
        show own_Go p e below s _ _ _ (s₁.setTop (mkF m 42 #[.val (.int p0), .val (.int p1), .val (.long p2), .second, .val (.long (p2 &&& (9223372036854775807 : Int64))), .second, .val (.int (1 : Int32)), .unset, .unset, .unset] []))
        refine own_via (fun _ k => XS.iconst X0.here hx rfl (hb hby at_42) k) ?_
        show own_Go p e below s _ _ _ (s₁.setTop (mkF m 43 #[.val (.int p0), .val (.int p1), .val (.long p2), .second, .val (.long (p2 &&& (9223372036854775807 : Int64))), .second, .val (.int (1 : Int32)), .unset, .unset, .unset] [(.int (1 : Int32))]))
        refine own_via (fun _ k => XS.goto X0.here hx rfl (pc0 := 43) (pc' := 47) rfl (hb hby at_43) (by decide) (by decide) k) ?_
        show own_Go p e below s _ _ _ (s₁.setTop (mkF m 47 #[.val (.int p0), .val (.int p1), .val (.long p2), .second, .val (.long (p2 &&& (9223372036854775807 : Int64))), .second, .val (.int (1 : Int32)), .unset, .unset, .unset] [(.int (1 : Int32))]))
        refine own_via (fun _ k => XS.istore X0.here hx rfl (hb hby at_47) rfl (l' := #[.val (.int p0), .val (.int p1), .val (.long p2), .second, .val (.long (p2 &&& (9223372036854775807 : Int64))), .second, .val (.int (1 : Int32)), .val (.int (1 : Int32)), .unset, .unset]) rfl k) ?_
        show own_Go p e below s _ _ _ (s₁.setTop (mkF m 49 #[.val (.int p0), .val (.int p1), .val (.long p2), .second, .val (.long (p2 &&& (9223372036854775807 : Int64))), .second, .val (.int (1 : Int32)), .val (.int (1 : Int32)), .unset, .unset] []))
        refine own_via (fun _ k => XS.iload X0.here hx rfl (hb hby at_49) rfl k) ?_
        show own_Go p e below s _ _ _ (s₁.setTop (mkF m 51 #[.val (.int p0), .val (.int p1), .val (.long p2), .second, .val (.long (p2 &&& (9223372036854775807 : Int64))), .second, .val (.int (1 : Int32)), .val (.int (1 : Int32)), .unset, .unset] [(.int (1 : Int32))]))
        refine own_via (fun _ k => XS.ifYes X0.here hx rfl (pc0 := 51) (pc' := 104) rfl (hb hby at_51) rfl ((if0 _ _).trans (feq (by decide : ¬ ((1 : Int32) = (0 : Int32)))).2) (by decide) (by decide) k) ?_
        show own_Go p e below s _ _ _ (s₁.setTop (mkF m 104 #[.val (.int p0), .val (.int p1), .val (.long p2), .second, .val (.long (p2 &&& (9223372036854775807 : Int64))), .second, .val (.int (1 : Int32)), .val (.int (1 : Int32)), .unset, .unset] []))
        refine own_via (fun _ k => XS.iload X0.here hx rfl (hb hby at_104) rfl k) ?_
        show own_Go p e below s _ _ _ (s₁.setTop (mkF m 106 #[.val (.int p0), .val (.int p1), .val (.long p2), .second, .val (.long (p2 &&& (9223372036854775807 : Int64))), .second, .val (.int (1 : Int32)), .val (.int (1 : Int32)), .unset, .unset] [(.int (1 : Int32))]))
        refine own_via (fun _ k => XS.iconst X0.here hx rfl (hb hby at_106) k) ?_
        show own_Go p e below s _ _ _ (s₁.setTop (mkF m 107 #[.val (.int p0), .val (.int p1), .val (.long p2), .second, .val (.long (p2 &&& (9223372036854775807 : Int64))), .second, .val (.int (1 : Int32)), .val (.int (1 : Int32)), .unset, .unset] [(.int (1 : Int32)), (.int (1 : Int32))]))
        refine own_via (fun _ k => XS.icmpNo X0.here hx rfl (hb hby at_107) rfl (teq (by decide : (1 : Int32) = (1 : Int32))).2 k) ?_
        show own_Go p e below s _ _ _ (s₁.setTop (mkF m 110 #[.val (.int p0), .val (.int p1), .val (.long p2), .second, .val (.long (p2 &&& (9223372036854775807 : Int64))), .second, .val (.int (1 : Int32)), .val (.int (1 : Int32)), .unset, .unset] []))
        obtain ⟨T15, X15, e15, st15⟩ := getS2 X0 hx hZ hown (host := "") (Or.inl (hw _ (List.mem_of_getElem? (i := 19) rfl))) Via.refl e0 S_w1 (g := (mkF m 110 #[.val (.int p0), .val (.int p1), .val (.long p2), .second, .val (.long (p2 &&& (9223372036854775807 : Int64))), .second, .val (.int (1 : Int32)), .val (.int (1 : Int32)), .unset, .unset] [])) rfl (hb hby at_110)
        refine own_via st15 ?_
        show own_Go p e below s _ _ _ (T15.setTop (mkF m 113 #[.val (.int p0), .val (.int p1), .val (.long p2), .second, .val (.long (p2 &&& (9223372036854775807 : Int64))), .second, .val (.int (1 : Int32)), .val (.int (1 : Int32)), .unset, .unset] [(.ref w1)]))
        refine own_via (fun _ k => XS.astore X15.here hx rfl (hb hby at_113) rfl rfl (l' := #[.val (.int p0), .val (.int p1), .val (.long p2), .second, .val (.long (p2 &&& (9223372036854775807 : Int64))), .second, .val (.int (1 : Int32)), .val (.int (1 : Int32)), .val (.ref w1), .unset]) rfl k) ?_
        show own_Go p e below s _ _ _ (T15.setTop (mkF m 115 #[.val (.int p0), .val (.int p1), .val (.long p2), .second, .val (.long (p2 &&& (9223372036854775807 : Int64))), .second, .val (.int (1 : Int32)), .val (.int (1 : Int32)), .val (.ref w1), .unset] []))
        refine own_via (fun _ k => XS.iload X15.here hx rfl (hb hby at_115) rfl k) ?_
        show own_Go p e below s _ _ _ (T15.setTop (mkF m 117 #[.val (.int p0), .val (.int p1), .val (.long p2), .second, .val (.long (p2 &&& (9223372036854775807 : Int64))), .second, .val (.int (1 : Int32)), .val (.int (1 : Int32)), .val (.ref w1), .unset] [(.int (1 : Int32))]))
        refine own_via (fun _ k => XS.ifNo X15.here hx rfl (hb hby at_117) rfl ((if0 _ _).trans (feq (by decide : ¬ ((1 : Int32) = (0 : Int32)))).1) k) ?_
        show own_Go p e below s _ _ _ (T15.setTop (mkF m 120 #[.val (.int p0), .val (.int p1), .val (.long p2), .second, .val (.long (p2 &&& (9223372036854775807 : Int64))), .second, .val (.int (1 : Int32)), .val (.int (1 : Int32)), .val (.ref w1), .unset] []))
        refine own_via (fun _ k => XS.iconst X15.here hx rfl (hb hby at_120) k) ?_
        show own_Go p e below s _ _ _ (T15.setTop (mkF m 121 #[.val (.int p0), .val (.int p1), .val (.long p2), .second, .val (.long (p2 &&& (9223372036854775807 : Int64))), .second, .val (.int (1 : Int32)), .val (.int (1 : Int32)), .val (.ref w1), .unset] [(.int (1 : Int32))]))
        refine own_via (fun _ k => XS.goto X15.here hx rfl (pc0 := 121) (pc' := 140) rfl (hb hby at_121) (by decide) (by decide) k) ?_
        show own_Go p e below s _ _ _ (T15.setTop (mkF m 140 #[.val (.int p0), .val (.int p1), .val (.long p2), .second, .val (.long (p2 &&& (9223372036854775807 : Int64))), .second, .val (.int (1 : Int32)), .val (.int (1 : Int32)), .val (.ref w1), .unset] [(.int (1 : Int32))]))
        refine own_via (fun _ k => XS.istore X15.here hx rfl (hb hby at_140) rfl (l' := #[.val (.int p0), .val (.int p1), .val (.long p2), .second, .val (.long (p2 &&& (9223372036854775807 : Int64))), .second, .val (.int (1 : Int32)), .val (.int (1 : Int32)), .val (.ref w1), .val (.int (1 : Int32))]) rfl k) ?_
        show own_Go p e below s _ _ _ (T15.setTop (mkF m 142 #[.val (.int p0), .val (.int p1), .val (.long p2), .second, .val (.long (p2 &&& (9223372036854775807 : Int64))), .second, .val (.int (1 : Int32)), .val (.int (1 : Int32)), .val (.ref w1), .val (.int (1 : Int32))] []))
        refine own_via (fun _ k => XS.goto X15.here hx rfl (pc0 := 142) (pc' := 153) rfl (hb hby at_142) (by decide) (by decide) k) ?_
        show own_Go p e below s _ _ _ (T15.setTop (mkF m 153 #[.val (.int p0), .val (.int p1), .val (.long p2), .second, .val (.long (p2 &&& (9223372036854775807 : Int64))), .second, .val (.int (1 : Int32)), .val (.int (1 : Int32)), .val (.ref w1), .val (.int (1 : Int32))] []))
        refine own_via (fun _ k => XS.aload X15.here hx rfl (hb hby at_153) rfl rfl k) ?_
        show own_Go p e below s _ _ _ (T15.setTop (mkF m 155 #[.val (.int p0), .val (.int p1), .val (.long p2), .second, .val (.long (p2 &&& (9223372036854775807 : Int64))), .second, .val (.int (1 : Int32)), .val (.int (1 : Int32)), .val (.ref w1), .val (.int (1 : Int32))] [(.ref w1)]))
        refine own_via (fun _ k => XS.lload X15.here hx rfl (hb hby at_155) rfl k) ?_
        show own_Go p e below s _ _ _ (T15.setTop (mkF m 157 #[.val (.int p0), .val (.int p1), .val (.long p2), .second, .val (.long (p2 &&& (9223372036854775807 : Int64))), .second, .val (.int (1 : Int32)), .val (.int (1 : Int32)), .val (.ref w1), .val (.int (1 : Int32))] [(.long (p2 &&& (9223372036854775807 : Int64))), (.ref w1)]))
        obtain ⟨cq16, kq16, q16a, q16b, q16c⟩ := isOf hZ e15 E_w1
        obtain ⟨_, _, ⟨T16, L16, k16, n16⟩, -, X16, ⟨Lc16, hQ16, l16, y16, z16⟩, st16⟩ := X15.virtualBack hx (y := (⟨"com/example/strikeline/strikeline/PennyProgram", "isOnGrid", "(J)Z"⟩ : MethodName)) (z := (⟨"com/example/strikeline/strikeline/PennyProgram", "isOnGrid", "(J)Z"⟩ : MethodName)) hown (mvT hZ (hw _ (List.mem_of_getElem? (i := 8) rfl))) (mvT hZ (hw _ (List.mem_of_getElem? (i := 9) rfl))) (notFace_of_selects (args := #[]) (mvT hZ (hw _ (List.mem_of_getElem? (i := 11) rfl)))) (mvT hZ (hw _ (List.mem_of_getElem? (i := 11) rfl))) (mvT hZ (hw _ (List.mem_of_getElem? (i := 10) rfl))) (by decide) (backOf (W := 0) (rm1_1 l Z a0 hw [] (p2 &&& (9223372036854775807 : Int64)) w0 w1 w2 h0 n0 Z0 K0) hZ (hw _ (List.mem_of_getElem? (i := 12) rfl)) (hw _ (List.mem_of_getElem? (i := 5) rfl)) (by decide) (by decide)) q16a q16c (g := (mkF m 157 #[.val (.int p0), .val (.int p1), .val (.long p2), .second, .val (.long (p2 &&& (9223372036854775807 : Int64))), .second, .val (.int (1 : Int32)), .val (.int (1 : Int32)), .val (.ref w1), .val (.int (1 : Int32))] [(.long (p2 &&& (9223372036854775807 : Int64))), (.ref w1)])) rfl (by rw [hml]; rfl) (Steps.refl _) (argsL := [(.long (p2 &&& (9223372036854775807 : Int64)))]) (rest := []) (lenOf pd0 rfl) rfl (by show 2 * 0 + _ ≤ _; exact Nat.le_of_eq rfl) (hb hby at_157) (fun _ _ => ⟨rfl, e15, (by decide : 0 + 0 ≤ _), (by decide : 0 + 0 ≤ _)⟩)
        dsimp only [Pt.U, Pt.locs, Pt.cells, Pt.slots] at X16 l16 y16 z16 st16 hQ16
        subst l16 y16 z16
        obtain ⟨rfl, e16, hO16⟩ := hQ16
        rcases hO16 with ⟨hr16_0_0, hr16_0_1, rfl⟩ | ⟨hr16_1_0, hr16_1_1, rfl⟩ | ⟨hr16_2_0, hr16_2_1, rfl⟩ | ⟨hr16_3_0, hr16_3_1, rfl⟩
        · refine own_tr st16 ?_
          show own_Go p e below s _ _ _ (T16.setTop (mkF m 160 #[.val (.int p0), .val (.int p1), .val (.long p2), .second, .val (.long (p2 &&& (9223372036854775807 : Int64))), .second, .val (.int (1 : Int32)), .val (.int (1 : Int32)), .val (.ref w1), .val (.int (1 : Int32))] [(.int (1 : Int32))]))
          refine own_via (fun _ k => XS.iload X16.here hx rfl (hb hby at_160) rfl k) ?_
          show own_Go p e below s _ _ _ (T16.setTop (mkF m 162 #[.val (.int p0), .val (.int p1), .val (.long p2), .second, .val (.long (p2 &&& (9223372036854775807 : Int64))), .second, .val (.int (1 : Int32)), .val (.int (1 : Int32)), .val (.ref w1), .val (.int (1 : Int32))] [(.int (1 : Int32)), (.int (1 : Int32))]))
          refine own_via (fun _ k => XS.icmpNo X16.here hx rfl (hb hby at_162) rfl (teq (by decide : (1 : Int32) = (1 : Int32))).2 k) ?_
          show own_Go p e below s _ _ _ (T16.setTop (mkF m 165 #[.val (.int p0), .val (.int p1), .val (.long p2), .second, .val (.long (p2 &&& (9223372036854775807 : Int64))), .second, .val (.int (1 : Int32)), .val (.int (1 : Int32)), .val (.ref w1), .val (.int (1 : Int32))] []))
          refine own_via (fun _ k => XS.iconst X16.here hx rfl (hb hby at_165) k) ?_
          show own_Go p e below s _ _ _ (T16.setTop (mkF m 166 #[.val (.int p0), .val (.int p1), .val (.long p2), .second, .val (.long (p2 &&& (9223372036854775807 : Int64))), .second, .val (.int (1 : Int32)), .val (.int (1 : Int32)), .val (.ref w1), .val (.int (1 : Int32))] [(.int (1 : Int32))]))
          refine own_via (fun _ k => XS.goto X16.here hx rfl (pc0 := 166) (pc' := 170) rfl (hb hby at_166) (by decide) (by decide) k) ?_
          show own_Go p e below s _ _ _ (T16.setTop (mkF m 170 #[.val (.int p0), .val (.int p1), .val (.long p2), .second, .val (.long (p2 &&& (9223372036854775807 : Int64))), .second, .val (.int (1 : Int32)), .val (.int (1 : Int32)), .val (.ref w1), .val (.int (1 : Int32))] [(.int (1 : Int32))]))
          exact own_retZ X16 hx hlk (t := .boolean) Bd.returns (by simp) (hb hby at_170) (z' := (1 : Int32)) (by first | rfl | decide) ⟨rfl, (Fr.nil n0)⟩ (by decide) (by decide)
        · refine own_tr st16 ?_
          show own_Go p e below s _ _ _ (T16.setTop (mkF m 160 #[.val (.int p0), .val (.int p1), .val (.long p2), .second, .val (.long (p2 &&& (9223372036854775807 : Int64))), .second, .val (.int (1 : Int32)), .val (.int (1 : Int32)), .val (.ref w1), .val (.int (1 : Int32))] [(.int (0 : Int32))]))
          refine own_via (fun _ k => XS.iload X16.here hx rfl (hb hby at_160) rfl k) ?_
          show own_Go p e below s _ _ _ (T16.setTop (mkF m 162 #[.val (.int p0), .val (.int p1), .val (.long p2), .second, .val (.long (p2 &&& (9223372036854775807 : Int64))), .second, .val (.int (1 : Int32)), .val (.int (1 : Int32)), .val (.ref w1), .val (.int (1 : Int32))] [(.int (1 : Int32)), (.int (0 : Int32))]))
          refine own_via (fun _ k => XS.icmpYes X16.here hx rfl (pc0 := 162) (pc' := 169) rfl (hb hby at_162) rfl (feq (by decide : ¬ ((0 : Int32) = (1 : Int32)))).2 (by decide) (by decide) k) ?_
          show own_Go p e below s _ _ _ (T16.setTop (mkF m 169 #[.val (.int p0), .val (.int p1), .val (.long p2), .second, .val (.long (p2 &&& (9223372036854775807 : Int64))), .second, .val (.int (1 : Int32)), .val (.int (1 : Int32)), .val (.ref w1), .val (.int (1 : Int32))] []))
          refine own_via (fun _ k => XS.iconst X16.here hx rfl (hb hby at_169) k) ?_
          show own_Go p e below s _ _ _ (T16.setTop (mkF m 170 #[.val (.int p0), .val (.int p1), .val (.long p2), .second, .val (.long (p2 &&& (9223372036854775807 : Int64))), .second, .val (.int (1 : Int32)), .val (.int (1 : Int32)), .val (.ref w1), .val (.int (1 : Int32))] [(.int (0 : Int32))]))
          exact absurd (own_rem1 _) hr16_1_1
        · exact absurd hc14 hr16_2_0
        · exact absurd hc14 hr16_3_0
      · refine own_via (fun _ k => XS.ifYes X0.here hx rfl (pc0 := 39) (pc' := 46) rfl (hb hby at_39) rfl ((if0 _ _).trans (flt (mt (lw_lt (p2 &&& (9223372036854775807 : Int64)) (300 : Int64)).mp hc14)).2.1) (by decide) (by decide) k) ?_
        show own_Go p e below s _ _ _ (s₁.setTop (mkF m 46 #[.val (.int p0), .val (.int p1), .val (.long p2), .second, .val (.long (p2 &&& (9223372036854775807 : Int64))), .second, .val (.int (1 : Int32)), .unset, .unset, .unset] []))
        refine own_via (fun _ k => XS.iconst X0.here hx rfl (hb hby at_46) k) ?_
        show own_Go p e below s _ _ _ (s₁.setTop (mkF m 47 #[.val (.int p0), .val (.int p1), .val (.long p2), .second, .val (.long (p2 &&& (9223372036854775807 : Int64))), .second, .val (.int (1 : Int32)), .unset, .unset, .unset] [(.int (0 : Int32))]))
        refine own_via (fun _ k => XS.istore X0.here hx rfl (hb hby at_47) rfl (l' := #[.val (.int p0), .val (.int p1), .val (.long p2), .second, .val (.long (p2 &&& (9223372036854775807 : Int64))), .second, .val (.int (1 : Int32)), .val (.int (0 : Int32)), .unset, .unset]) rfl k) ?_
        show own_Go p e below s _ _ _ (s₁.setTop (mkF m 49 #[.val (.int p0), .val (.int p1), .val (.long p2), .second, .val (.long (p2 &&& (9223372036854775807 : Int64))), .second, .val (.int (1 : Int32)), .val (.int (0 : Int32)), .unset, .unset] []))
        refine own_via (fun _ k => XS.iload X0.here hx rfl (hb hby at_49) rfl k) ?_
        show own_Go p e below s _ _ _ (s₁.setTop (mkF m 51 #[.val (.int p0), .val (.int p1), .val (.long p2), .second, .val (.long (p2 &&& (9223372036854775807 : Int64))), .second, .val (.int (1 : Int32)), .val (.int (0 : Int32)), .unset, .unset] [(.int (1 : Int32))]))
        refine own_via (fun _ k => XS.ifYes X0.here hx rfl (pc0 := 51) (pc' := 104) rfl (hb hby at_51) rfl ((if0 _ _).trans (feq (by decide : ¬ ((1 : Int32) = (0 : Int32)))).2) (by decide) (by decide) k) ?_
        show own_Go p e below s _ _ _ (s₁.setTop (mkF m 104 #[.val (.int p0), .val (.int p1), .val (.long p2), .second, .val (.long (p2 &&& (9223372036854775807 : Int64))), .second, .val (.int (1 : Int32)), .val (.int (0 : Int32)), .unset, .unset] []))
        refine own_via (fun _ k => XS.iload X0.here hx rfl (hb hby at_104) rfl k) ?_
        show own_Go p e below s _ _ _ (s₁.setTop (mkF m 106 #[.val (.int p0), .val (.int p1), .val (.long p2), .second, .val (.long (p2 &&& (9223372036854775807 : Int64))), .second, .val (.int (1 : Int32)), .val (.int (0 : Int32)), .unset, .unset] [(.int (1 : Int32))]))
        refine own_via (fun _ k => XS.iconst X0.here hx rfl (hb hby at_106) k) ?_
        show own_Go p e below s _ _ _ (s₁.setTop (mkF m 107 #[.val (.int p0), .val (.int p1), .val (.long p2), .second, .val (.long (p2 &&& (9223372036854775807 : Int64))), .second, .val (.int (1 : Int32)), .val (.int (0 : Int32)), .unset, .unset] [(.int (1 : Int32)), (.int (1 : Int32))]))
        refine own_via (fun _ k => XS.icmpNo X0.here hx rfl (hb hby at_107) rfl (teq (by decide : (1 : Int32) = (1 : Int32))).2 k) ?_
        show own_Go p e below s _ _ _ (s₁.setTop (mkF m 110 #[.val (.int p0), .val (.int p1), .val (.long p2), .second, .val (.long (p2 &&& (9223372036854775807 : Int64))), .second, .val (.int (1 : Int32)), .val (.int (0 : Int32)), .unset, .unset] []))
        obtain ⟨T17, X17, e17, st17⟩ := getS2 X0 hx hZ hown (host := "") (Or.inl (hw _ (List.mem_of_getElem? (i := 19) rfl))) Via.refl e0 S_w1 (g := (mkF m 110 #[.val (.int p0), .val (.int p1), .val (.long p2), .second, .val (.long (p2 &&& (9223372036854775807 : Int64))), .second, .val (.int (1 : Int32)), .val (.int (0 : Int32)), .unset, .unset] [])) rfl (hb hby at_110)
        refine own_via st17 ?_
        show own_Go p e below s _ _ _ (T17.setTop (mkF m 113 #[.val (.int p0), .val (.int p1), .val (.long p2), .second, .val (.long (p2 &&& (9223372036854775807 : Int64))), .second, .val (.int (1 : Int32)), .val (.int (0 : Int32)), .unset, .unset] [(.ref w1)]))
        refine own_via (fun _ k => XS.astore X17.here hx rfl (hb hby at_113) rfl rfl (l' := #[.val (.int p0), .val (.int p1), .val (.long p2), .second, .val (.long (p2 &&& (9223372036854775807 : Int64))), .second, .val (.int (1 : Int32)), .val (.int (0 : Int32)), .val (.ref w1), .unset]) rfl k) ?_
        show own_Go p e below s _ _ _ (T17.setTop (mkF m 115 #[.val (.int p0), .val (.int p1), .val (.long p2), .second, .val (.long (p2 &&& (9223372036854775807 : Int64))), .second, .val (.int (1 : Int32)), .val (.int (0 : Int32)), .val (.ref w1), .unset] []))
        refine own_via (fun _ k => XS.iload X17.here hx rfl (hb hby at_115) rfl k) ?_
        show own_Go p e below s _ _ _ (T17.setTop (mkF m 117 #[.val (.int p0), .val (.int p1), .val (.long p2), .second, .val (.long (p2 &&& (9223372036854775807 : Int64))), .second, .val (.int (1 : Int32)), .val (.int (0 : Int32)), .val (.ref w1), .unset] [(.int (0 : Int32))]))
        refine own_via (fun _ k => XS.ifYes X17.here hx rfl (pc0 := 117) (pc' := 124) rfl (hb hby at_117) rfl ((if0 _ _).trans (teq (by decide : (0 : Int32) = (0 : Int32))).1) (by decide) (by decide) k) ?_
        show own_Go p e below s _ _ _ (T17.setTop (mkF m 124 #[.val (.int p0), .val (.int p1), .val (.long p2), .second, .val (.long (p2 &&& (9223372036854775807 : Int64))), .second, .val (.int (1 : Int32)), .val (.int (0 : Int32)), .val (.ref w1), .unset] []))
        refine own_via (fun _ k => XS.lload X17.here hx rfl (hb hby at_124) rfl k) ?_
        show own_Go p e below s _ _ _ (T17.setTop (mkF m 126 #[.val (.int p0), .val (.int p1), .val (.long p2), .second, .val (.long (p2 &&& (9223372036854775807 : Int64))), .second, .val (.int (1 : Int32)), .val (.int (0 : Int32)), .val (.ref w1), .unset] [(.long (p2 &&& (9223372036854775807 : Int64)))]))
        refine own_via (fun _ k => X17.ldc2Long hx hown (mvT hZ (hw _ (List.mem_of_getElem? (i := 7) rfl))) (g := (mkF m 126 #[.val (.int p0), .val (.int p1), .val (.long p2), .second, .val (.long (p2 &&& (9223372036854775807 : Int64))), .second, .val (.int (1 : Int32)), .val (.int (0 : Int32)), .val (.ref w1), .unset] [(.long (p2 &&& (9223372036854775807 : Int64)))])) rfl (hb hby at_126) _ k) ?_
        show own_Go p e below s _ _ _ (T17.setTop (mkF m 129 #[.val (.int p0), .val (.int p1), .val (.long p2), .second, .val (.long (p2 &&& (9223372036854775807 : Int64))), .second, .val (.int (1 : Int32)), .val (.int (0 : Int32)), .val (.ref w1), .unset] [(.long (5 : Int64)), (.long (p2 &&& (9223372036854775807 : Int64)))]))
        refine own_via (fun _ k => XS.lrem X17.here hx rfl (hb hby at_129) rfl (by decide : ¬ ((5 : Int64) = (0 : Int64))) k) ?_
        show own_Go p e below s _ _ _ (T17.setTop (mkF m 130 #[.val (.int p0), .val (.int p1), .val (.long p2), .second, .val (.long (p2 &&& (9223372036854775807 : Int64))), .second, .val (.int (1 : Int32)), .val (.int (0 : Int32)), .val (.ref w1), .unset] [(.long ((p2 &&& (9223372036854775807 : Int64)) - ((p2 &&& (9223372036854775807 : Int64)) / (5 : Int64)) * (5 : Int64)))]))
        refine own_via (fun _ k => XS.lconst X17.here hx rfl (hb hby at_130) k) ?_
        show own_Go p e below s _ _ _ (T17.setTop (mkF m 131 #[.val (.int p0), .val (.int p1), .val (.long p2), .second, .val (.long (p2 &&& (9223372036854775807 : Int64))), .second, .val (.int (1 : Int32)), .val (.int (0 : Int32)), .val (.ref w1), .unset] [(.long (0 : Int64)), (.long ((p2 &&& (9223372036854775807 : Int64)) - ((p2 &&& (9223372036854775807 : Int64)) / (5 : Int64)) * (5 : Int64)))]))
        refine own_via (fun _ k => XS.lcmp X17.here hx rfl (hb hby at_131) rfl k) ?_
        show own_Go p e below s _ _ _ (T17.setTop (mkF m 132 #[.val (.int p0), .val (.int p1), .val (.long p2), .second, .val (.long (p2 &&& (9223372036854775807 : Int64))), .second, .val (.int (1 : Int32)), .val (.int (0 : Int32)), .val (.ref w1), .unset] [(.int (lcmpW ((p2 &&& (9223372036854775807 : Int64)) - ((p2 &&& (9223372036854775807 : Int64)) / (5 : Int64)) * (5 : Int64)) (0 : Int64)))]))
        by_cases hc18 : ((p2 &&& (9223372036854775807 : Int64)) - ((p2 &&& (9223372036854775807 : Int64)) / (5 : Int64)) * (5 : Int64)) = (0 : Int64)
        · refine own_via (fun _ k => XS.ifNo X17.here hx rfl (hb hby at_132) rfl ((if0 _ _).trans (teq ((lw_eq ((p2 &&& (9223372036854775807 : Int64)) - ((p2 &&& (9223372036854775807 : Int64)) / (5 : Int64)) * (5 : Int64)) (0 : Int64)).mpr hc18)).2) k) ?_
          show own_Go p e below s _ _ _ (T17.setTop (mkF m 135 #[.val (.int p0), .val (.int p1), .val (.long p2), .second, .val (.long (p2 &&& (9223372036854775807 : Int64))), .second, .val (.int (1 : Int32)), .val (.int (0 : Int32)), .val (.ref w1), .unset] []))
          refine own_via (fun _ k => XS.iconst X17.here hx rfl (hb hby at_135) k) ?_
          show own_Go p e below s _ _ _ (T17.setTop (mkF m 136 #[.val (.int p0), .val (.int p1), .val (.long p2), .second, .val (.long (p2 &&& (9223372036854775807 : Int64))), .second, .val (.int (1 : Int32)), .val (.int (0 : Int32)), .val (.ref w1), .unset] [(.int (1 : Int32))]))
          refine own_via (fun _ k => XS.goto X17.here hx rfl (pc0 := 136) (pc' := 140) rfl (hb hby at_136) (by decide) (by decide) k) ?_
          show own_Go p e below s _ _ _ (T17.setTop (mkF m 140 #[.val (.int p0), .val (.int p1), .val (.long p2), .second, .val (.long (p2 &&& (9223372036854775807 : Int64))), .second, .val (.int (1 : Int32)), .val (.int (0 : Int32)), .val (.ref w1), .unset] [(.int (1 : Int32))]))
          refine own_via (fun _ k => XS.istore X17.here hx rfl (hb hby at_140) rfl (l' := #[.val (.int p0), .val (.int p1), .val (.long p2), .second, .val (.long (p2 &&& (9223372036854775807 : Int64))), .second, .val (.int (1 : Int32)), .val (.int (0 : Int32)), .val (.ref w1), .val (.int (1 : Int32))]) rfl k) ?_
          show own_Go p e below s _ _ _ (T17.setTop (mkF m 142 #[.val (.int p0), .val (.int p1), .val (.long p2), .second, .val (.long (p2 &&& (9223372036854775807 : Int64))), .second, .val (.int (1 : Int32)), .val (.int (0 : Int32)), .val (.ref w1), .val (.int (1 : Int32))] []))
          refine own_via (fun _ k => XS.goto X17.here hx rfl (pc0 := 142) (pc' := 153) rfl (hb hby at_142) (by decide) (by decide) k) ?_
          show own_Go p e below s _ _ _ (T17.setTop (mkF m 153 #[.val (.int p0), .val (.int p1), .val (.long p2), .second, .val (.long (p2 &&& (9223372036854775807 : Int64))), .second, .val (.int (1 : Int32)), .val (.int (0 : Int32)), .val (.ref w1), .val (.int (1 : Int32))] []))
          refine own_via (fun _ k => XS.aload X17.here hx rfl (hb hby at_153) rfl rfl k) ?_
          show own_Go p e below s _ _ _ (T17.setTop (mkF m 155 #[.val (.int p0), .val (.int p1), .val (.long p2), .second, .val (.long (p2 &&& (9223372036854775807 : Int64))), .second, .val (.int (1 : Int32)), .val (.int (0 : Int32)), .val (.ref w1), .val (.int (1 : Int32))] [(.ref w1)]))
          refine own_via (fun _ k => XS.lload X17.here hx rfl (hb hby at_155) rfl k) ?_
          show own_Go p e below s _ _ _ (T17.setTop (mkF m 157 #[.val (.int p0), .val (.int p1), .val (.long p2), .second, .val (.long (p2 &&& (9223372036854775807 : Int64))), .second, .val (.int (1 : Int32)), .val (.int (0 : Int32)), .val (.ref w1), .val (.int (1 : Int32))] [(.long (p2 &&& (9223372036854775807 : Int64))), (.ref w1)]))
          obtain ⟨cq19, kq19, q19a, q19b, q19c⟩ := isOf hZ e17 E_w1
          obtain ⟨_, _, ⟨T19, L19, k19, n19⟩, -, X19, ⟨Lc19, hQ19, l19, y19, z19⟩, st19⟩ := X17.virtualBack hx (y := (⟨"com/example/strikeline/strikeline/PennyProgram", "isOnGrid", "(J)Z"⟩ : MethodName)) (z := (⟨"com/example/strikeline/strikeline/PennyProgram", "isOnGrid", "(J)Z"⟩ : MethodName)) hown (mvT hZ (hw _ (List.mem_of_getElem? (i := 8) rfl))) (mvT hZ (hw _ (List.mem_of_getElem? (i := 9) rfl))) (notFace_of_selects (args := #[]) (mvT hZ (hw _ (List.mem_of_getElem? (i := 11) rfl)))) (mvT hZ (hw _ (List.mem_of_getElem? (i := 11) rfl))) (mvT hZ (hw _ (List.mem_of_getElem? (i := 10) rfl))) (by decide) (backOf (W := 0) (rm1_1 l Z a0 hw [] (p2 &&& (9223372036854775807 : Int64)) w0 w1 w2 h0 n0 Z0 K0) hZ (hw _ (List.mem_of_getElem? (i := 12) rfl)) (hw _ (List.mem_of_getElem? (i := 5) rfl)) (by decide) (by decide)) q19a q19c (g := (mkF m 157 #[.val (.int p0), .val (.int p1), .val (.long p2), .second, .val (.long (p2 &&& (9223372036854775807 : Int64))), .second, .val (.int (1 : Int32)), .val (.int (0 : Int32)), .val (.ref w1), .val (.int (1 : Int32))] [(.long (p2 &&& (9223372036854775807 : Int64))), (.ref w1)])) rfl (by rw [hml]; rfl) (Steps.refl _) (argsL := [(.long (p2 &&& (9223372036854775807 : Int64)))]) (rest := []) (lenOf pd0 rfl) rfl (by show 2 * 0 + _ ≤ _; exact Nat.le_of_eq rfl) (hb hby at_157) (fun _ _ => ⟨rfl, e17, (by decide : 0 + 0 ≤ _), (by decide : 0 + 0 ≤ _)⟩)
          dsimp only [Pt.U, Pt.locs, Pt.cells, Pt.slots] at X19 l19 y19 z19 st19 hQ19
          subst l19 y19 z19
          obtain ⟨rfl, e19, hO19⟩ := hQ19
          rcases hO19 with ⟨hr19_0_0, hr19_0_1, rfl⟩ | ⟨hr19_1_0, hr19_1_1, rfl⟩ | ⟨hr19_2_0, hr19_2_1, rfl⟩ | ⟨hr19_3_0, hr19_3_1, rfl⟩
          · exact absurd hr19_0_0 hc14
          · exact absurd hr19_1_0 hc14
          · refine own_tr st19 ?_
            show own_Go p e below s _ _ _ (T19.setTop (mkF m 160 #[.val (.int p0), .val (.int p1), .val (.long p2), .second, .val (.long (p2 &&& (9223372036854775807 : Int64))), .second, .val (.int (1 : Int32)), .val (.int (0 : Int32)), .val (.ref w1), .val (.int (1 : Int32))] [(.int (1 : Int32))]))
            refine own_via (fun _ k => XS.iload X19.here hx rfl (hb hby at_160) rfl k) ?_
            show own_Go p e below s _ _ _ (T19.setTop (mkF m 162 #[.val (.int p0), .val (.int p1), .val (.long p2), .second, .val (.long (p2 &&& (9223372036854775807 : Int64))), .second, .val (.int (1 : Int32)), .val (.int (0 : Int32)), .val (.ref w1), .val (.int (1 : Int32))] [(.int (1 : Int32)), (.int (1 : Int32))]))
            refine own_via (fun _ k => XS.icmpNo X19.here hx rfl (hb hby at_162) rfl (teq (by decide : (1 : Int32) = (1 : Int32))).2 k) ?_
            show own_Go p e below s _ _ _ (T19.setTop (mkF m 165 #[.val (.int p0), .val (.int p1), .val (.long p2), .second, .val (.long (p2 &&& (9223372036854775807 : Int64))), .second, .val (.int (1 : Int32)), .val (.int (0 : Int32)), .val (.ref w1), .val (.int (1 : Int32))] []))
            refine own_via (fun _ k => XS.iconst X19.here hx rfl (hb hby at_165) k) ?_
            show own_Go p e below s _ _ _ (T19.setTop (mkF m 166 #[.val (.int p0), .val (.int p1), .val (.long p2), .second, .val (.long (p2 &&& (9223372036854775807 : Int64))), .second, .val (.int (1 : Int32)), .val (.int (0 : Int32)), .val (.ref w1), .val (.int (1 : Int32))] [(.int (1 : Int32))]))
            refine own_via (fun _ k => XS.goto X19.here hx rfl (pc0 := 166) (pc' := 170) rfl (hb hby at_166) (by decide) (by decide) k) ?_
            show own_Go p e below s _ _ _ (T19.setTop (mkF m 170 #[.val (.int p0), .val (.int p1), .val (.long p2), .second, .val (.long (p2 &&& (9223372036854775807 : Int64))), .second, .val (.int (1 : Int32)), .val (.int (0 : Int32)), .val (.ref w1), .val (.int (1 : Int32))] [(.int (1 : Int32))]))
            exact own_retZ X19 hx hlk (t := .boolean) Bd.returns (by simp) (hb hby at_170) (z' := (1 : Int32)) (by first | rfl | decide) ⟨rfl, (Fr.nil n0)⟩ (by decide) (by decide)
          · exact absurd hc18 hr19_3_1
        · refine own_via (fun _ k => XS.ifYes X17.here hx rfl (pc0 := 132) (pc' := 139) rfl (hb hby at_132) rfl ((if0 _ _).trans (feq (mt (lw_eq ((p2 &&& (9223372036854775807 : Int64)) - ((p2 &&& (9223372036854775807 : Int64)) / (5 : Int64)) * (5 : Int64)) (0 : Int64)).mp hc18)).2) (by decide) (by decide) k) ?_
          show own_Go p e below s _ _ _ (T17.setTop (mkF m 139 #[.val (.int p0), .val (.int p1), .val (.long p2), .second, .val (.long (p2 &&& (9223372036854775807 : Int64))), .second, .val (.int (1 : Int32)), .val (.int (0 : Int32)), .val (.ref w1), .unset] []))
          refine own_via (fun _ k => XS.iconst X17.here hx rfl (hb hby at_139) k) ?_
          show own_Go p e below s _ _ _ (T17.setTop (mkF m 140 #[.val (.int p0), .val (.int p1), .val (.long p2), .second, .val (.long (p2 &&& (9223372036854775807 : Int64))), .second, .val (.int (1 : Int32)), .val (.int (0 : Int32)), .val (.ref w1), .unset] [(.int (0 : Int32))]))
          refine own_via (fun _ k => XS.istore X17.here hx rfl (hb hby at_140) rfl (l' := #[.val (.int p0), .val (.int p1), .val (.long p2), .second, .val (.long (p2 &&& (9223372036854775807 : Int64))), .second, .val (.int (1 : Int32)), .val (.int (0 : Int32)), .val (.ref w1), .val (.int (0 : Int32))]) rfl k) ?_
          show own_Go p e below s _ _ _ (T17.setTop (mkF m 142 #[.val (.int p0), .val (.int p1), .val (.long p2), .second, .val (.long (p2 &&& (9223372036854775807 : Int64))), .second, .val (.int (1 : Int32)), .val (.int (0 : Int32)), .val (.ref w1), .val (.int (0 : Int32))] []))
          refine own_via (fun _ k => XS.goto X17.here hx rfl (pc0 := 142) (pc' := 153) rfl (hb hby at_142) (by decide) (by decide) k) ?_
          show own_Go p e below s _ _ _ (T17.setTop (mkF m 153 #[.val (.int p0), .val (.int p1), .val (.long p2), .second, .val (.long (p2 &&& (9223372036854775807 : Int64))), .second, .val (.int (1 : Int32)), .val (.int (0 : Int32)), .val (.ref w1), .val (.int (0 : Int32))] []))
          refine own_via (fun _ k => XS.aload X17.here hx rfl (hb hby at_153) rfl rfl k) ?_
          show own_Go p e below s _ _ _ (T17.setTop (mkF m 155 #[.val (.int p0), .val (.int p1), .val (.long p2), .second, .val (.long (p2 &&& (9223372036854775807 : Int64))), .second, .val (.int (1 : Int32)), .val (.int (0 : Int32)), .val (.ref w1), .val (.int (0 : Int32))] [(.ref w1)]))
          refine own_via (fun _ k => XS.lload X17.here hx rfl (hb hby at_155) rfl k) ?_
          show own_Go p e below s _ _ _ (T17.setTop (mkF m 157 #[.val (.int p0), .val (.int p1), .val (.long p2), .second, .val (.long (p2 &&& (9223372036854775807 : Int64))), .second, .val (.int (1 : Int32)), .val (.int (0 : Int32)), .val (.ref w1), .val (.int (0 : Int32))] [(.long (p2 &&& (9223372036854775807 : Int64))), (.ref w1)]))
          obtain ⟨cq20, kq20, q20a, q20b, q20c⟩ := isOf hZ e17 E_w1
          obtain ⟨_, _, ⟨T20, L20, k20, n20⟩, -, X20, ⟨Lc20, hQ20, l20, y20, z20⟩, st20⟩ := X17.virtualBack hx (y := (⟨"com/example/strikeline/strikeline/PennyProgram", "isOnGrid", "(J)Z"⟩ : MethodName)) (z := (⟨"com/example/strikeline/strikeline/PennyProgram", "isOnGrid", "(J)Z"⟩ : MethodName)) hown (mvT hZ (hw _ (List.mem_of_getElem? (i := 8) rfl))) (mvT hZ (hw _ (List.mem_of_getElem? (i := 9) rfl))) (notFace_of_selects (args := #[]) (mvT hZ (hw _ (List.mem_of_getElem? (i := 11) rfl)))) (mvT hZ (hw _ (List.mem_of_getElem? (i := 11) rfl))) (mvT hZ (hw _ (List.mem_of_getElem? (i := 10) rfl))) (by decide) (backOf (W := 0) (rm1_1 l Z a0 hw [] (p2 &&& (9223372036854775807 : Int64)) w0 w1 w2 h0 n0 Z0 K0) hZ (hw _ (List.mem_of_getElem? (i := 12) rfl)) (hw _ (List.mem_of_getElem? (i := 5) rfl)) (by decide) (by decide)) q20a q20c (g := (mkF m 157 #[.val (.int p0), .val (.int p1), .val (.long p2), .second, .val (.long (p2 &&& (9223372036854775807 : Int64))), .second, .val (.int (1 : Int32)), .val (.int (0 : Int32)), .val (.ref w1), .val (.int (0 : Int32))] [(.long (p2 &&& (9223372036854775807 : Int64))), (.ref w1)])) rfl (by rw [hml]; rfl) (Steps.refl _) (argsL := [(.long (p2 &&& (9223372036854775807 : Int64)))]) (rest := []) (lenOf pd0 rfl) rfl (by show 2 * 0 + _ ≤ _; exact Nat.le_of_eq rfl) (hb hby at_157) (fun _ _ => ⟨rfl, e17, (by decide : 0 + 0 ≤ _), (by decide : 0 + 0 ≤ _)⟩)
          dsimp only [Pt.U, Pt.locs, Pt.cells, Pt.slots] at X20 l20 y20 z20 st20 hQ20
          subst l20 y20 z20
          obtain ⟨rfl, e20, hO20⟩ := hQ20
          rcases hO20 with ⟨hr20_0_0, hr20_0_1, rfl⟩ | ⟨hr20_1_0, hr20_1_1, rfl⟩ | ⟨hr20_2_0, hr20_2_1, rfl⟩ | ⟨hr20_3_0, hr20_3_1, rfl⟩
          · exact absurd hr20_0_0 hc14
          · exact absurd hr20_1_0 hc14
          · exact absurd hr20_2_1 hc18
          · refine own_tr st20 ?_
            show own_Go p e below s _ _ _ (T20.setTop (mkF m 160 #[.val (.int p0), .val (.int p1), .val (.long p2), .second, .val (.long (p2 &&& (9223372036854775807 : Int64))), .second, .val (.int (1 : Int32)), .val (.int (0 : Int32)), .val (.ref w1), .val (.int (0 : Int32))] [(.int (0 : Int32))]))
            refine own_via (fun _ k => XS.iload X20.here hx rfl (hb hby at_160) rfl k) ?_
            show own_Go p e below s _ _ _ (T20.setTop (mkF m 162 #[.val (.int p0), .val (.int p1), .val (.long p2), .second, .val (.long (p2 &&& (9223372036854775807 : Int64))), .second, .val (.int (1 : Int32)), .val (.int (0 : Int32)), .val (.ref w1), .val (.int (0 : Int32))] [(.int (0 : Int32)), (.int (0 : Int32))]))
            refine own_via (fun _ k => XS.icmpNo X20.here hx rfl (hb hby at_162) rfl (teq (by decide : (0 : Int32) = (0 : Int32))).2 k) ?_
            show own_Go p e below s _ _ _ (T20.setTop (mkF m 165 #[.val (.int p0), .val (.int p1), .val (.long p2), .second, .val (.long (p2 &&& (9223372036854775807 : Int64))), .second, .val (.int (1 : Int32)), .val (.int (0 : Int32)), .val (.ref w1), .val (.int (0 : Int32))] []))
            refine own_via (fun _ k => XS.iconst X20.here hx rfl (hb hby at_165) k) ?_
            show own_Go p e below s _ _ _ (T20.setTop (mkF m 166 #[.val (.int p0), .val (.int p1), .val (.long p2), .second, .val (.long (p2 &&& (9223372036854775807 : Int64))), .second, .val (.int (1 : Int32)), .val (.int (0 : Int32)), .val (.ref w1), .val (.int (0 : Int32))] [(.int (1 : Int32))]))
            refine own_via (fun _ k => XS.goto X20.here hx rfl (pc0 := 166) (pc' := 170) rfl (hb hby at_166) (by decide) (by decide) k) ?_
            show own_Go p e below s _ _ _ (T20.setTop (mkF m 170 #[.val (.int p0), .val (.int p1), .val (.long p2), .second, .val (.long (p2 &&& (9223372036854775807 : Int64))), .second, .val (.int (1 : Int32)), .val (.int (0 : Int32)), .val (.ref w1), .val (.int (0 : Int32))] [(.int (1 : Int32))]))
            exact own_retZ X20 hx hlk (t := .boolean) Bd.returns (by simp) (hb hby at_170) (z' := (1 : Int32)) (by first | rfl | decide) ⟨rfl, (Fr.nil n0)⟩ (by decide) (by decide)
    · rw [hk4]
      show own_Go p e below s _ _ _ (s₁.setTop (mkF m 31 #[.val (.int p0), .val (.int p1), .val (.long p2), .second, .val (.long (p2 &&& (9223372036854775807 : Int64))), .second, .unset, .unset, .unset, .unset] [(.int (2 : Int32))]))
      refine own_via (fun _ k => XS.istore X0.here hx rfl (hb hby at_31) rfl (l' := #[.val (.int p0), .val (.int p1), .val (.long p2), .second, .val (.long (p2 &&& (9223372036854775807 : Int64))), .second, .val (.int (2 : Int32)), .unset, .unset, .unset]) rfl k) ?_
      show own_Go p e below s _ _ _ (s₁.setTop (mkF m 33 #[.val (.int p0), .val (.int p1), .val (.long p2), .second, .val (.long (p2 &&& (9223372036854775807 : Int64))), .second, .val (.int (2 : Int32)), .unset, .unset, .unset] []))
      refine own_via (fun _ k => XS.lload X0.here hx rfl (hb hby at_33) rfl k) ?_
      show own_Go p e below s _ _ _ (s₁.setTop (mkF m 35 #[.val (.int p0), .val (.int p1), .val (.long p2), .second, .val (.long (p2 &&& (9223372036854775807 : Int64))), .second, .val (.int (2 : Int32)), .unset, .unset, .unset] [(.long (p2 &&& (9223372036854775807 : Int64)))]))
      refine own_via (fun _ k => X0.ldc2Long hx hown (mvT hZ (hw _ (List.mem_of_getElem? (i := 3) rfl))) (g := (mkF m 35 #[.val (.int p0), .val (.int p1), .val (.long p2), .second, .val (.long (p2 &&& (9223372036854775807 : Int64))), .second, .val (.int (2 : Int32)), .unset, .unset, .unset] [(.long (p2 &&& (9223372036854775807 : Int64)))])) rfl (hb hby at_35) _ k) ?_
      show own_Go p e below s _ _ _ (s₁.setTop (mkF m 38 #[.val (.int p0), .val (.int p1), .val (.long p2), .second, .val (.long (p2 &&& (9223372036854775807 : Int64))), .second, .val (.int (2 : Int32)), .unset, .unset, .unset] [(.long (300 : Int64)), (.long (p2 &&& (9223372036854775807 : Int64)))]))
      refine own_via (fun _ k => XS.lcmp X0.here hx rfl (hb hby at_38) rfl k) ?_
      show own_Go p e below s _ _ _ (s₁.setTop (mkF m 39 #[.val (.int p0), .val (.int p1), .val (.long p2), .second, .val (.long (p2 &&& (9223372036854775807 : Int64))), .second, .val (.int (2 : Int32)), .unset, .unset, .unset] [(.int (lcmpW (p2 &&& (9223372036854775807 : Int64)) (300 : Int64)))]))
      by_cases hc21 : (p2 &&& (9223372036854775807 : Int64)) < (300 : Int64)
      · refine own_via (fun _ k => XS.ifNo X0.here hx rfl (hb hby at_39) rfl ((if0 _ _).trans (tlt ((lw_lt (p2 &&& (9223372036854775807 : Int64)) (300 : Int64)).mpr hc21)).2.1) k) ?_
        show own_Go p e below s _ _ _ (s₁.setTop (mkF m 42 #[.val (.int p0), .val (.int p1), .val (.long p2), .second, .val (.long (p2 &&& (9223372036854775807 : Int64))), .second, .val (.int (2 : Int32)), .unset, .unset, .unset] []))
        refine own_via (fun _ k => XS.iconst X0.here hx rfl (hb hby at_42) k) ?_
        show own_Go p e below s _ _ _ (s₁.setTop (mkF m 43 #[.val (.int p0), .val (.int p1), .val (.long p2), .second, .val (.long (p2 &&& (9223372036854775807 : Int64))), .second, .val (.int (2 : Int32)), .unset, .unset, .unset] [(.int (1 : Int32))]))
        refine own_via (fun _ k => XS.goto X0.here hx rfl (pc0 := 43) (pc' := 47) rfl (hb hby at_43) (by decide) (by decide) k) ?_
        show own_Go p e below s _ _ _ (s₁.setTop (mkF m 47 #[.val (.int p0), .val (.int p1), .val (.long p2), .second, .val (.long (p2 &&& (9223372036854775807 : Int64))), .second, .val (.int (2 : Int32)), .unset, .unset, .unset] [(.int (1 : Int32))]))
        refine own_via (fun _ k => XS.istore X0.here hx rfl (hb hby at_47) rfl (l' := #[.val (.int p0), .val (.int p1), .val (.long p2), .second, .val (.long (p2 &&& (9223372036854775807 : Int64))), .second, .val (.int (2 : Int32)), .val (.int (1 : Int32)), .unset, .unset]) rfl k) ?_
        show own_Go p e below s _ _ _ (s₁.setTop (mkF m 49 #[.val (.int p0), .val (.int p1), .val (.long p2), .second, .val (.long (p2 &&& (9223372036854775807 : Int64))), .second, .val (.int (2 : Int32)), .val (.int (1 : Int32)), .unset, .unset] []))
        refine own_via (fun _ k => XS.iload X0.here hx rfl (hb hby at_49) rfl k) ?_
        show own_Go p e below s _ _ _ (s₁.setTop (mkF m 51 #[.val (.int p0), .val (.int p1), .val (.long p2), .second, .val (.long (p2 &&& (9223372036854775807 : Int64))), .second, .val (.int (2 : Int32)), .val (.int (1 : Int32)), .unset, .unset] [(.int (2 : Int32))]))
        refine own_via (fun _ k => XS.ifYes X0.here hx rfl (pc0 := 51) (pc' := 104) rfl (hb hby at_51) rfl ((if0 _ _).trans (feq (by decide : ¬ ((2 : Int32) = (0 : Int32)))).2) (by decide) (by decide) k) ?_
        show own_Go p e below s _ _ _ (s₁.setTop (mkF m 104 #[.val (.int p0), .val (.int p1), .val (.long p2), .second, .val (.long (p2 &&& (9223372036854775807 : Int64))), .second, .val (.int (2 : Int32)), .val (.int (1 : Int32)), .unset, .unset] []))
        refine own_via (fun _ k => XS.iload X0.here hx rfl (hb hby at_104) rfl k) ?_
        show own_Go p e below s _ _ _ (s₁.setTop (mkF m 106 #[.val (.int p0), .val (.int p1), .val (.long p2), .second, .val (.long (p2 &&& (9223372036854775807 : Int64))), .second, .val (.int (2 : Int32)), .val (.int (1 : Int32)), .unset, .unset] [(.int (2 : Int32))]))
        refine own_via (fun _ k => XS.iconst X0.here hx rfl (hb hby at_106) k) ?_
        show own_Go p e below s _ _ _ (s₁.setTop (mkF m 107 #[.val (.int p0), .val (.int p1), .val (.long p2), .second, .val (.long (p2 &&& (9223372036854775807 : Int64))), .second, .val (.int (2 : Int32)), .val (.int (1 : Int32)), .unset, .unset] [(.int (1 : Int32)), (.int (2 : Int32))]))
        refine own_via (fun _ k => XS.icmpYes X0.here hx rfl (pc0 := 107) (pc' := 145) rfl (hb hby at_107) rfl (feq (by decide : ¬ ((2 : Int32) = (1 : Int32)))).2 (by decide) (by decide) k) ?_
        show own_Go p e below s _ _ _ (s₁.setTop (mkF m 145 #[.val (.int p0), .val (.int p1), .val (.long p2), .second, .val (.long (p2 &&& (9223372036854775807 : Int64))), .second, .val (.int (2 : Int32)), .val (.int (1 : Int32)), .unset, .unset] []))
        obtain ⟨T22, X22, e22, st22⟩ := getS2 X0 hx hZ hown (host := "") (Or.inl (hw _ (List.mem_of_getElem? (i := 22) rfl))) Via.refl e0 S_w2 (g := (mkF m 145 #[.val (.int p0), .val (.int p1), .val (.long p2), .second, .val (.long (p2 &&& (9223372036854775807 : Int64))), .second, .val (.int (2 : Int32)), .val (.int (1 : Int32)), .unset, .unset] [])) rfl (hb hby at_145)
        refine own_via st22 ?_
        show own_Go p e below s _ _ _ (T22.setTop (mkF m 148 #[.val (.int p0), .val (.int p1), .val (.long p2), .second, .val (.long (p2 &&& (9223372036854775807 : Int64))), .second, .val (.int (2 : Int32)), .val (.int (1 : Int32)), .unset, .unset] [(.ref w2)]))
        refine own_via (fun _ k => XS.astore X22.here hx rfl (hb hby at_148) rfl rfl (l' := #[.val (.int p0), .val (.int p1), .val (.long p2), .second, .val (.long (p2 &&& (9223372036854775807 : Int64))), .second, .val (.int (2 : Int32)), .val (.int (1 : Int32)), .val (.ref w2), .unset]) rfl k) ?_
        show own_Go p e below s _ _ _ (T22.setTop (mkF m 150 #[.val (.int p0), .val (.int p1), .val (.long p2), .second, .val (.long (p2 &&& (9223372036854775807 : Int64))), .second, .val (.int (2 : Int32)), .val (.int (1 : Int32)), .val (.ref w2), .unset] []))
        refine own_via (fun _ k => XS.iconst X22.here hx rfl (hb hby at_150) k) ?_
        show own_Go p e below s _ _ _ (T22.setTop (mkF m 151 #[.val (.int p0), .val (.int p1), .val (.long p2), .second, .val (.long (p2 &&& (9223372036854775807 : Int64))), .second, .val (.int (2 : Int32)), .val (.int (1 : Int32)), .val (.ref w2), .unset] [(.int (1 : Int32))]))
        refine own_via (fun _ k => XS.istore X22.here hx rfl (hb hby at_151) rfl (l' := #[.val (.int p0), .val (.int p1), .val (.long p2), .second, .val (.long (p2 &&& (9223372036854775807 : Int64))), .second, .val (.int (2 : Int32)), .val (.int (1 : Int32)), .val (.ref w2), .val (.int (1 : Int32))]) rfl k) ?_
        show own_Go p e below s _ _ _ (T22.setTop (mkF m 153 #[.val (.int p0), .val (.int p1), .val (.long p2), .second, .val (.long (p2 &&& (9223372036854775807 : Int64))), .second, .val (.int (2 : Int32)), .val (.int (1 : Int32)), .val (.ref w2), .val (.int (1 : Int32))] []))
        refine own_via (fun _ k => XS.aload X22.here hx rfl (hb hby at_153) rfl rfl k) ?_
        show own_Go p e below s _ _ _ (T22.setTop (mkF m 155 #[.val (.int p0), .val (.int p1), .val (.long p2), .second, .val (.long (p2 &&& (9223372036854775807 : Int64))), .second, .val (.int (2 : Int32)), .val (.int (1 : Int32)), .val (.ref w2), .val (.int (1 : Int32))] [(.ref w2)]))
        refine own_via (fun _ k => XS.lload X22.here hx rfl (hb hby at_155) rfl k) ?_
        show own_Go p e below s _ _ _ (T22.setTop (mkF m 157 #[.val (.int p0), .val (.int p1), .val (.long p2), .second, .val (.long (p2 &&& (9223372036854775807 : Int64))), .second, .val (.int (2 : Int32)), .val (.int (1 : Int32)), .val (.ref w2), .val (.int (1 : Int32))] [(.long (p2 &&& (9223372036854775807 : Int64))), (.ref w2)]))
        obtain ⟨cq23, kq23, q23a, q23b, q23c⟩ := isOf hZ e22 E_w2
        obtain ⟨_, _, ⟨T23, L23, k23, n23⟩, -, X23, ⟨Lc23, hQ23, l23, y23, z23⟩, st23⟩ := X22.virtualBack hx (y := (⟨"com/example/strikeline/strikeline/PennyProgram", "isOnGrid", "(J)Z"⟩ : MethodName)) (z := (⟨"com/example/strikeline/strikeline/PennyProgram", "isOnGrid", "(J)Z"⟩ : MethodName)) hown (mvT hZ (hw _ (List.mem_of_getElem? (i := 8) rfl))) (mvT hZ (hw _ (List.mem_of_getElem? (i := 9) rfl))) (notFace_of_selects (args := #[]) (mvT hZ (hw _ (List.mem_of_getElem? (i := 11) rfl)))) (mvT hZ (hw _ (List.mem_of_getElem? (i := 11) rfl))) (mvT hZ (hw _ (List.mem_of_getElem? (i := 10) rfl))) (by decide) (backOf (W := 0) (rm1_2 l Z a0 hw [] (p2 &&& (9223372036854775807 : Int64)) w0 w1 w2 h0 n0 Z0 K0) hZ (hw _ (List.mem_of_getElem? (i := 12) rfl)) (hw _ (List.mem_of_getElem? (i := 5) rfl)) (by decide) (by decide)) q23a q23c (g := (mkF m 157 #[.val (.int p0), .val (.int p1), .val (.long p2), .second, .val (.long (p2 &&& (9223372036854775807 : Int64))), .second, .val (.int (2 : Int32)), .val (.int (1 : Int32)), .val (.ref w2), .val (.int (1 : Int32))] [(.long (p2 &&& (9223372036854775807 : Int64))), (.ref w2)])) rfl (by rw [hml]; rfl) (Steps.refl _) (argsL := [(.long (p2 &&& (9223372036854775807 : Int64)))]) (rest := []) (lenOf pd0 rfl) rfl (by show 2 * 0 + _ ≤ _; exact Nat.le_of_eq rfl) (hb hby at_157) (fun _ _ => ⟨rfl, e22, (by decide : 0 + 0 ≤ _), (by decide : 0 + 0 ≤ _)⟩)
        dsimp only [Pt.U, Pt.locs, Pt.cells, Pt.slots] at X23 l23 y23 z23 st23 hQ23
        subst l23 y23 z23
        obtain ⟨rfl, e23, hO23⟩ := hQ23
        rcases hO23 with ⟨hr23_0_0, hr23_0_1, rfl⟩ | ⟨hr23_1_0, hr23_1_1, rfl⟩ | ⟨hr23_2_0, hr23_2_1, rfl⟩ | ⟨hr23_3_0, hr23_3_1, rfl⟩
        · refine own_tr st23 ?_
          show own_Go p e below s _ _ _ (T23.setTop (mkF m 160 #[.val (.int p0), .val (.int p1), .val (.long p2), .second, .val (.long (p2 &&& (9223372036854775807 : Int64))), .second, .val (.int (2 : Int32)), .val (.int (1 : Int32)), .val (.ref w2), .val (.int (1 : Int32))] [(.int (1 : Int32))]))
          refine own_via (fun _ k => XS.iload X23.here hx rfl (hb hby at_160) rfl k) ?_
          show own_Go p e below s _ _ _ (T23.setTop (mkF m 162 #[.val (.int p0), .val (.int p1), .val (.long p2), .second, .val (.long (p2 &&& (9223372036854775807 : Int64))), .second, .val (.int (2 : Int32)), .val (.int (1 : Int32)), .val (.ref w2), .val (.int (1 : Int32))] [(.int (1 : Int32)), (.int (1 : Int32))]))
          refine own_via (fun _ k => XS.icmpNo X23.here hx rfl (hb hby at_162) rfl (teq (by decide : (1 : Int32) = (1 : Int32))).2 k) ?_
          show own_Go p e below s _ _ _ (T23.setTop (mkF m 165 #[.val (.int p0), .val (.int p1), .val (.long p2), .second, .val (.long (p2 &&& (9223372036854775807 : Int64))), .second, .val (.int (2 : Int32)), .val (.int (1 : Int32)), .val (.ref w2), .val (.int (1 : Int32))] []))
          refine own_via (fun _ k => XS.iconst X23.here hx rfl (hb hby at_165) k) ?_
          show own_Go p e below s _ _ _ (T23.setTop (mkF m 166 #[.val (.int p0), .val (.int p1), .val (.long p2), .second, .val (.long (p2 &&& (9223372036854775807 : Int64))), .second, .val (.int (2 : Int32)), .val (.int (1 : Int32)), .val (.ref w2), .val (.int (1 : Int32))] [(.int (1 : Int32))]))
          refine own_via (fun _ k => XS.goto X23.here hx rfl (pc0 := 166) (pc' := 170) rfl (hb hby at_166) (by decide) (by decide) k) ?_
          show own_Go p e below s _ _ _ (T23.setTop (mkF m 170 #[.val (.int p0), .val (.int p1), .val (.long p2), .second, .val (.long (p2 &&& (9223372036854775807 : Int64))), .second, .val (.int (2 : Int32)), .val (.int (1 : Int32)), .val (.ref w2), .val (.int (1 : Int32))] [(.int (1 : Int32))]))
          exact own_retZ X23 hx hlk (t := .boolean) Bd.returns (by simp) (hb hby at_170) (z' := (1 : Int32)) (by first | rfl | decide) ⟨rfl, (Fr.nil n0)⟩ (by decide) (by decide)
        · refine own_tr st23 ?_
          show own_Go p e below s _ _ _ (T23.setTop (mkF m 160 #[.val (.int p0), .val (.int p1), .val (.long p2), .second, .val (.long (p2 &&& (9223372036854775807 : Int64))), .second, .val (.int (2 : Int32)), .val (.int (1 : Int32)), .val (.ref w2), .val (.int (1 : Int32))] [(.int (0 : Int32))]))
          refine own_via (fun _ k => XS.iload X23.here hx rfl (hb hby at_160) rfl k) ?_
          show own_Go p e below s _ _ _ (T23.setTop (mkF m 162 #[.val (.int p0), .val (.int p1), .val (.long p2), .second, .val (.long (p2 &&& (9223372036854775807 : Int64))), .second, .val (.int (2 : Int32)), .val (.int (1 : Int32)), .val (.ref w2), .val (.int (1 : Int32))] [(.int (1 : Int32)), (.int (0 : Int32))]))
          refine own_via (fun _ k => XS.icmpYes X23.here hx rfl (pc0 := 162) (pc' := 169) rfl (hb hby at_162) rfl (feq (by decide : ¬ ((0 : Int32) = (1 : Int32)))).2 (by decide) (by decide) k) ?_
          show own_Go p e below s _ _ _ (T23.setTop (mkF m 169 #[.val (.int p0), .val (.int p1), .val (.long p2), .second, .val (.long (p2 &&& (9223372036854775807 : Int64))), .second, .val (.int (2 : Int32)), .val (.int (1 : Int32)), .val (.ref w2), .val (.int (1 : Int32))] []))
          refine own_via (fun _ k => XS.iconst X23.here hx rfl (hb hby at_169) k) ?_
          show own_Go p e below s _ _ _ (T23.setTop (mkF m 170 #[.val (.int p0), .val (.int p1), .val (.long p2), .second, .val (.long (p2 &&& (9223372036854775807 : Int64))), .second, .val (.int (2 : Int32)), .val (.int (1 : Int32)), .val (.ref w2), .val (.int (1 : Int32))] [(.int (0 : Int32))]))
          exact absurd (own_rem1 _) hr23_1_1
        · exact absurd hc21 hr23_2_0
        · exact absurd hc21 hr23_3_0
      · refine own_via (fun _ k => XS.ifYes X0.here hx rfl (pc0 := 39) (pc' := 46) rfl (hb hby at_39) rfl ((if0 _ _).trans (flt (mt (lw_lt (p2 &&& (9223372036854775807 : Int64)) (300 : Int64)).mp hc21)).2.1) (by decide) (by decide) k) ?_
        show own_Go p e below s _ _ _ (s₁.setTop (mkF m 46 #[.val (.int p0), .val (.int p1), .val (.long p2), .second, .val (.long (p2 &&& (9223372036854775807 : Int64))), .second, .val (.int (2 : Int32)), .unset, .unset, .unset] []))
        refine own_via (fun _ k => XS.iconst X0.here hx rfl (hb hby at_46) k) ?_
        show own_Go p e below s _ _ _ (s₁.setTop (mkF m 47 #[.val (.int p0), .val (.int p1), .val (.long p2), .second, .val (.long (p2 &&& (9223372036854775807 : Int64))), .second, .val (.int (2 : Int32)), .unset, .unset, .unset] [(.int (0 : Int32))]))
        refine own_via (fun _ k => XS.istore X0.here hx rfl (hb hby at_47) rfl (l' := #[.val (.int p0), .val (.int p1), .val (.long p2), .second, .val (.long (p2 &&& (9223372036854775807 : Int64))), .second, .val (.int (2 : Int32)), .val (.int (0 : Int32)), .unset, .unset]) rfl k) ?_
        show own_Go p e below s _ _ _ (s₁.setTop (mkF m 49 #[.val (.int p0), .val (.int p1), .val (.long p2), .second, .val (.long (p2 &&& (9223372036854775807 : Int64))), .second, .val (.int (2 : Int32)), .val (.int (0 : Int32)), .unset, .unset] []))
        refine own_via (fun _ k => XS.iload X0.here hx rfl (hb hby at_49) rfl k) ?_
        show own_Go p e below s _ _ _ (s₁.setTop (mkF m 51 #[.val (.int p0), .val (.int p1), .val (.long p2), .second, .val (.long (p2 &&& (9223372036854775807 : Int64))), .second, .val (.int (2 : Int32)), .val (.int (0 : Int32)), .unset, .unset] [(.int (2 : Int32))]))
        refine own_via (fun _ k => XS.ifYes X0.here hx rfl (pc0 := 51) (pc' := 104) rfl (hb hby at_51) rfl ((if0 _ _).trans (feq (by decide : ¬ ((2 : Int32) = (0 : Int32)))).2) (by decide) (by decide) k) ?_
        show own_Go p e below s _ _ _ (s₁.setTop (mkF m 104 #[.val (.int p0), .val (.int p1), .val (.long p2), .second, .val (.long (p2 &&& (9223372036854775807 : Int64))), .second, .val (.int (2 : Int32)), .val (.int (0 : Int32)), .unset, .unset] []))
        refine own_via (fun _ k => XS.iload X0.here hx rfl (hb hby at_104) rfl k) ?_
        show own_Go p e below s _ _ _ (s₁.setTop (mkF m 106 #[.val (.int p0), .val (.int p1), .val (.long p2), .second, .val (.long (p2 &&& (9223372036854775807 : Int64))), .second, .val (.int (2 : Int32)), .val (.int (0 : Int32)), .unset, .unset] [(.int (2 : Int32))]))
        refine own_via (fun _ k => XS.iconst X0.here hx rfl (hb hby at_106) k) ?_
        show own_Go p e below s _ _ _ (s₁.setTop (mkF m 107 #[.val (.int p0), .val (.int p1), .val (.long p2), .second, .val (.long (p2 &&& (9223372036854775807 : Int64))), .second, .val (.int (2 : Int32)), .val (.int (0 : Int32)), .unset, .unset] [(.int (1 : Int32)), (.int (2 : Int32))]))
        refine own_via (fun _ k => XS.icmpYes X0.here hx rfl (pc0 := 107) (pc' := 145) rfl (hb hby at_107) rfl (feq (by decide : ¬ ((2 : Int32) = (1 : Int32)))).2 (by decide) (by decide) k) ?_
        show own_Go p e below s _ _ _ (s₁.setTop (mkF m 145 #[.val (.int p0), .val (.int p1), .val (.long p2), .second, .val (.long (p2 &&& (9223372036854775807 : Int64))), .second, .val (.int (2 : Int32)), .val (.int (0 : Int32)), .unset, .unset] []))
        obtain ⟨T24, X24, e24, st24⟩ := getS2 X0 hx hZ hown (host := "") (Or.inl (hw _ (List.mem_of_getElem? (i := 22) rfl))) Via.refl e0 S_w2 (g := (mkF m 145 #[.val (.int p0), .val (.int p1), .val (.long p2), .second, .val (.long (p2 &&& (9223372036854775807 : Int64))), .second, .val (.int (2 : Int32)), .val (.int (0 : Int32)), .unset, .unset] [])) rfl (hb hby at_145)
        refine own_via st24 ?_
        show own_Go p e below s _ _ _ (T24.setTop (mkF m 148 #[.val (.int p0), .val (.int p1), .val (.long p2), .second, .val (.long (p2 &&& (9223372036854775807 : Int64))), .second, .val (.int (2 : Int32)), .val (.int (0 : Int32)), .unset, .unset] [(.ref w2)]))
        refine own_via (fun _ k => XS.astore X24.here hx rfl (hb hby at_148) rfl rfl (l' := #[.val (.int p0), .val (.int p1), .val (.long p2), .second, .val (.long (p2 &&& (9223372036854775807 : Int64))), .second, .val (.int (2 : Int32)), .val (.int (0 : Int32)), .val (.ref w2), .unset]) rfl k) ?_
        show own_Go p e below s _ _ _ (T24.setTop (mkF m 150 #[.val (.int p0), .val (.int p1), .val (.long p2), .second, .val (.long (p2 &&& (9223372036854775807 : Int64))), .second, .val (.int (2 : Int32)), .val (.int (0 : Int32)), .val (.ref w2), .unset] []))
        refine own_via (fun _ k => XS.iconst X24.here hx rfl (hb hby at_150) k) ?_
        show own_Go p e below s _ _ _ (T24.setTop (mkF m 151 #[.val (.int p0), .val (.int p1), .val (.long p2), .second, .val (.long (p2 &&& (9223372036854775807 : Int64))), .second, .val (.int (2 : Int32)), .val (.int (0 : Int32)), .val (.ref w2), .unset] [(.int (1 : Int32))]))
        refine own_via (fun _ k => XS.istore X24.here hx rfl (hb hby at_151) rfl (l' := #[.val (.int p0), .val (.int p1), .val (.long p2), .second, .val (.long (p2 &&& (9223372036854775807 : Int64))), .second, .val (.int (2 : Int32)), .val (.int (0 : Int32)), .val (.ref w2), .val (.int (1 : Int32))]) rfl k) ?_
        show own_Go p e below s _ _ _ (T24.setTop (mkF m 153 #[.val (.int p0), .val (.int p1), .val (.long p2), .second, .val (.long (p2 &&& (9223372036854775807 : Int64))), .second, .val (.int (2 : Int32)), .val (.int (0 : Int32)), .val (.ref w2), .val (.int (1 : Int32))] []))
        refine own_via (fun _ k => XS.aload X24.here hx rfl (hb hby at_153) rfl rfl k) ?_
        show own_Go p e below s _ _ _ (T24.setTop (mkF m 155 #[.val (.int p0), .val (.int p1), .val (.long p2), .second, .val (.long (p2 &&& (9223372036854775807 : Int64))), .second, .val (.int (2 : Int32)), .val (.int (0 : Int32)), .val (.ref w2), .val (.int (1 : Int32))] [(.ref w2)]))
        refine own_via (fun _ k => XS.lload X24.here hx rfl (hb hby at_155) rfl k) ?_
        show own_Go p e below s _ _ _ (T24.setTop (mkF m 157 #[.val (.int p0), .val (.int p1), .val (.long p2), .second, .val (.long (p2 &&& (9223372036854775807 : Int64))), .second, .val (.int (2 : Int32)), .val (.int (0 : Int32)), .val (.ref w2), .val (.int (1 : Int32))] [(.long (p2 &&& (9223372036854775807 : Int64))), (.ref w2)]))
        obtain ⟨cq25, kq25, q25a, q25b, q25c⟩ := isOf hZ e24 E_w2
        obtain ⟨_, _, ⟨T25, L25, k25, n25⟩, -, X25, ⟨Lc25, hQ25, l25, y25, z25⟩, st25⟩ := X24.virtualBack hx (y := (⟨"com/example/strikeline/strikeline/PennyProgram", "isOnGrid", "(J)Z"⟩ : MethodName)) (z := (⟨"com/example/strikeline/strikeline/PennyProgram", "isOnGrid", "(J)Z"⟩ : MethodName)) hown (mvT hZ (hw _ (List.mem_of_getElem? (i := 8) rfl))) (mvT hZ (hw _ (List.mem_of_getElem? (i := 9) rfl))) (notFace_of_selects (args := #[]) (mvT hZ (hw _ (List.mem_of_getElem? (i := 11) rfl)))) (mvT hZ (hw _ (List.mem_of_getElem? (i := 11) rfl))) (mvT hZ (hw _ (List.mem_of_getElem? (i := 10) rfl))) (by decide) (backOf (W := 0) (rm1_2 l Z a0 hw [] (p2 &&& (9223372036854775807 : Int64)) w0 w1 w2 h0 n0 Z0 K0) hZ (hw _ (List.mem_of_getElem? (i := 12) rfl)) (hw _ (List.mem_of_getElem? (i := 5) rfl)) (by decide) (by decide)) q25a q25c (g := (mkF m 157 #[.val (.int p0), .val (.int p1), .val (.long p2), .second, .val (.long (p2 &&& (9223372036854775807 : Int64))), .second, .val (.int (2 : Int32)), .val (.int (0 : Int32)), .val (.ref w2), .val (.int (1 : Int32))] [(.long (p2 &&& (9223372036854775807 : Int64))), (.ref w2)])) rfl (by rw [hml]; rfl) (Steps.refl _) (argsL := [(.long (p2 &&& (9223372036854775807 : Int64)))]) (rest := []) (lenOf pd0 rfl) rfl (by show 2 * 0 + _ ≤ _; exact Nat.le_of_eq rfl) (hb hby at_157) (fun _ _ => ⟨rfl, e24, (by decide : 0 + 0 ≤ _), (by decide : 0 + 0 ≤ _)⟩)
        dsimp only [Pt.U, Pt.locs, Pt.cells, Pt.slots] at X25 l25 y25 z25 st25 hQ25
        subst l25 y25 z25
        obtain ⟨rfl, e25, hO25⟩ := hQ25
        rcases hO25 with ⟨hr25_0_0, hr25_0_1, rfl⟩ | ⟨hr25_1_0, hr25_1_1, rfl⟩ | ⟨hr25_2_0, hr25_2_1, rfl⟩ | ⟨hr25_3_0, hr25_3_1, rfl⟩
        · exact absurd hr25_0_0 hc21
        · exact absurd hr25_1_0 hc21
        · refine own_tr st25 ?_
          show own_Go p e below s _ _ _ (T25.setTop (mkF m 160 #[.val (.int p0), .val (.int p1), .val (.long p2), .second, .val (.long (p2 &&& (9223372036854775807 : Int64))), .second, .val (.int (2 : Int32)), .val (.int (0 : Int32)), .val (.ref w2), .val (.int (1 : Int32))] [(.int (1 : Int32))]))
          refine own_via (fun _ k => XS.iload X25.here hx rfl (hb hby at_160) rfl k) ?_
          show own_Go p e below s _ _ _ (T25.setTop (mkF m 162 #[.val (.int p0), .val (.int p1), .val (.long p2), .second, .val (.long (p2 &&& (9223372036854775807 : Int64))), .second, .val (.int (2 : Int32)), .val (.int (0 : Int32)), .val (.ref w2), .val (.int (1 : Int32))] [(.int (1 : Int32)), (.int (1 : Int32))]))
          refine own_via (fun _ k => XS.icmpNo X25.here hx rfl (hb hby at_162) rfl (teq (by decide : (1 : Int32) = (1 : Int32))).2 k) ?_
          show own_Go p e below s _ _ _ (T25.setTop (mkF m 165 #[.val (.int p0), .val (.int p1), .val (.long p2), .second, .val (.long (p2 &&& (9223372036854775807 : Int64))), .second, .val (.int (2 : Int32)), .val (.int (0 : Int32)), .val (.ref w2), .val (.int (1 : Int32))] []))
          refine own_via (fun _ k => XS.iconst X25.here hx rfl (hb hby at_165) k) ?_
          show own_Go p e below s _ _ _ (T25.setTop (mkF m 166 #[.val (.int p0), .val (.int p1), .val (.long p2), .second, .val (.long (p2 &&& (9223372036854775807 : Int64))), .second, .val (.int (2 : Int32)), .val (.int (0 : Int32)), .val (.ref w2), .val (.int (1 : Int32))] [(.int (1 : Int32))]))
          refine own_via (fun _ k => XS.goto X25.here hx rfl (pc0 := 166) (pc' := 170) rfl (hb hby at_166) (by decide) (by decide) k) ?_
          show own_Go p e below s _ _ _ (T25.setTop (mkF m 170 #[.val (.int p0), .val (.int p1), .val (.long p2), .second, .val (.long (p2 &&& (9223372036854775807 : Int64))), .second, .val (.int (2 : Int32)), .val (.int (0 : Int32)), .val (.ref w2), .val (.int (1 : Int32))] [(.int (1 : Int32))]))
          exact own_retZ X25 hx hlk (t := .boolean) Bd.returns (by simp) (hb hby at_170) (z' := (1 : Int32)) (by first | rfl | decide) ⟨rfl, (Fr.nil n0)⟩ (by decide) (by decide)
        · refine own_tr st25 ?_
          show own_Go p e below s _ _ _ (T25.setTop (mkF m 160 #[.val (.int p0), .val (.int p1), .val (.long p2), .second, .val (.long (p2 &&& (9223372036854775807 : Int64))), .second, .val (.int (2 : Int32)), .val (.int (0 : Int32)), .val (.ref w2), .val (.int (1 : Int32))] [(.int (0 : Int32))]))
          refine own_via (fun _ k => XS.iload X25.here hx rfl (hb hby at_160) rfl k) ?_
          show own_Go p e below s _ _ _ (T25.setTop (mkF m 162 #[.val (.int p0), .val (.int p1), .val (.long p2), .second, .val (.long (p2 &&& (9223372036854775807 : Int64))), .second, .val (.int (2 : Int32)), .val (.int (0 : Int32)), .val (.ref w2), .val (.int (1 : Int32))] [(.int (1 : Int32)), (.int (0 : Int32))]))
          refine own_via (fun _ k => XS.icmpYes X25.here hx rfl (pc0 := 162) (pc' := 169) rfl (hb hby at_162) rfl (feq (by decide : ¬ ((0 : Int32) = (1 : Int32)))).2 (by decide) (by decide) k) ?_
          show own_Go p e below s _ _ _ (T25.setTop (mkF m 169 #[.val (.int p0), .val (.int p1), .val (.long p2), .second, .val (.long (p2 &&& (9223372036854775807 : Int64))), .second, .val (.int (2 : Int32)), .val (.int (0 : Int32)), .val (.ref w2), .val (.int (1 : Int32))] []))
          refine own_via (fun _ k => XS.iconst X25.here hx rfl (hb hby at_169) k) ?_
          show own_Go p e below s _ _ _ (T25.setTop (mkF m 170 #[.val (.int p0), .val (.int p1), .val (.long p2), .second, .val (.long (p2 &&& (9223372036854775807 : Int64))), .second, .val (.int (2 : Int32)), .val (.int (0 : Int32)), .val (.ref w2), .val (.int (1 : Int32))] [(.int (0 : Int32))]))
          exact absurd (own_rem1 _) hr25_3_1
  · refine own_via (fun _ k => XS.ifNo X0.here hx rfl (hb hby at_3) rfl ((if0 _ _).trans (feq hc1).1) k) ?_
    show own_Go p e below s _ _ _ (s₁.setTop (mkF m 6 #[.val (.int p0), .val (.int p1), .val (.long p2), .second, .unset, .unset, .unset, .unset, .unset, .unset] []))
    refine own_via (fun _ k => X0.ldc2Long hx hown (mvT hZ (hw _ (List.mem_of_getElem? (i := 0) rfl))) (g := (mkF m 6 #[.val (.int p0), .val (.int p1), .val (.long p2), .second, .unset, .unset, .unset, .unset, .unset, .unset] [])) rfl (hb hby at_6) _ k) ?_
    show own_Go p e below s _ _ _ (s₁.setTop (mkF m 9 #[.val (.int p0), .val (.int p1), .val (.long p2), .second, .unset, .unset, .unset, .unset, .unset, .unset] [(.long (290 : Int64))]))
    refine own_via (fun _ k => XS.lloadN X0.here hx rfl (hb hby at_9) rfl k) ?_
    show own_Go p e below s _ _ _ (s₁.setTop (mkF m 10 #[.val (.int p0), .val (.int p1), .val (.long p2), .second, .unset, .unset, .unset, .unset, .unset, .unset] [(.long p2), (.long (290 : Int64))]))
    refine own_via (fun _ k => X0.ldc2Long hx hown (mvT hZ (hw _ (List.mem_of_getElem? (i := 1) rfl))) (g := (mkF m 10 #[.val (.int p0), .val (.int p1), .val (.long p2), .second, .unset, .unset, .unset, .unset, .unset, .unset] [(.long p2), (.long (290 : Int64))])) rfl (hb hby at_10) _ k) ?_
    show own_Go p e below s _ _ _ (s₁.setTop (mkF m 13 #[.val (.int p0), .val (.int p1), .val (.long p2), .second, .unset, .unset, .unset, .unset, .unset, .unset] [(.long (31 : Int64)), (.long p2), (.long (290 : Int64))]))
    refine own_via (fun _ k => XS.land X0.here hx rfl (hb hby at_13) rfl k) ?_
    show own_Go p e below s _ _ _ (s₁.setTop (mkF m 14 #[.val (.int p0), .val (.int p1), .val (.long p2), .second, .unset, .unset, .unset, .unset, .unset, .unset] [(.long (p2 &&& (31 : Int64))), (.long (290 : Int64))]))
    refine own_via (fun _ k => XS.ladd X0.here hx rfl (hb hby at_14) rfl k) ?_
    show own_Go p e below s _ _ _ (s₁.setTop (mkF m 15 #[.val (.int p0), .val (.int p1), .val (.long p2), .second, .unset, .unset, .unset, .unset, .unset, .unset] [(.long ((290 : Int64) + (p2 &&& (31 : Int64))))]))
    refine own_via (fun _ k => XS.goto X0.here hx rfl (pc0 := 15) (pc' := 23) rfl (hb hby at_15) (by decide) (by decide) k) ?_
    show own_Go p e below s _ _ _ (s₁.setTop (mkF m 23 #[.val (.int p0), .val (.int p1), .val (.long p2), .second, .unset, .unset, .unset, .unset, .unset, .unset] [(.long ((290 : Int64) + (p2 &&& (31 : Int64))))]))
    refine own_via (fun _ k => XS.lstore X0.here hx rfl (hb hby at_23) rfl (l' := #[.val (.int p0), .val (.int p1), .val (.long p2), .second, .val (.long ((290 : Int64) + (p2 &&& (31 : Int64)))), .second, .unset, .unset, .unset, .unset]) rfl k) ?_
    show own_Go p e below s _ _ _ (s₁.setTop (mkF m 25 #[.val (.int p0), .val (.int p1), .val (.long p2), .second, .val (.long ((290 : Int64) + (p2 &&& (31 : Int64)))), .second, .unset, .unset, .unset, .unset] []))
    refine own_via (fun _ k => XS.iloadN X0.here hx rfl (hb hby at_25) rfl k) ?_
    show own_Go p e below s _ _ _ (s₁.setTop (mkF m 26 #[.val (.int p0), .val (.int p1), .val (.long p2), .second, .val (.long ((290 : Int64) + (p2 &&& (31 : Int64)))), .second, .unset, .unset, .unset, .unset] [(.int p0)]))
    refine own_via (fun _ k => X0.ldcInt hx hown (mvT hZ (hw _ (List.mem_of_getElem? (i := 2) rfl))) (g := (mkF m 26 #[.val (.int p0), .val (.int p1), .val (.long p2), .second, .val (.long ((290 : Int64) + (p2 &&& (31 : Int64)))), .second, .unset, .unset, .unset, .unset] [(.int p0)])) rfl (hb hby at_26) _ k) ?_
    show own_Go p e below s _ _ _ (s₁.setTop (mkF m 28 #[.val (.int p0), .val (.int p1), .val (.long p2), .second, .val (.long ((290 : Int64) + (p2 &&& (31 : Int64)))), .second, .unset, .unset, .unset, .unset] [(.int (2147483647 : Int32)), (.int p0)]))
    refine own_via (fun _ k => XS.iand X0.here hx rfl (hb hby at_28) rfl k) ?_
    show own_Go p e below s _ _ _ (s₁.setTop (mkF m 29 #[.val (.int p0), .val (.int p1), .val (.long p2), .second, .val (.long ((290 : Int64) + (p2 &&& (31 : Int64)))), .second, .unset, .unset, .unset, .unset] [(.int (p0 &&& (2147483647 : Int32)))]))
    refine own_via (fun _ k => XS.iconst X0.here hx rfl (hb hby at_29) k) ?_
    show own_Go p e below s _ _ _ (s₁.setTop (mkF m 30 #[.val (.int p0), .val (.int p1), .val (.long p2), .second, .val (.long ((290 : Int64) + (p2 &&& (31 : Int64)))), .second, .unset, .unset, .unset, .unset] [(.int (3 : Int32)), (.int (p0 &&& (2147483647 : Int32)))]))
    refine own_via (fun _ k => iremM X0 hx rfl (hb hby at_30) rfl (by decide : ¬ ((3 : Int32) = (0 : Int32))) k) ?_
    rcases (own_mod3 _ : ((p0 &&& (2147483647 : Int32)) % (3 : Int32)) = (0 : Int32) ∨ ((p0 &&& (2147483647 : Int32)) % (3 : Int32)) = (1 : Int32) ∨ ((p0 &&& (2147483647 : Int32)) % (3 : Int32)) = (2 : Int32)) with hk26 | hk27 | hk28
    · rw [hk26]
      show own_Go p e below s _ _ _ (s₁.setTop (mkF m 31 #[.val (.int p0), .val (.int p1), .val (.long p2), .second, .val (.long ((290 : Int64) + (p2 &&& (31 : Int64)))), .second, .unset, .unset, .unset, .unset] [(.int (0 : Int32))]))
      refine own_via (fun _ k => XS.istore X0.here hx rfl (hb hby at_31) rfl (l' := #[.val (.int p0), .val (.int p1), .val (.long p2), .second, .val (.long ((290 : Int64) + (p2 &&& (31 : Int64)))), .second, .val (.int (0 : Int32)), .unset, .unset, .unset]) rfl k) ?_
      show own_Go p e below s _ _ _ (s₁.setTop (mkF m 33 #[.val (.int p0), .val (.int p1), .val (.long p2), .second, .val (.long ((290 : Int64) + (p2 &&& (31 : Int64)))), .second, .val (.int (0 : Int32)), .unset, .unset, .unset] []))
      refine own_via (fun _ k => XS.lload X0.here hx rfl (hb hby at_33) rfl k) ?_
      show own_Go p e below s _ _ _ (s₁.setTop (mkF m 35 #[.val (.int p0), .val (.int p1), .val (.long p2), .second, .val (.long ((290 : Int64) + (p2 &&& (31 : Int64)))), .second, .val (.int (0 : Int32)), .unset, .unset, .unset] [(.long ((290 : Int64) + (p2 &&& (31 : Int64))))]))
      refine own_via (fun _ k => X0.ldc2Long hx hown (mvT hZ (hw _ (List.mem_of_getElem? (i := 3) rfl))) (g := (mkF m 35 #[.val (.int p0), .val (.int p1), .val (.long p2), .second, .val (.long ((290 : Int64) + (p2 &&& (31 : Int64)))), .second, .val (.int (0 : Int32)), .unset, .unset, .unset] [(.long ((290 : Int64) + (p2 &&& (31 : Int64))))])) rfl (hb hby at_35) _ k) ?_
      show own_Go p e below s _ _ _ (s₁.setTop (mkF m 38 #[.val (.int p0), .val (.int p1), .val (.long p2), .second, .val (.long ((290 : Int64) + (p2 &&& (31 : Int64)))), .second, .val (.int (0 : Int32)), .unset, .unset, .unset] [(.long (300 : Int64)), (.long ((290 : Int64) + (p2 &&& (31 : Int64))))]))
      refine own_via (fun _ k => XS.lcmp X0.here hx rfl (hb hby at_38) rfl k) ?_
      show own_Go p e below s _ _ _ (s₁.setTop (mkF m 39 #[.val (.int p0), .val (.int p1), .val (.long p2), .second, .val (.long ((290 : Int64) + (p2 &&& (31 : Int64)))), .second, .val (.int (0 : Int32)), .unset, .unset, .unset] [(.int (lcmpW ((290 : Int64) + (p2 &&& (31 : Int64))) (300 : Int64)))]))
      by_cases hc29 : ((290 : Int64) + (p2 &&& (31 : Int64))) < (300 : Int64)
      · refine own_via (fun _ k => XS.ifNo X0.here hx rfl (hb hby at_39) rfl ((if0 _ _).trans (tlt ((lw_lt ((290 : Int64) + (p2 &&& (31 : Int64))) (300 : Int64)).mpr hc29)).2.1) k) ?_
        show own_Go p e below s _ _ _ (s₁.setTop (mkF m 42 #[.val (.int p0), .val (.int p1), .val (.long p2), .second, .val (.long ((290 : Int64) + (p2 &&& (31 : Int64)))), .second, .val (.int (0 : Int32)), .unset, .unset, .unset] []))
        refine own_via (fun _ k => XS.iconst X0.here hx rfl (hb hby at_42) k) ?_
        show own_Go p e below s _ _ _ (s₁.setTop (mkF m 43 #[.val (.int p0), .val (.int p1), .val (.long p2), .second, .val (.long ((290 : Int64) + (p2 &&& (31 : Int64)))), .second, .val (.int (0 : Int32)), .unset, .unset, .unset] [(.int (1 : Int32))]))
        refine own_via (fun _ k => XS.goto X0.here hx rfl (pc0 := 43) (pc' := 47) rfl (hb hby at_43) (by decide) (by decide) k) ?_
        show own_Go p e below s _ _ _ (s₁.setTop (mkF m 47 #[.val (.int p0), .val (.int p1), .val (.long p2), .second, .val (.long ((290 : Int64) + (p2 &&& (31 : Int64)))), .second, .val (.int (0 : Int32)), .unset, .unset, .unset] [(.int (1 : Int32))]))
        refine own_via (fun _ k => XS.istore X0.here hx rfl (hb hby at_47) rfl (l' := #[.val (.int p0), .val (.int p1), .val (.long p2), .second, .val (.long ((290 : Int64) + (p2 &&& (31 : Int64)))), .second, .val (.int (0 : Int32)), .val (.int (1 : Int32)), .unset, .unset]) rfl k) ?_
        show own_Go p e below s _ _ _ (s₁.setTop (mkF m 49 #[.val (.int p0), .val (.int p1), .val (.long p2), .second, .val (.long ((290 : Int64) + (p2 &&& (31 : Int64)))), .second, .val (.int (0 : Int32)), .val (.int (1 : Int32)), .unset, .unset] []))
        refine own_via (fun _ k => XS.iload X0.here hx rfl (hb hby at_49) rfl k) ?_
        show own_Go p e below s _ _ _ (s₁.setTop (mkF m 51 #[.val (.int p0), .val (.int p1), .val (.long p2), .second, .val (.long ((290 : Int64) + (p2 &&& (31 : Int64)))), .second, .val (.int (0 : Int32)), .val (.int (1 : Int32)), .unset, .unset] [(.int (0 : Int32))]))
        refine own_via (fun _ k => XS.ifNo X0.here hx rfl (hb hby at_51) rfl ((if0 _ _).trans (teq (by decide : (0 : Int32) = (0 : Int32))).2) k) ?_
        show own_Go p e below s _ _ _ (s₁.setTop (mkF m 54 #[.val (.int p0), .val (.int p1), .val (.long p2), .second, .val (.long ((290 : Int64) + (p2 &&& (31 : Int64)))), .second, .val (.int (0 : Int32)), .val (.int (1 : Int32)), .unset, .unset] []))
        obtain ⟨T30, X30, e30, st30⟩ := getS2 X0 hx hZ hown (host := "") (Or.inl (hw _ (List.mem_of_getElem? (i := 4) rfl))) Via.refl e0 S_w0 (g := (mkF m 54 #[.val (.int p0), .val (.int p1), .val (.long p2), .second, .val (.long ((290 : Int64) + (p2 &&& (31 : Int64)))), .second, .val (.int (0 : Int32)), .val (.int (1 : Int32)), .unset, .unset] [])) rfl (hb hby at_54)
        refine own_via st30 ?_
        show own_Go p e below s _ _ _ (T30.setTop (mkF m 57 #[.val (.int p0), .val (.int p1), .val (.long p2), .second, .val (.long ((290 : Int64) + (p2 &&& (31 : Int64)))), .second, .val (.int (0 : Int32)), .val (.int (1 : Int32)), .unset, .unset] [(.ref w0)]))
        refine own_via (fun _ k => XS.astore X30.here hx rfl (hb hby at_57) rfl rfl (l' := #[.val (.int p0), .val (.int p1), .val (.long p2), .second, .val (.long ((290 : Int64) + (p2 &&& (31 : Int64)))), .second, .val (.int (0 : Int32)), .val (.int (1 : Int32)), .val (.ref w0), .unset]) rfl k) ?_
        show own_Go p e below s _ _ _ (T30.setTop (mkF m 59 #[.val (.int p0), .val (.int p1), .val (.long p2), .second, .val (.long ((290 : Int64) + (p2 &&& (31 : Int64)))), .second, .val (.int (0 : Int32)), .val (.int (1 : Int32)), .val (.ref w0), .unset] []))
        refine own_via (fun _ k => XS.iload X30.here hx rfl (hb hby at_59) rfl k) ?_
        show own_Go p e below s _ _ _ (T30.setTop (mkF m 61 #[.val (.int p0), .val (.int p1), .val (.long p2), .second, .val (.long ((290 : Int64) + (p2 &&& (31 : Int64)))), .second, .val (.int (0 : Int32)), .val (.int (1 : Int32)), .val (.ref w0), .unset] [(.int (1 : Int32))]))
        refine own_via (fun _ k => XS.ifNo X30.here hx rfl (hb hby at_61) rfl ((if0 _ _).trans (feq (by decide : ¬ ((1 : Int32) = (0 : Int32)))).1) k) ?_
        show own_Go p e below s _ _ _ (T30.setTop (mkF m 64 #[.val (.int p0), .val (.int p1), .val (.long p2), .second, .val (.long ((290 : Int64) + (p2 &&& (31 : Int64)))), .second, .val (.int (0 : Int32)), .val (.int (1 : Int32)), .val (.ref w0), .unset] []))
        refine own_via (fun _ k => XS.lload X30.here hx rfl (hb hby at_64) rfl k) ?_
        show own_Go p e below s _ _ _ (T30.setTop (mkF m 66 #[.val (.int p0), .val (.int p1), .val (.long p2), .second, .val (.long ((290 : Int64) + (p2 &&& (31 : Int64)))), .second, .val (.int (0 : Int32)), .val (.int (1 : Int32)), .val (.ref w0), .unset] [(.long ((290 : Int64) + (p2 &&& (31 : Int64))))]))
        refine own_via (fun _ k => X30.ldc2Long hx hown (mvT hZ (hw _ (List.mem_of_getElem? (i := 7) rfl))) (g := (mkF m 66 #[.val (.int p0), .val (.int p1), .val (.long p2), .second, .val (.long ((290 : Int64) + (p2 &&& (31 : Int64)))), .second, .val (.int (0 : Int32)), .val (.int (1 : Int32)), .val (.ref w0), .unset] [(.long ((290 : Int64) + (p2 &&& (31 : Int64))))])) rfl (hb hby at_66) _ k) ?_
        show own_Go p e below s _ _ _ (T30.setTop (mkF m 69 #[.val (.int p0), .val (.int p1), .val (.long p2), .second, .val (.long ((290 : Int64) + (p2 &&& (31 : Int64)))), .second, .val (.int (0 : Int32)), .val (.int (1 : Int32)), .val (.ref w0), .unset] [(.long (5 : Int64)), (.long ((290 : Int64) + (p2 &&& (31 : Int64))))]))
        refine own_via (fun _ k => XS.lrem X30.here hx rfl (hb hby at_69) rfl (by decide : ¬ ((5 : Int64) = (0 : Int64))) k) ?_
        show own_Go p e below s _ _ _ (T30.setTop (mkF m 70 #[.val (.int p0), .val (.int p1), .val (.long p2), .second, .val (.long ((290 : Int64) + (p2 &&& (31 : Int64)))), .second, .val (.int (0 : Int32)), .val (.int (1 : Int32)), .val (.ref w0), .unset] [(.long (((290 : Int64) + (p2 &&& (31 : Int64))) - (((290 : Int64) + (p2 &&& (31 : Int64))) / (5 : Int64)) * (5 : Int64)))]))
        refine own_via (fun _ k => XS.lconst X30.here hx rfl (hb hby at_70) k) ?_
        show own_Go p e below s _ _ _ (T30.setTop (mkF m 71 #[.val (.int p0), .val (.int p1), .val (.long p2), .second, .val (.long ((290 : Int64) + (p2 &&& (31 : Int64)))), .second, .val (.int (0 : Int32)), .val (.int (1 : Int32)), .val (.ref w0), .unset] [(.long (0 : Int64)), (.long (((290 : Int64) + (p2 &&& (31 : Int64))) - (((290 : Int64) + (p2 &&& (31 : Int64))) / (5 : Int64)) * (5 : Int64)))]))
        refine own_via (fun _ k => XS.lcmp X30.here hx rfl (hb hby at_71) rfl k) ?_
        show own_Go p e below s _ _ _ (T30.setTop (mkF m 72 #[.val (.int p0), .val (.int p1), .val (.long p2), .second, .val (.long ((290 : Int64) + (p2 &&& (31 : Int64)))), .second, .val (.int (0 : Int32)), .val (.int (1 : Int32)), .val (.ref w0), .unset] [(.int (lcmpW (((290 : Int64) + (p2 &&& (31 : Int64))) - (((290 : Int64) + (p2 &&& (31 : Int64))) / (5 : Int64)) * (5 : Int64)) (0 : Int64)))]))
        by_cases hc31 : (((290 : Int64) + (p2 &&& (31 : Int64))) - (((290 : Int64) + (p2 &&& (31 : Int64))) / (5 : Int64)) * (5 : Int64)) = (0 : Int64)
        · refine own_via (fun _ k => XS.ifNo X30.here hx rfl (hb hby at_72) rfl ((if0 _ _).trans (teq ((lw_eq (((290 : Int64) + (p2 &&& (31 : Int64))) - (((290 : Int64) + (p2 &&& (31 : Int64))) / (5 : Int64)) * (5 : Int64)) (0 : Int64)).mpr hc31)).2) k) ?_
          show own_Go p e below s _ _ _ (T30.setTop (mkF m 75 #[.val (.int p0), .val (.int p1), .val (.long p2), .second, .val (.long ((290 : Int64) + (p2 &&& (31 : Int64)))), .second, .val (.int (0 : Int32)), .val (.int (1 : Int32)), .val (.ref w0), .unset] []))
          refine own_via (fun _ k => XS.iconst X30.here hx rfl (hb hby at_75) k) ?_
          show own_Go p e below s _ _ _ (T30.setTop (mkF m 76 #[.val (.int p0), .val (.int p1), .val (.long p2), .second, .val (.long ((290 : Int64) + (p2 &&& (31 : Int64)))), .second, .val (.int (0 : Int32)), .val (.int (1 : Int32)), .val (.ref w0), .unset] [(.int (1 : Int32))]))
          refine own_via (fun _ k => XS.goto X30.here hx rfl (pc0 := 76) (pc' := 99) rfl (hb hby at_76) (by decide) (by decide) k) ?_
          show own_Go p e below s _ _ _ (T30.setTop (mkF m 99 #[.val (.int p0), .val (.int p1), .val (.long p2), .second, .val (.long ((290 : Int64) + (p2 &&& (31 : Int64)))), .second, .val (.int (0 : Int32)), .val (.int (1 : Int32)), .val (.ref w0), .unset] [(.int (1 : Int32))]))
          refine own_via (fun _ k => XS.istore X30.here hx rfl (hb hby at_99) rfl (l' := #[.val (.int p0), .val (.int p1), .val (.long p2), .second, .val (.long ((290 : Int64) + (p2 &&& (31 : Int64)))), .second, .val (.int (0 : Int32)), .val (.int (1 : Int32)), .val (.ref w0), .val (.int (1 : Int32))]) rfl k) ?_
          show own_Go p e below s _ _ _ (T30.setTop (mkF m 101 #[.val (.int p0), .val (.int p1), .val (.long p2), .second, .val (.long ((290 : Int64) + (p2 &&& (31 : Int64)))), .second, .val (.int (0 : Int32)), .val (.int (1 : Int32)), .val (.ref w0), .val (.int (1 : Int32))] []))
          refine own_via (fun _ k => XS.goto X30.here hx rfl (pc0 := 101) (pc' := 153) rfl (hb hby at_101) (by decide) (by decide) k) ?_
          show own_Go p e below s _ _ _ (T30.setTop (mkF m 153 #[.val (.int p0), .val (.int p1), .val (.long p2), .second, .val (.long ((290 : Int64) + (p2 &&& (31 : Int64)))), .second, .val (.int (0 : Int32)), .val (.int (1 : Int32)), .val (.ref w0), .val (.int (1 : Int32))] []))
          refine own_via (fun _ k => XS.aload X30.here hx rfl (hb hby at_153) rfl rfl k) ?_
          show own_Go p e below s _ _ _ (T30.setTop (mkF m 155 #[.val (.int p0), .val (.int p1), .val (.long p2), .second, .val (.long ((290 : Int64) + (p2 &&& (31 : Int64)))), .second, .val (.int (0 : Int32)), .val (.int (1 : Int32)), .val (.ref w0), .val (.int (1 : Int32))] [(.ref w0)]))
          refine own_via (fun _ k => XS.lload X30.here hx rfl (hb hby at_155) rfl k) ?_
          show own_Go p e below s _ _ _ (T30.setTop (mkF m 157 #[.val (.int p0), .val (.int p1), .val (.long p2), .second, .val (.long ((290 : Int64) + (p2 &&& (31 : Int64)))), .second, .val (.int (0 : Int32)), .val (.int (1 : Int32)), .val (.ref w0), .val (.int (1 : Int32))] [(.long ((290 : Int64) + (p2 &&& (31 : Int64)))), (.ref w0)]))
          obtain ⟨cq32, kq32, q32a, q32b, q32c⟩ := isOf hZ e30 E_w0
          obtain ⟨_, _, ⟨T32, L32, k32, n32⟩, -, X32, ⟨Lc32, hQ32, l32, y32, z32⟩, st32⟩ := X30.virtualBack hx (y := (⟨"com/example/strikeline/strikeline/PennyProgram", "isOnGrid", "(J)Z"⟩ : MethodName)) (z := (⟨"com/example/strikeline/strikeline/PennyProgram", "isOnGrid", "(J)Z"⟩ : MethodName)) hown (mvT hZ (hw _ (List.mem_of_getElem? (i := 8) rfl))) (mvT hZ (hw _ (List.mem_of_getElem? (i := 9) rfl))) (notFace_of_selects (args := #[]) (mvT hZ (hw _ (List.mem_of_getElem? (i := 11) rfl)))) (mvT hZ (hw _ (List.mem_of_getElem? (i := 11) rfl))) (mvT hZ (hw _ (List.mem_of_getElem? (i := 10) rfl))) (by decide) (backOf (W := 0) (rm1_0 l Z a0 hw [] ((290 : Int64) + (p2 &&& (31 : Int64))) w0 w1 w2 h0 n0 Z0 K0) hZ (hw _ (List.mem_of_getElem? (i := 12) rfl)) (hw _ (List.mem_of_getElem? (i := 5) rfl)) (by decide) (by decide)) q32a q32c (g := (mkF m 157 #[.val (.int p0), .val (.int p1), .val (.long p2), .second, .val (.long ((290 : Int64) + (p2 &&& (31 : Int64)))), .second, .val (.int (0 : Int32)), .val (.int (1 : Int32)), .val (.ref w0), .val (.int (1 : Int32))] [(.long ((290 : Int64) + (p2 &&& (31 : Int64)))), (.ref w0)])) rfl (by rw [hml]; rfl) (Steps.refl _) (argsL := [(.long ((290 : Int64) + (p2 &&& (31 : Int64))))]) (rest := []) (lenOf pd0 rfl) rfl (by show 2 * 0 + _ ≤ _; exact Nat.le_of_eq rfl) (hb hby at_157) (fun _ _ => ⟨rfl, e30, (by decide : 0 + 0 ≤ _), (by decide : 0 + 0 ≤ _)⟩)
          dsimp only [Pt.U, Pt.locs, Pt.cells, Pt.slots] at X32 l32 y32 z32 st32 hQ32
          subst l32 y32 z32
          obtain ⟨rfl, e32, hO32⟩ := hQ32
          rcases hO32 with ⟨hr32_0_0, hr32_0_1, rfl⟩ | ⟨hr32_1_0, hr32_1_1, rfl⟩ | ⟨hr32_2_0, hr32_2_1, rfl⟩ | ⟨hr32_3_0, hr32_3_1, rfl⟩
          · refine own_tr st32 ?_
            show own_Go p e below s _ _ _ (T32.setTop (mkF m 160 #[.val (.int p0), .val (.int p1), .val (.long p2), .second, .val (.long ((290 : Int64) + (p2 &&& (31 : Int64)))), .second, .val (.int (0 : Int32)), .val (.int (1 : Int32)), .val (.ref w0), .val (.int (1 : Int32))] [(.int (1 : Int32))]))
            refine own_via (fun _ k => XS.iload X32.here hx rfl (hb hby at_160) rfl k) ?_
            show own_Go p e below s _ _ _ (T32.setTop (mkF m 162 #[.val (.int p0), .val (.int p1), .val (.long p2), .second, .val (.long ((290 : Int64) + (p2 &&& (31 : Int64)))), .second, .val (.int (0 : Int32)), .val (.int (1 : Int32)), .val (.ref w0), .val (.int (1 : Int32))] [(.int (1 : Int32)), (.int (1 : Int32))]))
            refine own_via (fun _ k => XS.icmpNo X32.here hx rfl (hb hby at_162) rfl (teq (by decide : (1 : Int32) = (1 : Int32))).2 k) ?_
            show own_Go p e below s _ _ _ (T32.setTop (mkF m 165 #[.val (.int p0), .val (.int p1), .val (.long p2), .second, .val (.long ((290 : Int64) + (p2 &&& (31 : Int64)))), .second, .val (.int (0 : Int32)), .val (.int (1 : Int32)), .val (.ref w0), .val (.int (1 : Int32))] []))
            refine own_via (fun _ k => XS.iconst X32.here hx rfl (hb hby at_165) k) ?_
            show own_Go p e below s _ _ _ (T32.setTop (mkF m 166 #[.val (.int p0), .val (.int p1), .val (.long p2), .second, .val (.long ((290 : Int64) + (p2 &&& (31 : Int64)))), .second, .val (.int (0 : Int32)), .val (.int (1 : Int32)), .val (.ref w0), .val (.int (1 : Int32))] [(.int (1 : Int32))]))
            refine own_via (fun _ k => XS.goto X32.here hx rfl (pc0 := 166) (pc' := 170) rfl (hb hby at_166) (by decide) (by decide) k) ?_
            show own_Go p e below s _ _ _ (T32.setTop (mkF m 170 #[.val (.int p0), .val (.int p1), .val (.long p2), .second, .val (.long ((290 : Int64) + (p2 &&& (31 : Int64)))), .second, .val (.int (0 : Int32)), .val (.int (1 : Int32)), .val (.ref w0), .val (.int (1 : Int32))] [(.int (1 : Int32))]))
            exact own_retZ X32 hx hlk (t := .boolean) Bd.returns (by simp) (hb hby at_170) (z' := (1 : Int32)) (by first | rfl | decide) ⟨rfl, (Fr.nil n0)⟩ (by decide) (by decide)
          · exact absurd hc31 hr32_1_1
          · exact absurd hc29 hr32_2_0
          · exact absurd hc29 hr32_3_0
        · refine own_via (fun _ k => XS.ifYes X30.here hx rfl (pc0 := 72) (pc' := 79) rfl (hb hby at_72) rfl ((if0 _ _).trans (feq (mt (lw_eq (((290 : Int64) + (p2 &&& (31 : Int64))) - (((290 : Int64) + (p2 &&& (31 : Int64))) / (5 : Int64)) * (5 : Int64)) (0 : Int64)).mp hc31)).2) (by decide) (by decide) k) ?_
          show own_Go p e below s _ _ _ (T30.setTop (mkF m 79 #[.val (.int p0), .val (.int p1), .val (.long p2), .second, .val (.long ((290 : Int64) + (p2 &&& (31 : Int64)))), .second, .val (.int (0 : Int32)), .val (.int (1 : Int32)), .val (.ref w0), .unset] []))
          refine own_via (fun _ k => XS.iconst X30.here hx rfl (hb hby at_79) k) ?_
          show own_Go p e below s _ _ _ (T30.setTop (mkF m 80 #[.val (.int p0), .val (.int p1), .val (.long p2), .second, .val (.long ((290 : Int64) + (p2 &&& (31 : Int64)))), .second, .val (.int (0 : Int32)), .val (.int (1 : Int32)), .val (.ref w0), .unset] [(.int (0 : Int32))]))
          refine own_via (fun _ k => XS.goto X30.here hx rfl (pc0 := 80) (pc' := 99) rfl (hb hby at_80) (by decide) (by decide) k) ?_
          show own_Go p e below s _ _ _ (T30.setTop (mkF m 99 #[.val (.int p0), .val (.int p1), .val (.long p2), .second, .val (.long ((290 : Int64) + (p2 &&& (31 : Int64)))), .second, .val (.int (0 : Int32)), .val (.int (1 : Int32)), .val (.ref w0), .unset] [(.int (0 : Int32))]))
          refine own_via (fun _ k => XS.istore X30.here hx rfl (hb hby at_99) rfl (l' := #[.val (.int p0), .val (.int p1), .val (.long p2), .second, .val (.long ((290 : Int64) + (p2 &&& (31 : Int64)))), .second, .val (.int (0 : Int32)), .val (.int (1 : Int32)), .val (.ref w0), .val (.int (0 : Int32))]) rfl k) ?_
          show own_Go p e below s _ _ _ (T30.setTop (mkF m 101 #[.val (.int p0), .val (.int p1), .val (.long p2), .second, .val (.long ((290 : Int64) + (p2 &&& (31 : Int64)))), .second, .val (.int (0 : Int32)), .val (.int (1 : Int32)), .val (.ref w0), .val (.int (0 : Int32))] []))
          refine own_via (fun _ k => XS.goto X30.here hx rfl (pc0 := 101) (pc' := 153) rfl (hb hby at_101) (by decide) (by decide) k) ?_
          show own_Go p e below s _ _ _ (T30.setTop (mkF m 153 #[.val (.int p0), .val (.int p1), .val (.long p2), .second, .val (.long ((290 : Int64) + (p2 &&& (31 : Int64)))), .second, .val (.int (0 : Int32)), .val (.int (1 : Int32)), .val (.ref w0), .val (.int (0 : Int32))] []))
          refine own_via (fun _ k => XS.aload X30.here hx rfl (hb hby at_153) rfl rfl k) ?_
          show own_Go p e below s _ _ _ (T30.setTop (mkF m 155 #[.val (.int p0), .val (.int p1), .val (.long p2), .second, .val (.long ((290 : Int64) + (p2 &&& (31 : Int64)))), .second, .val (.int (0 : Int32)), .val (.int (1 : Int32)), .val (.ref w0), .val (.int (0 : Int32))] [(.ref w0)]))
          refine own_via (fun _ k => XS.lload X30.here hx rfl (hb hby at_155) rfl k) ?_
          show own_Go p e below s _ _ _ (T30.setTop (mkF m 157 #[.val (.int p0), .val (.int p1), .val (.long p2), .second, .val (.long ((290 : Int64) + (p2 &&& (31 : Int64)))), .second, .val (.int (0 : Int32)), .val (.int (1 : Int32)), .val (.ref w0), .val (.int (0 : Int32))] [(.long ((290 : Int64) + (p2 &&& (31 : Int64)))), (.ref w0)]))
          obtain ⟨cq33, kq33, q33a, q33b, q33c⟩ := isOf hZ e30 E_w0
          obtain ⟨_, _, ⟨T33, L33, k33, n33⟩, -, X33, ⟨Lc33, hQ33, l33, y33, z33⟩, st33⟩ := X30.virtualBack hx (y := (⟨"com/example/strikeline/strikeline/PennyProgram", "isOnGrid", "(J)Z"⟩ : MethodName)) (z := (⟨"com/example/strikeline/strikeline/PennyProgram", "isOnGrid", "(J)Z"⟩ : MethodName)) hown (mvT hZ (hw _ (List.mem_of_getElem? (i := 8) rfl))) (mvT hZ (hw _ (List.mem_of_getElem? (i := 9) rfl))) (notFace_of_selects (args := #[]) (mvT hZ (hw _ (List.mem_of_getElem? (i := 11) rfl)))) (mvT hZ (hw _ (List.mem_of_getElem? (i := 11) rfl))) (mvT hZ (hw _ (List.mem_of_getElem? (i := 10) rfl))) (by decide) (backOf (W := 0) (rm1_0 l Z a0 hw [] ((290 : Int64) + (p2 &&& (31 : Int64))) w0 w1 w2 h0 n0 Z0 K0) hZ (hw _ (List.mem_of_getElem? (i := 12) rfl)) (hw _ (List.mem_of_getElem? (i := 5) rfl)) (by decide) (by decide)) q33a q33c (g := (mkF m 157 #[.val (.int p0), .val (.int p1), .val (.long p2), .second, .val (.long ((290 : Int64) + (p2 &&& (31 : Int64)))), .second, .val (.int (0 : Int32)), .val (.int (1 : Int32)), .val (.ref w0), .val (.int (0 : Int32))] [(.long ((290 : Int64) + (p2 &&& (31 : Int64)))), (.ref w0)])) rfl (by rw [hml]; rfl) (Steps.refl _) (argsL := [(.long ((290 : Int64) + (p2 &&& (31 : Int64))))]) (rest := []) (lenOf pd0 rfl) rfl (by show 2 * 0 + _ ≤ _; exact Nat.le_of_eq rfl) (hb hby at_157) (fun _ _ => ⟨rfl, e30, (by decide : 0 + 0 ≤ _), (by decide : 0 + 0 ≤ _)⟩)
          dsimp only [Pt.U, Pt.locs, Pt.cells, Pt.slots] at X33 l33 y33 z33 st33 hQ33
          subst l33 y33 z33
          obtain ⟨rfl, e33, hO33⟩ := hQ33
          rcases hO33 with ⟨hr33_0_0, hr33_0_1, rfl⟩ | ⟨hr33_1_0, hr33_1_1, rfl⟩ | ⟨hr33_2_0, hr33_2_1, rfl⟩ | ⟨hr33_3_0, hr33_3_1, rfl⟩
          · exact absurd hr33_0_1 hc31
          · refine own_tr st33 ?_
            show own_Go p e below s _ _ _ (T33.setTop (mkF m 160 #[.val (.int p0), .val (.int p1), .val (.long p2), .second, .val (.long ((290 : Int64) + (p2 &&& (31 : Int64)))), .second, .val (.int (0 : Int32)), .val (.int (1 : Int32)), .val (.ref w0), .val (.int (0 : Int32))] [(.int (0 : Int32))]))
            refine own_via (fun _ k => XS.iload X33.here hx rfl (hb hby at_160) rfl k) ?_
            show own_Go p e below s _ _ _ (T33.setTop (mkF m 162 #[.val (.int p0), .val (.int p1), .val (.long p2), .second, .val (.long ((290 : Int64) + (p2 &&& (31 : Int64)))), .second, .val (.int (0 : Int32)), .val (.int (1 : Int32)), .val (.ref w0), .val (.int (0 : Int32))] [(.int (0 : Int32)), (.int (0 : Int32))]))
            refine own_via (fun _ k => XS.icmpNo X33.here hx rfl (hb hby at_162) rfl (teq (by decide : (0 : Int32) = (0 : Int32))).2 k) ?_
            show own_Go p e below s _ _ _ (T33.setTop (mkF m 165 #[.val (.int p0), .val (.int p1), .val (.long p2), .second, .val (.long ((290 : Int64) + (p2 &&& (31 : Int64)))), .second, .val (.int (0 : Int32)), .val (.int (1 : Int32)), .val (.ref w0), .val (.int (0 : Int32))] []))
            refine own_via (fun _ k => XS.iconst X33.here hx rfl (hb hby at_165) k) ?_
            show own_Go p e below s _ _ _ (T33.setTop (mkF m 166 #[.val (.int p0), .val (.int p1), .val (.long p2), .second, .val (.long ((290 : Int64) + (p2 &&& (31 : Int64)))), .second, .val (.int (0 : Int32)), .val (.int (1 : Int32)), .val (.ref w0), .val (.int (0 : Int32))] [(.int (1 : Int32))]))
            refine own_via (fun _ k => XS.goto X33.here hx rfl (pc0 := 166) (pc' := 170) rfl (hb hby at_166) (by decide) (by decide) k) ?_
            show own_Go p e below s _ _ _ (T33.setTop (mkF m 170 #[.val (.int p0), .val (.int p1), .val (.long p2), .second, .val (.long ((290 : Int64) + (p2 &&& (31 : Int64)))), .second, .val (.int (0 : Int32)), .val (.int (1 : Int32)), .val (.ref w0), .val (.int (0 : Int32))] [(.int (1 : Int32))]))
            exact own_retZ X33 hx hlk (t := .boolean) Bd.returns (by simp) (hb hby at_170) (z' := (1 : Int32)) (by first | rfl | decide) ⟨rfl, (Fr.nil n0)⟩ (by decide) (by decide)
          · exact absurd hc29 hr33_2_0
          · exact absurd hc29 hr33_3_0
      · refine own_via (fun _ k => XS.ifYes X0.here hx rfl (pc0 := 39) (pc' := 46) rfl (hb hby at_39) rfl ((if0 _ _).trans (flt (mt (lw_lt ((290 : Int64) + (p2 &&& (31 : Int64))) (300 : Int64)).mp hc29)).2.1) (by decide) (by decide) k) ?_
        show own_Go p e below s _ _ _ (s₁.setTop (mkF m 46 #[.val (.int p0), .val (.int p1), .val (.long p2), .second, .val (.long ((290 : Int64) + (p2 &&& (31 : Int64)))), .second, .val (.int (0 : Int32)), .unset, .unset, .unset] []))
        refine own_via (fun _ k => XS.iconst X0.here hx rfl (hb hby at_46) k) ?_
        show own_Go p e below s _ _ _ (s₁.setTop (mkF m 47 #[.val (.int p0), .val (.int p1), .val (.long p2), .second, .val (.long ((290 : Int64) + (p2 &&& (31 : Int64)))), .second, .val (.int (0 : Int32)), .unset, .unset, .unset] [(.int (0 : Int32))]))
        refine own_via (fun _ k => XS.istore X0.here hx rfl (hb hby at_47) rfl (l' := #[.val (.int p0), .val (.int p1), .val (.long p2), .second, .val (.long ((290 : Int64) + (p2 &&& (31 : Int64)))), .second, .val (.int (0 : Int32)), .val (.int (0 : Int32)), .unset, .unset]) rfl k) ?_
        show own_Go p e below s _ _ _ (s₁.setTop (mkF m 49 #[.val (.int p0), .val (.int p1), .val (.long p2), .second, .val (.long ((290 : Int64) + (p2 &&& (31 : Int64)))), .second, .val (.int (0 : Int32)), .val (.int (0 : Int32)), .unset, .unset] []))
        refine own_via (fun _ k => XS.iload X0.here hx rfl (hb hby at_49) rfl k) ?_
        show own_Go p e below s _ _ _ (s₁.setTop (mkF m 51 #[.val (.int p0), .val (.int p1), .val (.long p2), .second, .val (.long ((290 : Int64) + (p2 &&& (31 : Int64)))), .second, .val (.int (0 : Int32)), .val (.int (0 : Int32)), .unset, .unset] [(.int (0 : Int32))]))
        refine own_via (fun _ k => XS.ifNo X0.here hx rfl (hb hby at_51) rfl ((if0 _ _).trans (teq (by decide : (0 : Int32) = (0 : Int32))).2) k) ?_
        show own_Go p e below s _ _ _ (s₁.setTop (mkF m 54 #[.val (.int p0), .val (.int p1), .val (.long p2), .second, .val (.long ((290 : Int64) + (p2 &&& (31 : Int64)))), .second, .val (.int (0 : Int32)), .val (.int (0 : Int32)), .unset, .unset] []))
        obtain ⟨T34, X34, e34, st34⟩ := getS2 X0 hx hZ hown (host := "") (Or.inl (hw _ (List.mem_of_getElem? (i := 4) rfl))) Via.refl e0 S_w0 (g := (mkF m 54 #[.val (.int p0), .val (.int p1), .val (.long p2), .second, .val (.long ((290 : Int64) + (p2 &&& (31 : Int64)))), .second, .val (.int (0 : Int32)), .val (.int (0 : Int32)), .unset, .unset] [])) rfl (hb hby at_54)
        refine own_via st34 ?_
        show own_Go p e below s _ _ _ (T34.setTop (mkF m 57 #[.val (.int p0), .val (.int p1), .val (.long p2), .second, .val (.long ((290 : Int64) + (p2 &&& (31 : Int64)))), .second, .val (.int (0 : Int32)), .val (.int (0 : Int32)), .unset, .unset] [(.ref w0)]))
        refine own_via (fun _ k => XS.astore X34.here hx rfl (hb hby at_57) rfl rfl (l' := #[.val (.int p0), .val (.int p1), .val (.long p2), .second, .val (.long ((290 : Int64) + (p2 &&& (31 : Int64)))), .second, .val (.int (0 : Int32)), .val (.int (0 : Int32)), .val (.ref w0), .unset]) rfl k) ?_
        show own_Go p e below s _ _ _ (T34.setTop (mkF m 59 #[.val (.int p0), .val (.int p1), .val (.long p2), .second, .val (.long ((290 : Int64) + (p2 &&& (31 : Int64)))), .second, .val (.int (0 : Int32)), .val (.int (0 : Int32)), .val (.ref w0), .unset] []))
        refine own_via (fun _ k => XS.iload X34.here hx rfl (hb hby at_59) rfl k) ?_
        show own_Go p e below s _ _ _ (T34.setTop (mkF m 61 #[.val (.int p0), .val (.int p1), .val (.long p2), .second, .val (.long ((290 : Int64) + (p2 &&& (31 : Int64)))), .second, .val (.int (0 : Int32)), .val (.int (0 : Int32)), .val (.ref w0), .unset] [(.int (0 : Int32))]))
        refine own_via (fun _ k => XS.ifYes X34.here hx rfl (pc0 := 61) (pc' := 83) rfl (hb hby at_61) rfl ((if0 _ _).trans (teq (by decide : (0 : Int32) = (0 : Int32))).1) (by decide) (by decide) k) ?_
        show own_Go p e below s _ _ _ (T34.setTop (mkF m 83 #[.val (.int p0), .val (.int p1), .val (.long p2), .second, .val (.long ((290 : Int64) + (p2 &&& (31 : Int64)))), .second, .val (.int (0 : Int32)), .val (.int (0 : Int32)), .val (.ref w0), .unset] []))
        refine own_via (fun _ k => XS.lload X34.here hx rfl (hb hby at_83) rfl k) ?_
        show own_Go p e below s _ _ _ (T34.setTop (mkF m 85 #[.val (.int p0), .val (.int p1), .val (.long p2), .second, .val (.long ((290 : Int64) + (p2 &&& (31 : Int64)))), .second, .val (.int (0 : Int32)), .val (.int (0 : Int32)), .val (.ref w0), .unset] [(.long ((290 : Int64) + (p2 &&& (31 : Int64))))]))
        refine own_via (fun _ k => X34.ldc2Long hx hown (mvT hZ (hw _ (List.mem_of_getElem? (i := 16) rfl))) (g := (mkF m 85 #[.val (.int p0), .val (.int p1), .val (.long p2), .second, .val (.long ((290 : Int64) + (p2 &&& (31 : Int64)))), .second, .val (.int (0 : Int32)), .val (.int (0 : Int32)), .val (.ref w0), .unset] [(.long ((290 : Int64) + (p2 &&& (31 : Int64))))])) rfl (hb hby at_85) _ k) ?_
        show own_Go p e below s _ _ _ (T34.setTop (mkF m 88 #[.val (.int p0), .val (.int p1), .val (.long p2), .second, .val (.long ((290 : Int64) + (p2 &&& (31 : Int64)))), .second, .val (.int (0 : Int32)), .val (.int (0 : Int32)), .val (.ref w0), .unset] [(.long (10 : Int64)), (.long ((290 : Int64) + (p2 &&& (31 : Int64))))]))
        refine own_via (fun _ k => XS.lrem X34.here hx rfl (hb hby at_88) rfl (by decide : ¬ ((10 : Int64) = (0 : Int64))) k) ?_
        show own_Go p e below s _ _ _ (T34.setTop (mkF m 89 #[.val (.int p0), .val (.int p1), .val (.long p2), .second, .val (.long ((290 : Int64) + (p2 &&& (31 : Int64)))), .second, .val (.int (0 : Int32)), .val (.int (0 : Int32)), .val (.ref w0), .unset] [(.long (((290 : Int64) + (p2 &&& (31 : Int64))) - (((290 : Int64) + (p2 &&& (31 : Int64))) / (10 : Int64)) * (10 : Int64)))]))
        refine own_via (fun _ k => XS.lconst X34.here hx rfl (hb hby at_89) k) ?_
        show own_Go p e below s _ _ _ (T34.setTop (mkF m 90 #[.val (.int p0), .val (.int p1), .val (.long p2), .second, .val (.long ((290 : Int64) + (p2 &&& (31 : Int64)))), .second, .val (.int (0 : Int32)), .val (.int (0 : Int32)), .val (.ref w0), .unset] [(.long (0 : Int64)), (.long (((290 : Int64) + (p2 &&& (31 : Int64))) - (((290 : Int64) + (p2 &&& (31 : Int64))) / (10 : Int64)) * (10 : Int64)))]))
        refine own_via (fun _ k => XS.lcmp X34.here hx rfl (hb hby at_90) rfl k) ?_
        show own_Go p e below s _ _ _ (T34.setTop (mkF m 91 #[.val (.int p0), .val (.int p1), .val (.long p2), .second, .val (.long ((290 : Int64) + (p2 &&& (31 : Int64)))), .second, .val (.int (0 : Int32)), .val (.int (0 : Int32)), .val (.ref w0), .unset] [(.int (lcmpW (((290 : Int64) + (p2 &&& (31 : Int64))) - (((290 : Int64) + (p2 &&& (31 : Int64))) / (10 : Int64)) * (10 : Int64)) (0 : Int64)))]))
        by_cases hc35 : (((290 : Int64) + (p2 &&& (31 : Int64))) - (((290 : Int64) + (p2 &&& (31 : Int64))) / (10 : Int64)) * (10 : Int64)) = (0 : Int64)
        · refine own_via (fun _ k => XS.ifNo X34.here hx rfl (hb hby at_91) rfl ((if0 _ _).trans (teq ((lw_eq (((290 : Int64) + (p2 &&& (31 : Int64))) - (((290 : Int64) + (p2 &&& (31 : Int64))) / (10 : Int64)) * (10 : Int64)) (0 : Int64)).mpr hc35)).2) k) ?_
          show own_Go p e below s _ _ _ (T34.setTop (mkF m 94 #[.val (.int p0), .val (.int p1), .val (.long p2), .second, .val (.long ((290 : Int64) + (p2 &&& (31 : Int64)))), .second, .val (.int (0 : Int32)), .val (.int (0 : Int32)), .val (.ref w0), .unset] []))
          refine own_via (fun _ k => XS.iconst X34.here hx rfl (hb hby at_94) k) ?_
          show own_Go p e below s _ _ _ (T34.setTop (mkF m 95 #[.val (.int p0), .val (.int p1), .val (.long p2), .second, .val (.long ((290 : Int64) + (p2 &&& (31 : Int64)))), .second, .val (.int (0 : Int32)), .val (.int (0 : Int32)), .val (.ref w0), .unset] [(.int (1 : Int32))]))
          refine own_via (fun _ k => XS.goto X34.here hx rfl (pc0 := 95) (pc' := 99) rfl (hb hby at_95) (by decide) (by decide) k) ?_
          show own_Go p e below s _ _ _ (T34.setTop (mkF m 99 #[.val (.int p0), .val (.int p1), .val (.long p2), .second, .val (.long ((290 : Int64) + (p2 &&& (31 : Int64)))), .second, .val (.int (0 : Int32)), .val (.int (0 : Int32)), .val (.ref w0), .unset] [(.int (1 : Int32))]))
          refine own_via (fun _ k => XS.istore X34.here hx rfl (hb hby at_99) rfl (l' := #[.val (.int p0), .val (.int p1), .val (.long p2), .second, .val (.long ((290 : Int64) + (p2 &&& (31 : Int64)))), .second, .val (.int (0 : Int32)), .val (.int (0 : Int32)), .val (.ref w0), .val (.int (1 : Int32))]) rfl k) ?_
          show own_Go p e below s _ _ _ (T34.setTop (mkF m 101 #[.val (.int p0), .val (.int p1), .val (.long p2), .second, .val (.long ((290 : Int64) + (p2 &&& (31 : Int64)))), .second, .val (.int (0 : Int32)), .val (.int (0 : Int32)), .val (.ref w0), .val (.int (1 : Int32))] []))
          refine own_via (fun _ k => XS.goto X34.here hx rfl (pc0 := 101) (pc' := 153) rfl (hb hby at_101) (by decide) (by decide) k) ?_
          show own_Go p e below s _ _ _ (T34.setTop (mkF m 153 #[.val (.int p0), .val (.int p1), .val (.long p2), .second, .val (.long ((290 : Int64) + (p2 &&& (31 : Int64)))), .second, .val (.int (0 : Int32)), .val (.int (0 : Int32)), .val (.ref w0), .val (.int (1 : Int32))] []))
          refine own_via (fun _ k => XS.aload X34.here hx rfl (hb hby at_153) rfl rfl k) ?_
          show own_Go p e below s _ _ _ (T34.setTop (mkF m 155 #[.val (.int p0), .val (.int p1), .val (.long p2), .second, .val (.long ((290 : Int64) + (p2 &&& (31 : Int64)))), .second, .val (.int (0 : Int32)), .val (.int (0 : Int32)), .val (.ref w0), .val (.int (1 : Int32))] [(.ref w0)]))
          refine own_via (fun _ k => XS.lload X34.here hx rfl (hb hby at_155) rfl k) ?_
          show own_Go p e below s _ _ _ (T34.setTop (mkF m 157 #[.val (.int p0), .val (.int p1), .val (.long p2), .second, .val (.long ((290 : Int64) + (p2 &&& (31 : Int64)))), .second, .val (.int (0 : Int32)), .val (.int (0 : Int32)), .val (.ref w0), .val (.int (1 : Int32))] [(.long ((290 : Int64) + (p2 &&& (31 : Int64)))), (.ref w0)]))
          obtain ⟨cq36, kq36, q36a, q36b, q36c⟩ := isOf hZ e34 E_w0
          obtain ⟨_, _, ⟨T36, L36, k36, n36⟩, -, X36, ⟨Lc36, hQ36, l36, y36, z36⟩, st36⟩ := X34.virtualBack hx (y := (⟨"com/example/strikeline/strikeline/PennyProgram", "isOnGrid", "(J)Z"⟩ : MethodName)) (z := (⟨"com/example/strikeline/strikeline/PennyProgram", "isOnGrid", "(J)Z"⟩ : MethodName)) hown (mvT hZ (hw _ (List.mem_of_getElem? (i := 8) rfl))) (mvT hZ (hw _ (List.mem_of_getElem? (i := 9) rfl))) (notFace_of_selects (args := #[]) (mvT hZ (hw _ (List.mem_of_getElem? (i := 11) rfl)))) (mvT hZ (hw _ (List.mem_of_getElem? (i := 11) rfl))) (mvT hZ (hw _ (List.mem_of_getElem? (i := 10) rfl))) (by decide) (backOf (W := 0) (rm1_0 l Z a0 hw [] ((290 : Int64) + (p2 &&& (31 : Int64))) w0 w1 w2 h0 n0 Z0 K0) hZ (hw _ (List.mem_of_getElem? (i := 12) rfl)) (hw _ (List.mem_of_getElem? (i := 5) rfl)) (by decide) (by decide)) q36a q36c (g := (mkF m 157 #[.val (.int p0), .val (.int p1), .val (.long p2), .second, .val (.long ((290 : Int64) + (p2 &&& (31 : Int64)))), .second, .val (.int (0 : Int32)), .val (.int (0 : Int32)), .val (.ref w0), .val (.int (1 : Int32))] [(.long ((290 : Int64) + (p2 &&& (31 : Int64)))), (.ref w0)])) rfl (by rw [hml]; rfl) (Steps.refl _) (argsL := [(.long ((290 : Int64) + (p2 &&& (31 : Int64))))]) (rest := []) (lenOf pd0 rfl) rfl (by show 2 * 0 + _ ≤ _; exact Nat.le_of_eq rfl) (hb hby at_157) (fun _ _ => ⟨rfl, e34, (by decide : 0 + 0 ≤ _), (by decide : 0 + 0 ≤ _)⟩)
          dsimp only [Pt.U, Pt.locs, Pt.cells, Pt.slots] at X36 l36 y36 z36 st36 hQ36
          subst l36 y36 z36
          obtain ⟨rfl, e36, hO36⟩ := hQ36
          rcases hO36 with ⟨hr36_0_0, hr36_0_1, rfl⟩ | ⟨hr36_1_0, hr36_1_1, rfl⟩ | ⟨hr36_2_0, hr36_2_1, rfl⟩ | ⟨hr36_3_0, hr36_3_1, rfl⟩
          · exact absurd hr36_0_0 hc29
          · exact absurd hr36_1_0 hc29
          · refine own_tr st36 ?_
            show own_Go p e below s _ _ _ (T36.setTop (mkF m 160 #[.val (.int p0), .val (.int p1), .val (.long p2), .second, .val (.long ((290 : Int64) + (p2 &&& (31 : Int64)))), .second, .val (.int (0 : Int32)), .val (.int (0 : Int32)), .val (.ref w0), .val (.int (1 : Int32))] [(.int (1 : Int32))]))
            refine own_via (fun _ k => XS.iload X36.here hx rfl (hb hby at_160) rfl k) ?_
            show own_Go p e below s _ _ _ (T36.setTop (mkF m 162 #[.val (.int p0), .val (.int p1), .val (.long p2), .second, .val (.long ((290 : Int64) + (p2 &&& (31 : Int64)))), .second, .val (.int (0 : Int32)), .val (.int (0 : Int32)), .val (.ref w0), .val (.int (1 : Int32))] [(.int (1 : Int32)), (.int (1 : Int32))]))
            refine own_via (fun _ k => XS.icmpNo X36.here hx rfl (hb hby at_162) rfl (teq (by decide : (1 : Int32) = (1 : Int32))).2 k) ?_
            show own_Go p e below s _ _ _ (T36.setTop (mkF m 165 #[.val (.int p0), .val (.int p1), .val (.long p2), .second, .val (.long ((290 : Int64) + (p2 &&& (31 : Int64)))), .second, .val (.int (0 : Int32)), .val (.int (0 : Int32)), .val (.ref w0), .val (.int (1 : Int32))] []))
            refine own_via (fun _ k => XS.iconst X36.here hx rfl (hb hby at_165) k) ?_
            show own_Go p e below s _ _ _ (T36.setTop (mkF m 166 #[.val (.int p0), .val (.int p1), .val (.long p2), .second, .val (.long ((290 : Int64) + (p2 &&& (31 : Int64)))), .second, .val (.int (0 : Int32)), .val (.int (0 : Int32)), .val (.ref w0), .val (.int (1 : Int32))] [(.int (1 : Int32))]))
            refine own_via (fun _ k => XS.goto X36.here hx rfl (pc0 := 166) (pc' := 170) rfl (hb hby at_166) (by decide) (by decide) k) ?_
            show own_Go p e below s _ _ _ (T36.setTop (mkF m 170 #[.val (.int p0), .val (.int p1), .val (.long p2), .second, .val (.long ((290 : Int64) + (p2 &&& (31 : Int64)))), .second, .val (.int (0 : Int32)), .val (.int (0 : Int32)), .val (.ref w0), .val (.int (1 : Int32))] [(.int (1 : Int32))]))
            exact own_retZ X36 hx hlk (t := .boolean) Bd.returns (by simp) (hb hby at_170) (z' := (1 : Int32)) (by first | rfl | decide) ⟨rfl, (Fr.nil n0)⟩ (by decide) (by decide)
          · exact absurd hc35 hr36_3_1
        · refine own_via (fun _ k => XS.ifYes X34.here hx rfl (pc0 := 91) (pc' := 98) rfl (hb hby at_91) rfl ((if0 _ _).trans (feq (mt (lw_eq (((290 : Int64) + (p2 &&& (31 : Int64))) - (((290 : Int64) + (p2 &&& (31 : Int64))) / (10 : Int64)) * (10 : Int64)) (0 : Int64)).mp hc35)).2) (by decide) (by decide) k) ?_
          show own_Go p e below s _ _ _ (T34.setTop (mkF m 98 #[.val (.int p0), .val (.int p1), .val (.long p2), .second, .val (.long ((290 : Int64) + (p2 &&& (31 : Int64)))), .second, .val (.int (0 : Int32)), .val (.int (0 : Int32)), .val (.ref w0), .unset] []))
          refine own_via (fun _ k => XS.iconst X34.here hx rfl (hb hby at_98) k) ?_
          show own_Go p e below s _ _ _ (T34.setTop (mkF m 99 #[.val (.int p0), .val (.int p1), .val (.long p2), .second, .val (.long ((290 : Int64) + (p2 &&& (31 : Int64)))), .second, .val (.int (0 : Int32)), .val (.int (0 : Int32)), .val (.ref w0), .unset] [(.int (0 : Int32))]))
          refine own_via (fun _ k => XS.istore X34.here hx rfl (hb hby at_99) rfl (l' := #[.val (.int p0), .val (.int p1), .val (.long p2), .second, .val (.long ((290 : Int64) + (p2 &&& (31 : Int64)))), .second, .val (.int (0 : Int32)), .val (.int (0 : Int32)), .val (.ref w0), .val (.int (0 : Int32))]) rfl k) ?_
          show own_Go p e below s _ _ _ (T34.setTop (mkF m 101 #[.val (.int p0), .val (.int p1), .val (.long p2), .second, .val (.long ((290 : Int64) + (p2 &&& (31 : Int64)))), .second, .val (.int (0 : Int32)), .val (.int (0 : Int32)), .val (.ref w0), .val (.int (0 : Int32))] []))
          refine own_via (fun _ k => XS.goto X34.here hx rfl (pc0 := 101) (pc' := 153) rfl (hb hby at_101) (by decide) (by decide) k) ?_
          show own_Go p e below s _ _ _ (T34.setTop (mkF m 153 #[.val (.int p0), .val (.int p1), .val (.long p2), .second, .val (.long ((290 : Int64) + (p2 &&& (31 : Int64)))), .second, .val (.int (0 : Int32)), .val (.int (0 : Int32)), .val (.ref w0), .val (.int (0 : Int32))] []))
          refine own_via (fun _ k => XS.aload X34.here hx rfl (hb hby at_153) rfl rfl k) ?_
          show own_Go p e below s _ _ _ (T34.setTop (mkF m 155 #[.val (.int p0), .val (.int p1), .val (.long p2), .second, .val (.long ((290 : Int64) + (p2 &&& (31 : Int64)))), .second, .val (.int (0 : Int32)), .val (.int (0 : Int32)), .val (.ref w0), .val (.int (0 : Int32))] [(.ref w0)]))
          refine own_via (fun _ k => XS.lload X34.here hx rfl (hb hby at_155) rfl k) ?_
          show own_Go p e below s _ _ _ (T34.setTop (mkF m 157 #[.val (.int p0), .val (.int p1), .val (.long p2), .second, .val (.long ((290 : Int64) + (p2 &&& (31 : Int64)))), .second, .val (.int (0 : Int32)), .val (.int (0 : Int32)), .val (.ref w0), .val (.int (0 : Int32))] [(.long ((290 : Int64) + (p2 &&& (31 : Int64)))), (.ref w0)]))
          obtain ⟨cq37, kq37, q37a, q37b, q37c⟩ := isOf hZ e34 E_w0
          obtain ⟨_, _, ⟨T37, L37, k37, n37⟩, -, X37, ⟨Lc37, hQ37, l37, y37, z37⟩, st37⟩ := X34.virtualBack hx (y := (⟨"com/example/strikeline/strikeline/PennyProgram", "isOnGrid", "(J)Z"⟩ : MethodName)) (z := (⟨"com/example/strikeline/strikeline/PennyProgram", "isOnGrid", "(J)Z"⟩ : MethodName)) hown (mvT hZ (hw _ (List.mem_of_getElem? (i := 8) rfl))) (mvT hZ (hw _ (List.mem_of_getElem? (i := 9) rfl))) (notFace_of_selects (args := #[]) (mvT hZ (hw _ (List.mem_of_getElem? (i := 11) rfl)))) (mvT hZ (hw _ (List.mem_of_getElem? (i := 11) rfl))) (mvT hZ (hw _ (List.mem_of_getElem? (i := 10) rfl))) (by decide) (backOf (W := 0) (rm1_0 l Z a0 hw [] ((290 : Int64) + (p2 &&& (31 : Int64))) w0 w1 w2 h0 n0 Z0 K0) hZ (hw _ (List.mem_of_getElem? (i := 12) rfl)) (hw _ (List.mem_of_getElem? (i := 5) rfl)) (by decide) (by decide)) q37a q37c (g := (mkF m 157 #[.val (.int p0), .val (.int p1), .val (.long p2), .second, .val (.long ((290 : Int64) + (p2 &&& (31 : Int64)))), .second, .val (.int (0 : Int32)), .val (.int (0 : Int32)), .val (.ref w0), .val (.int (0 : Int32))] [(.long ((290 : Int64) + (p2 &&& (31 : Int64)))), (.ref w0)])) rfl (by rw [hml]; rfl) (Steps.refl _) (argsL := [(.long ((290 : Int64) + (p2 &&& (31 : Int64))))]) (rest := []) (lenOf pd0 rfl) rfl (by show 2 * 0 + _ ≤ _; exact Nat.le_of_eq rfl) (hb hby at_157) (fun _ _ => ⟨rfl, e34, (by decide : 0 + 0 ≤ _), (by decide : 0 + 0 ≤ _)⟩)
          dsimp only [Pt.U, Pt.locs, Pt.cells, Pt.slots] at X37 l37 y37 z37 st37 hQ37
          subst l37 y37 z37
          obtain ⟨rfl, e37, hO37⟩ := hQ37
          rcases hO37 with ⟨hr37_0_0, hr37_0_1, rfl⟩ | ⟨hr37_1_0, hr37_1_1, rfl⟩ | ⟨hr37_2_0, hr37_2_1, rfl⟩ | ⟨hr37_3_0, hr37_3_1, rfl⟩
          · exact absurd hr37_0_0 hc29
          · exact absurd hr37_1_0 hc29
          · exact absurd hr37_2_1 hc35
          · refine own_tr st37 ?_
            show own_Go p e below s _ _ _ (T37.setTop (mkF m 160 #[.val (.int p0), .val (.int p1), .val (.long p2), .second, .val (.long ((290 : Int64) + (p2 &&& (31 : Int64)))), .second, .val (.int (0 : Int32)), .val (.int (0 : Int32)), .val (.ref w0), .val (.int (0 : Int32))] [(.int (0 : Int32))]))
            refine own_via (fun _ k => XS.iload X37.here hx rfl (hb hby at_160) rfl k) ?_
            show own_Go p e below s _ _ _ (T37.setTop (mkF m 162 #[.val (.int p0), .val (.int p1), .val (.long p2), .second, .val (.long ((290 : Int64) + (p2 &&& (31 : Int64)))), .second, .val (.int (0 : Int32)), .val (.int (0 : Int32)), .val (.ref w0), .val (.int (0 : Int32))] [(.int (0 : Int32)), (.int (0 : Int32))]))
            refine own_via (fun _ k => XS.icmpNo X37.here hx rfl (hb hby at_162) rfl (teq (by decide : (0 : Int32) = (0 : Int32))).2 k) ?_
            show own_Go p e below s _ _ _ (T37.setTop (mkF m 165 #[.val (.int p0), .val (.int p1), .val (.long p2), .second, .val (.long ((290 : Int64) + (p2 &&& (31 : Int64)))), .second, .val (.int (0 : Int32)), .val (.int (0 : Int32)), .val (.ref w0), .val (.int (0 : Int32))] []))
            refine own_via (fun _ k => XS.iconst X37.here hx rfl (hb hby at_165) k) ?_
            show own_Go p e below s _ _ _ (T37.setTop (mkF m 166 #[.val (.int p0), .val (.int p1), .val (.long p2), .second, .val (.long ((290 : Int64) + (p2 &&& (31 : Int64)))), .second, .val (.int (0 : Int32)), .val (.int (0 : Int32)), .val (.ref w0), .val (.int (0 : Int32))] [(.int (1 : Int32))]))
            refine own_via (fun _ k => XS.goto X37.here hx rfl (pc0 := 166) (pc' := 170) rfl (hb hby at_166) (by decide) (by decide) k) ?_
            show own_Go p e below s _ _ _ (T37.setTop (mkF m 170 #[.val (.int p0), .val (.int p1), .val (.long p2), .second, .val (.long ((290 : Int64) + (p2 &&& (31 : Int64)))), .second, .val (.int (0 : Int32)), .val (.int (0 : Int32)), .val (.ref w0), .val (.int (0 : Int32))] [(.int (1 : Int32))]))
            exact own_retZ X37 hx hlk (t := .boolean) Bd.returns (by simp) (hb hby at_170) (z' := (1 : Int32)) (by first | rfl | decide) ⟨rfl, (Fr.nil n0)⟩ (by decide) (by decide)
    · rw [hk27]
      show own_Go p e below s _ _ _ (s₁.setTop (mkF m 31 #[.val (.int p0), .val (.int p1), .val (.long p2), .second, .val (.long ((290 : Int64) + (p2 &&& (31 : Int64)))), .second, .unset, .unset, .unset, .unset] [(.int (1 : Int32))]))
      refine own_via (fun _ k => XS.istore X0.here hx rfl (hb hby at_31) rfl (l' := #[.val (.int p0), .val (.int p1), .val (.long p2), .second, .val (.long ((290 : Int64) + (p2 &&& (31 : Int64)))), .second, .val (.int (1 : Int32)), .unset, .unset, .unset]) rfl k) ?_
      show own_Go p e below s _ _ _ (s₁.setTop (mkF m 33 #[.val (.int p0), .val (.int p1), .val (.long p2), .second, .val (.long ((290 : Int64) + (p2 &&& (31 : Int64)))), .second, .val (.int (1 : Int32)), .unset, .unset, .unset] []))
      refine own_via (fun _ k => XS.lload X0.here hx rfl (hb hby at_33) rfl k) ?_
      show own_Go p e below s _ _ _ (s₁.setTop (mkF m 35 #[.val (.int p0), .val (.int p1), .val (.long p2), .second, .val (.long ((290 : Int64) + (p2 &&& (31 : Int64)))), .second, .val (.int (1 : Int32)), .unset, .unset, .unset] [(.long ((290 : Int64) + (p2 &&& (31 : Int64))))]))
      refine own_via (fun _ k => X0.ldc2Long hx hown (mvT hZ (hw _ (List.mem_of_getElem? (i := 3) rfl))) (g := (mkF m 35 #[.val (.int p0), .val (.int p1), .val (.long p2), .second, .val (.long ((290 : Int64) + (p2 &&& (31 : Int64)))), .second, .val (.int (1 : Int32)), .unset, .unset, .unset] [(.long ((290 : Int64) + (p2 &&& (31 : Int64))))])) rfl (hb hby at_35) _ k) ?_
      show own_Go p e below s _ _ _ (s₁.setTop (mkF m 38 #[.val (.int p0), .val (.int p1), .val (.long p2), .second, .val (.long ((290 : Int64) + (p2 &&& (31 : Int64)))), .second, .val (.int (1 : Int32)), .unset, .unset, .unset] [(.long (300 : Int64)), (.long ((290 : Int64) + (p2 &&& (31 : Int64))))]))
      refine own_via (fun _ k => XS.lcmp X0.here hx rfl (hb hby at_38) rfl k) ?_
      show own_Go p e below s _ _ _ (s₁.setTop (mkF m 39 #[.val (.int p0), .val (.int p1), .val (.long p2), .second, .val (.long ((290 : Int64) + (p2 &&& (31 : Int64)))), .second, .val (.int (1 : Int32)), .unset, .unset, .unset] [(.int (lcmpW ((290 : Int64) + (p2 &&& (31 : Int64))) (300 : Int64)))]))
      by_cases hc38 : ((290 : Int64) + (p2 &&& (31 : Int64))) < (300 : Int64)
      · refine own_via (fun _ k => XS.ifNo X0.here hx rfl (hb hby at_39) rfl ((if0 _ _).trans (tlt ((lw_lt ((290 : Int64) + (p2 &&& (31 : Int64))) (300 : Int64)).mpr hc38)).2.1) k) ?_
        show own_Go p e below s _ _ _ (s₁.setTop (mkF m 42 #[.val (.int p0), .val (.int p1), .val (.long p2), .second, .val (.long ((290 : Int64) + (p2 &&& (31 : Int64)))), .second, .val (.int (1 : Int32)), .unset, .unset, .unset] []))
        refine own_via (fun _ k => XS.iconst X0.here hx rfl (hb hby at_42) k) ?_
        show own_Go p e below s _ _ _ (s₁.setTop (mkF m 43 #[.val (.int p0), .val (.int p1), .val (.long p2), .second, .val (.long ((290 : Int64) + (p2 &&& (31 : Int64)))), .second, .val (.int (1 : Int32)), .unset, .unset, .unset] [(.int (1 : Int32))]))
        refine own_via (fun _ k => XS.goto X0.here hx rfl (pc0 := 43) (pc' := 47) rfl (hb hby at_43) (by decide) (by decide) k) ?_
        show own_Go p e below s _ _ _ (s₁.setTop (mkF m 47 #[.val (.int p0), .val (.int p1), .val (.long p2), .second, .val (.long ((290 : Int64) + (p2 &&& (31 : Int64)))), .second, .val (.int (1 : Int32)), .unset, .unset, .unset] [(.int (1 : Int32))]))
        refine own_via (fun _ k => XS.istore X0.here hx rfl (hb hby at_47) rfl (l' := #[.val (.int p0), .val (.int p1), .val (.long p2), .second, .val (.long ((290 : Int64) + (p2 &&& (31 : Int64)))), .second, .val (.int (1 : Int32)), .val (.int (1 : Int32)), .unset, .unset]) rfl k) ?_
        show own_Go p e below s _ _ _ (s₁.setTop (mkF m 49 #[.val (.int p0), .val (.int p1), .val (.long p2), .second, .val (.long ((290 : Int64) + (p2 &&& (31 : Int64)))), .second, .val (.int (1 : Int32)), .val (.int (1 : Int32)), .unset, .unset] []))
        refine own_via (fun _ k => XS.iload X0.here hx rfl (hb hby at_49) rfl k) ?_
        show own_Go p e below s _ _ _ (s₁.setTop (mkF m 51 #[.val (.int p0), .val (.int p1), .val (.long p2), .second, .val (.long ((290 : Int64) + (p2 &&& (31 : Int64)))), .second, .val (.int (1 : Int32)), .val (.int (1 : Int32)), .unset, .unset] [(.int (1 : Int32))]))
        refine own_via (fun _ k => XS.ifYes X0.here hx rfl (pc0 := 51) (pc' := 104) rfl (hb hby at_51) rfl ((if0 _ _).trans (feq (by decide : ¬ ((1 : Int32) = (0 : Int32)))).2) (by decide) (by decide) k) ?_
        show own_Go p e below s _ _ _ (s₁.setTop (mkF m 104 #[.val (.int p0), .val (.int p1), .val (.long p2), .second, .val (.long ((290 : Int64) + (p2 &&& (31 : Int64)))), .second, .val (.int (1 : Int32)), .val (.int (1 : Int32)), .unset, .unset] []))
        refine own_via (fun _ k => XS.iload X0.here hx rfl (hb hby at_104) rfl k) ?_
        show own_Go p e below s _ _ _ (s₁.setTop (mkF m 106 #[.val (.int p0), .val (.int p1), .val (.long p2), .second, .val (.long ((290 : Int64) + (p2 &&& (31 : Int64)))), .second, .val (.int (1 : Int32)), .val (.int (1 : Int32)), .unset, .unset] [(.int (1 : Int32))]))
        refine own_via (fun _ k => XS.iconst X0.here hx rfl (hb hby at_106) k) ?_
        show own_Go p e below s _ _ _ (s₁.setTop (mkF m 107 #[.val (.int p0), .val (.int p1), .val (.long p2), .second, .val (.long ((290 : Int64) + (p2 &&& (31 : Int64)))), .second, .val (.int (1 : Int32)), .val (.int (1 : Int32)), .unset, .unset] [(.int (1 : Int32)), (.int (1 : Int32))]))
        refine own_via (fun _ k => XS.icmpNo X0.here hx rfl (hb hby at_107) rfl (teq (by decide : (1 : Int32) = (1 : Int32))).2 k) ?_
        show own_Go p e below s _ _ _ (s₁.setTop (mkF m 110 #[.val (.int p0), .val (.int p1), .val (.long p2), .second, .val (.long ((290 : Int64) + (p2 &&& (31 : Int64)))), .second, .val (.int (1 : Int32)), .val (.int (1 : Int32)), .unset, .unset] []))
        obtain ⟨T39, X39, e39, st39⟩ := getS2 X0 hx hZ hown (host := "") (Or.inl (hw _ (List.mem_of_getElem? (i := 19) rfl))) Via.refl e0 S_w1 (g := (mkF m 110 #[.val (.int p0), .val (.int p1), .val (.long p2), .second, .val (.long ((290 : Int64) + (p2 &&& (31 : Int64)))), .second, .val (.int (1 : Int32)), .val (.int (1 : Int32)), .unset, .unset] [])) rfl (hb hby at_110)
        refine own_via st39 ?_
        show own_Go p e below s _ _ _ (T39.setTop (mkF m 113 #[.val (.int p0), .val (.int p1), .val (.long p2), .second, .val (.long ((290 : Int64) + (p2 &&& (31 : Int64)))), .second, .val (.int (1 : Int32)), .val (.int (1 : Int32)), .unset, .unset] [(.ref w1)]))
        refine own_via (fun _ k => XS.astore X39.here hx rfl (hb hby at_113) rfl rfl (l' := #[.val (.int p0), .val (.int p1), .val (.long p2), .second, .val (.long ((290 : Int64) + (p2 &&& (31 : Int64)))), .second, .val (.int (1 : Int32)), .val (.int (1 : Int32)), .val (.ref w1), .unset]) rfl k) ?_
        show own_Go p e below s _ _ _ (T39.setTop (mkF m 115 #[.val (.int p0), .val (.int p1), .val (.long p2), .second, .val (.long ((290 : Int64) + (p2 &&& (31 : Int64)))), .second, .val (.int (1 : Int32)), .val (.int (1 : Int32)), .val (.ref w1), .unset] []))
        refine own_via (fun _ k => XS.iload X39.here hx rfl (hb hby at_115) rfl k) ?_
        show own_Go p e below s _ _ _ (T39.setTop (mkF m 117 #[.val (.int p0), .val (.int p1), .val (.long p2), .second, .val (.long ((290 : Int64) + (p2 &&& (31 : Int64)))), .second, .val (.int (1 : Int32)), .val (.int (1 : Int32)), .val (.ref w1), .unset] [(.int (1 : Int32))]))
        refine own_via (fun _ k => XS.ifNo X39.here hx rfl (hb hby at_117) rfl ((if0 _ _).trans (feq (by decide : ¬ ((1 : Int32) = (0 : Int32)))).1) k) ?_
        show own_Go p e below s _ _ _ (T39.setTop (mkF m 120 #[.val (.int p0), .val (.int p1), .val (.long p2), .second, .val (.long ((290 : Int64) + (p2 &&& (31 : Int64)))), .second, .val (.int (1 : Int32)), .val (.int (1 : Int32)), .val (.ref w1), .unset] []))
        refine own_via (fun _ k => XS.iconst X39.here hx rfl (hb hby at_120) k) ?_
        show own_Go p e below s _ _ _ (T39.setTop (mkF m 121 #[.val (.int p0), .val (.int p1), .val (.long p2), .second, .val (.long ((290 : Int64) + (p2 &&& (31 : Int64)))), .second, .val (.int (1 : Int32)), .val (.int (1 : Int32)), .val (.ref w1), .unset] [(.int (1 : Int32))]))
        refine own_via (fun _ k => XS.goto X39.here hx rfl (pc0 := 121) (pc' := 140) rfl (hb hby at_121) (by decide) (by decide) k) ?_
        show own_Go p e below s _ _ _ (T39.setTop (mkF m 140 #[.val (.int p0), .val (.int p1), .val (.long p2), .second, .val (.long ((290 : Int64) + (p2 &&& (31 : Int64)))), .second, .val (.int (1 : Int32)), .val (.int (1 : Int32)), .val (.ref w1), .unset] [(.int (1 : Int32))]))
        refine own_via (fun _ k => XS.istore X39.here hx rfl (hb hby at_140) rfl (l' := #[.val (.int p0), .val (.int p1), .val (.long p2), .second, .val (.long ((290 : Int64) + (p2 &&& (31 : Int64)))), .second, .val (.int (1 : Int32)), .val (.int (1 : Int32)), .val (.ref w1), .val (.int (1 : Int32))]) rfl k) ?_
        show own_Go p e below s _ _ _ (T39.setTop (mkF m 142 #[.val (.int p0), .val (.int p1), .val (.long p2), .second, .val (.long ((290 : Int64) + (p2 &&& (31 : Int64)))), .second, .val (.int (1 : Int32)), .val (.int (1 : Int32)), .val (.ref w1), .val (.int (1 : Int32))] []))
        refine own_via (fun _ k => XS.goto X39.here hx rfl (pc0 := 142) (pc' := 153) rfl (hb hby at_142) (by decide) (by decide) k) ?_
        show own_Go p e below s _ _ _ (T39.setTop (mkF m 153 #[.val (.int p0), .val (.int p1), .val (.long p2), .second, .val (.long ((290 : Int64) + (p2 &&& (31 : Int64)))), .second, .val (.int (1 : Int32)), .val (.int (1 : Int32)), .val (.ref w1), .val (.int (1 : Int32))] []))
        refine own_via (fun _ k => XS.aload X39.here hx rfl (hb hby at_153) rfl rfl k) ?_
        show own_Go p e below s _ _ _ (T39.setTop (mkF m 155 #[.val (.int p0), .val (.int p1), .val (.long p2), .second, .val (.long ((290 : Int64) + (p2 &&& (31 : Int64)))), .second, .val (.int (1 : Int32)), .val (.int (1 : Int32)), .val (.ref w1), .val (.int (1 : Int32))] [(.ref w1)]))
        refine own_via (fun _ k => XS.lload X39.here hx rfl (hb hby at_155) rfl k) ?_
        show own_Go p e below s _ _ _ (T39.setTop (mkF m 157 #[.val (.int p0), .val (.int p1), .val (.long p2), .second, .val (.long ((290 : Int64) + (p2 &&& (31 : Int64)))), .second, .val (.int (1 : Int32)), .val (.int (1 : Int32)), .val (.ref w1), .val (.int (1 : Int32))] [(.long ((290 : Int64) + (p2 &&& (31 : Int64)))), (.ref w1)]))
        obtain ⟨cq40, kq40, q40a, q40b, q40c⟩ := isOf hZ e39 E_w1
        obtain ⟨_, _, ⟨T40, L40, k40, n40⟩, -, X40, ⟨Lc40, hQ40, l40, y40, z40⟩, st40⟩ := X39.virtualBack hx (y := (⟨"com/example/strikeline/strikeline/PennyProgram", "isOnGrid", "(J)Z"⟩ : MethodName)) (z := (⟨"com/example/strikeline/strikeline/PennyProgram", "isOnGrid", "(J)Z"⟩ : MethodName)) hown (mvT hZ (hw _ (List.mem_of_getElem? (i := 8) rfl))) (mvT hZ (hw _ (List.mem_of_getElem? (i := 9) rfl))) (notFace_of_selects (args := #[]) (mvT hZ (hw _ (List.mem_of_getElem? (i := 11) rfl)))) (mvT hZ (hw _ (List.mem_of_getElem? (i := 11) rfl))) (mvT hZ (hw _ (List.mem_of_getElem? (i := 10) rfl))) (by decide) (backOf (W := 0) (rm1_1 l Z a0 hw [] ((290 : Int64) + (p2 &&& (31 : Int64))) w0 w1 w2 h0 n0 Z0 K0) hZ (hw _ (List.mem_of_getElem? (i := 12) rfl)) (hw _ (List.mem_of_getElem? (i := 5) rfl)) (by decide) (by decide)) q40a q40c (g := (mkF m 157 #[.val (.int p0), .val (.int p1), .val (.long p2), .second, .val (.long ((290 : Int64) + (p2 &&& (31 : Int64)))), .second, .val (.int (1 : Int32)), .val (.int (1 : Int32)), .val (.ref w1), .val (.int (1 : Int32))] [(.long ((290 : Int64) + (p2 &&& (31 : Int64)))), (.ref w1)])) rfl (by rw [hml]; rfl) (Steps.refl _) (argsL := [(.long ((290 : Int64) + (p2 &&& (31 : Int64))))]) (rest := []) (lenOf pd0 rfl) rfl (by show 2 * 0 + _ ≤ _; exact Nat.le_of_eq rfl) (hb hby at_157) (fun _ _ => ⟨rfl, e39, (by decide : 0 + 0 ≤ _), (by decide : 0 + 0 ≤ _)⟩)
        dsimp only [Pt.U, Pt.locs, Pt.cells, Pt.slots] at X40 l40 y40 z40 st40 hQ40
        subst l40 y40 z40
        obtain ⟨rfl, e40, hO40⟩ := hQ40
        rcases hO40 with ⟨hr40_0_0, hr40_0_1, rfl⟩ | ⟨hr40_1_0, hr40_1_1, rfl⟩ | ⟨hr40_2_0, hr40_2_1, rfl⟩ | ⟨hr40_3_0, hr40_3_1, rfl⟩
        · refine own_tr st40 ?_
          show own_Go p e below s _ _ _ (T40.setTop (mkF m 160 #[.val (.int p0), .val (.int p1), .val (.long p2), .second, .val (.long ((290 : Int64) + (p2 &&& (31 : Int64)))), .second, .val (.int (1 : Int32)), .val (.int (1 : Int32)), .val (.ref w1), .val (.int (1 : Int32))] [(.int (1 : Int32))]))
          refine own_via (fun _ k => XS.iload X40.here hx rfl (hb hby at_160) rfl k) ?_
          show own_Go p e below s _ _ _ (T40.setTop (mkF m 162 #[.val (.int p0), .val (.int p1), .val (.long p2), .second, .val (.long ((290 : Int64) + (p2 &&& (31 : Int64)))), .second, .val (.int (1 : Int32)), .val (.int (1 : Int32)), .val (.ref w1), .val (.int (1 : Int32))] [(.int (1 : Int32)), (.int (1 : Int32))]))
          refine own_via (fun _ k => XS.icmpNo X40.here hx rfl (hb hby at_162) rfl (teq (by decide : (1 : Int32) = (1 : Int32))).2 k) ?_
          show own_Go p e below s _ _ _ (T40.setTop (mkF m 165 #[.val (.int p0), .val (.int p1), .val (.long p2), .second, .val (.long ((290 : Int64) + (p2 &&& (31 : Int64)))), .second, .val (.int (1 : Int32)), .val (.int (1 : Int32)), .val (.ref w1), .val (.int (1 : Int32))] []))
          refine own_via (fun _ k => XS.iconst X40.here hx rfl (hb hby at_165) k) ?_
          show own_Go p e below s _ _ _ (T40.setTop (mkF m 166 #[.val (.int p0), .val (.int p1), .val (.long p2), .second, .val (.long ((290 : Int64) + (p2 &&& (31 : Int64)))), .second, .val (.int (1 : Int32)), .val (.int (1 : Int32)), .val (.ref w1), .val (.int (1 : Int32))] [(.int (1 : Int32))]))
          refine own_via (fun _ k => XS.goto X40.here hx rfl (pc0 := 166) (pc' := 170) rfl (hb hby at_166) (by decide) (by decide) k) ?_
          show own_Go p e below s _ _ _ (T40.setTop (mkF m 170 #[.val (.int p0), .val (.int p1), .val (.long p2), .second, .val (.long ((290 : Int64) + (p2 &&& (31 : Int64)))), .second, .val (.int (1 : Int32)), .val (.int (1 : Int32)), .val (.ref w1), .val (.int (1 : Int32))] [(.int (1 : Int32))]))
          exact own_retZ X40 hx hlk (t := .boolean) Bd.returns (by simp) (hb hby at_170) (z' := (1 : Int32)) (by first | rfl | decide) ⟨rfl, (Fr.nil n0)⟩ (by decide) (by decide)
        · refine own_tr st40 ?_
          show own_Go p e below s _ _ _ (T40.setTop (mkF m 160 #[.val (.int p0), .val (.int p1), .val (.long p2), .second, .val (.long ((290 : Int64) + (p2 &&& (31 : Int64)))), .second, .val (.int (1 : Int32)), .val (.int (1 : Int32)), .val (.ref w1), .val (.int (1 : Int32))] [(.int (0 : Int32))]))
          refine own_via (fun _ k => XS.iload X40.here hx rfl (hb hby at_160) rfl k) ?_
          show own_Go p e below s _ _ _ (T40.setTop (mkF m 162 #[.val (.int p0), .val (.int p1), .val (.long p2), .second, .val (.long ((290 : Int64) + (p2 &&& (31 : Int64)))), .second, .val (.int (1 : Int32)), .val (.int (1 : Int32)), .val (.ref w1), .val (.int (1 : Int32))] [(.int (1 : Int32)), (.int (0 : Int32))]))
          refine own_via (fun _ k => XS.icmpYes X40.here hx rfl (pc0 := 162) (pc' := 169) rfl (hb hby at_162) rfl (feq (by decide : ¬ ((0 : Int32) = (1 : Int32)))).2 (by decide) (by decide) k) ?_
          show own_Go p e below s _ _ _ (T40.setTop (mkF m 169 #[.val (.int p0), .val (.int p1), .val (.long p2), .second, .val (.long ((290 : Int64) + (p2 &&& (31 : Int64)))), .second, .val (.int (1 : Int32)), .val (.int (1 : Int32)), .val (.ref w1), .val (.int (1 : Int32))] []))
          refine own_via (fun _ k => XS.iconst X40.here hx rfl (hb hby at_169) k) ?_
          show own_Go p e below s _ _ _ (T40.setTop (mkF m 170 #[.val (.int p0), .val (.int p1), .val (.long p2), .second, .val (.long ((290 : Int64) + (p2 &&& (31 : Int64)))), .second, .val (.int (1 : Int32)), .val (.int (1 : Int32)), .val (.ref w1), .val (.int (1 : Int32))] [(.int (0 : Int32))]))
          exact absurd (own_rem1 _) hr40_1_1
        · exact absurd hc38 hr40_2_0
        · exact absurd hc38 hr40_3_0
      · refine own_via (fun _ k => XS.ifYes X0.here hx rfl (pc0 := 39) (pc' := 46) rfl (hb hby at_39) rfl ((if0 _ _).trans (flt (mt (lw_lt ((290 : Int64) + (p2 &&& (31 : Int64))) (300 : Int64)).mp hc38)).2.1) (by decide) (by decide) k) ?_
        show own_Go p e below s _ _ _ (s₁.setTop (mkF m 46 #[.val (.int p0), .val (.int p1), .val (.long p2), .second, .val (.long ((290 : Int64) + (p2 &&& (31 : Int64)))), .second, .val (.int (1 : Int32)), .unset, .unset, .unset] []))
        refine own_via (fun _ k => XS.iconst X0.here hx rfl (hb hby at_46) k) ?_
        show own_Go p e below s _ _ _ (s₁.setTop (mkF m 47 #[.val (.int p0), .val (.int p1), .val (.long p2), .second, .val (.long ((290 : Int64) + (p2 &&& (31 : Int64)))), .second, .val (.int (1 : Int32)), .unset, .unset, .unset] [(.int (0 : Int32))]))
        refine own_via (fun _ k => XS.istore X0.here hx rfl (hb hby at_47) rfl (l' := #[.val (.int p0), .val (.int p1), .val (.long p2), .second, .val (.long ((290 : Int64) + (p2 &&& (31 : Int64)))), .second, .val (.int (1 : Int32)), .val (.int (0 : Int32)), .unset, .unset]) rfl k) ?_
        show own_Go p e below s _ _ _ (s₁.setTop (mkF m 49 #[.val (.int p0), .val (.int p1), .val (.long p2), .second, .val (.long ((290 : Int64) + (p2 &&& (31 : Int64)))), .second, .val (.int (1 : Int32)), .val (.int (0 : Int32)), .unset, .unset] []))
        refine own_via (fun _ k => XS.iload X0.here hx rfl (hb hby at_49) rfl k) ?_
        show own_Go p e below s _ _ _ (s₁.setTop (mkF m 51 #[.val (.int p0), .val (.int p1), .val (.long p2), .second, .val (.long ((290 : Int64) + (p2 &&& (31 : Int64)))), .second, .val (.int (1 : Int32)), .val (.int (0 : Int32)), .unset, .unset] [(.int (1 : Int32))]))
        refine own_via (fun _ k => XS.ifYes X0.here hx rfl (pc0 := 51) (pc' := 104) rfl (hb hby at_51) rfl ((if0 _ _).trans (feq (by decide : ¬ ((1 : Int32) = (0 : Int32)))).2) (by decide) (by decide) k) ?_
        show own_Go p e below s _ _ _ (s₁.setTop (mkF m 104 #[.val (.int p0), .val (.int p1), .val (.long p2), .second, .val (.long ((290 : Int64) + (p2 &&& (31 : Int64)))), .second, .val (.int (1 : Int32)), .val (.int (0 : Int32)), .unset, .unset] []))
        refine own_via (fun _ k => XS.iload X0.here hx rfl (hb hby at_104) rfl k) ?_
        show own_Go p e below s _ _ _ (s₁.setTop (mkF m 106 #[.val (.int p0), .val (.int p1), .val (.long p2), .second, .val (.long ((290 : Int64) + (p2 &&& (31 : Int64)))), .second, .val (.int (1 : Int32)), .val (.int (0 : Int32)), .unset, .unset] [(.int (1 : Int32))]))
        refine own_via (fun _ k => XS.iconst X0.here hx rfl (hb hby at_106) k) ?_
        show own_Go p e below s _ _ _ (s₁.setTop (mkF m 107 #[.val (.int p0), .val (.int p1), .val (.long p2), .second, .val (.long ((290 : Int64) + (p2 &&& (31 : Int64)))), .second, .val (.int (1 : Int32)), .val (.int (0 : Int32)), .unset, .unset] [(.int (1 : Int32)), (.int (1 : Int32))]))
        refine own_via (fun _ k => XS.icmpNo X0.here hx rfl (hb hby at_107) rfl (teq (by decide : (1 : Int32) = (1 : Int32))).2 k) ?_
        show own_Go p e below s _ _ _ (s₁.setTop (mkF m 110 #[.val (.int p0), .val (.int p1), .val (.long p2), .second, .val (.long ((290 : Int64) + (p2 &&& (31 : Int64)))), .second, .val (.int (1 : Int32)), .val (.int (0 : Int32)), .unset, .unset] []))
        obtain ⟨T41, X41, e41, st41⟩ := getS2 X0 hx hZ hown (host := "") (Or.inl (hw _ (List.mem_of_getElem? (i := 19) rfl))) Via.refl e0 S_w1 (g := (mkF m 110 #[.val (.int p0), .val (.int p1), .val (.long p2), .second, .val (.long ((290 : Int64) + (p2 &&& (31 : Int64)))), .second, .val (.int (1 : Int32)), .val (.int (0 : Int32)), .unset, .unset] [])) rfl (hb hby at_110)
        refine own_via st41 ?_
        show own_Go p e below s _ _ _ (T41.setTop (mkF m 113 #[.val (.int p0), .val (.int p1), .val (.long p2), .second, .val (.long ((290 : Int64) + (p2 &&& (31 : Int64)))), .second, .val (.int (1 : Int32)), .val (.int (0 : Int32)), .unset, .unset] [(.ref w1)]))
        refine own_via (fun _ k => XS.astore X41.here hx rfl (hb hby at_113) rfl rfl (l' := #[.val (.int p0), .val (.int p1), .val (.long p2), .second, .val (.long ((290 : Int64) + (p2 &&& (31 : Int64)))), .second, .val (.int (1 : Int32)), .val (.int (0 : Int32)), .val (.ref w1), .unset]) rfl k) ?_
        show own_Go p e below s _ _ _ (T41.setTop (mkF m 115 #[.val (.int p0), .val (.int p1), .val (.long p2), .second, .val (.long ((290 : Int64) + (p2 &&& (31 : Int64)))), .second, .val (.int (1 : Int32)), .val (.int (0 : Int32)), .val (.ref w1), .unset] []))
        refine own_via (fun _ k => XS.iload X41.here hx rfl (hb hby at_115) rfl k) ?_
        show own_Go p e below s _ _ _ (T41.setTop (mkF m 117 #[.val (.int p0), .val (.int p1), .val (.long p2), .second, .val (.long ((290 : Int64) + (p2 &&& (31 : Int64)))), .second, .val (.int (1 : Int32)), .val (.int (0 : Int32)), .val (.ref w1), .unset] [(.int (0 : Int32))]))
        refine own_via (fun _ k => XS.ifYes X41.here hx rfl (pc0 := 117) (pc' := 124) rfl (hb hby at_117) rfl ((if0 _ _).trans (teq (by decide : (0 : Int32) = (0 : Int32))).1) (by decide) (by decide) k) ?_
        show own_Go p e below s _ _ _ (T41.setTop (mkF m 124 #[.val (.int p0), .val (.int p1), .val (.long p2), .second, .val (.long ((290 : Int64) + (p2 &&& (31 : Int64)))), .second, .val (.int (1 : Int32)), .val (.int (0 : Int32)), .val (.ref w1), .unset] []))
        refine own_via (fun _ k => XS.lload X41.here hx rfl (hb hby at_124) rfl k) ?_
        show own_Go p e below s _ _ _ (T41.setTop (mkF m 126 #[.val (.int p0), .val (.int p1), .val (.long p2), .second, .val (.long ((290 : Int64) + (p2 &&& (31 : Int64)))), .second, .val (.int (1 : Int32)), .val (.int (0 : Int32)), .val (.ref w1), .unset] [(.long ((290 : Int64) + (p2 &&& (31 : Int64))))]))
        refine own_via (fun _ k => X41.ldc2Long hx hown (mvT hZ (hw _ (List.mem_of_getElem? (i := 7) rfl))) (g := (mkF m 126 #[.val (.int p0), .val (.int p1), .val (.long p2), .second, .val (.long ((290 : Int64) + (p2 &&& (31 : Int64)))), .second, .val (.int (1 : Int32)), .val (.int (0 : Int32)), .val (.ref w1), .unset] [(.long ((290 : Int64) + (p2 &&& (31 : Int64))))])) rfl (hb hby at_126) _ k) ?_
        show own_Go p e below s _ _ _ (T41.setTop (mkF m 129 #[.val (.int p0), .val (.int p1), .val (.long p2), .second, .val (.long ((290 : Int64) + (p2 &&& (31 : Int64)))), .second, .val (.int (1 : Int32)), .val (.int (0 : Int32)), .val (.ref w1), .unset] [(.long (5 : Int64)), (.long ((290 : Int64) + (p2 &&& (31 : Int64))))]))
        refine own_via (fun _ k => XS.lrem X41.here hx rfl (hb hby at_129) rfl (by decide : ¬ ((5 : Int64) = (0 : Int64))) k) ?_
        show own_Go p e below s _ _ _ (T41.setTop (mkF m 130 #[.val (.int p0), .val (.int p1), .val (.long p2), .second, .val (.long ((290 : Int64) + (p2 &&& (31 : Int64)))), .second, .val (.int (1 : Int32)), .val (.int (0 : Int32)), .val (.ref w1), .unset] [(.long (((290 : Int64) + (p2 &&& (31 : Int64))) - (((290 : Int64) + (p2 &&& (31 : Int64))) / (5 : Int64)) * (5 : Int64)))]))
        refine own_via (fun _ k => XS.lconst X41.here hx rfl (hb hby at_130) k) ?_
        show own_Go p e below s _ _ _ (T41.setTop (mkF m 131 #[.val (.int p0), .val (.int p1), .val (.long p2), .second, .val (.long ((290 : Int64) + (p2 &&& (31 : Int64)))), .second, .val (.int (1 : Int32)), .val (.int (0 : Int32)), .val (.ref w1), .unset] [(.long (0 : Int64)), (.long (((290 : Int64) + (p2 &&& (31 : Int64))) - (((290 : Int64) + (p2 &&& (31 : Int64))) / (5 : Int64)) * (5 : Int64)))]))
        refine own_via (fun _ k => XS.lcmp X41.here hx rfl (hb hby at_131) rfl k) ?_
        show own_Go p e below s _ _ _ (T41.setTop (mkF m 132 #[.val (.int p0), .val (.int p1), .val (.long p2), .second, .val (.long ((290 : Int64) + (p2 &&& (31 : Int64)))), .second, .val (.int (1 : Int32)), .val (.int (0 : Int32)), .val (.ref w1), .unset] [(.int (lcmpW (((290 : Int64) + (p2 &&& (31 : Int64))) - (((290 : Int64) + (p2 &&& (31 : Int64))) / (5 : Int64)) * (5 : Int64)) (0 : Int64)))]))
        by_cases hc42 : (((290 : Int64) + (p2 &&& (31 : Int64))) - (((290 : Int64) + (p2 &&& (31 : Int64))) / (5 : Int64)) * (5 : Int64)) = (0 : Int64)
        · refine own_via (fun _ k => XS.ifNo X41.here hx rfl (hb hby at_132) rfl ((if0 _ _).trans (teq ((lw_eq (((290 : Int64) + (p2 &&& (31 : Int64))) - (((290 : Int64) + (p2 &&& (31 : Int64))) / (5 : Int64)) * (5 : Int64)) (0 : Int64)).mpr hc42)).2) k) ?_
          show own_Go p e below s _ _ _ (T41.setTop (mkF m 135 #[.val (.int p0), .val (.int p1), .val (.long p2), .second, .val (.long ((290 : Int64) + (p2 &&& (31 : Int64)))), .second, .val (.int (1 : Int32)), .val (.int (0 : Int32)), .val (.ref w1), .unset] []))
          refine own_via (fun _ k => XS.iconst X41.here hx rfl (hb hby at_135) k) ?_
          show own_Go p e below s _ _ _ (T41.setTop (mkF m 136 #[.val (.int p0), .val (.int p1), .val (.long p2), .second, .val (.long ((290 : Int64) + (p2 &&& (31 : Int64)))), .second, .val (.int (1 : Int32)), .val (.int (0 : Int32)), .val (.ref w1), .unset] [(.int (1 : Int32))]))
          refine own_via (fun _ k => XS.goto X41.here hx rfl (pc0 := 136) (pc' := 140) rfl (hb hby at_136) (by decide) (by decide) k) ?_
          show own_Go p e below s _ _ _ (T41.setTop (mkF m 140 #[.val (.int p0), .val (.int p1), .val (.long p2), .second, .val (.long ((290 : Int64) + (p2 &&& (31 : Int64)))), .second, .val (.int (1 : Int32)), .val (.int (0 : Int32)), .val (.ref w1), .unset] [(.int (1 : Int32))]))
          refine own_via (fun _ k => XS.istore X41.here hx rfl (hb hby at_140) rfl (l' := #[.val (.int p0), .val (.int p1), .val (.long p2), .second, .val (.long ((290 : Int64) + (p2 &&& (31 : Int64)))), .second, .val (.int (1 : Int32)), .val (.int (0 : Int32)), .val (.ref w1), .val (.int (1 : Int32))]) rfl k) ?_
          show own_Go p e below s _ _ _ (T41.setTop (mkF m 142 #[.val (.int p0), .val (.int p1), .val (.long p2), .second, .val (.long ((290 : Int64) + (p2 &&& (31 : Int64)))), .second, .val (.int (1 : Int32)), .val (.int (0 : Int32)), .val (.ref w1), .val (.int (1 : Int32))] []))
          refine own_via (fun _ k => XS.goto X41.here hx rfl (pc0 := 142) (pc' := 153) rfl (hb hby at_142) (by decide) (by decide) k) ?_
          show own_Go p e below s _ _ _ (T41.setTop (mkF m 153 #[.val (.int p0), .val (.int p1), .val (.long p2), .second, .val (.long ((290 : Int64) + (p2 &&& (31 : Int64)))), .second, .val (.int (1 : Int32)), .val (.int (0 : Int32)), .val (.ref w1), .val (.int (1 : Int32))] []))
          refine own_via (fun _ k => XS.aload X41.here hx rfl (hb hby at_153) rfl rfl k) ?_
          show own_Go p e below s _ _ _ (T41.setTop (mkF m 155 #[.val (.int p0), .val (.int p1), .val (.long p2), .second, .val (.long ((290 : Int64) + (p2 &&& (31 : Int64)))), .second, .val (.int (1 : Int32)), .val (.int (0 : Int32)), .val (.ref w1), .val (.int (1 : Int32))] [(.ref w1)]))
          refine own_via (fun _ k => XS.lload X41.here hx rfl (hb hby at_155) rfl k) ?_
          show own_Go p e below s _ _ _ (T41.setTop (mkF m 157 #[.val (.int p0), .val (.int p1), .val (.long p2), .second, .val (.long ((290 : Int64) + (p2 &&& (31 : Int64)))), .second, .val (.int (1 : Int32)), .val (.int (0 : Int32)), .val (.ref w1), .val (.int (1 : Int32))] [(.long ((290 : Int64) + (p2 &&& (31 : Int64)))), (.ref w1)]))
          obtain ⟨cq43, kq43, q43a, q43b, q43c⟩ := isOf hZ e41 E_w1
          obtain ⟨_, _, ⟨T43, L43, k43, n43⟩, -, X43, ⟨Lc43, hQ43, l43, y43, z43⟩, st43⟩ := X41.virtualBack hx (y := (⟨"com/example/strikeline/strikeline/PennyProgram", "isOnGrid", "(J)Z"⟩ : MethodName)) (z := (⟨"com/example/strikeline/strikeline/PennyProgram", "isOnGrid", "(J)Z"⟩ : MethodName)) hown (mvT hZ (hw _ (List.mem_of_getElem? (i := 8) rfl))) (mvT hZ (hw _ (List.mem_of_getElem? (i := 9) rfl))) (notFace_of_selects (args := #[]) (mvT hZ (hw _ (List.mem_of_getElem? (i := 11) rfl)))) (mvT hZ (hw _ (List.mem_of_getElem? (i := 11) rfl))) (mvT hZ (hw _ (List.mem_of_getElem? (i := 10) rfl))) (by decide) (backOf (W := 0) (rm1_1 l Z a0 hw [] ((290 : Int64) + (p2 &&& (31 : Int64))) w0 w1 w2 h0 n0 Z0 K0) hZ (hw _ (List.mem_of_getElem? (i := 12) rfl)) (hw _ (List.mem_of_getElem? (i := 5) rfl)) (by decide) (by decide)) q43a q43c (g := (mkF m 157 #[.val (.int p0), .val (.int p1), .val (.long p2), .second, .val (.long ((290 : Int64) + (p2 &&& (31 : Int64)))), .second, .val (.int (1 : Int32)), .val (.int (0 : Int32)), .val (.ref w1), .val (.int (1 : Int32))] [(.long ((290 : Int64) + (p2 &&& (31 : Int64)))), (.ref w1)])) rfl (by rw [hml]; rfl) (Steps.refl _) (argsL := [(.long ((290 : Int64) + (p2 &&& (31 : Int64))))]) (rest := []) (lenOf pd0 rfl) rfl (by show 2 * 0 + _ ≤ _; exact Nat.le_of_eq rfl) (hb hby at_157) (fun _ _ => ⟨rfl, e41, (by decide : 0 + 0 ≤ _), (by decide : 0 + 0 ≤ _)⟩)
          dsimp only [Pt.U, Pt.locs, Pt.cells, Pt.slots] at X43 l43 y43 z43 st43 hQ43
          subst l43 y43 z43
          obtain ⟨rfl, e43, hO43⟩ := hQ43
          rcases hO43 with ⟨hr43_0_0, hr43_0_1, rfl⟩ | ⟨hr43_1_0, hr43_1_1, rfl⟩ | ⟨hr43_2_0, hr43_2_1, rfl⟩ | ⟨hr43_3_0, hr43_3_1, rfl⟩
          · exact absurd hr43_0_0 hc38
          · exact absurd hr43_1_0 hc38
          · refine own_tr st43 ?_
            show own_Go p e below s _ _ _ (T43.setTop (mkF m 160 #[.val (.int p0), .val (.int p1), .val (.long p2), .second, .val (.long ((290 : Int64) + (p2 &&& (31 : Int64)))), .second, .val (.int (1 : Int32)), .val (.int (0 : Int32)), .val (.ref w1), .val (.int (1 : Int32))] [(.int (1 : Int32))]))
            refine own_via (fun _ k => XS.iload X43.here hx rfl (hb hby at_160) rfl k) ?_
            show own_Go p e below s _ _ _ (T43.setTop (mkF m 162 #[.val (.int p0), .val (.int p1), .val (.long p2), .second, .val (.long ((290 : Int64) + (p2 &&& (31 : Int64)))), .second, .val (.int (1 : Int32)), .val (.int (0 : Int32)), .val (.ref w1), .val (.int (1 : Int32))] [(.int (1 : Int32)), (.int (1 : Int32))]))
            refine own_via (fun _ k => XS.icmpNo X43.here hx rfl (hb hby at_162) rfl (teq (by decide : (1 : Int32) = (1 : Int32))).2 k) ?_
            show own_Go p e below s _ _ _ (T43.setTop (mkF m 165 #[.val (.int p0), .val (.int p1), .val (.long p2), .second, .val (.long ((290 : Int64) + (p2 &&& (31 : Int64)))), .second, .val (.int (1 : Int32)), .val (.int (0 : Int32)), .val (.ref w1), .val (.int (1 : Int32))] []))
            refine own_via (fun _ k => XS.iconst X43.here hx rfl (hb hby at_165) k) ?_
            show own_Go p e below s _ _ _ (T43.setTop (mkF m 166 #[.val (.int p0), .val (.int p1), .val (.long p2), .second, .val (.long ((290 : Int64) + (p2 &&& (31 : Int64)))), .second, .val (.int (1 : Int32)), .val (.int (0 : Int32)), .val (.ref w1), .val (.int (1 : Int32))] [(.int (1 : Int32))]))
            refine own_via (fun _ k => XS.goto X43.here hx rfl (pc0 := 166) (pc' := 170) rfl (hb hby at_166) (by decide) (by decide) k) ?_
            show own_Go p e below s _ _ _ (T43.setTop (mkF m 170 #[.val (.int p0), .val (.int p1), .val (.long p2), .second, .val (.long ((290 : Int64) + (p2 &&& (31 : Int64)))), .second, .val (.int (1 : Int32)), .val (.int (0 : Int32)), .val (.ref w1), .val (.int (1 : Int32))] [(.int (1 : Int32))]))
            exact own_retZ X43 hx hlk (t := .boolean) Bd.returns (by simp) (hb hby at_170) (z' := (1 : Int32)) (by first | rfl | decide) ⟨rfl, (Fr.nil n0)⟩ (by decide) (by decide)
          · exact absurd hc42 hr43_3_1
        · refine own_via (fun _ k => XS.ifYes X41.here hx rfl (pc0 := 132) (pc' := 139) rfl (hb hby at_132) rfl ((if0 _ _).trans (feq (mt (lw_eq (((290 : Int64) + (p2 &&& (31 : Int64))) - (((290 : Int64) + (p2 &&& (31 : Int64))) / (5 : Int64)) * (5 : Int64)) (0 : Int64)).mp hc42)).2) (by decide) (by decide) k) ?_
          show own_Go p e below s _ _ _ (T41.setTop (mkF m 139 #[.val (.int p0), .val (.int p1), .val (.long p2), .second, .val (.long ((290 : Int64) + (p2 &&& (31 : Int64)))), .second, .val (.int (1 : Int32)), .val (.int (0 : Int32)), .val (.ref w1), .unset] []))
          refine own_via (fun _ k => XS.iconst X41.here hx rfl (hb hby at_139) k) ?_
          show own_Go p e below s _ _ _ (T41.setTop (mkF m 140 #[.val (.int p0), .val (.int p1), .val (.long p2), .second, .val (.long ((290 : Int64) + (p2 &&& (31 : Int64)))), .second, .val (.int (1 : Int32)), .val (.int (0 : Int32)), .val (.ref w1), .unset] [(.int (0 : Int32))]))
          refine own_via (fun _ k => XS.istore X41.here hx rfl (hb hby at_140) rfl (l' := #[.val (.int p0), .val (.int p1), .val (.long p2), .second, .val (.long ((290 : Int64) + (p2 &&& (31 : Int64)))), .second, .val (.int (1 : Int32)), .val (.int (0 : Int32)), .val (.ref w1), .val (.int (0 : Int32))]) rfl k) ?_
          show own_Go p e below s _ _ _ (T41.setTop (mkF m 142 #[.val (.int p0), .val (.int p1), .val (.long p2), .second, .val (.long ((290 : Int64) + (p2 &&& (31 : Int64)))), .second, .val (.int (1 : Int32)), .val (.int (0 : Int32)), .val (.ref w1), .val (.int (0 : Int32))] []))
          refine own_via (fun _ k => XS.goto X41.here hx rfl (pc0 := 142) (pc' := 153) rfl (hb hby at_142) (by decide) (by decide) k) ?_
          show own_Go p e below s _ _ _ (T41.setTop (mkF m 153 #[.val (.int p0), .val (.int p1), .val (.long p2), .second, .val (.long ((290 : Int64) + (p2 &&& (31 : Int64)))), .second, .val (.int (1 : Int32)), .val (.int (0 : Int32)), .val (.ref w1), .val (.int (0 : Int32))] []))
          refine own_via (fun _ k => XS.aload X41.here hx rfl (hb hby at_153) rfl rfl k) ?_
          show own_Go p e below s _ _ _ (T41.setTop (mkF m 155 #[.val (.int p0), .val (.int p1), .val (.long p2), .second, .val (.long ((290 : Int64) + (p2 &&& (31 : Int64)))), .second, .val (.int (1 : Int32)), .val (.int (0 : Int32)), .val (.ref w1), .val (.int (0 : Int32))] [(.ref w1)]))
          refine own_via (fun _ k => XS.lload X41.here hx rfl (hb hby at_155) rfl k) ?_
          show own_Go p e below s _ _ _ (T41.setTop (mkF m 157 #[.val (.int p0), .val (.int p1), .val (.long p2), .second, .val (.long ((290 : Int64) + (p2 &&& (31 : Int64)))), .second, .val (.int (1 : Int32)), .val (.int (0 : Int32)), .val (.ref w1), .val (.int (0 : Int32))] [(.long ((290 : Int64) + (p2 &&& (31 : Int64)))), (.ref w1)]))
          obtain ⟨cq44, kq44, q44a, q44b, q44c⟩ := isOf hZ e41 E_w1
          obtain ⟨_, _, ⟨T44, L44, k44, n44⟩, -, X44, ⟨Lc44, hQ44, l44, y44, z44⟩, st44⟩ := X41.virtualBack hx (y := (⟨"com/example/strikeline/strikeline/PennyProgram", "isOnGrid", "(J)Z"⟩ : MethodName)) (z := (⟨"com/example/strikeline/strikeline/PennyProgram", "isOnGrid", "(J)Z"⟩ : MethodName)) hown (mvT hZ (hw _ (List.mem_of_getElem? (i := 8) rfl))) (mvT hZ (hw _ (List.mem_of_getElem? (i := 9) rfl))) (notFace_of_selects (args := #[]) (mvT hZ (hw _ (List.mem_of_getElem? (i := 11) rfl)))) (mvT hZ (hw _ (List.mem_of_getElem? (i := 11) rfl))) (mvT hZ (hw _ (List.mem_of_getElem? (i := 10) rfl))) (by decide) (backOf (W := 0) (rm1_1 l Z a0 hw [] ((290 : Int64) + (p2 &&& (31 : Int64))) w0 w1 w2 h0 n0 Z0 K0) hZ (hw _ (List.mem_of_getElem? (i := 12) rfl)) (hw _ (List.mem_of_getElem? (i := 5) rfl)) (by decide) (by decide)) q44a q44c (g := (mkF m 157 #[.val (.int p0), .val (.int p1), .val (.long p2), .second, .val (.long ((290 : Int64) + (p2 &&& (31 : Int64)))), .second, .val (.int (1 : Int32)), .val (.int (0 : Int32)), .val (.ref w1), .val (.int (0 : Int32))] [(.long ((290 : Int64) + (p2 &&& (31 : Int64)))), (.ref w1)])) rfl (by rw [hml]; rfl) (Steps.refl _) (argsL := [(.long ((290 : Int64) + (p2 &&& (31 : Int64))))]) (rest := []) (lenOf pd0 rfl) rfl (by show 2 * 0 + _ ≤ _; exact Nat.le_of_eq rfl) (hb hby at_157) (fun _ _ => ⟨rfl, e41, (by decide : 0 + 0 ≤ _), (by decide : 0 + 0 ≤ _)⟩)
          dsimp only [Pt.U, Pt.locs, Pt.cells, Pt.slots] at X44 l44 y44 z44 st44 hQ44
          subst l44 y44 z44
          obtain ⟨rfl, e44, hO44⟩ := hQ44
          rcases hO44 with ⟨hr44_0_0, hr44_0_1, rfl⟩ | ⟨hr44_1_0, hr44_1_1, rfl⟩ | ⟨hr44_2_0, hr44_2_1, rfl⟩ | ⟨hr44_3_0, hr44_3_1, rfl⟩
          · exact absurd hr44_0_0 hc38
          · exact absurd hr44_1_0 hc38
          · exact absurd hr44_2_1 hc42
          · refine own_tr st44 ?_
            show own_Go p e below s _ _ _ (T44.setTop (mkF m 160 #[.val (.int p0), .val (.int p1), .val (.long p2), .second, .val (.long ((290 : Int64) + (p2 &&& (31 : Int64)))), .second, .val (.int (1 : Int32)), .val (.int (0 : Int32)), .val (.ref w1), .val (.int (0 : Int32))] [(.int (0 : Int32))]))
            refine own_via (fun _ k => XS.iload X44.here hx rfl (hb hby at_160) rfl k) ?_
            show own_Go p e below s _ _ _ (T44.setTop (mkF m 162 #[.val (.int p0), .val (.int p1), .val (.long p2), .second, .val (.long ((290 : Int64) + (p2 &&& (31 : Int64)))), .second, .val (.int (1 : Int32)), .val (.int (0 : Int32)), .val (.ref w1), .val (.int (0 : Int32))] [(.int (0 : Int32)), (.int (0 : Int32))]))
            refine own_via (fun _ k => XS.icmpNo X44.here hx rfl (hb hby at_162) rfl (teq (by decide : (0 : Int32) = (0 : Int32))).2 k) ?_
            show own_Go p e below s _ _ _ (T44.setTop (mkF m 165 #[.val (.int p0), .val (.int p1), .val (.long p2), .second, .val (.long ((290 : Int64) + (p2 &&& (31 : Int64)))), .second, .val (.int (1 : Int32)), .val (.int (0 : Int32)), .val (.ref w1), .val (.int (0 : Int32))] []))
            refine own_via (fun _ k => XS.iconst X44.here hx rfl (hb hby at_165) k) ?_
            show own_Go p e below s _ _ _ (T44.setTop (mkF m 166 #[.val (.int p0), .val (.int p1), .val (.long p2), .second, .val (.long ((290 : Int64) + (p2 &&& (31 : Int64)))), .second, .val (.int (1 : Int32)), .val (.int (0 : Int32)), .val (.ref w1), .val (.int (0 : Int32))] [(.int (1 : Int32))]))
            refine own_via (fun _ k => XS.goto X44.here hx rfl (pc0 := 166) (pc' := 170) rfl (hb hby at_166) (by decide) (by decide) k) ?_
            show own_Go p e below s _ _ _ (T44.setTop (mkF m 170 #[.val (.int p0), .val (.int p1), .val (.long p2), .second, .val (.long ((290 : Int64) + (p2 &&& (31 : Int64)))), .second, .val (.int (1 : Int32)), .val (.int (0 : Int32)), .val (.ref w1), .val (.int (0 : Int32))] [(.int (1 : Int32))]))
            exact own_retZ X44 hx hlk (t := .boolean) Bd.returns (by simp) (hb hby at_170) (z' := (1 : Int32)) (by first | rfl | decide) ⟨rfl, (Fr.nil n0)⟩ (by decide) (by decide)
    · rw [hk28]
      show own_Go p e below s _ _ _ (s₁.setTop (mkF m 31 #[.val (.int p0), .val (.int p1), .val (.long p2), .second, .val (.long ((290 : Int64) + (p2 &&& (31 : Int64)))), .second, .unset, .unset, .unset, .unset] [(.int (2 : Int32))]))
      refine own_via (fun _ k => XS.istore X0.here hx rfl (hb hby at_31) rfl (l' := #[.val (.int p0), .val (.int p1), .val (.long p2), .second, .val (.long ((290 : Int64) + (p2 &&& (31 : Int64)))), .second, .val (.int (2 : Int32)), .unset, .unset, .unset]) rfl k) ?_
      show own_Go p e below s _ _ _ (s₁.setTop (mkF m 33 #[.val (.int p0), .val (.int p1), .val (.long p2), .second, .val (.long ((290 : Int64) + (p2 &&& (31 : Int64)))), .second, .val (.int (2 : Int32)), .unset, .unset, .unset] []))
      refine own_via (fun _ k => XS.lload X0.here hx rfl (hb hby at_33) rfl k) ?_
      show own_Go p e below s _ _ _ (s₁.setTop (mkF m 35 #[.val (.int p0), .val (.int p1), .val (.long p2), .second, .val (.long ((290 : Int64) + (p2 &&& (31 : Int64)))), .second, .val (.int (2 : Int32)), .unset, .unset, .unset] [(.long ((290 : Int64) + (p2 &&& (31 : Int64))))]))
      refine own_via (fun _ k => X0.ldc2Long hx hown (mvT hZ (hw _ (List.mem_of_getElem? (i := 3) rfl))) (g := (mkF m 35 #[.val (.int p0), .val (.int p1), .val (.long p2), .second, .val (.long ((290 : Int64) + (p2 &&& (31 : Int64)))), .second, .val (.int (2 : Int32)), .unset, .unset, .unset] [(.long ((290 : Int64) + (p2 &&& (31 : Int64))))])) rfl (hb hby at_35) _ k) ?_
      show own_Go p e below s _ _ _ (s₁.setTop (mkF m 38 #[.val (.int p0), .val (.int p1), .val (.long p2), .second, .val (.long ((290 : Int64) + (p2 &&& (31 : Int64)))), .second, .val (.int (2 : Int32)), .unset, .unset, .unset] [(.long (300 : Int64)), (.long ((290 : Int64) + (p2 &&& (31 : Int64))))]))
      refine own_via (fun _ k => XS.lcmp X0.here hx rfl (hb hby at_38) rfl k) ?_
      show own_Go p e below s _ _ _ (s₁.setTop (mkF m 39 #[.val (.int p0), .val (.int p1), .val (.long p2), .second, .val (.long ((290 : Int64) + (p2 &&& (31 : Int64)))), .second, .val (.int (2 : Int32)), .unset, .unset, .unset] [(.int (lcmpW ((290 : Int64) + (p2 &&& (31 : Int64))) (300 : Int64)))]))
      by_cases hc45 : ((290 : Int64) + (p2 &&& (31 : Int64))) < (300 : Int64)
      · refine own_via (fun _ k => XS.ifNo X0.here hx rfl (hb hby at_39) rfl ((if0 _ _).trans (tlt ((lw_lt ((290 : Int64) + (p2 &&& (31 : Int64))) (300 : Int64)).mpr hc45)).2.1) k) ?_
        show own_Go p e below s _ _ _ (s₁.setTop (mkF m 42 #[.val (.int p0), .val (.int p1), .val (.long p2), .second, .val (.long ((290 : Int64) + (p2 &&& (31 : Int64)))), .second, .val (.int (2 : Int32)), .unset, .unset, .unset] []))
        refine own_via (fun _ k => XS.iconst X0.here hx rfl (hb hby at_42) k) ?_
        show own_Go p e below s _ _ _ (s₁.setTop (mkF m 43 #[.val (.int p0), .val (.int p1), .val (.long p2), .second, .val (.long ((290 : Int64) + (p2 &&& (31 : Int64)))), .second, .val (.int (2 : Int32)), .unset, .unset, .unset] [(.int (1 : Int32))]))
        refine own_via (fun _ k => XS.goto X0.here hx rfl (pc0 := 43) (pc' := 47) rfl (hb hby at_43) (by decide) (by decide) k) ?_
        show own_Go p e below s _ _ _ (s₁.setTop (mkF m 47 #[.val (.int p0), .val (.int p1), .val (.long p2), .second, .val (.long ((290 : Int64) + (p2 &&& (31 : Int64)))), .second, .val (.int (2 : Int32)), .unset, .unset, .unset] [(.int (1 : Int32))]))
        refine own_via (fun _ k => XS.istore X0.here hx rfl (hb hby at_47) rfl (l' := #[.val (.int p0), .val (.int p1), .val (.long p2), .second, .val (.long ((290 : Int64) + (p2 &&& (31 : Int64)))), .second, .val (.int (2 : Int32)), .val (.int (1 : Int32)), .unset, .unset]) rfl k) ?_
        show own_Go p e below s _ _ _ (s₁.setTop (mkF m 49 #[.val (.int p0), .val (.int p1), .val (.long p2), .second, .val (.long ((290 : Int64) + (p2 &&& (31 : Int64)))), .second, .val (.int (2 : Int32)), .val (.int (1 : Int32)), .unset, .unset] []))
        refine own_via (fun _ k => XS.iload X0.here hx rfl (hb hby at_49) rfl k) ?_
        show own_Go p e below s _ _ _ (s₁.setTop (mkF m 51 #[.val (.int p0), .val (.int p1), .val (.long p2), .second, .val (.long ((290 : Int64) + (p2 &&& (31 : Int64)))), .second, .val (.int (2 : Int32)), .val (.int (1 : Int32)), .unset, .unset] [(.int (2 : Int32))]))
        refine own_via (fun _ k => XS.ifYes X0.here hx rfl (pc0 := 51) (pc' := 104) rfl (hb hby at_51) rfl ((if0 _ _).trans (feq (by decide : ¬ ((2 : Int32) = (0 : Int32)))).2) (by decide) (by decide) k) ?_
        show own_Go p e below s _ _ _ (s₁.setTop (mkF m 104 #[.val (.int p0), .val (.int p1), .val (.long p2), .second, .val (.long ((290 : Int64) + (p2 &&& (31 : Int64)))), .second, .val (.int (2 : Int32)), .val (.int (1 : Int32)), .unset, .unset] []))
        refine own_via (fun _ k => XS.iload X0.here hx rfl (hb hby at_104) rfl k) ?_
        show own_Go p e below s _ _ _ (s₁.setTop (mkF m 106 #[.val (.int p0), .val (.int p1), .val (.long p2), .second, .val (.long ((290 : Int64) + (p2 &&& (31 : Int64)))), .second, .val (.int (2 : Int32)), .val (.int (1 : Int32)), .unset, .unset] [(.int (2 : Int32))]))
        refine own_via (fun _ k => XS.iconst X0.here hx rfl (hb hby at_106) k) ?_
        show own_Go p e below s _ _ _ (s₁.setTop (mkF m 107 #[.val (.int p0), .val (.int p1), .val (.long p2), .second, .val (.long ((290 : Int64) + (p2 &&& (31 : Int64)))), .second, .val (.int (2 : Int32)), .val (.int (1 : Int32)), .unset, .unset] [(.int (1 : Int32)), (.int (2 : Int32))]))
        refine own_via (fun _ k => XS.icmpYes X0.here hx rfl (pc0 := 107) (pc' := 145) rfl (hb hby at_107) rfl (feq (by decide : ¬ ((2 : Int32) = (1 : Int32)))).2 (by decide) (by decide) k) ?_
        show own_Go p e below s _ _ _ (s₁.setTop (mkF m 145 #[.val (.int p0), .val (.int p1), .val (.long p2), .second, .val (.long ((290 : Int64) + (p2 &&& (31 : Int64)))), .second, .val (.int (2 : Int32)), .val (.int (1 : Int32)), .unset, .unset] []))
        obtain ⟨T46, X46, e46, st46⟩ := getS2 X0 hx hZ hown (host := "") (Or.inl (hw _ (List.mem_of_getElem? (i := 22) rfl))) Via.refl e0 S_w2 (g := (mkF m 145 #[.val (.int p0), .val (.int p1), .val (.long p2), .second, .val (.long ((290 : Int64) + (p2 &&& (31 : Int64)))), .second, .val (.int (2 : Int32)), .val (.int (1 : Int32)), .unset, .unset] [])) rfl (hb hby at_145)
        refine own_via st46 ?_
        show own_Go p e below s _ _ _ (T46.setTop (mkF m 148 #[.val (.int p0), .val (.int p1), .val (.long p2), .second, .val (.long ((290 : Int64) + (p2 &&& (31 : Int64)))), .second, .val (.int (2 : Int32)), .val (.int (1 : Int32)), .unset, .unset] [(.ref w2)]))
        refine own_via (fun _ k => XS.astore X46.here hx rfl (hb hby at_148) rfl rfl (l' := #[.val (.int p0), .val (.int p1), .val (.long p2), .second, .val (.long ((290 : Int64) + (p2 &&& (31 : Int64)))), .second, .val (.int (2 : Int32)), .val (.int (1 : Int32)), .val (.ref w2), .unset]) rfl k) ?_
        show own_Go p e below s _ _ _ (T46.setTop (mkF m 150 #[.val (.int p0), .val (.int p1), .val (.long p2), .second, .val (.long ((290 : Int64) + (p2 &&& (31 : Int64)))), .second, .val (.int (2 : Int32)), .val (.int (1 : Int32)), .val (.ref w2), .unset] []))
        refine own_via (fun _ k => XS.iconst X46.here hx rfl (hb hby at_150) k) ?_
        show own_Go p e below s _ _ _ (T46.setTop (mkF m 151 #[.val (.int p0), .val (.int p1), .val (.long p2), .second, .val (.long ((290 : Int64) + (p2 &&& (31 : Int64)))), .second, .val (.int (2 : Int32)), .val (.int (1 : Int32)), .val (.ref w2), .unset] [(.int (1 : Int32))]))
        refine own_via (fun _ k => XS.istore X46.here hx rfl (hb hby at_151) rfl (l' := #[.val (.int p0), .val (.int p1), .val (.long p2), .second, .val (.long ((290 : Int64) + (p2 &&& (31 : Int64)))), .second, .val (.int (2 : Int32)), .val (.int (1 : Int32)), .val (.ref w2), .val (.int (1 : Int32))]) rfl k) ?_
        show own_Go p e below s _ _ _ (T46.setTop (mkF m 153 #[.val (.int p0), .val (.int p1), .val (.long p2), .second, .val (.long ((290 : Int64) + (p2 &&& (31 : Int64)))), .second, .val (.int (2 : Int32)), .val (.int (1 : Int32)), .val (.ref w2), .val (.int (1 : Int32))] []))
        refine own_via (fun _ k => XS.aload X46.here hx rfl (hb hby at_153) rfl rfl k) ?_
        show own_Go p e below s _ _ _ (T46.setTop (mkF m 155 #[.val (.int p0), .val (.int p1), .val (.long p2), .second, .val (.long ((290 : Int64) + (p2 &&& (31 : Int64)))), .second, .val (.int (2 : Int32)), .val (.int (1 : Int32)), .val (.ref w2), .val (.int (1 : Int32))] [(.ref w2)]))
        refine own_via (fun _ k => XS.lload X46.here hx rfl (hb hby at_155) rfl k) ?_
        show own_Go p e below s _ _ _ (T46.setTop (mkF m 157 #[.val (.int p0), .val (.int p1), .val (.long p2), .second, .val (.long ((290 : Int64) + (p2 &&& (31 : Int64)))), .second, .val (.int (2 : Int32)), .val (.int (1 : Int32)), .val (.ref w2), .val (.int (1 : Int32))] [(.long ((290 : Int64) + (p2 &&& (31 : Int64)))), (.ref w2)]))
        obtain ⟨cq47, kq47, q47a, q47b, q47c⟩ := isOf hZ e46 E_w2
        obtain ⟨_, _, ⟨T47, L47, k47, n47⟩, -, X47, ⟨Lc47, hQ47, l47, y47, z47⟩, st47⟩ := X46.virtualBack hx (y := (⟨"com/example/strikeline/strikeline/PennyProgram", "isOnGrid", "(J)Z"⟩ : MethodName)) (z := (⟨"com/example/strikeline/strikeline/PennyProgram", "isOnGrid", "(J)Z"⟩ : MethodName)) hown (mvT hZ (hw _ (List.mem_of_getElem? (i := 8) rfl))) (mvT hZ (hw _ (List.mem_of_getElem? (i := 9) rfl))) (notFace_of_selects (args := #[]) (mvT hZ (hw _ (List.mem_of_getElem? (i := 11) rfl)))) (mvT hZ (hw _ (List.mem_of_getElem? (i := 11) rfl))) (mvT hZ (hw _ (List.mem_of_getElem? (i := 10) rfl))) (by decide) (backOf (W := 0) (rm1_2 l Z a0 hw [] ((290 : Int64) + (p2 &&& (31 : Int64))) w0 w1 w2 h0 n0 Z0 K0) hZ (hw _ (List.mem_of_getElem? (i := 12) rfl)) (hw _ (List.mem_of_getElem? (i := 5) rfl)) (by decide) (by decide)) q47a q47c (g := (mkF m 157 #[.val (.int p0), .val (.int p1), .val (.long p2), .second, .val (.long ((290 : Int64) + (p2 &&& (31 : Int64)))), .second, .val (.int (2 : Int32)), .val (.int (1 : Int32)), .val (.ref w2), .val (.int (1 : Int32))] [(.long ((290 : Int64) + (p2 &&& (31 : Int64)))), (.ref w2)])) rfl (by rw [hml]; rfl) (Steps.refl _) (argsL := [(.long ((290 : Int64) + (p2 &&& (31 : Int64))))]) (rest := []) (lenOf pd0 rfl) rfl (by show 2 * 0 + _ ≤ _; exact Nat.le_of_eq rfl) (hb hby at_157) (fun _ _ => ⟨rfl, e46, (by decide : 0 + 0 ≤ _), (by decide : 0 + 0 ≤ _)⟩)
        dsimp only [Pt.U, Pt.locs, Pt.cells, Pt.slots] at X47 l47 y47 z47 st47 hQ47
        subst l47 y47 z47
        obtain ⟨rfl, e47, hO47⟩ := hQ47
        rcases hO47 with ⟨hr47_0_0, hr47_0_1, rfl⟩ | ⟨hr47_1_0, hr47_1_1, rfl⟩ | ⟨hr47_2_0, hr47_2_1, rfl⟩ | ⟨hr47_3_0, hr47_3_1, rfl⟩
        · refine own_tr st47 ?_
          show own_Go p e below s _ _ _ (T47.setTop (mkF m 160 #[.val (.int p0), .val (.int p1), .val (.long p2), .second, .val (.long ((290 : Int64) + (p2 &&& (31 : Int64)))), .second, .val (.int (2 : Int32)), .val (.int (1 : Int32)), .val (.ref w2), .val (.int (1 : Int32))] [(.int (1 : Int32))]))
          refine own_via (fun _ k => XS.iload X47.here hx rfl (hb hby at_160) rfl k) ?_
          show own_Go p e below s _ _ _ (T47.setTop (mkF m 162 #[.val (.int p0), .val (.int p1), .val (.long p2), .second, .val (.long ((290 : Int64) + (p2 &&& (31 : Int64)))), .second, .val (.int (2 : Int32)), .val (.int (1 : Int32)), .val (.ref w2), .val (.int (1 : Int32))] [(.int (1 : Int32)), (.int (1 : Int32))]))
          refine own_via (fun _ k => XS.icmpNo X47.here hx rfl (hb hby at_162) rfl (teq (by decide : (1 : Int32) = (1 : Int32))).2 k) ?_
          show own_Go p e below s _ _ _ (T47.setTop (mkF m 165 #[.val (.int p0), .val (.int p1), .val (.long p2), .second, .val (.long ((290 : Int64) + (p2 &&& (31 : Int64)))), .second, .val (.int (2 : Int32)), .val (.int (1 : Int32)), .val (.ref w2), .val (.int (1 : Int32))] []))
          refine own_via (fun _ k => XS.iconst X47.here hx rfl (hb hby at_165) k) ?_
          show own_Go p e below s _ _ _ (T47.setTop (mkF m 166 #[.val (.int p0), .val (.int p1), .val (.long p2), .second, .val (.long ((290 : Int64) + (p2 &&& (31 : Int64)))), .second, .val (.int (2 : Int32)), .val (.int (1 : Int32)), .val (.ref w2), .val (.int (1 : Int32))] [(.int (1 : Int32))]))
          refine own_via (fun _ k => XS.goto X47.here hx rfl (pc0 := 166) (pc' := 170) rfl (hb hby at_166) (by decide) (by decide) k) ?_
          show own_Go p e below s _ _ _ (T47.setTop (mkF m 170 #[.val (.int p0), .val (.int p1), .val (.long p2), .second, .val (.long ((290 : Int64) + (p2 &&& (31 : Int64)))), .second, .val (.int (2 : Int32)), .val (.int (1 : Int32)), .val (.ref w2), .val (.int (1 : Int32))] [(.int (1 : Int32))]))
          exact own_retZ X47 hx hlk (t := .boolean) Bd.returns (by simp) (hb hby at_170) (z' := (1 : Int32)) (by first | rfl | decide) ⟨rfl, (Fr.nil n0)⟩ (by decide) (by decide)
        · refine own_tr st47 ?_
          show own_Go p e below s _ _ _ (T47.setTop (mkF m 160 #[.val (.int p0), .val (.int p1), .val (.long p2), .second, .val (.long ((290 : Int64) + (p2 &&& (31 : Int64)))), .second, .val (.int (2 : Int32)), .val (.int (1 : Int32)), .val (.ref w2), .val (.int (1 : Int32))] [(.int (0 : Int32))]))
          refine own_via (fun _ k => XS.iload X47.here hx rfl (hb hby at_160) rfl k) ?_
          show own_Go p e below s _ _ _ (T47.setTop (mkF m 162 #[.val (.int p0), .val (.int p1), .val (.long p2), .second, .val (.long ((290 : Int64) + (p2 &&& (31 : Int64)))), .second, .val (.int (2 : Int32)), .val (.int (1 : Int32)), .val (.ref w2), .val (.int (1 : Int32))] [(.int (1 : Int32)), (.int (0 : Int32))]))
          refine own_via (fun _ k => XS.icmpYes X47.here hx rfl (pc0 := 162) (pc' := 169) rfl (hb hby at_162) rfl (feq (by decide : ¬ ((0 : Int32) = (1 : Int32)))).2 (by decide) (by decide) k) ?_
          show own_Go p e below s _ _ _ (T47.setTop (mkF m 169 #[.val (.int p0), .val (.int p1), .val (.long p2), .second, .val (.long ((290 : Int64) + (p2 &&& (31 : Int64)))), .second, .val (.int (2 : Int32)), .val (.int (1 : Int32)), .val (.ref w2), .val (.int (1 : Int32))] []))
          refine own_via (fun _ k => XS.iconst X47.here hx rfl (hb hby at_169) k) ?_
          show own_Go p e below s _ _ _ (T47.setTop (mkF m 170 #[.val (.int p0), .val (.int p1), .val (.long p2), .second, .val (.long ((290 : Int64) + (p2 &&& (31 : Int64)))), .second, .val (.int (2 : Int32)), .val (.int (1 : Int32)), .val (.ref w2), .val (.int (1 : Int32))] [(.int (0 : Int32))]))
          exact absurd (own_rem1 _) hr47_1_1
        · exact absurd hc45 hr47_2_0
        · exact absurd hc45 hr47_3_0
      · refine own_via (fun _ k => XS.ifYes X0.here hx rfl (pc0 := 39) (pc' := 46) rfl (hb hby at_39) rfl ((if0 _ _).trans (flt (mt (lw_lt ((290 : Int64) + (p2 &&& (31 : Int64))) (300 : Int64)).mp hc45)).2.1) (by decide) (by decide) k) ?_
        show own_Go p e below s _ _ _ (s₁.setTop (mkF m 46 #[.val (.int p0), .val (.int p1), .val (.long p2), .second, .val (.long ((290 : Int64) + (p2 &&& (31 : Int64)))), .second, .val (.int (2 : Int32)), .unset, .unset, .unset] []))
        refine own_via (fun _ k => XS.iconst X0.here hx rfl (hb hby at_46) k) ?_
        show own_Go p e below s _ _ _ (s₁.setTop (mkF m 47 #[.val (.int p0), .val (.int p1), .val (.long p2), .second, .val (.long ((290 : Int64) + (p2 &&& (31 : Int64)))), .second, .val (.int (2 : Int32)), .unset, .unset, .unset] [(.int (0 : Int32))]))
        refine own_via (fun _ k => XS.istore X0.here hx rfl (hb hby at_47) rfl (l' := #[.val (.int p0), .val (.int p1), .val (.long p2), .second, .val (.long ((290 : Int64) + (p2 &&& (31 : Int64)))), .second, .val (.int (2 : Int32)), .val (.int (0 : Int32)), .unset, .unset]) rfl k) ?_
        show own_Go p e below s _ _ _ (s₁.setTop (mkF m 49 #[.val (.int p0), .val (.int p1), .val (.long p2), .second, .val (.long ((290 : Int64) + (p2 &&& (31 : Int64)))), .second, .val (.int (2 : Int32)), .val (.int (0 : Int32)), .unset, .unset] []))
        refine own_via (fun _ k => XS.iload X0.here hx rfl (hb hby at_49) rfl k) ?_
        show own_Go p e below s _ _ _ (s₁.setTop (mkF m 51 #[.val (.int p0), .val (.int p1), .val (.long p2), .second, .val (.long ((290 : Int64) + (p2 &&& (31 : Int64)))), .second, .val (.int (2 : Int32)), .val (.int (0 : Int32)), .unset, .unset] [(.int (2 : Int32))]))
        refine own_via (fun _ k => XS.ifYes X0.here hx rfl (pc0 := 51) (pc' := 104) rfl (hb hby at_51) rfl ((if0 _ _).trans (feq (by decide : ¬ ((2 : Int32) = (0 : Int32)))).2) (by decide) (by decide) k) ?_
        show own_Go p e below s _ _ _ (s₁.setTop (mkF m 104 #[.val (.int p0), .val (.int p1), .val (.long p2), .second, .val (.long ((290 : Int64) + (p2 &&& (31 : Int64)))), .second, .val (.int (2 : Int32)), .val (.int (0 : Int32)), .unset, .unset] []))
        refine own_via (fun _ k => XS.iload X0.here hx rfl (hb hby at_104) rfl k) ?_
        show own_Go p e below s _ _ _ (s₁.setTop (mkF m 106 #[.val (.int p0), .val (.int p1), .val (.long p2), .second, .val (.long ((290 : Int64) + (p2 &&& (31 : Int64)))), .second, .val (.int (2 : Int32)), .val (.int (0 : Int32)), .unset, .unset] [(.int (2 : Int32))]))
        refine own_via (fun _ k => XS.iconst X0.here hx rfl (hb hby at_106) k) ?_
        show own_Go p e below s _ _ _ (s₁.setTop (mkF m 107 #[.val (.int p0), .val (.int p1), .val (.long p2), .second, .val (.long ((290 : Int64) + (p2 &&& (31 : Int64)))), .second, .val (.int (2 : Int32)), .val (.int (0 : Int32)), .unset, .unset] [(.int (1 : Int32)), (.int (2 : Int32))]))
        refine own_via (fun _ k => XS.icmpYes X0.here hx rfl (pc0 := 107) (pc' := 145) rfl (hb hby at_107) rfl (feq (by decide : ¬ ((2 : Int32) = (1 : Int32)))).2 (by decide) (by decide) k) ?_
        show own_Go p e below s _ _ _ (s₁.setTop (mkF m 145 #[.val (.int p0), .val (.int p1), .val (.long p2), .second, .val (.long ((290 : Int64) + (p2 &&& (31 : Int64)))), .second, .val (.int (2 : Int32)), .val (.int (0 : Int32)), .unset, .unset] []))
        obtain ⟨T48, X48, e48, st48⟩ := getS2 X0 hx hZ hown (host := "") (Or.inl (hw _ (List.mem_of_getElem? (i := 22) rfl))) Via.refl e0 S_w2 (g := (mkF m 145 #[.val (.int p0), .val (.int p1), .val (.long p2), .second, .val (.long ((290 : Int64) + (p2 &&& (31 : Int64)))), .second, .val (.int (2 : Int32)), .val (.int (0 : Int32)), .unset, .unset] [])) rfl (hb hby at_145)
        refine own_via st48 ?_
        show own_Go p e below s _ _ _ (T48.setTop (mkF m 148 #[.val (.int p0), .val (.int p1), .val (.long p2), .second, .val (.long ((290 : Int64) + (p2 &&& (31 : Int64)))), .second, .val (.int (2 : Int32)), .val (.int (0 : Int32)), .unset, .unset] [(.ref w2)]))
        refine own_via (fun _ k => XS.astore X48.here hx rfl (hb hby at_148) rfl rfl (l' := #[.val (.int p0), .val (.int p1), .val (.long p2), .second, .val (.long ((290 : Int64) + (p2 &&& (31 : Int64)))), .second, .val (.int (2 : Int32)), .val (.int (0 : Int32)), .val (.ref w2), .unset]) rfl k) ?_
        show own_Go p e below s _ _ _ (T48.setTop (mkF m 150 #[.val (.int p0), .val (.int p1), .val (.long p2), .second, .val (.long ((290 : Int64) + (p2 &&& (31 : Int64)))), .second, .val (.int (2 : Int32)), .val (.int (0 : Int32)), .val (.ref w2), .unset] []))
        refine own_via (fun _ k => XS.iconst X48.here hx rfl (hb hby at_150) k) ?_
        show own_Go p e below s _ _ _ (T48.setTop (mkF m 151 #[.val (.int p0), .val (.int p1), .val (.long p2), .second, .val (.long ((290 : Int64) + (p2 &&& (31 : Int64)))), .second, .val (.int (2 : Int32)), .val (.int (0 : Int32)), .val (.ref w2), .unset] [(.int (1 : Int32))]))
        refine own_via (fun _ k => XS.istore X48.here hx rfl (hb hby at_151) rfl (l' := #[.val (.int p0), .val (.int p1), .val (.long p2), .second, .val (.long ((290 : Int64) + (p2 &&& (31 : Int64)))), .second, .val (.int (2 : Int32)), .val (.int (0 : Int32)), .val (.ref w2), .val (.int (1 : Int32))]) rfl k) ?_
        show own_Go p e below s _ _ _ (T48.setTop (mkF m 153 #[.val (.int p0), .val (.int p1), .val (.long p2), .second, .val (.long ((290 : Int64) + (p2 &&& (31 : Int64)))), .second, .val (.int (2 : Int32)), .val (.int (0 : Int32)), .val (.ref w2), .val (.int (1 : Int32))] []))
        refine own_via (fun _ k => XS.aload X48.here hx rfl (hb hby at_153) rfl rfl k) ?_
        show own_Go p e below s _ _ _ (T48.setTop (mkF m 155 #[.val (.int p0), .val (.int p1), .val (.long p2), .second, .val (.long ((290 : Int64) + (p2 &&& (31 : Int64)))), .second, .val (.int (2 : Int32)), .val (.int (0 : Int32)), .val (.ref w2), .val (.int (1 : Int32))] [(.ref w2)]))
        refine own_via (fun _ k => XS.lload X48.here hx rfl (hb hby at_155) rfl k) ?_
        show own_Go p e below s _ _ _ (T48.setTop (mkF m 157 #[.val (.int p0), .val (.int p1), .val (.long p2), .second, .val (.long ((290 : Int64) + (p2 &&& (31 : Int64)))), .second, .val (.int (2 : Int32)), .val (.int (0 : Int32)), .val (.ref w2), .val (.int (1 : Int32))] [(.long ((290 : Int64) + (p2 &&& (31 : Int64)))), (.ref w2)]))
        obtain ⟨cq49, kq49, q49a, q49b, q49c⟩ := isOf hZ e48 E_w2
        obtain ⟨_, _, ⟨T49, L49, k49, n49⟩, -, X49, ⟨Lc49, hQ49, l49, y49, z49⟩, st49⟩ := X48.virtualBack hx (y := (⟨"com/example/strikeline/strikeline/PennyProgram", "isOnGrid", "(J)Z"⟩ : MethodName)) (z := (⟨"com/example/strikeline/strikeline/PennyProgram", "isOnGrid", "(J)Z"⟩ : MethodName)) hown (mvT hZ (hw _ (List.mem_of_getElem? (i := 8) rfl))) (mvT hZ (hw _ (List.mem_of_getElem? (i := 9) rfl))) (notFace_of_selects (args := #[]) (mvT hZ (hw _ (List.mem_of_getElem? (i := 11) rfl)))) (mvT hZ (hw _ (List.mem_of_getElem? (i := 11) rfl))) (mvT hZ (hw _ (List.mem_of_getElem? (i := 10) rfl))) (by decide) (backOf (W := 0) (rm1_2 l Z a0 hw [] ((290 : Int64) + (p2 &&& (31 : Int64))) w0 w1 w2 h0 n0 Z0 K0) hZ (hw _ (List.mem_of_getElem? (i := 12) rfl)) (hw _ (List.mem_of_getElem? (i := 5) rfl)) (by decide) (by decide)) q49a q49c (g := (mkF m 157 #[.val (.int p0), .val (.int p1), .val (.long p2), .second, .val (.long ((290 : Int64) + (p2 &&& (31 : Int64)))), .second, .val (.int (2 : Int32)), .val (.int (0 : Int32)), .val (.ref w2), .val (.int (1 : Int32))] [(.long ((290 : Int64) + (p2 &&& (31 : Int64)))), (.ref w2)])) rfl (by rw [hml]; rfl) (Steps.refl _) (argsL := [(.long ((290 : Int64) + (p2 &&& (31 : Int64))))]) (rest := []) (lenOf pd0 rfl) rfl (by show 2 * 0 + _ ≤ _; exact Nat.le_of_eq rfl) (hb hby at_157) (fun _ _ => ⟨rfl, e48, (by decide : 0 + 0 ≤ _), (by decide : 0 + 0 ≤ _)⟩)
        dsimp only [Pt.U, Pt.locs, Pt.cells, Pt.slots] at X49 l49 y49 z49 st49 hQ49
        subst l49 y49 z49
        obtain ⟨rfl, e49, hO49⟩ := hQ49
        rcases hO49 with ⟨hr49_0_0, hr49_0_1, rfl⟩ | ⟨hr49_1_0, hr49_1_1, rfl⟩ | ⟨hr49_2_0, hr49_2_1, rfl⟩ | ⟨hr49_3_0, hr49_3_1, rfl⟩
        · exact absurd hr49_0_0 hc45
        · exact absurd hr49_1_0 hc45
        · refine own_tr st49 ?_
          show own_Go p e below s _ _ _ (T49.setTop (mkF m 160 #[.val (.int p0), .val (.int p1), .val (.long p2), .second, .val (.long ((290 : Int64) + (p2 &&& (31 : Int64)))), .second, .val (.int (2 : Int32)), .val (.int (0 : Int32)), .val (.ref w2), .val (.int (1 : Int32))] [(.int (1 : Int32))]))
          refine own_via (fun _ k => XS.iload X49.here hx rfl (hb hby at_160) rfl k) ?_
          show own_Go p e below s _ _ _ (T49.setTop (mkF m 162 #[.val (.int p0), .val (.int p1), .val (.long p2), .second, .val (.long ((290 : Int64) + (p2 &&& (31 : Int64)))), .second, .val (.int (2 : Int32)), .val (.int (0 : Int32)), .val (.ref w2), .val (.int (1 : Int32))] [(.int (1 : Int32)), (.int (1 : Int32))]))
          refine own_via (fun _ k => XS.icmpNo X49.here hx rfl (hb hby at_162) rfl (teq (by decide : (1 : Int32) = (1 : Int32))).2 k) ?_
          show own_Go p e below s _ _ _ (T49.setTop (mkF m 165 #[.val (.int p0), .val (.int p1), .val (.long p2), .second, .val (.long ((290 : Int64) + (p2 &&& (31 : Int64)))), .second, .val (.int (2 : Int32)), .val (.int (0 : Int32)), .val (.ref w2), .val (.int (1 : Int32))] []))
          refine own_via (fun _ k => XS.iconst X49.here hx rfl (hb hby at_165) k) ?_
          show own_Go p e below s _ _ _ (T49.setTop (mkF m 166 #[.val (.int p0), .val (.int p1), .val (.long p2), .second, .val (.long ((290 : Int64) + (p2 &&& (31 : Int64)))), .second, .val (.int (2 : Int32)), .val (.int (0 : Int32)), .val (.ref w2), .val (.int (1 : Int32))] [(.int (1 : Int32))]))
          refine own_via (fun _ k => XS.goto X49.here hx rfl (pc0 := 166) (pc' := 170) rfl (hb hby at_166) (by decide) (by decide) k) ?_
          show own_Go p e below s _ _ _ (T49.setTop (mkF m 170 #[.val (.int p0), .val (.int p1), .val (.long p2), .second, .val (.long ((290 : Int64) + (p2 &&& (31 : Int64)))), .second, .val (.int (2 : Int32)), .val (.int (0 : Int32)), .val (.ref w2), .val (.int (1 : Int32))] [(.int (1 : Int32))]))
          exact own_retZ X49 hx hlk (t := .boolean) Bd.returns (by simp) (hb hby at_170) (z' := (1 : Int32)) (by first | rfl | decide) ⟨rfl, (Fr.nil n0)⟩ (by decide) (by decide)
        · refine own_tr st49 ?_
          show own_Go p e below s _ _ _ (T49.setTop (mkF m 160 #[.val (.int p0), .val (.int p1), .val (.long p2), .second, .val (.long ((290 : Int64) + (p2 &&& (31 : Int64)))), .second, .val (.int (2 : Int32)), .val (.int (0 : Int32)), .val (.ref w2), .val (.int (1 : Int32))] [(.int (0 : Int32))]))
          refine own_via (fun _ k => XS.iload X49.here hx rfl (hb hby at_160) rfl k) ?_
          show own_Go p e below s _ _ _ (T49.setTop (mkF m 162 #[.val (.int p0), .val (.int p1), .val (.long p2), .second, .val (.long ((290 : Int64) + (p2 &&& (31 : Int64)))), .second, .val (.int (2 : Int32)), .val (.int (0 : Int32)), .val (.ref w2), .val (.int (1 : Int32))] [(.int (1 : Int32)), (.int (0 : Int32))]))
          refine own_via (fun _ k => XS.icmpYes X49.here hx rfl (pc0 := 162) (pc' := 169) rfl (hb hby at_162) rfl (feq (by decide : ¬ ((0 : Int32) = (1 : Int32)))).2 (by decide) (by decide) k) ?_
          show own_Go p e below s _ _ _ (T49.setTop (mkF m 169 #[.val (.int p0), .val (.int p1), .val (.long p2), .second, .val (.long ((290 : Int64) + (p2 &&& (31 : Int64)))), .second, .val (.int (2 : Int32)), .val (.int (0 : Int32)), .val (.ref w2), .val (.int (1 : Int32))] []))
          refine own_via (fun _ k => XS.iconst X49.here hx rfl (hb hby at_169) k) ?_
          show own_Go p e below s _ _ _ (T49.setTop (mkF m 170 #[.val (.int p0), .val (.int p1), .val (.long p2), .second, .val (.long ((290 : Int64) + (p2 &&& (31 : Int64)))), .second, .val (.int (2 : Int32)), .val (.int (0 : Int32)), .val (.ref w2), .val (.int (1 : Int32))] [(.int (0 : Int32))]))
          exact absurd (own_rem1 _) hr49_3_1
set_option maxRecDepth 65536 in
set_option maxHeartbeats 40000000 in
theorem comes_1 {Post : Tables → Env → Array Value → State → Outcome → State → Prop} (hpost : ∀ tb e args s v u, (limb_1_1.after args s (.returned v) u = true ∧ limb_1_2.after args s (.returned v) u = true ∧ True) → FrameEnd s (.returned v) u (Jvm.fieldLocs frame_1_writes args s ++ Jvm.arrayLocs frame_1_arrays args s ++ Jvm.staticLocs frame_1_statics s) 0 0 → Post tb e args s (.returned v) u) :
    ArmFor flags0 classFile x code maxLocals ret World_1 tables_1 room_1 Calls_1 rest_1 Pre_1 Post := by
  intro l hfl _ _ p e ha hc hk s m args below hf hA hF happ hP
  obtain ⟨hcalls, hrest, hpre⟩ := hP
  obtain ⟨-, -, -, hnamed, -, -, -, hat⟩ := (Spec.applies_iff hf).mp happ
  obtain ⟨hg, hn⟩ := and_e (Cond.before_iff.mp (show (Jvm.Cond.and given_1 narrow_1).before args s = true from hpre))
  obtain ⟨g0, hg0⟩ := and_e hg
  obtain ⟨g1, hg1⟩ := and_e hg0
  obtain ⟨g2, hg2⟩ := and_e hg1
  obtain ⟨u0, u1, u2, rfl⟩ : ∃ u0 u1 u2 : Value, args = #[u0, u1, u2] := by
    have hs : args.size = 3 := by simpa [Cond.value, given_1] using g0
    obtain ⟨L⟩ := args
    match L, hs with
    | [u0, u1, u2], _ => exact ⟨u0, u1, u2, rfl⟩
  have hw := fun d (hd : d ∈ tables_1) => atoms_spec (ws := Jvm.Cond.code x code maxLocals ret :: tables_1) hat d (List.mem_cons_of_mem _ hd)
  obtain ⟨i0, ei0⟩ := is_v g1
  obtain rfl : u0 = (.int i0) := Option.some.inj ei0
  obtain ⟨i1, ei1⟩ := is_v g2
  obtain rfl : u1 = (.int i1) := Option.some.inj ei1
  obtain ⟨i2, ei2⟩ := isL_v hg2
  obtain rfl : u2 = (.long i2) := Option.some.inj ei2
  obtain ⟨t0, hn0⟩ := and_e hn
  obtain ⟨t1, hn1⟩ := and_e hn0
  obtain ⟨t2, hn2⟩ := and_e hn1
  obtain ⟨t3, hn3⟩ := and_e hn2
  obtain ⟨t4, hn4⟩ := and_e hn3
  obtain ⟨t5, hn5⟩ := and_e hn4
  obtain ⟨t6, hn6⟩ := and_e hn5
  obtain ⟨t7, hn7⟩ := and_e hn6
  obtain ⟨w0, v_w0⟩ := exa_v t0
  have E_w0 := Exa.start v_w0 t0
  have S_w0 := Sta.start v_w0 (Or.inr ⟨(hw _ (List.mem_of_getElem? (i := 5) rfl)), (hw _ (List.mem_of_getElem? (i := 6) rfl))⟩)
  obtain ⟨w1, v_w1⟩ := exa_v t3
  have E_w1 := Exa.start v_w1 t3
  have S_w1 := Sta.start v_w1 (Or.inr ⟨(hw _ (List.mem_of_getElem? (i := 5) rfl)), (hw _ (List.mem_of_getElem? (i := 20) rfl))⟩)
  obtain ⟨w2, v_w2⟩ := exa_v t5
  have E_w2 := Exa.start v_w2 t5
  have S_w2 := Sta.start v_w2 (Or.inr ⟨(hw _ (List.mem_of_getElem? (i := 5) rfl)), (hw _ (List.mem_of_getElem? (i := 23) rfl))⟩)
  have F_w0_below := own_fldL v_w0 t1
  have F_w0_from := own_fldL v_w0 t2
  have F_w1_from := own_fldL v_w1 t4
  have F_w2_from := own_fldL v_w2 t6
  have F_w1_below := own_fldL v_w1 t7
  have F_w2_below := own_fldL v_w2 hn7
  have n_w0_w1 : ¬ (w0 = w1) := Fld.ne F_w0_below F_w1_below (by decide)
  have n_w0_w2 : ¬ (w0 = w2) := Fld.ne F_w0_below F_w2_below (by decide)
  have n_w1_w2 : ¬ (w1 = w2) := Fld.ne F_w1_from F_w2_from (by decide)
  obtain ⟨n, o, h1, h2, h3, _, L, rfl, ⟨rfl, N⟩, hq⟩ := rm0 l s _ hw tables_1 i0 i1 i2 w0 w1 w2 s.heap s.heap.size (Nat.le_refl _) ⟨S_w0, S_w1, S_w2, E_w0, E_w1, E_w2, F_w0_below, F_w0_from, F_w1_from, F_w2_from, F_w1_below, F_w2_below, n_w0_w1, n_w0_w2, n_w1_w2⟩ p e ha hc hk s m _ below hf ((Spec.applies_iff_loose hf).mp happ).1 ⟨rfl, State.Warmed39.refl s, rfl⟩ trivial
  refine ⟨n, _, h1, h2, h3, hpost _ _ _ _ _ _ ⟨Cond.after_iff.mpr rfl, Cond.after_iff.mpr (eq_i res_at (Term.int_eval (1)) rfl), trivial⟩ ⟨hq.1, hq.2.1, (hq.2.2.sift fun y hy => Or.inr (N y hy)).mono (by decide) (by decide)⟩⟩
theorem main_1_1 : Claimed_1_1 := comes_1 fun _ _ _ _ _ _ h hF => ⟨h.1, hF⟩
theorem main_1_2 : Claimed_1_2 := comes_1 fun _ _ _ _ _ _ h hF => ⟨h.2.1, hF⟩
end Jvm.Pilot.@@N@@
namespace Jvm.Pilot.@@N@@
open Jvm Jvm.ClassFile Sem Op Lib Jvm.Free Jvm.Stand Jvm.Pilot.@@N@@.Jvm.D
/-! MADE BY PROGRAM (witnessworld.py) out of the Statement's table words and the real class files: 12 classes; the members and pool entries that the words name. The judged class is class 1, her method 1. -/
namespace start1
open Jvm.ClassFile
def u (s : String) : CpInfo := .utf8 (stringToUtf16 s)
/-- a pool by its gaps: so many unusable entries, then the entry; so many at the end -/
def gap : Nat → List CpInfo → List CpInfo
  | 0, r => r
  | n + 1, r => .unusable :: gap n r
def poolList (es : List (Nat × CpInfo)) (last : Nat) : List CpInfo := es.foldr (fun e r => gap e.1 (e.2 :: r)) (gap last [])
def pool (es : List (Nat × CpInfo)) (last : Nat) : Array CpInfo := ⟨poolList es last⟩
def fileOf (pool : Array CpInfo) (this : Nat) (attrs : Array Attribute := #[]) (ms : Array MethodInfo := #[]) (fl : Nat := 33) (sup : Nat := 0) (ifs : Array Nat := #[]) (fds : Array FieldInfo := #[]) : ClassFile where
  minorVersion := 0
  majorVersion := 65
  constantPool := pool
  accessFlags := fl
  thisClass := this
  superClass := sup
  interfaces := ifs
  fields := fds
  methods := ms
  attributes := attrs
def plain (name : String) (sup : Option ClassId) : Class where
  name := name
  kind := .ordinary
  loader := none
  accessFlags := 33
  super := sup
  interfaces := #[]
  cf := none
  fields := #[]
  methods := #[]
  instanceTypes := #[]
  staticTypes := #[]
  resolved := #[]
  callSites := []
  init := .initialized
  statics := none
  mirror := none

def pool0 : Array CpInfo := pool [(5, u "<init>"), (0, u "()V"), (1, .class_ 10), (1, u "java/lang/Object")] 113

def k0m0 : Method := { name := "<init>", desc := "()V", sig := { parameters := [], returnType := none }, accessFlags := 1, code := none }
/-- java/lang/Object -/
def k0 : Class := { plain "java/lang/Object" none with
  accessFlags := 33
  interfaces := #[]
  cf := some (fileOf pool0 8 #[] #[{ accessFlags := 1, nameIndex := 5, descriptorIndex := 6, attributes := #[] }] 33 0 #[] #[])
  fields := #[]
  methods := #[k0m0]
  instanceTypes := #[]
  staticTypes := #[]
  resolved := Array.replicate 124 none
  statics := none }

def pool1 : Array CpInfo := pool [(2, .class_ 4), (1, u "java/lang/Object"), (0, u "<init>"), (0, u "()V"), (0, .long 290), (1, .long 31), (3, .long 9223372036854775807), (1, .integer 2147483647), (0, .long 300), (1, .fieldref 19 20), (0, .class_ 21), (0, .nameAndType 22 23), (0, u "com/example/strikeline/strikeline/PennyProgram"), (0, u "NO"), (0, u "Lcom/example/strikeline/strikeline/PennyProgram;"), (0, .long 5), (1, .long 10), (1, .fieldref 19 29), (0, .nameAndType 30 23), (0, u "YES"), (0, .fieldref 19 32), (0, .nameAndType 33 23), (0, u "ALL"), (0, .methodref 19 35), (0, .nameAndType 36 37), (0, u "isOnGrid"), (0, u "(J)Z"), (0, .class_ 39), (0, u "com/example/strikeline/strikeline/PennyProgramIsOnGridPinLaw"), (2, u "law"), (0, u "(IIJ)Z")] 3

def k1m0 : Method := { name := "<init>", desc := "()V", sig := { parameters := [], returnType := none }, accessFlags := 1, code := none }
def k1c1 : Code := { maxStack := 6, maxLocals := 10, code := code, exceptionTable := #[], attributes := #[] }
def k1m1 : Method := { name := "law", desc := "(IIJ)Z", sig := { parameters := [.int, .int, .long], returnType := some .boolean }, accessFlags := 9, code := some k1c1 }
/-- com/example/strikeline/strikeline/PennyProgramIsOnGridPinLaw -/
def k1 : Class := { plain "com/example/strikeline/strikeline/PennyProgramIsOnGridPinLaw" (some 0) with
  accessFlags := 49
  interfaces := #[]
  cf := some (fileOf pool1 38 #[] #[{ accessFlags := 1, nameIndex := 5, descriptorIndex := 6, attributes := #[] }, { accessFlags := 9, nameIndex := 42, descriptorIndex := 43, attributes := #[] }] 49 2 #[] #[])
  fields := #[]
  methods := #[k1m0, k1m1]
  instanceTypes := #[]
  staticTypes := #[]
  resolved := Array.replicate 47 none
  statics := none }

def pool2 : Array CpInfo := pool [(1, .class_ 2), (0, u "java/lang/constant/Constable"), (0, .class_ 4), (0, u "java/lang/Object")] 6

/-- java/lang/constant/Constable -/
def k2 : Class := { plain "java/lang/constant/Constable" (some 0) with
  accessFlags := 1537
  interfaces := #[]
  cf := some (fileOf pool2 1 #[] #[] 1537 3 #[] #[])
  fields := #[]
  methods := #[]
  instanceTypes := #[]
  staticTypes := #[]
  resolved := Array.replicate 11 none
  statics := none }

def pool3 : Array CpInfo := pool [(1, .class_ 2), (0, u "java/lang/Comparable"), (0, .class_ 4), (0, u "java/lang/Object")] 7

/-- java/lang/Comparable -/
def k3 : Class := { plain "java/lang/Comparable" (some 0) with
  accessFlags := 1537
  interfaces := #[]
  cf := some (fileOf pool3 1 #[] #[] 1537 3 #[] #[])
  fields := #[]
  methods := #[]
  instanceTypes := #[]
  staticTypes := #[]
  resolved := Array.replicate 12 none
  statics := none }

def pool4 : Array CpInfo := pool [(1, .class_ 2), (0, u "java/io/Serializable"), (0, .class_ 4), (0, u "java/lang/Object")] 2

/-- java/io/Serializable -/
def k4 : Class := { plain "java/io/Serializable" (some 0) with
  accessFlags := 1537
  interfaces := #[]
  cf := some (fileOf pool4 1 #[] #[] 1537 3 #[] #[])
  fields := #[]
  methods := #[]
  instanceTypes := #[]
  staticTypes := #[]
  resolved := Array.replicate 7 none
  statics := none }

def pool5 : Array CpInfo := pool [(2, .class_ 4), (1, u "java/lang/Enum"), (0, u "name"), (0, u "Ljava/lang/String;"), (2, u "ordinal"), (0, u "I"), (1, .class_ 14), (1, u "java/lang/Object"), (4, u "hash"), (86, .class_ 108), (1, u "java/lang/Enum$EnumDesc"), (2, .class_ 112), (0, u "java/lang/constant/Constable"), (0, .class_ 114), (0, u "java/lang/Comparable"), (0, .class_ 116), (0, u "java/io/Serializable")] 87

/-- java/lang/Enum -/
def k5 : Class := { plain "java/lang/Enum" (some 0) with
  accessFlags := 1057
  interfaces := #[2, 3, 4]
  cf := some (fileOf pool5 2 #[.nestMembers #[106]] #[] 1057 12 #[111, 113, 115] #[{ accessFlags := 18, nameIndex := 5, descriptorIndex := 6, attributes := #[] }, { accessFlags := 18, nameIndex := 9, descriptorIndex := 10, attributes := #[] }, { accessFlags := 2, nameIndex := 19, descriptorIndex := 10, attributes := #[] }])
  fields := #[{ name := "name", type := (.object "java/lang/String"), accessFlags := 18, slot := 0, constantValue := 0 }, { name := "ordinal", type := .int, accessFlags := 18, slot := 1, constantValue := 0 }, { name := "hash", type := .int, accessFlags := 2, slot := 2, constantValue := 0 }]
  methods := #[]
  instanceTypes := #[(.object "java/lang/String"), .int, .int]
  staticTypes := #[]
  resolved := Array.replicate 204 none
  statics := none }

def pool6 : Array CpInfo := pool [(1, .class_ 2), (0, u "com/example/strikeline/strikeline/PennyProgram"), (2, u "NO"), (0, u "Lcom/example/strikeline/strikeline/PennyProgram;"), (2, u "YES"), (2, u "ALL"), (2, u "$VALUES"), (0, u "[Lcom/example/strikeline/strikeline/PennyProgram;"), (6, .class_ 25), (1, u "java/lang/Enum"), (8, u "word"), (0, u "Ljava/lang/String;"), (0, .fieldref 1 37), (0, .nameAndType 38 39), (0, u "below"), (0, u "J"), (0, .fieldref 1 41), (0, .nameAndType 42 39), (0, u "from"), (0, .long 300), (21, u "BREAK"), (9, u "isOnGrid"), (0, u "(J)Z")] 9

def k6c0 : Code := { maxStack := 6, maxLocals := 3, code := prog_68_method_5_code, exceptionTable := #[], attributes := #[] }
def k6m0 : Method := { name := "isOnGrid", desc := "(J)Z", sig := { parameters := [.long], returnType := some .boolean }, accessFlags := 0, code := some k6c0 }
/-- com/example/strikeline/strikeline/PennyProgram -/
def k6 : Class := { plain "com/example/strikeline/strikeline/PennyProgram" (some 5) with
  accessFlags := 16432
  interfaces := #[]
  cf := some (fileOf pool6 1 #[] #[{ accessFlags := 0, nameIndex := 75, descriptorIndex := 76, attributes := #[] }] 16432 23 #[] #[{ accessFlags := 16409, nameIndex := 5, descriptorIndex := 6, attributes := #[] }, { accessFlags := 16409, nameIndex := 9, descriptorIndex := 6, attributes := #[] }, { accessFlags := 16409, nameIndex := 12, descriptorIndex := 6, attributes := #[] }, { accessFlags := 26, nameIndex := 65, descriptorIndex := 39, attributes := #[] }, { accessFlags := 18, nameIndex := 34, descriptorIndex := 35, attributes := #[] }, { accessFlags := 18, nameIndex := 38, descriptorIndex := 39, attributes := #[] }, { accessFlags := 18, nameIndex := 42, descriptorIndex := 39, attributes := #[] }, { accessFlags := 4122, nameIndex := 15, descriptorIndex := 16, attributes := #[] }])
  fields := #[{ name := "NO", type := (.object "com/example/strikeline/strikeline/PennyProgram"), accessFlags := 16409, slot := 0, constantValue := 0 }, { name := "YES", type := (.object "com/example/strikeline/strikeline/PennyProgram"), accessFlags := 16409, slot := 1, constantValue := 0 }, { name := "ALL", type := (.object "com/example/strikeline/strikeline/PennyProgram"), accessFlags := 16409, slot := 2, constantValue := 0 }, { name := "BREAK", type := .long, accessFlags := 26, slot := 3, constantValue := 0 }, { name := "word", type := (.object "java/lang/String"), accessFlags := 18, slot := 3, constantValue := 0 }, { name := "below", type := .long, accessFlags := 18, slot := 4, constantValue := 0 }, { name := "from", type := .long, accessFlags := 18, slot := 5, constantValue := 0 }, { name := "$VALUES", type := (.array (.object "com/example/strikeline/strikeline/PennyProgram")), accessFlags := 4122, slot := 4, constantValue := 0 }]
  methods := #[k6m0]
  instanceTypes := #[(.object "java/lang/String"), .int, .int, (.object "java/lang/String"), .long, .long]
  staticTypes := #[(.object "com/example/strikeline/strikeline/PennyProgram"), (.object "com/example/strikeline/strikeline/PennyProgram"), (.object "com/example/strikeline/strikeline/PennyProgram"), .long, (.array (.object "com/example/strikeline/strikeline/PennyProgram"))]
  resolved := Array.replicate 86 none
  statics := some 0 }

def pool7 : Array CpInfo := pool [(1, u "java/lang/Cloneable"), (0, .class_ 1), (0, u "java/lang/Object"), (0, .class_ 3)] 3

/-- java/lang/Cloneable -/
def k7 : Class := { plain "java/lang/Cloneable" (some 0) with
  accessFlags := 1537
  interfaces := #[]
  cf := some (fileOf pool7 2 #[] #[] 1537 4 #[] #[])
  fields := #[]
  methods := #[]
  instanceTypes := #[]
  staticTypes := #[]
  resolved := Array.replicate 8 none
  statics := none }

/-- the primitive byte -/
def k8 : Class := { plain "byte" none with kind := .primitive 'B', accessFlags := 0x411 }
/-- [B -/
def k9 : Class := { plain "[B" (some 0) with kind := .array 8 .byte, interfaces := #[7, 4], accessFlags := 1041 }

/-- the primitive int -/
def k10 : Class := { plain "int" none with kind := .primitive 'I', accessFlags := 0x411 }
/-- [I -/
def k11 : Class := { plain "[I" (some 0) with kind := .array 10 .int, interfaces := #[7, 4], accessFlags := 1041 }

def heap : Heap := #[{ cls := 6, slots := #[.ref 1, .ref 2, .ref 3, .long 0, .null], vm := .statics 6 },
  { cls := 6, slots := #[.null, .int 0, .int 0, .null, .long 5, .long 10], vm := .none },
  { cls := 6, slots := #[.null, .int 0, .int 0, .null, .long 1, .long 5], vm := .none },
  { cls := 6, slots := #[.null, .int 0, .int 0, .null, .long 1, .long 1], vm := .none }]
def classes : Array Class := #[k0, k1, k2, k3, k4, k5, k6, k7, k8, k9, k10, k11]
def interned : List (Array UInt16 × Addr) := []
def slotsUsed : Nat := 23
def theMethod : MethodId := ⟨1, 1⟩
def args0 : Array Value := #[.int 5, .int 5, .long 5]
def aboutOver (below : List Frame) : State where
  vm := { classes := classes, interned := interned.toArray }
  heap := heap
  slotsUsed := slotsUsed
  threads := #[{ frames := .invoking theMethod args0 :: below }]
def below0 : List Frame := [.native { method := ⟨0, 0⟩, args := #[] }]
def about1 : State := aboutOver below0
def p0 : Program := .bare "" "" ""
def e0 : Env := launch0.env 0 0 0
theorem w_frames : about1.frames = Frame.invoking theMethod args0 :: below0 := rfl
set_option maxRecDepth 65536 in
theorem w_args : argsFit about1.vm theMethod args0 = true := by decide +kernel
set_option maxRecDepth 65536 in
theorem w_heap : heapFits about1 = true := by decide +kernel
set_option maxRecDepth 65536 in
theorem w_runnable : about1.curStatus? = some .runnable := by decide +kernel
set_option maxRecDepth 65536 in
theorem w_alone : about1.alone = true := by decide +kernel
set_option maxRecDepth 65536 in
theorem w_named : about1.methodNamed? x = some theMethod := by decide +kernel
set_option maxRecDepth 65536 in
theorem w_hears : about1.hears theMethod below0 = true := by decide +kernel
set_option maxRecDepth 65536 in
theorem w_ripe : about1.ripe theMethod args0 below0 = true := by decide +kernel
theorem w_running : about1.status = .running := rfl
set_option maxRecDepth 65536 in
theorem w_room : about1.hasRoom e0.platform room_1 = true :=
  launch0.hasRoom_least _ room_1 (by decide +kernel) (by decide +kernel) (by decide +kernel) (by decide +kernel) (by decide +kernel) (by decide +kernel)
theorem allAtoms_all (ts : List Jvm.Cond) (a : Array Jvm.Value) (st : Jvm.State) : (allAtoms ts).before a st = ts.all (fun c => c.before a st) := by
  induction ts with
  | nil => rfl
  | cons c t ih =>
    show (Jvm.Cond.and c (allAtoms t)).before a st = _
    rw [Jvm.Cond.before_and, ih, List.all_cons]
def words1 : List Jvm.Cond := Jvm.Cond.code x code maxLocals ret :: tables_1
/-- a 'code' word, met by the world's own term for the bytes: nothing is compared byte by byte -/
theorem code_word {y : MethodName} {bytes : ByteArray} {mx : Nat} {rt : Option FieldType} {a : Array Value} {s : State} {m : MethodId} {meth : Method} {c : Code} (h1 : s.methodNamed? y = some m) (h2 : s.vm.method? m = some meth) (h3 : meth.code = some c) (h4 : c.code = bytes)
    (h5 : (c.maxLocals == mx && c.exceptionTable.isEmpty && decide (c.maxStack ≤ mostOperands) && decide (meth.sig.returnType = rt) && !meth.locks && decide (parseMethodDescriptor y.desc = some meth.sig)) = true) : (Jvm.Cond.code y bytes mx rt).before a s = true := by
  simp only [Bool.and_eq_true, beq_iff_eq, Bool.not_eq_true', decide_eq_true_eq] at h5
  obtain ⟨⟨⟨⟨⟨g1, g2⟩, g3⟩, g4⟩, g5⟩, g6⟩ := h5
  simp [Cond.before, Cond.holds, Cond.value, h1, h2, h3, h4, g1, g2, g3, g4, g5, g6]
def isCode : Jvm.Cond → Bool
  | .code _ _ _ _ => true
  | _ => false
theorem all_split {L : List Jvm.Cond} {P : Jvm.Cond → Bool} (h1 : L.all (fun c => isCode c || P c) = true) (h2 : ∀ c ∈ L.filter isCode, P c = true) : L.all P = true := by
  refine List.all_eq_true.mpr fun c hc => ?_
  have h := List.all_eq_true.mp h1 c hc
  rcases Bool.eq_false_or_eq_true (isCode c) with hi | hi
  · exact h2 c (List.mem_filter.mpr ⟨hc, hi⟩)
  · simpa [hi] using h
set_option maxRecDepth 65536 in
theorem w_c0 : (Jvm.Cond.code x code maxLocals ret).before args0 about1 = true := code_word (m := ⟨1, 1⟩) (meth := k1m1) (c := k1c1) (by decide +kernel) rfl rfl rfl (by decide +kernel)
set_option maxRecDepth 65536 in
theorem w_c1 : (Jvm.Cond.code ({ cls := "com/example/strikeline/strikeline/PennyProgram", name := "isOnGrid", desc := "(J)Z" } : Jvm.MethodName) prog_68_method_5_code (3 : Nat) (Option.some Jvm.ClassFile.FieldType.boolean)).before args0 about1 = true := code_word (m := ⟨6, 0⟩) (meth := k6m0) (c := k6c0) (by decide +kernel) rfl rfl rfl (by decide +kernel)
def codes1 : List Jvm.Cond := [Jvm.Cond.code x code maxLocals ret, Jvm.Cond.code ({ cls := "com/example/strikeline/strikeline/PennyProgram", name := "isOnGrid", desc := "(J)Z" } : Jvm.MethodName) prog_68_method_5_code (3 : Nat) (Option.some Jvm.ClassFile.FieldType.boolean)]
set_option maxRecDepth 65536 in
theorem codes_eq : words1.filter isCode = codes1 := rfl
theorem w_codes : ∀ c ∈ words1.filter isCode, c.before args0 about1 = true := by
  rw [codes_eq]
  intro c hc
  simp only [codes1, List.mem_cons, List.not_mem_nil, or_false] at hc
  rcases hc with rfl | rfl
  · exact w_c0
  · exact w_c1
set_option maxRecDepth 65536 in
theorem w_t1 : (words1.take 24).all (fun c => isCode c || c.before args0 about1) = true := by decide +kernel
set_option maxRecDepth 65536 in
theorem w_t2 : (words1.drop 24).all (fun c => isCode c || c.before args0 about1) = true := by decide +kernel
theorem w_tables : (allAtoms (Jvm.Cond.code x code maxLocals ret :: tables_1)).before args0 about1 = true := by
  rw [allAtoms_all]
  show words1.all (fun c => c.before args0 about1) = true
  refine all_split ?_ w_codes
  rw [← List.take_append_drop 24 words1, List.all_append, w_t1, w_t2]
  rfl
set_option maxRecDepth 65536 in
theorem w_case : (Jvm.Cond.and given_1 narrow_1).before args0 about1 = true := by decide +kernel
theorem w_applies : (headSpec (Jvm.Cond.code x code maxLocals ret :: tables_1) room_1).applies x e0.platform about1 = true :=
  (Spec.applies_iff w_frames).mpr ⟨w_running, w_runnable, w_alone, w_named, w_hears, w_ripe, w_room, w_tables⟩
theorem atStart : AtStart classFile x code maxLocals ret World_1 tables_1 room_1 Calls_1 rest_1 Pre_1 launch0 p0 e0 about1 theMethod args0 below0 :=
  ⟨lists_1, trivial, launch0.admits_env _ _ _, launch0.least_env, fairChoices_fair.cas, fairChoices_fair.clock, w_frames, w_args, w_heap, w_applies, trivial, trivial, w_case⟩
end start1
theorem witness_1 : WitnessClaimed_1 := ⟨start1.p0, start1.e0, start1.about1, start1.theMethod, start1.args0, start1.below0, start1.atStart⟩
end Jvm.Pilot.@@N@@
