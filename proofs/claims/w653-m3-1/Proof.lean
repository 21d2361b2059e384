import JvmDerived
import JvmDerived.Pilot.@@N@@Statement
import JvmDerived.Pilot.@@N@@Code
set_option linter.unusedVariables false
set_option linter.unusedSimpArgs false
namespace Jvm.Pilot.@@N@@
open Jvm Jvm.ClassFile Sem Op Lib Jvm.Free Jvm.Stand Jvm.LawKit Jvm.RoadKit Bundle Jvm.Pilot.@@N@@.Jvm.D
def own_Go (p : Program) (e : Env) (below : List Frame) (s : State) (Q : Option Value → Heap → List Loc → Prop) (kc ks : Nat) (A : State) : Prop :=
  ∃ s₂ o, Steps p.tables e below A s₂ ∧ s₂.status = .running ∧ Ended s₂ below o ∧ ∃ v L, o = .returned v ∧ Q v s₂.heap L ∧ FrameEnd s o s₂ L kc ks
section OwnLayer
variable {p : Program} {l : Launch} {e : Env} {R : Room} {s : State} {m : MethodId} {args : Array Value} {below : List Frame} {meth : Method} {c : Code} {T : State} {locs : List Loc} {cells slots : Nat}
variable {Q : Option Value → Heap → List Loc → Prop} {kc ks : Nat} {A B : State}
theorem own_via (h : ∀ t, Steps p.tables e below B t → Steps p.tables e below A t) (g : own_Go p e below s Q kc ks B) : own_Go p e below s Q kc ks A := by
  obtain ⟨t, o, h1, r⟩ := g
  exact ⟨t, o, h _ h1, r⟩
theorem own_tr (h : Steps p.tables e below A B) (g : own_Go p e below s Q kc ks B) : own_Go p e below s Q kc ks A := by
  obtain ⟨t, o, h1, r⟩ := g
  exact ⟨t, o, h.trans h1, r⟩
theorem own_end (X : Stand p l e R s m args below meth c T locs cells slots) (hlk : meth.locks = false) {v : Option Value} (hv : meth.sig.returnType = none → v = none) {A : State}
    (hstep : ∀ fs, (∀ (f : JFrame) (acts : List Action), f.method = m → f.locked = none → f.entered = [] → (doReturn e (T.setTop f) acts v).1 = T.setFrames fs) → Steps p.tables e below A (T.setFrames fs))
    (hQ : Q v T.heap locs) (hc : cells ≤ kc) (hs : slots ≤ ks) : own_Go p e below s Q kc ks A := by
  obtain ⟨fs, hr, hrun, hended, hW, hsame⟩ := X.leave (v := v) hv hlk
  exact ⟨_, _, hstep fs hr, hrun, hended, _, _, rfl, hQ, ⟨_, rfl⟩, hW, hsame.mono hc hs⟩
theorem own_retZ (X : Stand p l e R s m args below meth c T locs cells slots) (hx : p.tables.exec = Jvm.exec) (hlk : meth.locks = false) {pc : Nat} {Ls : Array Slot} {z z' : Int32} {t : FieldType} {rest : List Value} (hret : meth.sig.returnType = some t) (ht : t = .boolean ∨ t = .byte ∨ t = .char ∨ t = .short)
    (hd : decode c.code pc = .ok (.ireturn, 1)) (hz : nar t z = z') (hQ : Q (some (.int z')) T.heap locs) (hc : cells ≤ kc) (hs : slots ≤ ks) : own_Go p e below s Q kc ks (T.setTop (mkF m pc Ls (.int z :: rest))) := by
  subst hz
  exact own_end X hlk (fun h => by rw [hret] at h; cases h) (fun fs hr => retN X hx hret ht hd hr) hQ hc hs
theorem own_retO (X : Stand p l e R s m args below meth c T locs cells slots) (hx : p.tables.exec = Jvm.exec) (hlk : meth.locks = false) {pc : Nat} {Ls : Array Slot} {w : Value} {t : FieldType} {i : Instr} {rest : List Value} (hret : meth.sig.returnType = some t) (hn : narrow t w = w)
    (hi : (i = .ireturn ∧ (t = .int ∨ t = .boolean ∨ t = .byte ∨ t = .char ∨ t = .short) ∧ ∃ z, w = .int z) ∨ (i = .lreturn ∧ t = .long ∧ ∃ z, w = .long z) ∨ (i = .dreturn ∧ t = .double ∧ ∃ z, w = .double z) ∨ (i = .freturn ∧ t = .float ∧ ∃ z, w = .float z) ∨ (i = .areturn ∧ t.isReference = true ∧ w.isRef = true))
    (hd : decode c.code pc = .ok (i, 1)) (hQ : Q (some w) T.heap locs) (hc : cells ≤ kc) (hs : slots ≤ ks) : own_Go p e below s Q kc ks (T.setTop (mkF m pc Ls (w :: rest))) :=
  own_end X hlk (fun h => by rw [hret] at h; cases h) (fun fs hr => retOut X hx hret hn hi hd hr) hQ hc hs
theorem own_retI (X : Stand p l e R s m args below meth c T locs cells slots) (hx : p.tables.exec = Jvm.exec) (hlk : meth.locks = false) {pc : Nat} {Ls : Array Slot} {z : Int32} {rest : List Value} (hret : meth.sig.returnType = some .int)
    (hd : decode c.code pc = .ok (.ireturn, 1)) (hQ : Q (some (.int z)) T.heap locs) (hc : cells ≤ kc) (hs : slots ≤ ks) : own_Go p e below s Q kc ks (T.setTop (mkF m pc Ls (.int z :: rest))) :=
  own_retO X hx hlk hret rfl (Or.inl ⟨rfl, Or.inl rfl, _, rfl⟩) hd hQ hc hs
theorem own_retJ (X : Stand p l e R s m args below meth c T locs cells slots) (hx : p.tables.exec = Jvm.exec) (hlk : meth.locks = false) {pc : Nat} {Ls : Array Slot} {z : Int64} {rest : List Value} (hret : meth.sig.returnType = some .long)
    (hd : decode c.code pc = .ok (.lreturn, 1)) (hQ : Q (some (.long z)) T.heap locs) (hc : cells ≤ kc) (hs : slots ≤ ks) : own_Go p e below s Q kc ks (T.setTop (mkF m pc Ls (.long z :: rest))) :=
  own_retO X hx hlk hret rfl (Or.inr (Or.inl ⟨rfl, rfl, _, rfl⟩)) hd hQ hc hs
theorem own_retR (X : Stand p l e R s m args below meth c T locs cells slots) (hx : p.tables.exec = Jvm.exec) (hlk : meth.locks = false) {pc : Nat} {Ls : Array Slot} {w : Value} {t : FieldType} {rest : List Value} (hret : meth.sig.returnType = some t) (ht : t.isReference = true) (hw : w.isRef = true)
    (hd : decode c.code pc = .ok (.areturn, 1)) (hQ : Q (some w) T.heap locs) (hc : cells ≤ kc) (hs : slots ≤ ks) : own_Go p e below s Q kc ks (T.setTop (mkF m pc Ls (w :: rest))) :=
  own_retO X hx hlk hret (by cases t <;> first | (cases ht; done) | rfl) (Or.inr (Or.inr (Or.inr (Or.inr ⟨rfl, ht, hw⟩)))) hd hQ hc hs
theorem own_retV (X : Stand p l e R s m args below meth c T locs cells slots) (hx : p.tables.exec = Jvm.exec) (hlk : meth.locks = false) {pc : Nat} {Ls : Array Slot} (hret : meth.sig.returnType = none)
    (hd : decode c.code pc = .ok (.return_, 1)) (hQ : Q none T.heap locs) (hc : cells ≤ kc) (hs : slots ≤ ks) : own_Go p e below s Q kc ks (T.setTop (mkF m pc Ls [])) :=
  own_end X hlk (fun _ => rfl) (fun fs hr => X.returnOut hx hret hd hr) hQ hc hs
end OwnLayer
theorem own_eqv {args : Array Value} {Z : State} {t : Term} {k : Int32} (h : (Jvm.Cond.eq t (Term.int k)).value args Z none Z [] = some true) : t.eval args Z none [] Z = some (.int k) := by
  simp only [Jvm.Cond.value, Term.eval] at h
  cases ht : t.eval args Z none [] Z with
  | none => simp [ht] at h
  | some x => cases x <;> simp [ht] at h ⊢; exact h
theorem own_eqvL {args : Array Value} {Z : State} {t : Term} {k : Int64} (h : (Jvm.Cond.eq t (Term.long k)).value args Z none Z [] = some true) : t.eval args Z none [] Z = some (.long k) := by
  simp only [Jvm.Cond.value, Term.eval] at h
  cases ht : t.eval args Z none [] Z with
  | none => simp [ht] at h
  | some x => cases x <;> simp [ht] at h ⊢; exact h
theorem own_fld {args : Array Value} {Z : State} {t : Term} {C n d : String} {a : Addr} {k : Int32} (ev : t.eval args Z none [] Z = some (.ref a)) (h : (Jvm.Cond.eq (Term.field t C n d) (Term.int k)).value args Z none Z [] = some true) : Fld Z Z.heap a C n d (.int k) :=
  Fld.start ((fld_at ev).symm.trans (own_eqv h))
theorem own_fldL {args : Array Value} {Z : State} {t : Term} {C n d : String} {a : Addr} {k : Int64} (ev : t.eval args Z none [] Z = some (.ref a)) (h : (Jvm.Cond.eq (Term.field t C n d) (Term.long k)).value args Z none Z [] = some true) : Fld Z Z.heap a C n d (.long k) :=
  Fld.start ((fld_at ev).symm.trans (own_eqvL h))
theorem own_mod (x : Int32) (n : Int32) (k : Int) (hn : n.toInt = k) (hk : 0 < k) : 0 ≤ ((x &&& 2147483647) % n).toInt ∧ ((x &&& 2147483647) % n).toInt < k := by
  have h := (c_and x 2147483647 (by decide)).1
  rw [Int32.toInt_mod, hn, Int.tmod_eq_emod_of_nonneg h]
  exact ⟨Int.emod_nonneg _ (by omega), Int.emod_lt_of_pos _ hk⟩
theorem own_z {x y : Int32} (h : x.toInt = y.toInt) : x = y := Int32.toInt_inj.mp h
theorem own_mod3 (x : Int32) : (x &&& 2147483647) % 3 = 0 ∨ (x &&& 2147483647) % 3 = 1 ∨ (x &&& 2147483647) % 3 = 2 := by
  have h := own_mod x 3 3 rfl (by decide)
  simp only [← Int32.toInt_inj, show (0 : Int32).toInt = 0 from rfl, show (1 : Int32).toInt = 1 from rfl, show (2 : Int32).toInt = 2 from rfl]
  omega
theorem own_mod5 (x : Int32) : (x &&& 2147483647) % 5 = 0 ∨ (x &&& 2147483647) % 5 = 1 ∨ (x &&& 2147483647) % 5 = 2 ∨ (x &&& 2147483647) % 5 = 3 ∨ (x &&& 2147483647) % 5 = 4 := by
  have h := own_mod x 5 5 rfl (by decide)
  simp only [← Int32.toInt_inj, show (0 : Int32).toInt = 0 from rfl, show (1 : Int32).toInt = 1 from rfl, show (2 : Int32).toInt = 2 from rfl, show (3 : Int32).toInt = 3 from rfl, show (4 : Int32).toInt = 4 from rfl]
  omega
theorem own_mod6 (x : Int32) : (x &&& 2147483647) % 6 = 0 ∨ (x &&& 2147483647) % 6 = 1 ∨ (x &&& 2147483647) % 6 = 2 ∨ (x &&& 2147483647) % 6 = 3 ∨ (x &&& 2147483647) % 6 = 4 ∨ (x &&& 2147483647) % 6 = 5 := by
  have h := own_mod x 6 6 rfl (by decide)
  simp only [← Int32.toInt_inj, show (0 : Int32).toInt = 0 from rfl, show (1 : Int32).toInt = 1 from rfl, show (2 : Int32).toInt = 2 from rfl, show (3 : Int32).toInt = 3 from rfl, show (4 : Int32).toInt = 4 from rfl, show (5 : Int32).toInt = 5 from rfl]
  omega
theorem own_and1 (x : Int32) : x &&& 1 = 0 ∨ x &&& 1 = 1 := by
  have h := c_and x 1 (by decide)
  simp only [← Int32.toInt_inj, show (0 : Int32).toInt = 0 from rfl, show (1 : Int32).toInt = 1 from rfl] at *
  omega
theorem own_and3 (x : Int32) : x &&& 3 = 0 ∨ x &&& 3 = 1 ∨ x &&& 3 = 2 ∨ x &&& 3 = 3 := by
  have h := c_and x 3 (by decide)
  simp only [← Int32.toInt_inj, show (0 : Int32).toInt = 0 from rfl, show (1 : Int32).toInt = 1 from rfl, show (2 : Int32).toInt = 2 from rfl, show (3 : Int32).toInt = 3 from rfl] at *
  omega
theorem own_low (P : Int32 → Int32 → Prop) (h : ∀ i : Fin 256, P (Int32.ofInt (if i.val < 128 then (i.val : Int) else (i.val : Int) - 256)) (Int32.ofInt (i.val : Int))) (x : Int32) : P x.toInt8.toInt32 (x &&& 255) := by
  have h1 := c_mask x 255 8 (by decide) (by decide)
  have h2 := c_i2b x
  have hlt : (x.toInt % 256).toNat < 256 := by omega
  have k := h ⟨(x.toInt % 256).toNat, hlt⟩
  have e1 : Int32.ofInt (((x.toInt % 256).toNat : Nat) : Int) = x &&& 255 := by
    rw [← Int32.toInt_inj, Int32.toInt_ofInt]
    have : (((x.toInt % 256).toNat : Nat) : Int) = x.toInt % 256 := by omega
    rw [this, h1, show Int32.size = 4294967296 from rfl, Int.bmod_eq_of_le (by omega) (by omega)]
    rfl
  have e2 : Int32.ofInt (if (x.toInt % 256).toNat < 128 then (((x.toInt % 256).toNat : Nat) : Int) else (((x.toInt % 256).toNat : Nat) : Int) - 256) = x.toInt8.toInt32 := by
    rw [← Int32.toInt_inj, Int32.toInt_ofInt]
    rw [show Int32.size = 4294967296 from rfl, Int.bmod_eq_of_le (by split <;> omega) (by split <;> omega)]
    split <;> omega
  simp only [e1] at k
  rw [e2] at k
  exact k
theorem own_form (x : Int32) : x &&& (15 ^^^ (-1)) = 4096 ↔ ¬ x < 4096 ∧ ¬ 4111 < x := by
  have e : (15 ^^^ (-1) : Int32) = -16 := by decide
  rw [e]
  have h1 := c_mask x 15 4 (by decide) (by decide)
  have h2 := c_mask (x &&& -16) 15 4 (by decide) (by decide)
  have h3 : (x &&& -16) &&& 15 = 0 := by
    rw [Int32.and_assoc, show (-16 &&& 15 : Int32) = 0 by decide, Int32.and_zero]
  rw [h3, show (0 : Int32).toInt = 0 from rfl] at h2
  have h4 : (x &&& -16) ||| (x &&& 15) = x := by
    have q : (x.toBitVec &&& (-16 : Int32).toBitVec) ||| (x.toBitVec &&& (15 : Int32).toBitVec) = x.toBitVec := by
      rw [← BitVec.and_or_distrib_left, show ((-16 : Int32).toBitVec ||| (15 : Int32).toBitVec) = BitVec.allOnes 32 by decide, BitVec.and_allOnes]
    exact Int32.toBitVec_inj.mp (by rw [Int32.toBitVec_or, Int32.toBitVec_and, Int32.toBitVec_and]; exact q)
  have h5 := c_or (x &&& -16) (x &&& 15) 4 (by decide) 16 (by decide) (by omega) (by omega) (by omega)
  rw [h4] at h5
  have h6 := rng32 (x &&& -16)
  have h7 := rng32 x
  simp only [Int32.lt_iff_toInt_lt, ← Int32.toInt_inj, show (4096 : Int32).toInt = 4096 from rfl, show (4111 : Int32).toInt = 4111 from rfl]
  omega
def own_K (Z : State) (h0 : Heap) (w0 : Addr) (w1 : Addr) : Prop :=
  Sta Z h0 "com/example/loudmark/loudmark/audio/G711Law" "A_LAW" "Lcom/example/loudmark/loudmark/audio/G711Law;" (.ref w0) ∧
  Sta Z h0 "com/example/loudmark/loudmark/audio/G711Law" "MU_LAW" "Lcom/example/loudmark/loudmark/audio/G711Law;" (.ref w1) ∧
  Exa Z h0 w0 "com/example/loudmark/loudmark/audio/G711Law" ∧
  Exa Z h0 w1 "com/example/loudmark/loudmark/audio/G711Law" ∧
  Fld Z h0 w0 "java/lang/Enum" "ordinal" "I" (.int (1 : Int32)) ∧
  Fld Z h0 w1 "java/lang/Enum" "ordinal" "I" (.int (0 : Int32)) ∧
  ¬ (w0 = w1)
theorem pn0 : plainFor (⟨"java/lang/Math", "abs", "(I)I"⟩ : MethodName) = true := by decide +kernel
theorem pn1 : plainFor (⟨"java/lang/Math", "min", "(II)I"⟩ : MethodName) = true := by decide +kernel
theorem pn2 : plainName "java/lang/Integer" = true := by first | (simp [plainName, overriddenIn]; done) | decide +kernel
theorem pn3 : plainFor (⟨"java/lang/Math", "max", "(II)I"⟩ : MethodName) = true := by decide +kernel
theorem pn4 : plainName "com/example/loudmark/loudmark/audio/G711Law" = true := by first | (simp [plainName, overriddenIn]; done) | decide +kernel
theorem pn5 : plainName "com/example/loudmark/loudmark/audio/G711LawEncodesZeroPinLaw" = true := by first | (simp [plainName, overriddenIn]; done) | decide +kernel
theorem pd0 : parseMethodDescriptor "(I)I" = some ⟨[.int], some .int⟩ := by decide +kernel
theorem pd1 : parseMethodDescriptor "(II)I" = some ⟨[.int, .int], some .int⟩ := by decide +kernel
theorem pd2 : parseMethodDescriptor "(S)B" = some ⟨[.short], some .byte⟩ := by decide +kernel
theorem pd3 : parseMethodDescriptor "(B)Z" = some ⟨[.byte], some .boolean⟩ := by decide +kernel
theorem d1_0 : decode prog_2_method_6_code 0 = .ok (.aload_n 0, 1) := by decide +kernel
theorem d1_1 : decode prog_2_method_6_code 1 = .ok (.getstatic 3, 3) := by decide +kernel
theorem d1_4 : decode prog_2_method_6_code 4 = .ok (.if_acmp .ne 61, 3) := by decide +kernel
theorem d1_7 : decode prog_2_method_6_code 7 = .ok (.iload_n 1, 1) := by decide +kernel
theorem d1_8 : decode prog_2_method_6_code 8 = .ok (.invokestatic 60, 3) := by decide +kernel
theorem d1_11 : decode prog_2_method_6_code 11 = .ok (.sipush 32635, 3) := by decide +kernel
theorem d1_14 : decode prog_2_method_6_code 14 = .ok (.invokestatic 66, 3) := by decide +kernel
theorem d1_17 : decode prog_2_method_6_code 17 = .ok (.sipush 132, 3) := by decide +kernel
theorem d1_20 : decode prog_2_method_6_code 20 = .ok (.iadd, 1) := by decide +kernel
theorem d1_21 : decode prog_2_method_6_code 21 = .ok (.istore_n 3, 1) := by decide +kernel
theorem d1_22 : decode prog_2_method_6_code 22 = .ok (.iload_n 3, 1) := by decide +kernel
theorem d1_23 : decode prog_2_method_6_code 23 = .ok (.invokestatic 70, 3) := by decide +kernel
theorem d1_26 : decode prog_2_method_6_code 26 = .ok (.istore 4, 2) := by decide +kernel
theorem d1_28 : decode prog_2_method_6_code 28 = .ok (.iload_n 3, 1) := by decide +kernel
theorem d1_29 : decode prog_2_method_6_code 29 = .ok (.iload 4, 2) := by decide +kernel
theorem d1_31 : decode prog_2_method_6_code 31 = .ok (.iconst 3, 1) := by decide +kernel
theorem d1_32 : decode prog_2_method_6_code 32 = .ok (.iadd, 1) := by decide +kernel
theorem d1_33 : decode prog_2_method_6_code 33 = .ok (.ishr, 1) := by decide +kernel
theorem d1_34 : decode prog_2_method_6_code 34 = .ok (.bipush 15, 2) := by decide +kernel
theorem d1_36 : decode prog_2_method_6_code 36 = .ok (.iand, 1) := by decide +kernel
theorem d1_37 : decode prog_2_method_6_code 37 = .ok (.istore 5, 2) := by decide +kernel
theorem d1_39 : decode prog_2_method_6_code 39 = .ok (.iload_n 1, 1) := by decide +kernel
theorem d1_40 : decode prog_2_method_6_code 40 = .ok (.ifCond .ge 9, 3) := by decide +kernel
theorem d1_49 : decode prog_2_method_6_code 49 = .ok (.iconst 0, 1) := by decide +kernel
theorem d1_50 : decode prog_2_method_6_code 50 = .ok (.iload 4, 2) := by decide +kernel
theorem d1_52 : decode prog_2_method_6_code 52 = .ok (.iconst 4, 1) := by decide +kernel
theorem d1_53 : decode prog_2_method_6_code 53 = .ok (.ishl, 1) := by decide +kernel
theorem d1_54 : decode prog_2_method_6_code 54 = .ok (.ior, 1) := by decide +kernel
theorem d1_55 : decode prog_2_method_6_code 55 = .ok (.iload 5, 2) := by decide +kernel
theorem d1_57 : decode prog_2_method_6_code 57 = .ok (.ior, 1) := by decide +kernel
theorem d1_58 : decode prog_2_method_6_code 58 = .ok (.iconst (-1), 1) := by decide +kernel
theorem d1_59 : decode prog_2_method_6_code 59 = .ok (.ixor, 1) := by decide +kernel
theorem d1_60 : decode prog_2_method_6_code 60 = .ok (.i2b, 1) := by decide +kernel
theorem d1_61 : decode prog_2_method_6_code 61 = .ok (.istore_n 2, 1) := by decide +kernel
theorem d1_62 : decode prog_2_method_6_code 62 = .ok (.goto 59, 3) := by decide +kernel
theorem d1_65 : decode prog_2_method_6_code 65 = .ok (.iload_n 1, 1) := by decide +kernel
theorem d1_66 : decode prog_2_method_6_code 66 = .ok (.invokestatic 60, 3) := by decide +kernel
theorem d1_69 : decode prog_2_method_6_code 69 = .ok (.sipush 32767, 3) := by decide +kernel
theorem d1_72 : decode prog_2_method_6_code 72 = .ok (.invokestatic 66, 3) := by decide +kernel
theorem d1_75 : decode prog_2_method_6_code 75 = .ok (.istore_n 3, 1) := by decide +kernel
theorem d1_76 : decode prog_2_method_6_code 76 = .ok (.iload_n 3, 1) := by decide +kernel
theorem d1_77 : decode prog_2_method_6_code 77 = .ok (.invokestatic 70, 3) := by decide +kernel
theorem d1_80 : decode prog_2_method_6_code 80 = .ok (.istore 4, 2) := by decide +kernel
theorem d1_82 : decode prog_2_method_6_code 82 = .ok (.iload_n 3, 1) := by decide +kernel
theorem d1_83 : decode prog_2_method_6_code 83 = .ok (.iload 4, 2) := by decide +kernel
theorem d1_85 : decode prog_2_method_6_code 85 = .ok (.iconst 1, 1) := by decide +kernel
theorem d1_86 : decode prog_2_method_6_code 86 = .ok (.invokestatic 75, 3) := by decide +kernel
theorem d1_89 : decode prog_2_method_6_code 89 = .ok (.iconst 3, 1) := by decide +kernel
theorem d1_90 : decode prog_2_method_6_code 90 = .ok (.iadd, 1) := by decide +kernel
theorem d1_91 : decode prog_2_method_6_code 91 = .ok (.ishr, 1) := by decide +kernel
theorem d1_92 : decode prog_2_method_6_code 92 = .ok (.bipush 15, 2) := by decide +kernel
theorem d1_94 : decode prog_2_method_6_code 94 = .ok (.iand, 1) := by decide +kernel
theorem d1_95 : decode prog_2_method_6_code 95 = .ok (.istore 5, 2) := by decide +kernel
theorem d1_97 : decode prog_2_method_6_code 97 = .ok (.iload_n 1, 1) := by decide +kernel
theorem d1_98 : decode prog_2_method_6_code 98 = .ok (.ifCond .lt 9, 3) := by decide +kernel
theorem d1_101 : decode prog_2_method_6_code 101 = .ok (.sipush 128, 3) := by decide +kernel
theorem d1_104 : decode prog_2_method_6_code 104 = .ok (.goto 4, 3) := by decide +kernel
theorem d1_108 : decode prog_2_method_6_code 108 = .ok (.iload 4, 2) := by decide +kernel
theorem d1_110 : decode prog_2_method_6_code 110 = .ok (.iconst 4, 1) := by decide +kernel
theorem d1_111 : decode prog_2_method_6_code 111 = .ok (.ishl, 1) := by decide +kernel
theorem d1_112 : decode prog_2_method_6_code 112 = .ok (.ior, 1) := by decide +kernel
theorem d1_113 : decode prog_2_method_6_code 113 = .ok (.iload 5, 2) := by decide +kernel
theorem d1_115 : decode prog_2_method_6_code 115 = .ok (.ior, 1) := by decide +kernel
theorem d1_116 : decode prog_2_method_6_code 116 = .ok (.bipush 85, 2) := by decide +kernel
theorem d1_118 : decode prog_2_method_6_code 118 = .ok (.ixor, 1) := by decide +kernel
theorem d1_119 : decode prog_2_method_6_code 119 = .ok (.i2b, 1) := by decide +kernel
theorem d1_120 : decode prog_2_method_6_code 120 = .ok (.istore_n 2, 1) := by decide +kernel
theorem d1_121 : decode prog_2_method_6_code 121 = .ok (.iload_n 2, 1) := by decide +kernel
theorem d1_122 : decode prog_2_method_6_code 122 = .ok (.ireturn, 1) := by decide +kernel
theorem d2_0 : decode jdk_29_method_59_code 0 = .ok (.iload_n 0, 1) := by decide +kernel
theorem d2_1 : decode jdk_29_method_59_code 1 = .ok (.ifCond .ge 8, 3) := by decide +kernel
theorem d2_9 : decode jdk_29_method_59_code 9 = .ok (.iload_n 0, 1) := by decide +kernel
theorem d2_10 : decode jdk_29_method_59_code 10 = .ok (.ireturn, 1) := by decide +kernel
theorem d3_0 : decode jdk_29_method_69_code 0 = .ok (.iload_n 0, 1) := by decide +kernel
theorem d3_1 : decode jdk_29_method_69_code 1 = .ok (.iload_n 1, 1) := by decide +kernel
theorem d3_2 : decode jdk_29_method_69_code 2 = .ok (.if_icmp .gt 7, 3) := by decide +kernel
theorem d3_5 : decode jdk_29_method_69_code 5 = .ok (.iload_n 0, 1) := by decide +kernel
theorem d3_6 : decode jdk_29_method_69_code 6 = .ok (.goto 4, 3) := by decide +kernel
theorem d3_10 : decode jdk_29_method_69_code 10 = .ok (.ireturn, 1) := by decide +kernel
theorem d4_0 : decode prog_2_method_8_code 0 = .ok (.iconst 0, 1) := by decide +kernel
theorem d4_1 : decode prog_2_method_8_code 1 = .ok (.bipush 31, 2) := by decide +kernel
theorem d4_3 : decode prog_2_method_8_code 3 = .ok (.iload_n 0, 1) := by decide +kernel
theorem d4_4 : decode prog_2_method_8_code 4 = .ok (.invokestatic 90, 3) := by decide +kernel
theorem d4_7 : decode prog_2_method_8_code 7 = .ok (.isub, 1) := by decide +kernel
theorem d4_8 : decode prog_2_method_8_code 8 = .ok (.bipush 7, 2) := by decide +kernel
theorem d4_10 : decode prog_2_method_8_code 10 = .ok (.isub, 1) := by decide +kernel
theorem d4_11 : decode prog_2_method_8_code 11 = .ok (.invokestatic 75, 3) := by decide +kernel
theorem d4_14 : decode prog_2_method_8_code 14 = .ok (.ireturn, 1) := by decide +kernel
theorem d5_0 : decode jdk_33_method_47_code 0 = .ok (.iload_n 0, 1) := by decide +kernel
theorem d5_1 : decode jdk_33_method_47_code 1 = .ok (.ifCond .gt 14, 3) := by decide +kernel
theorem d5_4 : decode jdk_33_method_47_code 4 = .ok (.iload_n 0, 1) := by decide +kernel
theorem d5_5 : decode jdk_33_method_47_code 5 = .ok (.ifCond .ne 8, 3) := by decide +kernel
theorem d5_8 : decode jdk_33_method_47_code 8 = .ok (.bipush 32, 2) := by decide +kernel
theorem d5_10 : decode jdk_33_method_47_code 10 = .ok (.goto 4, 3) := by decide +kernel
theorem d5_14 : decode jdk_33_method_47_code 14 = .ok (.ireturn, 1) := by decide +kernel
theorem d5_15 : decode jdk_33_method_47_code 15 = .ok (.bipush 31, 2) := by decide +kernel
theorem d5_17 : decode jdk_33_method_47_code 17 = .ok (.istore_n 1, 1) := by decide +kernel
theorem d5_18 : decode jdk_33_method_47_code 18 = .ok (.iload_n 0, 1) := by decide +kernel
theorem d5_19 : decode jdk_33_method_47_code 19 = .ok (.ldc_w 264, 3) := by decide +kernel
theorem d5_22 : decode jdk_33_method_47_code 22 = .ok (.if_icmp .lt 11, 3) := by decide +kernel
theorem d5_33 : decode jdk_33_method_47_code 33 = .ok (.iload_n 0, 1) := by decide +kernel
theorem d5_34 : decode jdk_33_method_47_code 34 = .ok (.sipush 256, 3) := by decide +kernel
theorem d5_37 : decode jdk_33_method_47_code 37 = .ok (.if_icmp .lt 11, 3) := by decide +kernel
theorem d5_48 : decode jdk_33_method_47_code 48 = .ok (.iload_n 0, 1) := by decide +kernel
theorem d5_49 : decode jdk_33_method_47_code 49 = .ok (.bipush 16, 2) := by decide +kernel
theorem d5_51 : decode jdk_33_method_47_code 51 = .ok (.if_icmp .lt 10, 3) := by decide +kernel
theorem d5_54 : decode jdk_33_method_47_code 54 = .ok (.iinc 1 (-4), 3) := by decide +kernel
theorem d5_57 : decode jdk_33_method_47_code 57 = .ok (.iload_n 0, 1) := by decide +kernel
theorem d5_58 : decode jdk_33_method_47_code 58 = .ok (.iconst 4, 1) := by decide +kernel
theorem d5_59 : decode jdk_33_method_47_code 59 = .ok (.iushr, 1) := by decide +kernel
theorem d5_60 : decode jdk_33_method_47_code 60 = .ok (.istore_n 0, 1) := by decide +kernel
theorem d5_61 : decode jdk_33_method_47_code 61 = .ok (.iload_n 0, 1) := by decide +kernel
theorem d5_62 : decode jdk_33_method_47_code 62 = .ok (.iconst 4, 1) := by decide +kernel
theorem d5_63 : decode jdk_33_method_47_code 63 = .ok (.if_icmp .lt 10, 3) := by decide +kernel
theorem d5_66 : decode jdk_33_method_47_code 66 = .ok (.iinc 1 (-2), 3) := by decide +kernel
theorem d5_69 : decode jdk_33_method_47_code 69 = .ok (.iload_n 0, 1) := by decide +kernel
theorem d5_70 : decode jdk_33_method_47_code 70 = .ok (.iconst 2, 1) := by decide +kernel
theorem d5_71 : decode jdk_33_method_47_code 71 = .ok (.iushr, 1) := by decide +kernel
theorem d5_72 : decode jdk_33_method_47_code 72 = .ok (.istore_n 0, 1) := by decide +kernel
theorem d5_73 : decode jdk_33_method_47_code 73 = .ok (.iload_n 1, 1) := by decide +kernel
theorem d5_74 : decode jdk_33_method_47_code 74 = .ok (.iload_n 0, 1) := by decide +kernel
theorem d5_75 : decode jdk_33_method_47_code 75 = .ok (.iconst 1, 1) := by decide +kernel
theorem d5_76 : decode jdk_33_method_47_code 76 = .ok (.iushr, 1) := by decide +kernel
theorem d5_77 : decode jdk_33_method_47_code 77 = .ok (.isub, 1) := by decide +kernel
theorem d5_78 : decode jdk_33_method_47_code 78 = .ok (.ireturn, 1) := by decide +kernel
theorem d6_0 : decode jdk_29_method_65_code 0 = .ok (.iload_n 0, 1) := by decide +kernel
theorem d6_1 : decode jdk_29_method_65_code 1 = .ok (.iload_n 1, 1) := by decide +kernel
theorem d6_2 : decode jdk_29_method_65_code 2 = .ok (.if_icmp .lt 7, 3) := by decide +kernel
theorem d6_5 : decode jdk_29_method_65_code 5 = .ok (.iload_n 0, 1) := by decide +kernel
theorem d6_6 : decode jdk_29_method_65_code 6 = .ok (.goto 4, 3) := by decide +kernel
theorem d6_9 : decode jdk_29_method_65_code 9 = .ok (.iload_n 1, 1) := by decide +kernel
theorem d6_10 : decode jdk_29_method_65_code 10 = .ok (.ireturn, 1) := by decide +kernel
theorem d7_0 : decode prog_2_method_10_code 0 = .ok (.iload_n 1, 1) := by decide +kernel
theorem d7_1 : decode prog_2_method_10_code 1 = .ok (.bipush 127, 2) := by decide +kernel
theorem d7_3 : decode prog_2_method_10_code 3 = .ok (.iand, 1) := by decide +kernel
theorem d7_4 : decode prog_2_method_10_code 4 = .ok (.aload_n 0, 1) := by decide +kernel
theorem d7_5 : decode prog_2_method_10_code 5 = .ok (.getstatic 3, 3) := by decide +kernel
theorem d7_8 : decode prog_2_method_10_code 8 = .ok (.if_acmp .ne 8, 3) := by decide +kernel
theorem d7_11 : decode prog_2_method_10_code 11 = .ok (.bipush 127, 2) := by decide +kernel
theorem d7_13 : decode prog_2_method_10_code 13 = .ok (.goto 5, 3) := by decide +kernel
theorem d7_16 : decode prog_2_method_10_code 16 = .ok (.bipush 85, 2) := by decide +kernel
theorem d7_18 : decode prog_2_method_10_code 18 = .ok (.ixor, 1) := by decide +kernel
theorem d7_19 : decode prog_2_method_10_code 19 = .ok (.istore_n 2, 1) := by decide +kernel
theorem d7_20 : decode prog_2_method_10_code 20 = .ok (.iload_n 2, 1) := by decide +kernel
theorem d7_21 : decode prog_2_method_10_code 21 = .ok (.ifCond .ne 7, 3) := by decide +kernel
theorem d7_24 : decode prog_2_method_10_code 24 = .ok (.iconst 1, 1) := by decide +kernel
theorem d7_25 : decode prog_2_method_10_code 25 = .ok (.goto 4, 3) := by decide +kernel
theorem d7_28 : decode prog_2_method_10_code 28 = .ok (.iconst 0, 1) := by decide +kernel
theorem d7_29 : decode prog_2_method_10_code 29 = .ok (.ireturn, 1) := by decide +kernel
def Q2_0 (w0 : Addr) (w1 : Addr) (h0 : Heap) (v : Option Value) (h : Heap) (L : List Loc) : Prop := L = [] ∧ h = h0 ∧ ((v = some (.int (0 : Int32))))
set_option maxRecDepth 65536 in
set_option maxHeartbeats 40000000 in
theorem rm2_0 (l : Launch) (Z : State) (a0 : Array Value) (hw : ∀ d ∈ tables_1, d.before a0 Z = true) (ws : List Jvm.Cond) (w0 : Addr) (w1 : Addr) (h0 : Heap) (n0 : Nat) (Z0 : n0 ≤ h0.size) (K : own_K Z h0 w0 w1) :
    MetFree l (⟨"java/lang/Math", "abs", "(I)I"⟩ : MethodName) (head1 (Jvm.Cond.code (⟨"java/lang/Math", "abs", "(I)I"⟩ : MethodName) jdk_29_method_59_code 1 (some .int) :: ws) ({ frames := 0, cells := 0, slots := 0, locals := 0 } : Room)) (fun a U => a = #[(.int (0 : Int32))] ∧ Z.Warmed39 U.vm ∧ U.heap = h0) (fun _ _ _ _ _ => True) (fun _ U o U' => ∃ v L, o = .returned v ∧ Q2_0 w0 w1 h0 v U'.heap L ∧ FrameEnd U o U' L ({ frames := 0, cells := 0, slots := 0, locals := 0 } : Room).cells ({ frames := 0, cells := 0, slots := 0, locals := 0 } : Room).slots) := by
  refine MetFree.of_bodySF pn0 hisR ?_
  intro p e s m args below meth c s₁ Bd hml0 hP hK
  obtain ⟨rfl, hZ, hh⟩ := hP
  have hx := Bd.exec
  have hby := Bd.bytes
  have hml : c.maxLocals = 1 := hml0
  have hown : s.vm.findClass "java/lang/Math" = some m.cls := findClass_of_methodNamed Bd.named
  have hnm := (name_of_methodNamed Bd.named Bd.method).1
  have hlk := Bd.notSynchronized
  have X0 : Stand p l e ({ frames := 0, cells := 0, slots := 0, locals := 0 } : Room) s m #[(.int (0 : Int32))] below meth c s₁ [] 0 0 := Stand.of_body Bd
  have e0 : s₁.heap = h0 := by rw [← hh, Bd.state]; rfl
  have K0 := K
  obtain ⟨S_w0, S_w1, E_w0, E_w1, F_w0_ordinal, F_w1_ordinal, n_w0_w1⟩ := K
  show own_Go p e below s (Q2_0 w0 w1 h0) 0 0 (s₁.setTop (entryFrame m #[(.int (0 : Int32))] 1))
  rw [show entryFrame m #[(.int (0 : Int32))] 1 = mkF m 0 #[.val (.int (0 : Int32))] [] from by first | (simp [entryFrame, mkF, argsToLocals, Value.category]; done) | rfl]
  show own_Go p e below s _ _ _ (s₁.setTop (mkF m 0 #[.val (.int (0 : Int32))] []))
  refine own_via (fun _ k => XS.iloadN X0.here hx rfl (hb hby d2_0) rfl k) ?_
  show own_Go p e below s _ _ _ (s₁.setTop (mkF m 1 #[.val (.int (0 : Int32))] [(.int (0 : Int32))]))
  refine own_via (fun _ k => XS.ifYes X0.here hx rfl (pc0 := 1) (pc' := 9) rfl (hb hby d2_1) rfl ((if0 _ _).trans (flt (by decide : ¬ ((0 : Int32) < (0 : Int32)))).2.1) (by decide) (by decide) k) ?_
  show own_Go p e below s _ _ _ (s₁.setTop (mkF m 9 #[.val (.int (0 : Int32))] []))
  refine own_via (fun _ k => XS.iloadN X0.here hx rfl (hb hby d2_9) rfl k) ?_
  show own_Go p e below s _ _ _ (s₁.setTop (mkF m 10 #[.val (.int (0 : Int32))] [(.int (0 : Int32))]))
  exact own_retI X0 hx hlk Bd.returns (hb hby d2_10) ⟨rfl, e0, rfl⟩ (by decide) (by decide)
def Q3_0 (w0 : Addr) (w1 : Addr) (h0 : Heap) (v : Option Value) (h : Heap) (L : List Loc) : Prop := L = [] ∧ h = h0 ∧ ((v = some (.int (0 : Int32))))
set_option maxRecDepth 65536 in
set_option maxHeartbeats 40000000 in
theorem rm3_0 (l : Launch) (Z : State) (a0 : Array Value) (hw : ∀ d ∈ tables_1, d.before a0 Z = true) (ws : List Jvm.Cond) (w0 : Addr) (w1 : Addr) (h0 : Heap) (n0 : Nat) (Z0 : n0 ≤ h0.size) (K : own_K Z h0 w0 w1) :
    MetFree l (⟨"java/lang/Math", "min", "(II)I"⟩ : MethodName) (head1 (Jvm.Cond.code (⟨"java/lang/Math", "min", "(II)I"⟩ : MethodName) jdk_29_method_69_code 2 (some .int) :: ws) ({ frames := 0, cells := 0, slots := 0, locals := 0 } : Room)) (fun a U => a = #[(.int (0 : Int32)), (.int (32635 : Int32))] ∧ Z.Warmed39 U.vm ∧ U.heap = h0) (fun _ _ _ _ _ => True) (fun _ U o U' => ∃ v L, o = .returned v ∧ Q3_0 w0 w1 h0 v U'.heap L ∧ FrameEnd U o U' L ({ frames := 0, cells := 0, slots := 0, locals := 0 } : Room).cells ({ frames := 0, cells := 0, slots := 0, locals := 0 } : Room).slots) := by
  refine MetFree.of_bodySF pn1 hisR ?_
  intro p e s m args below meth c s₁ Bd hml0 hP hK
  obtain ⟨rfl, hZ, hh⟩ := hP
  have hx := Bd.exec
  have hby := Bd.bytes
  have hml : c.maxLocals = 2 := hml0
  have hown : s.vm.findClass "java/lang/Math" = some m.cls := findClass_of_methodNamed Bd.named
  have hnm := (name_of_methodNamed Bd.named Bd.method).1
  have hlk := Bd.notSynchronized
  have X0 : Stand p l e ({ frames := 0, cells := 0, slots := 0, locals := 0 } : Room) s m #[(.int (0 : Int32)), (.int (32635 : Int32))] below meth c s₁ [] 0 0 := Stand.of_body Bd
  have e0 : s₁.heap = h0 := by rw [← hh, Bd.state]; rfl
  have K0 := K
  obtain ⟨S_w0, S_w1, E_w0, E_w1, F_w0_ordinal, F_w1_ordinal, n_w0_w1⟩ := K
  show own_Go p e below s (Q3_0 w0 w1 h0) 0 0 (s₁.setTop (entryFrame m #[(.int (0 : Int32)), (.int (32635 : Int32))] 2))
  rw [show entryFrame m #[(.int (0 : Int32)), (.int (32635 : Int32))] 2 = mkF m 0 #[.val (.int (0 : Int32)), .val (.int (32635 : Int32))] [] from by first | (simp [entryFrame, mkF, argsToLocals, Value.category]; done) | rfl]
  show own_Go p e below s _ _ _ (s₁.setTop (mkF m 0 #[.val (.int (0 : Int32)), .val (.int (32635 : Int32))] []))
  refine own_via (fun _ k => XS.iloadN X0.here hx rfl (hb hby d3_0) rfl k) ?_
  show own_Go p e below s _ _ _ (s₁.setTop (mkF m 1 #[.val (.int (0 : Int32)), .val (.int (32635 : Int32))] [(.int (0 : Int32))]))
  refine own_via (fun _ k => XS.iloadN X0.here hx rfl (hb hby d3_1) rfl k) ?_
  show own_Go p e below s _ _ _ (s₁.setTop (mkF m 2 #[.val (.int (0 : Int32)), .val (.int (32635 : Int32))] [(.int (32635 : Int32)), (.int (0 : Int32))]))
  refine own_via (fun _ k => XS.icmpNo X0.here hx rfl (hb hby d3_2) rfl (flt (by decide : ¬ ((32635 : Int32) < (0 : Int32)))).2.2.1 k) ?_
  show own_Go p e below s _ _ _ (s₁.setTop (mkF m 5 #[.val (.int (0 : Int32)), .val (.int (32635 : Int32))] []))
  refine own_via (fun _ k => XS.iloadN X0.here hx rfl (hb hby d3_5) rfl k) ?_
  show own_Go p e below s _ _ _ (s₁.setTop (mkF m 6 #[.val (.int (0 : Int32)), .val (.int (32635 : Int32))] [(.int (0 : Int32))]))
  refine own_via (fun _ k => XS.goto X0.here hx rfl (pc0 := 6) (pc' := 10) rfl (hb hby d3_6) (by decide) (by decide) k) ?_
  show own_Go p e below s _ _ _ (s₁.setTop (mkF m 10 #[.val (.int (0 : Int32)), .val (.int (32635 : Int32))] [(.int (0 : Int32))]))
  exact own_retI X0 hx hlk Bd.returns (hb hby d3_10) ⟨rfl, e0, rfl⟩ (by decide) (by decide)
def Q5_0 (w0 : Addr) (w1 : Addr) (h0 : Heap) (v : Option Value) (h : Heap) (L : List Loc) : Prop := L = [] ∧ h = h0 ∧ ((v = some (.int ((((31 : Int32) + (-4 : Int32)) + (-2 : Int32)) - ((((((((0 : Int32) + (132 : Int32)).toUInt32 >>> ((4 : Int32) &&& 31).toUInt32).toInt32).toUInt32 >>> ((2 : Int32) &&& 31).toUInt32).toInt32).toUInt32 >>> ((1 : Int32) &&& 31).toUInt32).toInt32)))))
set_option maxRecDepth 65536 in
set_option maxHeartbeats 40000000 in
theorem rm5_0 (l : Launch) (Z : State) (a0 : Array Value) (hw : ∀ d ∈ tables_1, d.before a0 Z = true) (ws : List Jvm.Cond) (w0 : Addr) (w1 : Addr) (h0 : Heap) (n0 : Nat) (Z0 : n0 ≤ h0.size) (K : own_K Z h0 w0 w1) :
    MetFree l (⟨"java/lang/Integer", "numberOfLeadingZeros", "(I)I"⟩ : MethodName) (head1 (Jvm.Cond.code (⟨"java/lang/Integer", "numberOfLeadingZeros", "(I)I"⟩ : MethodName) jdk_33_method_47_code 2 (some .int) :: ws) ({ frames := 0, cells := 0, slots := 0, locals := 0 } : Room)) (fun a U => a = #[(.int ((0 : Int32) + (132 : Int32)))] ∧ Z.Warmed39 U.vm ∧ U.heap = h0) (fun _ _ _ _ _ => True) (fun _ U o U' => ∃ v L, o = .returned v ∧ Q5_0 w0 w1 h0 v U'.heap L ∧ FrameEnd U o U' L ({ frames := 0, cells := 0, slots := 0, locals := 0 } : Room).cells ({ frames := 0, cells := 0, slots := 0, locals := 0 } : Room).slots) := by
  refine MetFree.of_bodySF (plainFor_of_name pn2) hisR ?_
  intro p e s m args below meth c s₁ Bd hml0 hP hK
  obtain ⟨rfl, hZ, hh⟩ := hP
  have hx := Bd.exec
  have hby := Bd.bytes
  have hml : c.maxLocals = 2 := hml0
  have hown : s.vm.findClass "java/lang/Integer" = some m.cls := findClass_of_methodNamed Bd.named
  have hnm := (name_of_methodNamed Bd.named Bd.method).1
  have hlk := Bd.notSynchronized
  have X0 : Stand p l e ({ frames := 0, cells := 0, slots := 0, locals := 0 } : Room) s m #[(.int ((0 : Int32) + (132 : Int32)))] below meth c s₁ [] 0 0 := Stand.of_body Bd
  have e0 : s₁.heap = h0 := by rw [← hh, Bd.state]; rfl
  have K0 := K
  obtain ⟨S_w0, S_w1, E_w0, E_w1, F_w0_ordinal, F_w1_ordinal, n_w0_w1⟩ := K
  show own_Go p e below s (Q5_0 w0 w1 h0) 0 0 (s₁.setTop (entryFrame m #[(.int ((0 : Int32) + (132 : Int32)))] 2))
  rw [show entryFrame m #[(.int ((0 : Int32) + (132 : Int32)))] 2 = mkF m 0 #[.val (.int ((0 : Int32) + (132 : Int32))), .unset] [] from by first | (simp [entryFrame, mkF, argsToLocals, Value.category]; done) | rfl]
  show own_Go p e below s _ _ _ (s₁.setTop (mkF m 0 #[.val (.int ((0 : Int32) + (132 : Int32))), .unset] []))
  refine own_via (fun _ k => XS.iloadN X0.here hx rfl (hb hby d5_0) rfl k) ?_
  show own_Go p e below s _ _ _ (s₁.setTop (mkF m 1 #[.val (.int ((0 : Int32) + (132 : Int32))), .unset] [(.int ((0 : Int32) + (132 : Int32)))]))
  refine own_via (fun _ k => XS.ifYes X0.here hx rfl (pc0 := 1) (pc' := 15) rfl (hb hby d5_1) rfl ((if0 _ _).trans (tlt (by decide : (0 : Int32) < ((0 : Int32) + (132 : Int32)))).2.2.1) (by decide) (by decide) k) ?_
  show own_Go p e below s _ _ _ (s₁.setTop (mkF m 15 #[.val (.int ((0 : Int32) + (132 : Int32))), .unset] []))
  refine own_via (fun _ k => XS.bipush X0.here hx rfl (hb hby d5_15) k) ?_
  show own_Go p e below s _ _ _ (s₁.setTop (mkF m 17 #[.val (.int ((0 : Int32) + (132 : Int32))), .unset] [(.int (31 : Int32))]))
  refine own_via (fun _ k => XS.istoreN X0.here hx rfl (hb hby d5_17) rfl (l' := #[.val (.int ((0 : Int32) + (132 : Int32))), .val (.int (31 : Int32))]) rfl k) ?_
  show own_Go p e below s _ _ _ (s₁.setTop (mkF m 18 #[.val (.int ((0 : Int32) + (132 : Int32))), .val (.int (31 : Int32))] []))
  refine own_via (fun _ k => XS.iloadN X0.here hx rfl (hb hby d5_18) rfl k) ?_
  show own_Go p e below s _ _ _ (s₁.setTop (mkF m 19 #[.val (.int ((0 : Int32) + (132 : Int32))), .val (.int (31 : Int32))] [(.int ((0 : Int32) + (132 : Int32)))]))
  refine own_via (fun _ k => X0.ldcwInt hx hown (mvT hZ (hw _ (List.mem_of_getElem? (i := 33) rfl))) (g := (mkF m 19 #[.val (.int ((0 : Int32) + (132 : Int32))), .val (.int (31 : Int32))] [(.int ((0 : Int32) + (132 : Int32)))])) rfl (hb hby d5_19) _ k) ?_
  show own_Go p e below s _ _ _ (s₁.setTop (mkF m 22 #[.val (.int ((0 : Int32) + (132 : Int32))), .val (.int (31 : Int32))] [(.int (65536 : Int32)), (.int ((0 : Int32) + (132 : Int32)))]))
  refine own_via (fun _ k => XS.icmpYes X0.here hx rfl (pc0 := 22) (pc' := 33) rfl (hb hby d5_22) rfl (tlt (by decide : ((0 : Int32) + (132 : Int32)) < (65536 : Int32))).1 (by decide) (by decide) k) ?_
  show own_Go p e below s _ _ _ (s₁.setTop (mkF m 33 #[.val (.int ((0 : Int32) + (132 : Int32))), .val (.int (31 : Int32))] []))
  refine own_via (fun _ k => XS.iloadN X0.here hx rfl (hb hby d5_33) rfl k) ?_
  show own_Go p e below s _ _ _ (s₁.setTop (mkF m 34 #[.val (.int ((0 : Int32) + (132 : Int32))), .val (.int (31 : Int32))] [(.int ((0 : Int32) + (132 : Int32)))]))
  refine own_via (fun _ k => XS.sipush X0.here hx rfl (hb hby d5_34) k) ?_
  show own_Go p e below s _ _ _ (s₁.setTop (mkF m 37 #[.val (.int ((0 : Int32) + (132 : Int32))), .val (.int (31 : Int32))] [(.int (256 : Int32)), (.int ((0 : Int32) + (132 : Int32)))]))
  refine own_via (fun _ k => XS.icmpYes X0.here hx rfl (pc0 := 37) (pc' := 48) rfl (hb hby d5_37) rfl (tlt (by decide : ((0 : Int32) + (132 : Int32)) < (256 : Int32))).1 (by decide) (by decide) k) ?_
  show own_Go p e below s _ _ _ (s₁.setTop (mkF m 48 #[.val (.int ((0 : Int32) + (132 : Int32))), .val (.int (31 : Int32))] []))
  refine own_via (fun _ k => XS.iloadN X0.here hx rfl (hb hby d5_48) rfl k) ?_
  show own_Go p e below s _ _ _ (s₁.setTop (mkF m 49 #[.val (.int ((0 : Int32) + (132 : Int32))), .val (.int (31 : Int32))] [(.int ((0 : Int32) + (132 : Int32)))]))
  refine own_via (fun _ k => XS.bipush X0.here hx rfl (hb hby d5_49) k) ?_
  show own_Go p e below s _ _ _ (s₁.setTop (mkF m 51 #[.val (.int ((0 : Int32) + (132 : Int32))), .val (.int (31 : Int32))] [(.int (16 : Int32)), (.int ((0 : Int32) + (132 : Int32)))]))
  refine own_via (fun _ k => XS.icmpNo X0.here hx rfl (hb hby d5_51) rfl (flt (by decide : ¬ (((0 : Int32) + (132 : Int32)) < (16 : Int32)))).1 k) ?_
  show own_Go p e below s _ _ _ (s₁.setTop (mkF m 54 #[.val (.int ((0 : Int32) + (132 : Int32))), .val (.int (31 : Int32))] []))
  refine own_via (fun _ k => XS.iinc X0.here hx rfl (hb hby d5_54) rfl (l' := #[.val (.int ((0 : Int32) + (132 : Int32))), .val (.int ((31 : Int32) + (-4 : Int32)))]) rfl k) ?_
  show own_Go p e below s _ _ _ (s₁.setTop (mkF m 57 #[.val (.int ((0 : Int32) + (132 : Int32))), .val (.int ((31 : Int32) + (-4 : Int32)))] []))
  refine own_via (fun _ k => XS.iloadN X0.here hx rfl (hb hby d5_57) rfl k) ?_
  show own_Go p e below s _ _ _ (s₁.setTop (mkF m 58 #[.val (.int ((0 : Int32) + (132 : Int32))), .val (.int ((31 : Int32) + (-4 : Int32)))] [(.int ((0 : Int32) + (132 : Int32)))]))
  refine own_via (fun _ k => XS.iconst X0.here hx rfl (hb hby d5_58) k) ?_
  show own_Go p e below s _ _ _ (s₁.setTop (mkF m 59 #[.val (.int ((0 : Int32) + (132 : Int32))), .val (.int ((31 : Int32) + (-4 : Int32)))] [(.int (4 : Int32)), (.int ((0 : Int32) + (132 : Int32)))]))
  refine own_via (fun _ k => XS.iushr X0.here hx rfl (hb hby d5_59) rfl k) ?_
  show own_Go p e below s _ _ _ (s₁.setTop (mkF m 60 #[.val (.int ((0 : Int32) + (132 : Int32))), .val (.int ((31 : Int32) + (-4 : Int32)))] [(.int ((((0 : Int32) + (132 : Int32)).toUInt32 >>> ((4 : Int32) &&& 31).toUInt32).toInt32))]))
  refine own_via (fun _ k => XS.istoreN X0.here hx rfl (hb hby d5_60) rfl (l' := #[.val (.int ((((0 : Int32) + (132 : Int32)).toUInt32 >>> ((4 : Int32) &&& 31).toUInt32).toInt32)), .val (.int ((31 : Int32) + (-4 : Int32)))]) rfl k) ?_
  show own_Go p e below s _ _ _ (s₁.setTop (mkF m 61 #[.val (.int ((((0 : Int32) + (132 : Int32)).toUInt32 >>> ((4 : Int32) &&& 31).toUInt32).toInt32)), .val (.int ((31 : Int32) + (-4 : Int32)))] []))
  refine own_via (fun _ k => XS.iloadN X0.here hx rfl (hb hby d5_61) rfl k) ?_
  show own_Go p e below s _ _ _ (s₁.setTop (mkF m 62 #[.val (.int ((((0 : Int32) + (132 : Int32)).toUInt32 >>> ((4 : Int32) &&& 31).toUInt32).toInt32)), .val (.int ((31 : Int32) + (-4 : Int32)))] [(.int ((((0 : Int32) + (132 : Int32)).toUInt32 >>> ((4 : Int32) &&& 31).toUInt32).toInt32))]))
  refine own_via (fun _ k => XS.iconst X0.here hx rfl (hb hby d5_62) k) ?_
  show own_Go p e below s _ _ _ (s₁.setTop (mkF m 63 #[.val (.int ((((0 : Int32) + (132 : Int32)).toUInt32 >>> ((4 : Int32) &&& 31).toUInt32).toInt32)), .val (.int ((31 : Int32) + (-4 : Int32)))] [(.int (4 : Int32)), (.int ((((0 : Int32) + (132 : Int32)).toUInt32 >>> ((4 : Int32) &&& 31).toUInt32).toInt32))]))
  refine own_via (fun _ k => XS.icmpNo X0.here hx rfl (hb hby d5_63) rfl (flt (by decide : ¬ (((((0 : Int32) + (132 : Int32)).toUInt32 >>> ((4 : Int32) &&& 31).toUInt32).toInt32) < (4 : Int32)))).1 k) ?_
  show own_Go p e below s _ _ _ (s₁.setTop (mkF m 66 #[.val (.int ((((0 : Int32) + (132 : Int32)).toUInt32 >>> ((4 : Int32) &&& 31).toUInt32).toInt32)), .val (.int ((31 : Int32) + (-4 : Int32)))] []))
  refine own_via (fun _ k => XS.iinc X0.here hx rfl (hb hby d5_66) rfl (l' := #[.val (.int ((((0 : Int32) + (132 : Int32)).toUInt32 >>> ((4 : Int32) &&& 31).toUInt32).toInt32)), .val (.int (((31 : Int32) + (-4 : Int32)) + (-2 : Int32)))]) rfl k) ?_
  show own_Go p e below s _ _ _ (s₁.setTop (mkF m 69 #[.val (.int ((((0 : Int32) + (132 : Int32)).toUInt32 >>> ((4 : Int32) &&& 31).toUInt32).toInt32)), .val (.int (((31 : Int32) + (-4 : Int32)) + (-2 : Int32)))] []))
  refine own_via (fun _ k => XS.iloadN X0.here hx rfl (hb hby d5_69) rfl k) ?_
  show own_Go p e below s _ _ _ (s₁.setTop (mkF m 70 #[.val (.int ((((0 : Int32) + (132 : Int32)).toUInt32 >>> ((4 : Int32) &&& 31).toUInt32).toInt32)), .val (.int (((31 : Int32) + (-4 : Int32)) + (-2 : Int32)))] [(.int ((((0 : Int32) + (132 : Int32)).toUInt32 >>> ((4 : Int32) &&& 31).toUInt32).toInt32))]))
  refine own_via (fun _ k => XS.iconst X0.here hx rfl (hb hby d5_70) k) ?_
  show own_Go p e below s _ _ _ (s₁.setTop (mkF m 71 #[.val (.int ((((0 : Int32) + (132 : Int32)).toUInt32 >>> ((4 : Int32) &&& 31).toUInt32).toInt32)), .val (.int (((31 : Int32) + (-4 : Int32)) + (-2 : Int32)))] [(.int (2 : Int32)), (.int ((((0 : Int32) + (132 : Int32)).toUInt32 >>> ((4 : Int32) &&& 31).toUInt32).toInt32))]))
  refine own_via (fun _ k => XS.iushr X0.here hx rfl (hb hby d5_71) rfl k) ?_
  show own_Go p e below s _ _ _ (s₁.setTop (mkF m 72 #[.val (.int ((((0 : Int32) + (132 : Int32)).toUInt32 >>> ((4 : Int32) &&& 31).toUInt32).toInt32)), .val (.int (((31 : Int32) + (-4 : Int32)) + (-2 : Int32)))] [(.int ((((((0 : Int32) + (132 : Int32)).toUInt32 >>> ((4 : Int32) &&& 31).toUInt32).toInt32).toUInt32 >>> ((2 : Int32) &&& 31).toUInt32).toInt32))]))
  refine own_via (fun _ k => XS.istoreN X0.here hx rfl (hb hby d5_72) rfl (l' := #[.val (.int ((((((0 : Int32) + (132 : Int32)).toUInt32 >>> ((4 : Int32) &&& 31).toUInt32).toInt32).toUInt32 >>> ((2 : Int32) &&& 31).toUInt32).toInt32)), .val (.int (((31 : Int32) + (-4 : Int32)) + (-2 : Int32)))]) rfl k) ?_
  show own_Go p e below s _ _ _ (s₁.setTop (mkF m 73 #[.val (.int ((((((0 : Int32) + (132 : Int32)).toUInt32 >>> ((4 : Int32) &&& 31).toUInt32).toInt32).toUInt32 >>> ((2 : Int32) &&& 31).toUInt32).toInt32)), .val (.int (((31 : Int32) + (-4 : Int32)) + (-2 : Int32)))] []))
  refine own_via (fun _ k => XS.iloadN X0.here hx rfl (hb hby d5_73) rfl k) ?_
  show own_Go p e below s _ _ _ (s₁.setTop (mkF m 74 #[.val (.int ((((((0 : Int32) + (132 : Int32)).toUInt32 >>> ((4 : Int32) &&& 31).toUInt32).toInt32).toUInt32 >>> ((2 : Int32) &&& 31).toUInt32).toInt32)), .val (.int (((31 : Int32) + (-4 : Int32)) + (-2 : Int32)))] [(.int (((31 : Int32) + (-4 : Int32)) + (-2 : Int32)))]))
  refine own_via (fun _ k => XS.iloadN X0.here hx rfl (hb hby d5_74) rfl k) ?_
  show own_Go p e below s _ _ _ (s₁.setTop (mkF m 75 #[.val (.int ((((((0 : Int32) + (132 : Int32)).toUInt32 >>> ((4 : Int32) &&& 31).toUInt32).toInt32).toUInt32 >>> ((2 : Int32) &&& 31).toUInt32).toInt32)), .val (.int (((31 : Int32) + (-4 : Int32)) + (-2 : Int32)))] [(.int ((((((0 : Int32) + (132 : Int32)).toUInt32 >>> ((4 : Int32) &&& 31).toUInt32).toInt32).toUInt32 >>> ((2 : Int32) &&& 31).toUInt32).toInt32)), (.int (((31 : Int32) + (-4 : Int32)) + (-2 : Int32)))]))
  refine own_via (fun _ k => XS.iconst X0.here hx rfl (hb hby d5_75) k) ?_
  show own_Go p e below s _ _ _ (s₁.setTop (mkF m 76 #[.val (.int ((((((0 : Int32) + (132 : Int32)).toUInt32 >>> ((4 : Int32) &&& 31).toUInt32).toInt32).toUInt32 >>> ((2 : Int32) &&& 31).toUInt32).toInt32)), .val (.int (((31 : Int32) + (-4 : Int32)) + (-2 : Int32)))] [(.int (1 : Int32)), (.int ((((((0 : Int32) + (132 : Int32)).toUInt32 >>> ((4 : Int32) &&& 31).toUInt32).toInt32).toUInt32 >>> ((2 : Int32) &&& 31).toUInt32).toInt32)), (.int (((31 : Int32) + (-4 : Int32)) + (-2 : Int32)))]))
  refine own_via (fun _ k => XS.iushr X0.here hx rfl (hb hby d5_76) rfl k) ?_
  show own_Go p e below s _ _ _ (s₁.setTop (mkF m 77 #[.val (.int ((((((0 : Int32) + (132 : Int32)).toUInt32 >>> ((4 : Int32) &&& 31).toUInt32).toInt32).toUInt32 >>> ((2 : Int32) &&& 31).toUInt32).toInt32)), .val (.int (((31 : Int32) + (-4 : Int32)) + (-2 : Int32)))] [(.int ((((((((0 : Int32) + (132 : Int32)).toUInt32 >>> ((4 : Int32) &&& 31).toUInt32).toInt32).toUInt32 >>> ((2 : Int32) &&& 31).toUInt32).toInt32).toUInt32 >>> ((1 : Int32) &&& 31).toUInt32).toInt32)), (.int (((31 : Int32) + (-4 : Int32)) + (-2 : Int32)))]))
  refine own_via (fun _ k => XS.isub X0.here hx rfl (hb hby d5_77) rfl k) ?_
  show own_Go p e below s _ _ _ (s₁.setTop (mkF m 78 #[.val (.int ((((((0 : Int32) + (132 : Int32)).toUInt32 >>> ((4 : Int32) &&& 31).toUInt32).toInt32).toUInt32 >>> ((2 : Int32) &&& 31).toUInt32).toInt32)), .val (.int (((31 : Int32) + (-4 : Int32)) + (-2 : Int32)))] [(.int ((((31 : Int32) + (-4 : Int32)) + (-2 : Int32)) - ((((((((0 : Int32) + (132 : Int32)).toUInt32 >>> ((4 : Int32) &&& 31).toUInt32).toInt32).toUInt32 >>> ((2 : Int32) &&& 31).toUInt32).toInt32).toUInt32 >>> ((1 : Int32) &&& 31).toUInt32).toInt32)))]))
  exact own_retI X0 hx hlk Bd.returns (hb hby d5_78) ⟨rfl, e0, rfl⟩ (by decide) (by decide)
def Q6_0 (w0 : Addr) (w1 : Addr) (h0 : Heap) (v : Option Value) (h : Heap) (L : List Loc) : Prop := L = [] ∧ h = h0 ∧ ((v = some (.int (0 : Int32))))
set_option maxRecDepth 65536 in
set_option maxHeartbeats 40000000 in
theorem rm6_0 (l : Launch) (Z : State) (a0 : Array Value) (hw : ∀ d ∈ tables_1, d.before a0 Z = true) (ws : List Jvm.Cond) (w0 : Addr) (w1 : Addr) (h0 : Heap) (n0 : Nat) (Z0 : n0 ≤ h0.size) (K : own_K Z h0 w0 w1) :
    MetFree l (⟨"java/lang/Math", "max", "(II)I"⟩ : MethodName) (head1 (Jvm.Cond.code (⟨"java/lang/Math", "max", "(II)I"⟩ : MethodName) jdk_29_method_65_code 2 (some .int) :: ws) ({ frames := 0, cells := 0, slots := 0, locals := 0 } : Room)) (fun a U => a = #[(.int (0 : Int32)), (.int (((31 : Int32) - ((((31 : Int32) + (-4 : Int32)) + (-2 : Int32)) - ((((((((0 : Int32) + (132 : Int32)).toUInt32 >>> ((4 : Int32) &&& 31).toUInt32).toInt32).toUInt32 >>> ((2 : Int32) &&& 31).toUInt32).toInt32).toUInt32 >>> ((1 : Int32) &&& 31).toUInt32).toInt32))) - (7 : Int32)))] ∧ Z.Warmed39 U.vm ∧ U.heap = h0) (fun _ _ _ _ _ => True) (fun _ U o U' => ∃ v L, o = .returned v ∧ Q6_0 w0 w1 h0 v U'.heap L ∧ FrameEnd U o U' L ({ frames := 0, cells := 0, slots := 0, locals := 0 } : Room).cells ({ frames := 0, cells := 0, slots := 0, locals := 0 } : Room).slots) := by
  refine MetFree.of_bodySF pn3 hisR ?_
  intro p e s m args below meth c s₁ Bd hml0 hP hK
  obtain ⟨rfl, hZ, hh⟩ := hP
  have hx := Bd.exec
  have hby := Bd.bytes
  have hml : c.maxLocals = 2 := hml0
  have hown : s.vm.findClass "java/lang/Math" = some m.cls := findClass_of_methodNamed Bd.named
  have hnm := (name_of_methodNamed Bd.named Bd.method).1
  have hlk := Bd.notSynchronized
  have X0 : Stand p l e ({ frames := 0, cells := 0, slots := 0, locals := 0 } : Room) s m #[(.int (0 : Int32)), (.int (((31 : Int32) - ((((31 : Int32) + (-4 : Int32)) + (-2 : Int32)) - ((((((((0 : Int32) + (132 : Int32)).toUInt32 >>> ((4 : Int32) &&& 31).toUInt32).toInt32).toUInt32 >>> ((2 : Int32) &&& 31).toUInt32).toInt32).toUInt32 >>> ((1 : Int32) &&& 31).toUInt32).toInt32))) - (7 : Int32)))] below meth c s₁ [] 0 0 := Stand.of_body Bd
  have e0 : s₁.heap = h0 := by rw [← hh, Bd.state]; rfl
  have K0 := K
  obtain ⟨S_w0, S_w1, E_w0, E_w1, F_w0_ordinal, F_w1_ordinal, n_w0_w1⟩ := K
  show own_Go p e below s (Q6_0 w0 w1 h0) 0 0 (s₁.setTop (entryFrame m #[(.int (0 : Int32)), (.int (((31 : Int32) - ((((31 : Int32) + (-4 : Int32)) + (-2 : Int32)) - ((((((((0 : Int32) + (132 : Int32)).toUInt32 >>> ((4 : Int32) &&& 31).toUInt32).toInt32).toUInt32 >>> ((2 : Int32) &&& 31).toUInt32).toInt32).toUInt32 >>> ((1 : Int32) &&& 31).toUInt32).toInt32))) - (7 : Int32)))] 2))
  rw [show entryFrame m #[(.int (0 : Int32)), (.int (((31 : Int32) - ((((31 : Int32) + (-4 : Int32)) + (-2 : Int32)) - ((((((((0 : Int32) + (132 : Int32)).toUInt32 >>> ((4 : Int32) &&& 31).toUInt32).toInt32).toUInt32 >>> ((2 : Int32) &&& 31).toUInt32).toInt32).toUInt32 >>> ((1 : Int32) &&& 31).toUInt32).toInt32))) - (7 : Int32)))] 2 = mkF m 0 #[.val (.int (0 : Int32)), .val (.int (((31 : Int32) - ((((31 : Int32) + (-4 : Int32)) + (-2 : Int32)) - ((((((((0 : Int32) + (132 : Int32)).toUInt32 >>> ((4 : Int32) &&& 31).toUInt32).toInt32).toUInt32 >>> ((2 : Int32) &&& 31).toUInt32).toInt32).toUInt32 >>> ((1 : Int32) &&& 31).toUInt32).toInt32))) - (7 : Int32)))] [] from by first | (simp [entryFrame, mkF, argsToLocals, Value.category]; done) | rfl]
  show own_Go p e below s _ _ _ (s₁.setTop (mkF m 0 #[.val (.int (0 : Int32)), .val (.int (((31 : Int32) - ((((31 : Int32) + (-4 : Int32)) + (-2 : Int32)) - ((((((((0 : Int32) + (132 : Int32)).toUInt32 >>> ((4 : Int32) &&& 31).toUInt32).toInt32).toUInt32 >>> ((2 : Int32) &&& 31).toUInt32).toInt32).toUInt32 >>> ((1 : Int32) &&& 31).toUInt32).toInt32))) - (7 : Int32)))] []))
  refine own_via (fun _ k => XS.iloadN X0.here hx rfl (hb hby d6_0) rfl k) ?_
  show own_Go p e below s _ _ _ (s₁.setTop (mkF m 1 #[.val (.int (0 : Int32)), .val (.int (((31 : Int32) - ((((31 : Int32) + (-4 : Int32)) + (-2 : Int32)) - ((((((((0 : Int32) + (132 : Int32)).toUInt32 >>> ((4 : Int32) &&& 31).toUInt32).toInt32).toUInt32 >>> ((2 : Int32) &&& 31).toUInt32).toInt32).toUInt32 >>> ((1 : Int32) &&& 31).toUInt32).toInt32))) - (7 : Int32)))] [(.int (0 : Int32))]))
  refine own_via (fun _ k => XS.iloadN X0.here hx rfl (hb hby d6_1) rfl k) ?_
  show own_Go p e below s _ _ _ (s₁.setTop (mkF m 2 #[.val (.int (0 : Int32)), .val (.int (((31 : Int32) - ((((31 : Int32) + (-4 : Int32)) + (-2 : Int32)) - ((((((((0 : Int32) + (132 : Int32)).toUInt32 >>> ((4 : Int32) &&& 31).toUInt32).toInt32).toUInt32 >>> ((2 : Int32) &&& 31).toUInt32).toInt32).toUInt32 >>> ((1 : Int32) &&& 31).toUInt32).toInt32))) - (7 : Int32)))] [(.int (((31 : Int32) - ((((31 : Int32) + (-4 : Int32)) + (-2 : Int32)) - ((((((((0 : Int32) + (132 : Int32)).toUInt32 >>> ((4 : Int32) &&& 31).toUInt32).toInt32).toUInt32 >>> ((2 : Int32) &&& 31).toUInt32).toInt32).toUInt32 >>> ((1 : Int32) &&& 31).toUInt32).toInt32))) - (7 : Int32))), (.int (0 : Int32))]))
  refine own_via (fun _ k => XS.icmpNo X0.here hx rfl (hb hby d6_2) rfl (flt (by decide : ¬ ((0 : Int32) < (((31 : Int32) - ((((31 : Int32) + (-4 : Int32)) + (-2 : Int32)) - ((((((((0 : Int32) + (132 : Int32)).toUInt32 >>> ((4 : Int32) &&& 31).toUInt32).toInt32).toUInt32 >>> ((2 : Int32) &&& 31).toUInt32).toInt32).toUInt32 >>> ((1 : Int32) &&& 31).toUInt32).toInt32))) - (7 : Int32))))).1 k) ?_
  show own_Go p e below s _ _ _ (s₁.setTop (mkF m 5 #[.val (.int (0 : Int32)), .val (.int (((31 : Int32) - ((((31 : Int32) + (-4 : Int32)) + (-2 : Int32)) - ((((((((0 : Int32) + (132 : Int32)).toUInt32 >>> ((4 : Int32) &&& 31).toUInt32).toInt32).toUInt32 >>> ((2 : Int32) &&& 31).toUInt32).toInt32).toUInt32 >>> ((1 : Int32) &&& 31).toUInt32).toInt32))) - (7 : Int32)))] []))
  refine own_via (fun _ k => XS.iloadN X0.here hx rfl (hb hby d6_5) rfl k) ?_
  show own_Go p e below s _ _ _ (s₁.setTop (mkF m 6 #[.val (.int (0 : Int32)), .val (.int (((31 : Int32) - ((((31 : Int32) + (-4 : Int32)) + (-2 : Int32)) - ((((((((0 : Int32) + (132 : Int32)).toUInt32 >>> ((4 : Int32) &&& 31).toUInt32).toInt32).toUInt32 >>> ((2 : Int32) &&& 31).toUInt32).toInt32).toUInt32 >>> ((1 : Int32) &&& 31).toUInt32).toInt32))) - (7 : Int32)))] [(.int (0 : Int32))]))
  refine own_via (fun _ k => XS.goto X0.here hx rfl (pc0 := 6) (pc' := 10) rfl (hb hby d6_6) (by decide) (by decide) k) ?_
  show own_Go p e below s _ _ _ (s₁.setTop (mkF m 10 #[.val (.int (0 : Int32)), .val (.int (((31 : Int32) - ((((31 : Int32) + (-4 : Int32)) + (-2 : Int32)) - ((((((((0 : Int32) + (132 : Int32)).toUInt32 >>> ((4 : Int32) &&& 31).toUInt32).toInt32).toUInt32 >>> ((2 : Int32) &&& 31).toUInt32).toInt32).toUInt32 >>> ((1 : Int32) &&& 31).toUInt32).toInt32))) - (7 : Int32)))] [(.int (0 : Int32))]))
  exact own_retI X0 hx hlk Bd.returns (hb hby d6_10) ⟨rfl, e0, rfl⟩ (by decide) (by decide)
def Q4_0 (w0 : Addr) (w1 : Addr) (h0 : Heap) (v : Option Value) (h : Heap) (L : List Loc) : Prop := L = [] ∧ h = h0 ∧ ((v = some (.int (0 : Int32))))
set_option maxRecDepth 65536 in
set_option maxHeartbeats 40000000 in
theorem rm4_0 (l : Launch) (Z : State) (a0 : Array Value) (hw : ∀ d ∈ tables_1, d.before a0 Z = true) (ws : List Jvm.Cond) (w0 : Addr) (w1 : Addr) (h0 : Heap) (n0 : Nat) (Z0 : n0 ≤ h0.size) (K : own_K Z h0 w0 w1) :
    MetFree l (⟨"com/example/loudmark/loudmark/audio/G711Law", "segment", "(I)I"⟩ : MethodName) (head1 (Jvm.Cond.code (⟨"com/example/loudmark/loudmark/audio/G711Law", "segment", "(I)I"⟩ : MethodName) prog_2_method_8_code 1 (some .int) :: ws) ({ frames := 1, cells := 0, slots := 0, locals := 15 } : Room)) (fun a U => a = #[(.int ((0 : Int32) + (132 : Int32)))] ∧ Z.Warmed39 U.vm ∧ U.heap = h0) (fun _ _ _ _ _ => True) (fun _ U o U' => ∃ v L, o = .returned v ∧ Q4_0 w0 w1 h0 v U'.heap L ∧ FrameEnd U o U' L ({ frames := 1, cells := 0, slots := 0, locals := 15 } : Room).cells ({ frames := 1, cells := 0, slots := 0, locals := 15 } : Room).slots) := by
  refine MetFree.of_bodySF (plainFor_of_name pn4) hisR ?_
  intro p e s m args below meth c s₁ Bd hml0 hP hK
  obtain ⟨rfl, hZ, hh⟩ := hP
  have hx := Bd.exec
  have hby := Bd.bytes
  have hml : c.maxLocals = 1 := hml0
  have hown : s.vm.findClass "com/example/loudmark/loudmark/audio/G711Law" = some m.cls := findClass_of_methodNamed Bd.named
  have hnm := (name_of_methodNamed Bd.named Bd.method).1
  have hlk := Bd.notSynchronized
  have X0 : Stand p l e ({ frames := 1, cells := 0, slots := 0, locals := 15 } : Room) s m #[(.int ((0 : Int32) + (132 : Int32)))] below meth c s₁ [] 0 0 := Stand.of_body Bd
  have e0 : s₁.heap = h0 := by rw [← hh, Bd.state]; rfl
  have K0 := K
  obtain ⟨S_w0, S_w1, E_w0, E_w1, F_w0_ordinal, F_w1_ordinal, n_w0_w1⟩ := K
  show own_Go p e below s (Q4_0 w0 w1 h0) 0 0 (s₁.setTop (entryFrame m #[(.int ((0 : Int32) + (132 : Int32)))] 1))
  rw [show entryFrame m #[(.int ((0 : Int32) + (132 : Int32)))] 1 = mkF m 0 #[.val (.int ((0 : Int32) + (132 : Int32)))] [] from by first | (simp [entryFrame, mkF, argsToLocals, Value.category]; done) | rfl]
  show own_Go p e below s _ _ _ (s₁.setTop (mkF m 0 #[.val (.int ((0 : Int32) + (132 : Int32)))] []))
  refine own_via (fun _ k => XS.iconst X0.here hx rfl (hb hby d4_0) k) ?_
  show own_Go p e below s _ _ _ (s₁.setTop (mkF m 1 #[.val (.int ((0 : Int32) + (132 : Int32)))] [(.int (0 : Int32))]))
  refine own_via (fun _ k => XS.bipush X0.here hx rfl (hb hby d4_1) k) ?_
  show own_Go p e below s _ _ _ (s₁.setTop (mkF m 3 #[.val (.int ((0 : Int32) + (132 : Int32)))] [(.int (31 : Int32)), (.int (0 : Int32))]))
  refine own_via (fun _ k => XS.iloadN X0.here hx rfl (hb hby d4_3) rfl k) ?_
  show own_Go p e below s _ _ _ (s₁.setTop (mkF m 4 #[.val (.int ((0 : Int32) + (132 : Int32)))] [(.int ((0 : Int32) + (132 : Int32))), (.int (31 : Int32)), (.int (0 : Int32))]))
  obtain ⟨_, _, ⟨T1, L1, k1, n1⟩, -, X1, ⟨Lc1, hQ1, l1, y1, z1⟩, st1⟩ := Jvm.LawKit.callS X0 hx (y := (⟨"java/lang/Integer", "numberOfLeadingZeros", "(I)I"⟩ : MethodName)) hown (mvT hZ (hw _ (List.mem_of_getElem? (i := 20) rfl))) (mvT hZ (hw _ (List.mem_of_getElem? (i := 21) rfl))) (mvT hZ (hw _ (List.mem_of_getElem? (i := 22) rfl))) (mvT hZ (hw _ (List.mem_of_getElem? (i := 23) rfl))) (by decide) (backOf (W := 2) (rm5_0 l Z a0 hw [] w0 w1 h0 n0 Z0 K0) hZ (hw _ (List.mem_of_getElem? (i := 23) rfl)) (hw _ (List.mem_of_getElem? (i := 22) rfl)) (by decide) (by decide)) (g := (mkF m 4 #[.val (.int ((0 : Int32) + (132 : Int32)))] [(.int ((0 : Int32) + (132 : Int32))), (.int (31 : Int32)), (.int (0 : Int32))])) rfl (by rw [hml]; rfl) (argsL := [(.int ((0 : Int32) + (132 : Int32)))]) (rest := [(.int (31 : Int32)), (.int (0 : Int32))]) (lenOf pd0 rfl) rfl (by show 2 * 0 + _ ≤ _; exact Nat.le_of_eq rfl) (hb hby d4_4) (fun _ _ => ⟨rfl, e0, (by decide : 0 + 0 ≤ _), (by decide : 0 + 0 ≤ _)⟩)
  dsimp only [Pt.U, Pt.locs, Pt.cells, Pt.slots] at X1 l1 y1 z1 st1 hQ1
  subst l1 y1 z1
  obtain ⟨rfl, e1, hO1⟩ := hQ1
  obtain rfl := hO1
  refine own_via st1 ?_
  show own_Go p e below s _ _ _ (T1.setTop (mkF m 7 #[.val (.int ((0 : Int32) + (132 : Int32)))] [(.int ((((31 : Int32) + (-4 : Int32)) + (-2 : Int32)) - ((((((((0 : Int32) + (132 : Int32)).toUInt32 >>> ((4 : Int32) &&& 31).toUInt32).toInt32).toUInt32 >>> ((2 : Int32) &&& 31).toUInt32).toInt32).toUInt32 >>> ((1 : Int32) &&& 31).toUInt32).toInt32))), (.int (31 : Int32)), (.int (0 : Int32))]))
  refine own_via (fun _ k => XS.isub X1.here hx rfl (hb hby d4_7) rfl k) ?_
  show own_Go p e below s _ _ _ (T1.setTop (mkF m 8 #[.val (.int ((0 : Int32) + (132 : Int32)))] [(.int ((31 : Int32) - ((((31 : Int32) + (-4 : Int32)) + (-2 : Int32)) - ((((((((0 : Int32) + (132 : Int32)).toUInt32 >>> ((4 : Int32) &&& 31).toUInt32).toInt32).toUInt32 >>> ((2 : Int32) &&& 31).toUInt32).toInt32).toUInt32 >>> ((1 : Int32) &&& 31).toUInt32).toInt32)))), (.int (0 : Int32))]))
  refine own_via (fun _ k => XS.bipush X1.here hx rfl (hb hby d4_8) k) ?_
  show own_Go p e below s _ _ _ (T1.setTop (mkF m 10 #[.val (.int ((0 : Int32) + (132 : Int32)))] [(.int (7 : Int32)), (.int ((31 : Int32) - ((((31 : Int32) + (-4 : Int32)) + (-2 : Int32)) - ((((((((0 : Int32) + (132 : Int32)).toUInt32 >>> ((4 : Int32) &&& 31).toUInt32).toInt32).toUInt32 >>> ((2 : Int32) &&& 31).toUInt32).toInt32).toUInt32 >>> ((1 : Int32) &&& 31).toUInt32).toInt32)))), (.int (0 : Int32))]))
  refine own_via (fun _ k => XS.isub X1.here hx rfl (hb hby d4_10) rfl k) ?_
  show own_Go p e below s _ _ _ (T1.setTop (mkF m 11 #[.val (.int ((0 : Int32) + (132 : Int32)))] [(.int (((31 : Int32) - ((((31 : Int32) + (-4 : Int32)) + (-2 : Int32)) - ((((((((0 : Int32) + (132 : Int32)).toUInt32 >>> ((4 : Int32) &&& 31).toUInt32).toInt32).toUInt32 >>> ((2 : Int32) &&& 31).toUInt32).toInt32).toUInt32 >>> ((1 : Int32) &&& 31).toUInt32).toInt32))) - (7 : Int32))), (.int (0 : Int32))]))
  obtain ⟨_, _, ⟨T2, L2, k2, n2⟩, -, X2, ⟨Lc2, hQ2, l2, y2, z2⟩, st2⟩ := Jvm.LawKit.callS X1 hx (y := (⟨"java/lang/Math", "max", "(II)I"⟩ : MethodName)) hown (mvT hZ (hw _ (List.mem_of_getElem? (i := 24) rfl))) (mvT hZ (hw _ (List.mem_of_getElem? (i := 25) rfl))) (mvT hZ (hw _ (List.mem_of_getElem? (i := 12) rfl))) (mvT hZ (hw _ (List.mem_of_getElem? (i := 26) rfl))) (by decide) (backOf (W := 0) (rm6_0 l Z a0 hw [] w0 w1 h0 n0 Z0 K0) hZ (hw _ (List.mem_of_getElem? (i := 26) rfl)) (hw _ (List.mem_of_getElem? (i := 12) rfl)) (by decide) (by decide)) (g := (mkF m 11 #[.val (.int ((0 : Int32) + (132 : Int32)))] [(.int (((31 : Int32) - ((((31 : Int32) + (-4 : Int32)) + (-2 : Int32)) - ((((((((0 : Int32) + (132 : Int32)).toUInt32 >>> ((4 : Int32) &&& 31).toUInt32).toInt32).toUInt32 >>> ((2 : Int32) &&& 31).toUInt32).toInt32).toUInt32 >>> ((1 : Int32) &&& 31).toUInt32).toInt32))) - (7 : Int32))), (.int (0 : Int32))])) rfl (by rw [hml]; rfl) (argsL := [(.int (0 : Int32)), (.int (((31 : Int32) - ((((31 : Int32) + (-4 : Int32)) + (-2 : Int32)) - ((((((((0 : Int32) + (132 : Int32)).toUInt32 >>> ((4 : Int32) &&& 31).toUInt32).toInt32).toUInt32 >>> ((2 : Int32) &&& 31).toUInt32).toInt32).toUInt32 >>> ((1 : Int32) &&& 31).toUInt32).toInt32))) - (7 : Int32)))]) (rest := []) (lenOf pd1 rfl) rfl (by show 2 * 0 + _ ≤ _; exact Nat.le_of_eq rfl) (hb hby d4_11) (fun _ _ => ⟨rfl, e1, (by decide : 0 + 0 ≤ _), (by decide : 0 + 0 ≤ _)⟩)
  dsimp only [Pt.U, Pt.locs, Pt.cells, Pt.slots] at X2 l2 y2 z2 st2 hQ2
  subst l2 y2 z2
  obtain ⟨rfl, e2, hO2⟩ := hQ2
  obtain rfl := hO2
  refine own_via st2 ?_
  show own_Go p e below s _ _ _ (T2.setTop (mkF m 14 #[.val (.int ((0 : Int32) + (132 : Int32)))] [(.int (0 : Int32))]))
  exact own_retI X2 hx hlk Bd.returns (hb hby d4_14) ⟨rfl, e2, rfl⟩ (by decide) (by decide)
def Q1_0 (w0 : Addr) (w1 : Addr) (h0 : Heap) (v : Option Value) (h : Heap) (L : List Loc) : Prop := L = [] ∧ h = h0 ∧ ((v = some (.int (-1 : Int32))))
set_option maxRecDepth 65536 in
set_option maxHeartbeats 40000000 in
theorem rm1_0 (l : Launch) (Z : State) (a0 : Array Value) (hw : ∀ d ∈ tables_1, d.before a0 Z = true) (ws : List Jvm.Cond) (w0 : Addr) (w1 : Addr) (h0 : Heap) (n0 : Nat) (Z0 : n0 ≤ h0.size) (K : own_K Z h0 w0 w1) :
    MetFree l (⟨"com/example/loudmark/loudmark/audio/G711Law", "encode", "(S)B"⟩ : MethodName) (head1 (Jvm.Cond.code (⟨"com/example/loudmark/loudmark/audio/G711Law", "encode", "(S)B"⟩ : MethodName) prog_2_method_6_code 6 (some .byte) :: ws) ({ frames := 2, cells := 0, slots := 0, locals := 27 } : Room)) (fun a U => a = #[(.ref w1), (.int (0 : Int32))] ∧ Z.Warmed39 U.vm ∧ U.heap = h0) (fun _ _ _ _ _ => True) (fun _ U o U' => ∃ v L, o = .returned v ∧ Q1_0 w0 w1 h0 v U'.heap L ∧ FrameEnd U o U' L ({ frames := 2, cells := 0, slots := 0, locals := 27 } : Room).cells ({ frames := 2, cells := 0, slots := 0, locals := 27 } : Room).slots) := by
  refine MetFree.of_bodySF (plainFor_of_name pn4) hisR ?_
  intro p e s m args below meth c s₁ Bd hml0 hP hK
  obtain ⟨rfl, hZ, hh⟩ := hP
  have hx := Bd.exec
  have hby := Bd.bytes
  have hml : c.maxLocals = 6 := hml0
  have hown : s.vm.findClass "com/example/loudmark/loudmark/audio/G711Law" = some m.cls := findClass_of_methodNamed Bd.named
  have hnm := (name_of_methodNamed Bd.named Bd.method).1
  have hlk := Bd.notSynchronized
  have X0 : Stand p l e ({ frames := 2, cells := 0, slots := 0, locals := 27 } : Room) s m #[(.ref w1), (.int (0 : Int32))] below meth c s₁ [] 0 0 := Stand.of_body Bd
  have e0 : s₁.heap = h0 := by rw [← hh, Bd.state]; rfl
  have K0 := K
  obtain ⟨S_w0, S_w1, E_w0, E_w1, F_w0_ordinal, F_w1_ordinal, n_w0_w1⟩ := K
  show own_Go p e below s (Q1_0 w0 w1 h0) 0 0 (s₁.setTop (entryFrame m #[(.ref w1), (.int (0 : Int32))] 6))
  rw [show entryFrame m #[(.ref w1), (.int (0 : Int32))] 6 = mkF m 0 #[.val (.ref w1), .val (.int (0 : Int32)), .unset, .unset, .unset, .unset] [] from by first | (simp [entryFrame, mkF, argsToLocals, Value.category]; done) | rfl]
  show own_Go p e below s _ _ _ (s₁.setTop (mkF m 0 #[.val (.ref w1), .val (.int (0 : Int32)), .unset, .unset, .unset, .unset] []))
  refine own_via (fun _ k => XS.aloadN X0.here hx rfl (hb hby d1_0) rfl rfl k) ?_
  show own_Go p e below s _ _ _ (s₁.setTop (mkF m 1 #[.val (.ref w1), .val (.int (0 : Int32)), .unset, .unset, .unset, .unset] [(.ref w1)]))
  obtain ⟨T1, X1, e1, st1⟩ := getS2 X0 hx hZ hown (host := "") (Or.inl (hw _ (List.mem_of_getElem? (i := 8) rfl))) Via.refl e0 S_w1 (g := (mkF m 1 #[.val (.ref w1), .val (.int (0 : Int32)), .unset, .unset, .unset, .unset] [(.ref w1)])) rfl (hb hby d1_1)
  refine own_via st1 ?_
  show own_Go p e below s _ _ _ (T1.setTop (mkF m 4 #[.val (.ref w1), .val (.int (0 : Int32)), .unset, .unset, .unset, .unset] [(.ref w1), (.ref w1)]))
  refine own_via (fun _ k => Jvm.RoadKit.acmp (g := (mkF m 4 #[.val (.ref w1), .val (.int (0 : Int32)), .unset, .unset, .unset, .unset] [(.ref w1), (.ref w1)])) X1 hx rfl rfl rfl (pc0 := 4) (pc' := 7) (same := true) rfl (hb hby d1_4) rfl (decide_eq_true rfl) (by decide) (by decide) k) ?_
  show own_Go p e below s _ _ _ (T1.setTop (mkF m 7 #[.val (.ref w1), .val (.int (0 : Int32)), .unset, .unset, .unset, .unset] []))
  refine own_via (fun _ k => XS.iloadN X1.here hx rfl (hb hby d1_7) rfl k) ?_
  show own_Go p e below s _ _ _ (T1.setTop (mkF m 8 #[.val (.ref w1), .val (.int (0 : Int32)), .unset, .unset, .unset, .unset] [(.int (0 : Int32))]))
  obtain ⟨_, _, ⟨T2, L2, k2, n2⟩, -, X2, ⟨Lc2, hQ2, l2, y2, z2⟩, st2⟩ := Jvm.LawKit.callS X1 hx (y := (⟨"java/lang/Math", "abs", "(I)I"⟩ : MethodName)) hown (mvT hZ (hw _ (List.mem_of_getElem? (i := 10) rfl))) (mvT hZ (hw _ (List.mem_of_getElem? (i := 11) rfl))) (mvT hZ (hw _ (List.mem_of_getElem? (i := 12) rfl))) (mvT hZ (hw _ (List.mem_of_getElem? (i := 13) rfl))) (by decide) (backOf (W := 0) (rm2_0 l Z a0 hw [] w0 w1 h0 n0 Z0 K0) hZ (hw _ (List.mem_of_getElem? (i := 13) rfl)) (hw _ (List.mem_of_getElem? (i := 12) rfl)) (by decide) (by decide)) (g := (mkF m 8 #[.val (.ref w1), .val (.int (0 : Int32)), .unset, .unset, .unset, .unset] [(.int (0 : Int32))])) rfl (by rw [hml]; rfl) (argsL := [(.int (0 : Int32))]) (rest := []) (lenOf pd0 rfl) rfl (by show 2 * 0 + _ ≤ _; exact Nat.le_of_eq rfl) (hb hby d1_8) (fun _ _ => ⟨rfl, e1, (by decide : 0 + 0 ≤ _), (by decide : 0 + 0 ≤ _)⟩)
  dsimp only [Pt.U, Pt.locs, Pt.cells, Pt.slots] at X2 l2 y2 z2 st2 hQ2
  subst l2 y2 z2
  obtain ⟨rfl, e2, hO2⟩ := hQ2
  obtain rfl := hO2
  refine own_via st2 ?_
  show own_Go p e below s _ _ _ (T2.setTop (mkF m 11 #[.val (.ref w1), .val (.int (0 : Int32)), .unset, .unset, .unset, .unset] [(.int (0 : Int32))]))
  refine own_via (fun _ k => XS.sipush X2.here hx rfl (hb hby d1_11) k) ?_
  show own_Go p e below s _ _ _ (T2.setTop (mkF m 14 #[.val (.ref w1), .val (.int (0 : Int32)), .unset, .unset, .unset, .unset] [(.int (32635 : Int32)), (.int (0 : Int32))]))
  obtain ⟨_, _, ⟨T3, L3, k3, n3⟩, -, X3, ⟨Lc3, hQ3, l3, y3, z3⟩, st3⟩ := Jvm.LawKit.callS X2 hx (y := (⟨"java/lang/Math", "min", "(II)I"⟩ : MethodName)) hown (mvT hZ (hw _ (List.mem_of_getElem? (i := 14) rfl))) (mvT hZ (hw _ (List.mem_of_getElem? (i := 15) rfl))) (mvT hZ (hw _ (List.mem_of_getElem? (i := 12) rfl))) (mvT hZ (hw _ (List.mem_of_getElem? (i := 16) rfl))) (by decide) (backOf (W := 0) (rm3_0 l Z a0 hw [] w0 w1 h0 n0 Z0 K0) hZ (hw _ (List.mem_of_getElem? (i := 16) rfl)) (hw _ (List.mem_of_getElem? (i := 12) rfl)) (by decide) (by decide)) (g := (mkF m 14 #[.val (.ref w1), .val (.int (0 : Int32)), .unset, .unset, .unset, .unset] [(.int (32635 : Int32)), (.int (0 : Int32))])) rfl (by rw [hml]; rfl) (argsL := [(.int (0 : Int32)), (.int (32635 : Int32))]) (rest := []) (lenOf pd1 rfl) rfl (by show 2 * 0 + _ ≤ _; exact Nat.le_of_eq rfl) (hb hby d1_14) (fun _ _ => ⟨rfl, e2, (by decide : 0 + 0 ≤ _), (by decide : 0 + 0 ≤ _)⟩)
  dsimp only [Pt.U, Pt.locs, Pt.cells, Pt.slots] at X3 l3 y3 z3 st3 hQ3
  subst l3 y3 z3
  obtain ⟨rfl, e3, hO3⟩ := hQ3
  obtain rfl := hO3
  refine own_via st3 ?_
  show own_Go p e below s _ _ _ (T3.setTop (mkF m 17 #[.val (.ref w1), .val (.int (0 : Int32)), .unset, .unset, .unset, .unset] [(.int (0 : Int32))]))
  refine own_via (fun _ k => XS.sipush X3.here hx rfl (hb hby d1_17) k) ?_
  show own_Go p e below s _ _ _ (T3.setTop (mkF m 20 #[.val (.ref w1), .val (.int (0 : Int32)), .unset, .unset, .unset, .unset] [(.int (132 : Int32)), (.int (0 : Int32))]))
  refine own_via (fun _ k => XS.iadd X3.here hx rfl (hb hby d1_20) rfl k) ?_
  show own_Go p e below s _ _ _ (T3.setTop (mkF m 21 #[.val (.ref w1), .val (.int (0 : Int32)), .unset, .unset, .unset, .unset] [(.int ((0 : Int32) + (132 : Int32)))]))
  refine own_via (fun _ k => XS.istoreN X3.here hx rfl (hb hby d1_21) rfl (l' := #[.val (.ref w1), .val (.int (0 : Int32)), .unset, .val (.int ((0 : Int32) + (132 : Int32))), .unset, .unset]) rfl k) ?_
  show own_Go p e below s _ _ _ (T3.setTop (mkF m 22 #[.val (.ref w1), .val (.int (0 : Int32)), .unset, .val (.int ((0 : Int32) + (132 : Int32))), .unset, .unset] []))
  refine own_via (fun _ k => XS.iloadN X3.here hx rfl (hb hby d1_22) rfl k) ?_
  show own_Go p e below s _ _ _ (T3.setTop (mkF m 23 #[.val (.ref w1), .val (.int (0 : Int32)), .unset, .val (.int ((0 : Int32) + (132 : Int32))), .unset, .unset] [(.int ((0 : Int32) + (132 : Int32)))]))
  obtain ⟨_, _, ⟨T4, L4, k4, n4⟩, -, X4, ⟨Lc4, hQ4, l4, y4, z4⟩, st4⟩ := Jvm.LawKit.callS X3 hx (y := (⟨"com/example/loudmark/loudmark/audio/G711Law", "segment", "(I)I"⟩ : MethodName)) hown (mvT hZ (hw _ (List.mem_of_getElem? (i := 17) rfl))) (mvT hZ (hw _ (List.mem_of_getElem? (i := 18) rfl))) (mvT hZ (hw _ (List.mem_of_getElem? (i := 1) rfl))) (mvT hZ (hw _ (List.mem_of_getElem? (i := 19) rfl))) (by decide) (backOf (W := 0) (rm4_0 l Z a0 hw [] w0 w1 h0 n0 Z0 K0) hZ (hw _ (List.mem_of_getElem? (i := 19) rfl)) (hw _ (List.mem_of_getElem? (i := 1) rfl)) (by decide) (by decide)) (g := (mkF m 23 #[.val (.ref w1), .val (.int (0 : Int32)), .unset, .val (.int ((0 : Int32) + (132 : Int32))), .unset, .unset] [(.int ((0 : Int32) + (132 : Int32)))])) rfl (by rw [hml]; rfl) (argsL := [(.int ((0 : Int32) + (132 : Int32)))]) (rest := []) (lenOf pd0 rfl) rfl (by show 2 * 0 + _ ≤ _; exact Nat.le_of_eq rfl) (hb hby d1_23) (fun _ _ => ⟨rfl, e3, (by decide : 0 + 0 ≤ _), (by decide : 0 + 0 ≤ _)⟩)
  dsimp only [Pt.U, Pt.locs, Pt.cells, Pt.slots] at X4 l4 y4 z4 st4 hQ4
  subst l4 y4 z4
  obtain ⟨rfl, e4, hO4⟩ := hQ4
  obtain rfl := hO4
  refine own_via st4 ?_
  show own_Go p e below s _ _ _ (T4.setTop (mkF m 26 #[.val (.ref w1), .val (.int (0 : Int32)), .unset, .val (.int ((0 : Int32) + (132 : Int32))), .unset, .unset] [(.int (0 : Int32))]))
  refine own_via (fun _ k => XS.istore X4.here hx rfl (hb hby d1_26) rfl (l' := #[.val (.ref w1), .val (.int (0 : Int32)), .unset, .val (.int ((0 : Int32) + (132 : Int32))), .val (.int (0 : Int32)), .unset]) rfl k) ?_
  show own_Go p e below s _ _ _ (T4.setTop (mkF m 28 #[.val (.ref w1), .val (.int (0 : Int32)), .unset, .val (.int ((0 : Int32) + (132 : Int32))), .val (.int (0 : Int32)), .unset] []))
  refine own_via (fun _ k => XS.iloadN X4.here hx rfl (hb hby d1_28) rfl k) ?_
  show own_Go p e below s _ _ _ (T4.setTop (mkF m 29 #[.val (.ref w1), .val (.int (0 : Int32)), .unset, .val (.int ((0 : Int32) + (132 : Int32))), .val (.int (0 : Int32)), .unset] [(.int ((0 : Int32) + (132 : Int32)))]))
  refine own_via (fun _ k => XS.iload X4.here hx rfl (hb hby d1_29) rfl k) ?_
  show own_Go p e below s _ _ _ (T4.setTop (mkF m 31 #[.val (.ref w1), .val (.int (0 : Int32)), .unset, .val (.int ((0 : Int32) + (132 : Int32))), .val (.int (0 : Int32)), .unset] [(.int (0 : Int32)), (.int ((0 : Int32) + (132 : Int32)))]))
  refine own_via (fun _ k => XS.iconst X4.here hx rfl (hb hby d1_31) k) ?_
  show own_Go p e below s _ _ _ (T4.setTop (mkF m 32 #[.val (.ref w1), .val (.int (0 : Int32)), .unset, .val (.int ((0 : Int32) + (132 : Int32))), .val (.int (0 : Int32)), .unset] [(.int (3 : Int32)), (.int (0 : Int32)), (.int ((0 : Int32) + (132 : Int32)))]))
  refine own_via (fun _ k => XS.iadd X4.here hx rfl (hb hby d1_32) rfl k) ?_
  show own_Go p e below s _ _ _ (T4.setTop (mkF m 33 #[.val (.ref w1), .val (.int (0 : Int32)), .unset, .val (.int ((0 : Int32) + (132 : Int32))), .val (.int (0 : Int32)), .unset] [(.int ((0 : Int32) + (3 : Int32))), (.int ((0 : Int32) + (132 : Int32)))]))
  refine own_via (fun _ k => XS.ishr X4.here hx rfl (hb hby d1_33) rfl k) ?_
  show own_Go p e below s _ _ _ (T4.setTop (mkF m 34 #[.val (.ref w1), .val (.int (0 : Int32)), .unset, .val (.int ((0 : Int32) + (132 : Int32))), .val (.int (0 : Int32)), .unset] [(.int (((0 : Int32) + (132 : Int32)) >>> (((0 : Int32) + (3 : Int32)) &&& 31)))]))
  refine own_via (fun _ k => XS.bipush X4.here hx rfl (hb hby d1_34) k) ?_
  show own_Go p e below s _ _ _ (T4.setTop (mkF m 36 #[.val (.ref w1), .val (.int (0 : Int32)), .unset, .val (.int ((0 : Int32) + (132 : Int32))), .val (.int (0 : Int32)), .unset] [(.int (15 : Int32)), (.int (((0 : Int32) + (132 : Int32)) >>> (((0 : Int32) + (3 : Int32)) &&& 31)))]))
  refine own_via (fun _ k => XS.iand X4.here hx rfl (hb hby d1_36) rfl k) ?_
  show own_Go p e below s _ _ _ (T4.setTop (mkF m 37 #[.val (.ref w1), .val (.int (0 : Int32)), .unset, .val (.int ((0 : Int32) + (132 : Int32))), .val (.int (0 : Int32)), .unset] [(.int ((((0 : Int32) + (132 : Int32)) >>> (((0 : Int32) + (3 : Int32)) &&& 31)) &&& (15 : Int32)))]))
  refine own_via (fun _ k => XS.istore X4.here hx rfl (hb hby d1_37) rfl (l' := #[.val (.ref w1), .val (.int (0 : Int32)), .unset, .val (.int ((0 : Int32) + (132 : Int32))), .val (.int (0 : Int32)), .val (.int ((((0 : Int32) + (132 : Int32)) >>> (((0 : Int32) + (3 : Int32)) &&& 31)) &&& (15 : Int32)))]) rfl k) ?_
  show own_Go p e below s _ _ _ (T4.setTop (mkF m 39 #[.val (.ref w1), .val (.int (0 : Int32)), .unset, .val (.int ((0 : Int32) + (132 : Int32))), .val (.int (0 : Int32)), .val (.int ((((0 : Int32) + (132 : Int32)) >>> (((0 : Int32) + (3 : Int32)) &&& 31)) &&& (15 : Int32)))] []))
  refine own_via (fun _ k => XS.iloadN X4.here hx rfl (hb hby d1_39) rfl k) ?_
  show own_Go p e below s _ _ _ (T4.setTop (mkF m 40 #[.val (.ref w1), .val (.int (0 : Int32)), .unset, .val (.int ((0 : Int32) + (132 : Int32))), .val (.int (0 : Int32)), .val (.int ((((0 : Int32) + (132 : Int32)) >>> (((0 : Int32) + (3 : Int32)) &&& 31)) &&& (15 : Int32)))] [(.int (0 : Int32))]))
  refine own_via (fun _ k => XS.ifYes X4.here hx rfl (pc0 := 40) (pc' := 49) rfl (hb hby d1_40) rfl ((if0 _ _).trans (flt (by decide : ¬ ((0 : Int32) < (0 : Int32)))).2.1) (by decide) (by decide) k) ?_
  show own_Go p e below s _ _ _ (T4.setTop (mkF m 49 #[.val (.ref w1), .val (.int (0 : Int32)), .unset, .val (.int ((0 : Int32) + (132 : Int32))), .val (.int (0 : Int32)), .val (.int ((((0 : Int32) + (132 : Int32)) >>> (((0 : Int32) + (3 : Int32)) &&& 31)) &&& (15 : Int32)))] []))
  refine own_via (fun _ k => XS.iconst X4.here hx rfl (hb hby d1_49) k) ?_
  show own_Go p e below s _ _ _ (T4.setTop (mkF m 50 #[.val (.ref w1), .val (.int (0 : Int32)), .unset, .val (.int ((0 : Int32) + (132 : Int32))), .val (.int (0 : Int32)), .val (.int ((((0 : Int32) + (132 : Int32)) >>> (((0 : Int32) + (3 : Int32)) &&& 31)) &&& (15 : Int32)))] [(.int (0 : Int32))]))
  refine own_via (fun _ k => XS.iload X4.here hx rfl (hb hby d1_50) rfl k) ?_
  show own_Go p e below s _ _ _ (T4.setTop (mkF m 52 #[.val (.ref w1), .val (.int (0 : Int32)), .unset, .val (.int ((0 : Int32) + (132 : Int32))), .val (.int (0 : Int32)), .val (.int ((((0 : Int32) + (132 : Int32)) >>> (((0 : Int32) + (3 : Int32)) &&& 31)) &&& (15 : Int32)))] [(.int (0 : Int32)), (.int (0 : Int32))]))
  refine own_via (fun _ k => XS.iconst X4.here hx rfl (hb hby d1_52) k) ?_
  show own_Go p e below s _ _ _ (T4.setTop (mkF m 53 #[.val (.ref w1), .val (.int (0 : Int32)), .unset, .val (.int ((0 : Int32) + (132 : Int32))), .val (.int (0 : Int32)), .val (.int ((((0 : Int32) + (132 : Int32)) >>> (((0 : Int32) + (3 : Int32)) &&& 31)) &&& (15 : Int32)))] [(.int (4 : Int32)), (.int (0 : Int32)), (.int (0 : Int32))]))
  refine own_via (fun _ k => XS.ishl X4.here hx rfl (hb hby d1_53) rfl k) ?_
  show own_Go p e below s _ _ _ (T4.setTop (mkF m 54 #[.val (.ref w1), .val (.int (0 : Int32)), .unset, .val (.int ((0 : Int32) + (132 : Int32))), .val (.int (0 : Int32)), .val (.int ((((0 : Int32) + (132 : Int32)) >>> (((0 : Int32) + (3 : Int32)) &&& 31)) &&& (15 : Int32)))] [(.int ((0 : Int32) <<< ((4 : Int32) &&& 31))), (.int (0 : Int32))]))
  refine own_via (fun _ k => XS.ior X4.here hx rfl (hb hby d1_54) rfl k) ?_
  show own_Go p e below s _ _ _ (T4.setTop (mkF m 55 #[.val (.ref w1), .val (.int (0 : Int32)), .unset, .val (.int ((0 : Int32) + (132 : Int32))), .val (.int (0 : Int32)), .val (.int ((((0 : Int32) + (132 : Int32)) >>> (((0 : Int32) + (3 : Int32)) &&& 31)) &&& (15 : Int32)))] [(.int ((0 : Int32) ||| ((0 : Int32) <<< ((4 : Int32) &&& 31))))]))
  refine own_via (fun _ k => XS.iload X4.here hx rfl (hb hby d1_55) rfl k) ?_
  show own_Go p e below s _ _ _ (T4.setTop (mkF m 57 #[.val (.ref w1), .val (.int (0 : Int32)), .unset, .val (.int ((0 : Int32) + (132 : Int32))), .val (.int (0 : Int32)), .val (.int ((((0 : Int32) + (132 : Int32)) >>> (((0 : Int32) + (3 : Int32)) &&& 31)) &&& (15 : Int32)))] [(.int ((((0 : Int32) + (132 : Int32)) >>> (((0 : Int32) + (3 : Int32)) &&& 31)) &&& (15 : Int32))), (.int ((0 : Int32) ||| ((0 : Int32) <<< ((4 : Int32) &&& 31))))]))
  refine own_via (fun _ k => XS.ior X4.here hx rfl (hb hby d1_57) rfl k) ?_
  show own_Go p e below s _ _ _ (T4.setTop (mkF m 58 #[.val (.ref w1), .val (.int (0 : Int32)), .unset, .val (.int ((0 : Int32) + (132 : Int32))), .val (.int (0 : Int32)), .val (.int ((((0 : Int32) + (132 : Int32)) >>> (((0 : Int32) + (3 : Int32)) &&& 31)) &&& (15 : Int32)))] [(.int (((0 : Int32) ||| ((0 : Int32) <<< ((4 : Int32) &&& 31))) ||| ((((0 : Int32) + (132 : Int32)) >>> (((0 : Int32) + (3 : Int32)) &&& 31)) &&& (15 : Int32))))]))
  refine own_via (fun _ k => XS.iconst X4.here hx rfl (hb hby d1_58) k) ?_
  show own_Go p e below s _ _ _ (T4.setTop (mkF m 59 #[.val (.ref w1), .val (.int (0 : Int32)), .unset, .val (.int ((0 : Int32) + (132 : Int32))), .val (.int (0 : Int32)), .val (.int ((((0 : Int32) + (132 : Int32)) >>> (((0 : Int32) + (3 : Int32)) &&& 31)) &&& (15 : Int32)))] [(.int (-1 : Int32)), (.int (((0 : Int32) ||| ((0 : Int32) <<< ((4 : Int32) &&& 31))) ||| ((((0 : Int32) + (132 : Int32)) >>> (((0 : Int32) + (3 : Int32)) &&& 31)) &&& (15 : Int32))))]))
  refine own_via (fun _ k => XS.ixor X4.here hx rfl (hb hby d1_59) rfl k) ?_
  show own_Go p e below s _ _ _ (T4.setTop (mkF m 60 #[.val (.ref w1), .val (.int (0 : Int32)), .unset, .val (.int ((0 : Int32) + (132 : Int32))), .val (.int (0 : Int32)), .val (.int ((((0 : Int32) + (132 : Int32)) >>> (((0 : Int32) + (3 : Int32)) &&& 31)) &&& (15 : Int32)))] [(.int ((((0 : Int32) ||| ((0 : Int32) <<< ((4 : Int32) &&& 31))) ||| ((((0 : Int32) + (132 : Int32)) >>> (((0 : Int32) + (3 : Int32)) &&& 31)) &&& (15 : Int32))) ^^^ (-1 : Int32)))]))
  refine own_via (fun _ k => XS.i2b X4.here hx rfl (hb hby d1_60) rfl k) ?_
  show own_Go p e below s _ _ _ (T4.setTop (mkF m 61 #[.val (.ref w1), .val (.int (0 : Int32)), .unset, .val (.int ((0 : Int32) + (132 : Int32))), .val (.int (0 : Int32)), .val (.int ((((0 : Int32) + (132 : Int32)) >>> (((0 : Int32) + (3 : Int32)) &&& 31)) &&& (15 : Int32)))] [(.int (((((0 : Int32) ||| ((0 : Int32) <<< ((4 : Int32) &&& 31))) ||| ((((0 : Int32) + (132 : Int32)) >>> (((0 : Int32) + (3 : Int32)) &&& 31)) &&& (15 : Int32))) ^^^ (-1 : Int32)).toInt8.toInt32))]))
  refine own_via (fun _ k => XS.istoreN X4.here hx rfl (hb hby d1_61) rfl (l' := #[.val (.ref w1), .val (.int (0 : Int32)), .val (.int (((((0 : Int32) ||| ((0 : Int32) <<< ((4 : Int32) &&& 31))) ||| ((((0 : Int32) + (132 : Int32)) >>> (((0 : Int32) + (3 : Int32)) &&& 31)) &&& (15 : Int32))) ^^^ (-1 : Int32)).toInt8.toInt32)), .val (.int ((0 : Int32) + (132 : Int32))), .val (.int (0 : Int32)), .val (.int ((((0 : Int32) + (132 : Int32)) >>> (((0 : Int32) + (3 : Int32)) &&& 31)) &&& (15 : Int32)))]) rfl k) ?_
  show own_Go p e below s _ _ _ (T4.setTop (mkF m 62 #[.val (.ref w1), .val (.int (0 : Int32)), .val (.int (((((0 : Int32) ||| ((0 : Int32) <<< ((4 : Int32) &&& 31))) ||| ((((0 : Int32) + (132 : Int32)) >>> (((0 : Int32) + (3 : Int32)) &&& 31)) &&& (15 : Int32))) ^^^ (-1 : Int32)).toInt8.toInt32)), .val (.int ((0 : Int32) + (132 : Int32))), .val (.int (0 : Int32)), .val (.int ((((0 : Int32) + (132 : Int32)) >>> (((0 : Int32) + (3 : Int32)) &&& 31)) &&& (15 : Int32)))] []))
  refine own_via (fun _ k => XS.goto X4.here hx rfl (pc0 := 62) (pc' := 121) rfl (hb hby d1_62) (by decide) (by decide) k) ?_
  show own_Go p e below s _ _ _ (T4.setTop (mkF m 121 #[.val (.ref w1), .val (.int (0 : Int32)), .val (.int (((((0 : Int32) ||| ((0 : Int32) <<< ((4 : Int32) &&& 31))) ||| ((((0 : Int32) + (132 : Int32)) >>> (((0 : Int32) + (3 : Int32)) &&& 31)) &&& (15 : Int32))) ^^^ (-1 : Int32)).toInt8.toInt32)), .val (.int ((0 : Int32) + (132 : Int32))), .val (.int (0 : Int32)), .val (.int ((((0 : Int32) + (132 : Int32)) >>> (((0 : Int32) + (3 : Int32)) &&& 31)) &&& (15 : Int32)))] []))
  refine own_via (fun _ k => XS.iloadN X4.here hx rfl (hb hby d1_121) rfl k) ?_
  show own_Go p e below s _ _ _ (T4.setTop (mkF m 122 #[.val (.ref w1), .val (.int (0 : Int32)), .val (.int (((((0 : Int32) ||| ((0 : Int32) <<< ((4 : Int32) &&& 31))) ||| ((((0 : Int32) + (132 : Int32)) >>> (((0 : Int32) + (3 : Int32)) &&& 31)) &&& (15 : Int32))) ^^^ (-1 : Int32)).toInt8.toInt32)), .val (.int ((0 : Int32) + (132 : Int32))), .val (.int (0 : Int32)), .val (.int ((((0 : Int32) + (132 : Int32)) >>> (((0 : Int32) + (3 : Int32)) &&& 31)) &&& (15 : Int32)))] [(.int (((((0 : Int32) ||| ((0 : Int32) <<< ((4 : Int32) &&& 31))) ||| ((((0 : Int32) + (132 : Int32)) >>> (((0 : Int32) + (3 : Int32)) &&& 31)) &&& (15 : Int32))) ^^^ (-1 : Int32)).toInt8.toInt32))]))
  exact own_retZ X4 hx hlk (t := .byte) Bd.returns (by simp) (hb hby d1_122) (z' := (-1 : Int32)) (by first | rfl | decide) ⟨rfl, e4, rfl⟩ (by decide) (by decide)
def Q7_0 (w0 : Addr) (w1 : Addr) (h0 : Heap) (v : Option Value) (h : Heap) (L : List Loc) : Prop := L = [] ∧ h = h0 ∧ ((v = some (.int (1 : Int32))))
set_option maxRecDepth 65536 in
set_option maxHeartbeats 40000000 in
theorem rm7_0 (l : Launch) (Z : State) (a0 : Array Value) (hw : ∀ d ∈ tables_1, d.before a0 Z = true) (ws : List Jvm.Cond) (w0 : Addr) (w1 : Addr) (h0 : Heap) (n0 : Nat) (Z0 : n0 ≤ h0.size) (K : own_K Z h0 w0 w1) :
    MetFree l (⟨"com/example/loudmark/loudmark/audio/G711Law", "encodesZero", "(B)Z"⟩ : MethodName) (head1 (Jvm.Cond.code (⟨"com/example/loudmark/loudmark/audio/G711Law", "encodesZero", "(B)Z"⟩ : MethodName) prog_2_method_10_code 3 (some .boolean) :: ws) ({ frames := 0, cells := 0, slots := 0, locals := 0 } : Room)) (fun a U => a = #[(.ref w1), (.int (-1 : Int32))] ∧ Z.Warmed39 U.vm ∧ U.heap = h0) (fun _ _ _ _ _ => True) (fun _ U o U' => ∃ v L, o = .returned v ∧ Q7_0 w0 w1 h0 v U'.heap L ∧ FrameEnd U o U' L ({ frames := 0, cells := 0, slots := 0, locals := 0 } : Room).cells ({ frames := 0, cells := 0, slots := 0, locals := 0 } : Room).slots) := by
  refine MetFree.of_bodySF (plainFor_of_name pn4) hisR ?_
  intro p e s m args below meth c s₁ Bd hml0 hP hK
  obtain ⟨rfl, hZ, hh⟩ := hP
  have hx := Bd.exec
  have hby := Bd.bytes
  have hml : c.maxLocals = 3 := hml0
  have hown : s.vm.findClass "com/example/loudmark/loudmark/audio/G711Law" = some m.cls := findClass_of_methodNamed Bd.named
  have hnm := (name_of_methodNamed Bd.named Bd.method).1
  have hlk := Bd.notSynchronized
  have X0 : Stand p l e ({ frames := 0, cells := 0, slots := 0, locals := 0 } : Room) s m #[(.ref w1), (.int (-1 : Int32))] below meth c s₁ [] 0 0 := Stand.of_body Bd
  have e0 : s₁.heap = h0 := by rw [← hh, Bd.state]; rfl
  have K0 := K
  obtain ⟨S_w0, S_w1, E_w0, E_w1, F_w0_ordinal, F_w1_ordinal, n_w0_w1⟩ := K
  show own_Go p e below s (Q7_0 w0 w1 h0) 0 0 (s₁.setTop (entryFrame m #[(.ref w1), (.int (-1 : Int32))] 3))
  rw [show entryFrame m #[(.ref w1), (.int (-1 : Int32))] 3 = mkF m 0 #[.val (.ref w1), .val (.int (-1 : Int32)), .unset] [] from by first | (simp [entryFrame, mkF, argsToLocals, Value.category]; done) | rfl]
  show own_Go p e below s _ _ _ (s₁.setTop (mkF m 0 #[.val (.ref w1), .val (.int (-1 : Int32)), .unset] []))
  refine own_via (fun _ k => XS.iloadN X0.here hx rfl (hb hby d7_0) rfl k) ?_
  show own_Go p e below s _ _ _ (s₁.setTop (mkF m 1 #[.val (.ref w1), .val (.int (-1 : Int32)), .unset] [(.int (-1 : Int32))]))
  refine own_via (fun _ k => XS.bipush X0.here hx rfl (hb hby d7_1) k) ?_
  show own_Go p e below s _ _ _ (s₁.setTop (mkF m 3 #[.val (.ref w1), .val (.int (-1 : Int32)), .unset] [(.int (127 : Int32)), (.int (-1 : Int32))]))
  refine own_via (fun _ k => XS.iand X0.here hx rfl (hb hby d7_3) rfl k) ?_
  show own_Go p e below s _ _ _ (s₁.setTop (mkF m 4 #[.val (.ref w1), .val (.int (-1 : Int32)), .unset] [(.int ((-1 : Int32) &&& (127 : Int32)))]))
  refine own_via (fun _ k => XS.aloadN X0.here hx rfl (hb hby d7_4) rfl rfl k) ?_
  show own_Go p e below s _ _ _ (s₁.setTop (mkF m 5 #[.val (.ref w1), .val (.int (-1 : Int32)), .unset] [(.ref w1), (.int ((-1 : Int32) &&& (127 : Int32)))]))
  obtain ⟨T1, X1, e1, st1⟩ := getS2 X0 hx hZ hown (host := "") (Or.inl (hw _ (List.mem_of_getElem? (i := 8) rfl))) Via.refl e0 S_w1 (g := (mkF m 5 #[.val (.ref w1), .val (.int (-1 : Int32)), .unset] [(.ref w1), (.int ((-1 : Int32) &&& (127 : Int32)))])) rfl (hb hby d7_5)
  refine own_via st1 ?_
  show own_Go p e below s _ _ _ (T1.setTop (mkF m 8 #[.val (.ref w1), .val (.int (-1 : Int32)), .unset] [(.ref w1), (.ref w1), (.int ((-1 : Int32) &&& (127 : Int32)))]))
  refine own_via (fun _ k => Jvm.RoadKit.acmp (g := (mkF m 8 #[.val (.ref w1), .val (.int (-1 : Int32)), .unset] [(.ref w1), (.ref w1), (.int ((-1 : Int32) &&& (127 : Int32)))])) X1 hx rfl rfl rfl (pc0 := 8) (pc' := 11) (same := true) rfl (hb hby d7_8) rfl (decide_eq_true rfl) (by decide) (by decide) k) ?_
  show own_Go p e below s _ _ _ (T1.setTop (mkF m 11 #[.val (.ref w1), .val (.int (-1 : Int32)), .unset] [(.int ((-1 : Int32) &&& (127 : Int32)))]))
  refine own_via (fun _ k => XS.bipush X1.here hx rfl (hb hby d7_11) k) ?_
  show own_Go p e below s _ _ _ (T1.setTop (mkF m 13 #[.val (.ref w1), .val (.int (-1 : Int32)), .unset] [(.int (127 : Int32)), (.int ((-1 : Int32) &&& (127 : Int32)))]))
  refine own_via (fun _ k => XS.goto X1.here hx rfl (pc0 := 13) (pc' := 18) rfl (hb hby d7_13) (by decide) (by decide) k) ?_
  show own_Go p e below s _ _ _ (T1.setTop (mkF m 18 #[.val (.ref w1), .val (.int (-1 : Int32)), .unset] [(.int (127 : Int32)), (.int ((-1 : Int32) &&& (127 : Int32)))]))
  refine own_via (fun _ k => XS.ixor X1.here hx rfl (hb hby d7_18) rfl k) ?_
  show own_Go p e below s _ _ _ (T1.setTop (mkF m 19 #[.val (.ref w1), .val (.int (-1 : Int32)), .unset] [(.int (((-1 : Int32) &&& (127 : Int32)) ^^^ (127 : Int32)))]))
  refine own_via (fun _ k => XS.istoreN X1.here hx rfl (hb hby d7_19) rfl (l' := #[.val (.ref w1), .val (.int (-1 : Int32)), .val (.int (((-1 : Int32) &&& (127 : Int32)) ^^^ (127 : Int32)))]) rfl k) ?_
  show own_Go p e below s _ _ _ (T1.setTop (mkF m 20 #[.val (.ref w1), .val (.int (-1 : Int32)), .val (.int (((-1 : Int32) &&& (127 : Int32)) ^^^ (127 : Int32)))] []))
  refine own_via (fun _ k => XS.iloadN X1.here hx rfl (hb hby d7_20) rfl k) ?_
  show own_Go p e below s _ _ _ (T1.setTop (mkF m 21 #[.val (.ref w1), .val (.int (-1 : Int32)), .val (.int (((-1 : Int32) &&& (127 : Int32)) ^^^ (127 : Int32)))] [(.int (((-1 : Int32) &&& (127 : Int32)) ^^^ (127 : Int32)))]))
  refine own_via (fun _ k => XS.ifNo X1.here hx rfl (hb hby d7_21) rfl ((if0 _ _).trans (teq (by decide : (((-1 : Int32) &&& (127 : Int32)) ^^^ (127 : Int32)) = (0 : Int32))).2) k) ?_
  show own_Go p e below s _ _ _ (T1.setTop (mkF m 24 #[.val (.ref w1), .val (.int (-1 : Int32)), .val (.int (((-1 : Int32) &&& (127 : Int32)) ^^^ (127 : Int32)))] []))
  refine own_via (fun _ k => XS.iconst X1.here hx rfl (hb hby d7_24) k) ?_
  show own_Go p e below s _ _ _ (T1.setTop (mkF m 25 #[.val (.ref w1), .val (.int (-1 : Int32)), .val (.int (((-1 : Int32) &&& (127 : Int32)) ^^^ (127 : Int32)))] [(.int (1 : Int32))]))
  refine own_via (fun _ k => XS.goto X1.here hx rfl (pc0 := 25) (pc' := 29) rfl (hb hby d7_25) (by decide) (by decide) k) ?_
  show own_Go p e below s _ _ _ (T1.setTop (mkF m 29 #[.val (.ref w1), .val (.int (-1 : Int32)), .val (.int (((-1 : Int32) &&& (127 : Int32)) ^^^ (127 : Int32)))] [(.int (1 : Int32))]))
  exact own_retZ X1 hx hlk (t := .boolean) Bd.returns (by simp) (hb hby d7_29) (z' := (1 : Int32)) (by first | rfl | decide) ⟨rfl, e1, rfl⟩ (by decide) (by decide)
def Q7_1 (x1 : Int32) (w0 : Addr) (w1 : Addr) (h0 : Heap) (v : Option Value) (h : Heap) (L : List Loc) : Prop := L = [] ∧ h = h0 ∧ ((((x1 &&& (127 : Int32)) ^^^ (127 : Int32)) = (0 : Int32) ∧ v = some (.int (1 : Int32))) ∨ (¬ (((x1 &&& (127 : Int32)) ^^^ (127 : Int32)) = (0 : Int32)) ∧ v = some (.int (0 : Int32))))
set_option maxRecDepth 65536 in
set_option maxHeartbeats 40000000 in
theorem rm7_1 (l : Launch) (Z : State) (a0 : Array Value) (hw : ∀ d ∈ tables_1, d.before a0 Z = true) (ws : List Jvm.Cond) (x1 : Int32) (w0 : Addr) (w1 : Addr) (h0 : Heap) (n0 : Nat) (Z0 : n0 ≤ h0.size) (K : own_K Z h0 w0 w1) :
    MetFree l (⟨"com/example/loudmark/loudmark/audio/G711Law", "encodesZero", "(B)Z"⟩ : MethodName) (head1 (Jvm.Cond.code (⟨"com/example/loudmark/loudmark/audio/G711Law", "encodesZero", "(B)Z"⟩ : MethodName) prog_2_method_10_code 3 (some .boolean) :: ws) ({ frames := 0, cells := 0, slots := 0, locals := 0 } : Room)) (fun a U => a = #[(.ref w1), (.int x1)] ∧ Z.Warmed39 U.vm ∧ U.heap = h0) (fun _ _ _ _ _ => True) (fun _ U o U' => ∃ v L, o = .returned v ∧ Q7_1 x1 w0 w1 h0 v U'.heap L ∧ FrameEnd U o U' L ({ frames := 0, cells := 0, slots := 0, locals := 0 } : Room).cells ({ frames := 0, cells := 0, slots := 0, locals := 0 } : Room).slots) := by
  refine MetFree.of_bodySF (plainFor_of_name pn4) hisR ?_
  intro p e s m args below meth c s₁ Bd hml0 hP hK
  obtain ⟨rfl, hZ, hh⟩ := hP
  have hx := Bd.exec
  have hby := Bd.bytes
  have hml : c.maxLocals = 3 := hml0
  have hown : s.vm.findClass "com/example/loudmark/loudmark/audio/G711Law" = some m.cls := findClass_of_methodNamed Bd.named
  have hnm := (name_of_methodNamed Bd.named Bd.method).1
  have hlk := Bd.notSynchronized
  have X0 : Stand p l e ({ frames := 0, cells := 0, slots := 0, locals := 0 } : Room) s m #[(.ref w1), (.int x1)] below meth c s₁ [] 0 0 := Stand.of_body Bd
  have e0 : s₁.heap = h0 := by rw [← hh, Bd.state]; rfl
  have K0 := K
  obtain ⟨S_w0, S_w1, E_w0, E_w1, F_w0_ordinal, F_w1_ordinal, n_w0_w1⟩ := K
  show own_Go p e below s (Q7_1 x1 w0 w1 h0) 0 0 (s₁.setTop (entryFrame m #[(.ref w1), (.int x1)] 3))
  rw [show entryFrame m #[(.ref w1), (.int x1)] 3 = mkF m 0 #[.val (.ref w1), .val (.int x1), .unset] [] from by first | (simp [entryFrame, mkF, argsToLocals, Value.category]; done) | rfl]
  show own_Go p e below s _ _ _ (s₁.setTop (mkF m 0 #[.val (.ref w1), .val (.int x1), .unset] []))
  refine own_via (fun _ k => XS.iloadN X0.here hx rfl (hb hby d7_0) rfl k) ?_
  show own_Go p e below s _ _ _ (s₁.setTop (mkF m 1 #[.val (.ref w1), .val (.int x1), .unset] [(.int x1)]))
  refine own_via (fun _ k => XS.bipush X0.here hx rfl (hb hby d7_1) k) ?_
  show own_Go p e below s _ _ _ (s₁.setTop (mkF m 3 #[.val (.ref w1), .val (.int x1), .unset] [(.int (127 : Int32)), (.int x1)]))
  refine own_via (fun _ k => XS.iand X0.here hx rfl (hb hby d7_3) rfl k) ?_
  show own_Go p e below s _ _ _ (s₁.setTop (mkF m 4 #[.val (.ref w1), .val (.int x1), .unset] [(.int (x1 &&& (127 : Int32)))]))
  refine own_via (fun _ k => XS.aloadN X0.here hx rfl (hb hby d7_4) rfl rfl k) ?_
  show own_Go p e below s _ _ _ (s₁.setTop (mkF m 5 #[.val (.ref w1), .val (.int x1), .unset] [(.ref w1), (.int (x1 &&& (127 : Int32)))]))
  obtain ⟨T1, X1, e1, st1⟩ := getS2 X0 hx hZ hown (host := "") (Or.inl (hw _ (List.mem_of_getElem? (i := 8) rfl))) Via.refl e0 S_w1 (g := (mkF m 5 #[.val (.ref w1), .val (.int x1), .unset] [(.ref w1), (.int (x1 &&& (127 : Int32)))])) rfl (hb hby d7_5)
  refine own_via st1 ?_
  show own_Go p e below s _ _ _ (T1.setTop (mkF m 8 #[.val (.ref w1), .val (.int x1), .unset] [(.ref w1), (.ref w1), (.int (x1 &&& (127 : Int32)))]))
  refine own_via (fun _ k => Jvm.RoadKit.acmp (g := (mkF m 8 #[.val (.ref w1), .val (.int x1), .unset] [(.ref w1), (.ref w1), (.int (x1 &&& (127 : Int32)))])) X1 hx rfl rfl rfl (pc0 := 8) (pc' := 11) (same := true) rfl (hb hby d7_8) rfl (decide_eq_true rfl) (by decide) (by decide) k) ?_
  show own_Go p e below s _ _ _ (T1.setTop (mkF m 11 #[.val (.ref w1), .val (.int x1), .unset] [(.int (x1 &&& (127 : Int32)))]))
  refine own_via (fun _ k => XS.bipush X1.here hx rfl (hb hby d7_11) k) ?_
  show own_Go p e below s _ _ _ (T1.setTop (mkF m 13 #[.val (.ref w1), .val (.int x1), .unset] [(.int (127 : Int32)), (.int (x1 &&& (127 : Int32)))]))
  refine own_via (fun _ k => XS.goto X1.here hx rfl (pc0 := 13) (pc' := 18) rfl (hb hby d7_13) (by decide) (by decide) k) ?_
  show own_Go p e below s _ _ _ (T1.setTop (mkF m 18 #[.val (.ref w1), .val (.int x1), .unset] [(.int (127 : Int32)), (.int (x1 &&& (127 : Int32)))]))
  refine own_via (fun _ k => XS.ixor X1.here hx rfl (hb hby d7_18) rfl k) ?_
  show own_Go p e below s _ _ _ (T1.setTop (mkF m 19 #[.val (.ref w1), .val (.int x1), .unset] [(.int ((x1 &&& (127 : Int32)) ^^^ (127 : Int32)))]))
  refine own_via (fun _ k => XS.istoreN X1.here hx rfl (hb hby d7_19) rfl (l' := #[.val (.ref w1), .val (.int x1), .val (.int ((x1 &&& (127 : Int32)) ^^^ (127 : Int32)))]) rfl k) ?_
  show own_Go p e below s _ _ _ (T1.setTop (mkF m 20 #[.val (.ref w1), .val (.int x1), .val (.int ((x1 &&& (127 : Int32)) ^^^ (127 : Int32)))] []))
  refine own_via (fun _ k => XS.iloadN X1.here hx rfl (hb hby d7_20) rfl k) ?_
  show own_Go p e below s _ _ _ (T1.setTop (mkF m 21 #[.val (.ref w1), .val (.int x1), .val (.int ((x1 &&& (127 : Int32)) ^^^ (127 : Int32)))] [(.int ((x1 &&& (127 : Int32)) ^^^ (127 : Int32)))]))
  by_cases hc2 : ((x1 &&& (127 : Int32)) ^^^ (127 : Int32)) = (0 : Int32)
  · refine own_via (fun _ k => XS.ifNo X1.here hx rfl (hb hby d7_21) rfl ((if0 _ _).trans (teq hc2).2) k) ?_
    show own_Go p e below s _ _ _ (T1.setTop (mkF m 24 #[.val (.ref w1), .val (.int x1), .val (.int ((x1 &&& (127 : Int32)) ^^^ (127 : Int32)))] []))
    refine own_via (fun _ k => XS.iconst X1.here hx rfl (hb hby d7_24) k) ?_
    show own_Go p e below s _ _ _ (T1.setTop (mkF m 25 #[.val (.ref w1), .val (.int x1), .val (.int ((x1 &&& (127 : Int32)) ^^^ (127 : Int32)))] [(.int (1 : Int32))]))
    refine own_via (fun _ k => XS.goto X1.here hx rfl (pc0 := 25) (pc' := 29) rfl (hb hby d7_25) (by decide) (by decide) k) ?_
    show own_Go p e below s _ _ _ (T1.setTop (mkF m 29 #[.val (.ref w1), .val (.int x1), .val (.int ((x1 &&& (127 : Int32)) ^^^ (127 : Int32)))] [(.int (1 : Int32))]))
    exact own_retZ X1 hx hlk (t := .boolean) Bd.returns (by simp) (hb hby d7_29) (z' := (1 : Int32)) (by first | rfl | decide) ⟨rfl, e1, Or.inl ⟨hc2, rfl⟩⟩ (by decide) (by decide)
  · refine own_via (fun _ k => XS.ifYes X1.here hx rfl (pc0 := 21) (pc' := 28) rfl (hb hby d7_21) rfl ((if0 _ _).trans (feq hc2).2) (by decide) (by decide) k) ?_
    show own_Go p e below s _ _ _ (T1.setTop (mkF m 28 #[.val (.ref w1), .val (.int x1), .val (.int ((x1 &&& (127 : Int32)) ^^^ (127 : Int32)))] []))
    refine own_via (fun _ k => XS.iconst X1.here hx rfl (hb hby d7_28) k) ?_
    show own_Go p e below s _ _ _ (T1.setTop (mkF m 29 #[.val (.ref w1), .val (.int x1), .val (.int ((x1 &&& (127 : Int32)) ^^^ (127 : Int32)))] [(.int (0 : Int32))]))
    exact own_retZ X1 hx hlk (t := .boolean) Bd.returns (by simp) (hb hby d7_29) (z' := (0 : Int32)) (by first | rfl | decide) ⟨rfl, e1, Or.inr (⟨hc2, rfl⟩)⟩ (by decide) (by decide)
def Q3_1 (w0 : Addr) (w1 : Addr) (h0 : Heap) (v : Option Value) (h : Heap) (L : List Loc) : Prop := L = [] ∧ h = h0 ∧ ((v = some (.int (0 : Int32))))
set_option maxRecDepth 65536 in
set_option maxHeartbeats 40000000 in
theorem rm3_1 (l : Launch) (Z : State) (a0 : Array Value) (hw : ∀ d ∈ tables_1, d.before a0 Z = true) (ws : List Jvm.Cond) (w0 : Addr) (w1 : Addr) (h0 : Heap) (n0 : Nat) (Z0 : n0 ≤ h0.size) (K : own_K Z h0 w0 w1) :
    MetFree l (⟨"java/lang/Math", "min", "(II)I"⟩ : MethodName) (head1 (Jvm.Cond.code (⟨"java/lang/Math", "min", "(II)I"⟩ : MethodName) jdk_29_method_69_code 2 (some .int) :: ws) ({ frames := 0, cells := 0, slots := 0, locals := 0 } : Room)) (fun a U => a = #[(.int (0 : Int32)), (.int (32767 : Int32))] ∧ Z.Warmed39 U.vm ∧ U.heap = h0) (fun _ _ _ _ _ => True) (fun _ U o U' => ∃ v L, o = .returned v ∧ Q3_1 w0 w1 h0 v U'.heap L ∧ FrameEnd U o U' L ({ frames := 0, cells := 0, slots := 0, locals := 0 } : Room).cells ({ frames := 0, cells := 0, slots := 0, locals := 0 } : Room).slots) := by
  refine MetFree.of_bodySF pn1 hisR ?_
  intro p e s m args below meth c s₁ Bd hml0 hP hK
  obtain ⟨rfl, hZ, hh⟩ := hP
  have hx := Bd.exec
  have hby := Bd.bytes
  have hml : c.maxLocals = 2 := hml0
  have hown : s.vm.findClass "java/lang/Math" = some m.cls := findClass_of_methodNamed Bd.named
  have hnm := (name_of_methodNamed Bd.named Bd.method).1
  have hlk := Bd.notSynchronized
  have X0 : Stand p l e ({ frames := 0, cells := 0, slots := 0, locals := 0 } : Room) s m #[(.int (0 : Int32)), (.int (32767 : Int32))] below meth c s₁ [] 0 0 := Stand.of_body Bd
  have e0 : s₁.heap = h0 := by rw [← hh, Bd.state]; rfl
  have K0 := K
  obtain ⟨S_w0, S_w1, E_w0, E_w1, F_w0_ordinal, F_w1_ordinal, n_w0_w1⟩ := K
  show own_Go p e below s (Q3_1 w0 w1 h0) 0 0 (s₁.setTop (entryFrame m #[(.int (0 : Int32)), (.int (32767 : Int32))] 2))
  rw [show entryFrame m #[(.int (0 : Int32)), (.int (32767 : Int32))] 2 = mkF m 0 #[.val (.int (0 : Int32)), .val (.int (32767 : Int32))] [] from by first | (simp [entryFrame, mkF, argsToLocals, Value.category]; done) | rfl]
  show own_Go p e below s _ _ _ (s₁.setTop (mkF m 0 #[.val (.int (0 : Int32)), .val (.int (32767 : Int32))] []))
  refine own_via (fun _ k => XS.iloadN X0.here hx rfl (hb hby d3_0) rfl k) ?_
  show own_Go p e below s _ _ _ (s₁.setTop (mkF m 1 #[.val (.int (0 : Int32)), .val (.int (32767 : Int32))] [(.int (0 : Int32))]))
  refine own_via (fun _ k => XS.iloadN X0.here hx rfl (hb hby d3_1) rfl k) ?_
  show own_Go p e below s _ _ _ (s₁.setTop (mkF m 2 #[.val (.int (0 : Int32)), .val (.int (32767 : Int32))] [(.int (32767 : Int32)), (.int (0 : Int32))]))
  refine own_via (fun _ k => XS.icmpNo X0.here hx rfl (hb hby d3_2) rfl (flt (by decide : ¬ ((32767 : Int32) < (0 : Int32)))).2.2.1 k) ?_
  show own_Go p e below s _ _ _ (s₁.setTop (mkF m 5 #[.val (.int (0 : Int32)), .val (.int (32767 : Int32))] []))
  refine own_via (fun _ k => XS.iloadN X0.here hx rfl (hb hby d3_5) rfl k) ?_
  show own_Go p e below s _ _ _ (s₁.setTop (mkF m 6 #[.val (.int (0 : Int32)), .val (.int (32767 : Int32))] [(.int (0 : Int32))]))
  refine own_via (fun _ k => XS.goto X0.here hx rfl (pc0 := 6) (pc' := 10) rfl (hb hby d3_6) (by decide) (by decide) k) ?_
  show own_Go p e below s _ _ _ (s₁.setTop (mkF m 10 #[.val (.int (0 : Int32)), .val (.int (32767 : Int32))] [(.int (0 : Int32))]))
  exact own_retI X0 hx hlk Bd.returns (hb hby d3_10) ⟨rfl, e0, rfl⟩ (by decide) (by decide)
def Q5_1 (w0 : Addr) (w1 : Addr) (h0 : Heap) (v : Option Value) (h : Heap) (L : List Loc) : Prop := L = [] ∧ h = h0 ∧ ((v = some (.int (32 : Int32))))
set_option maxRecDepth 65536 in
set_option maxHeartbeats 40000000 in
theorem rm5_1 (l : Launch) (Z : State) (a0 : Array Value) (hw : ∀ d ∈ tables_1, d.before a0 Z = true) (ws : List Jvm.Cond) (w0 : Addr) (w1 : Addr) (h0 : Heap) (n0 : Nat) (Z0 : n0 ≤ h0.size) (K : own_K Z h0 w0 w1) :
    MetFree l (⟨"java/lang/Integer", "numberOfLeadingZeros", "(I)I"⟩ : MethodName) (head1 (Jvm.Cond.code (⟨"java/lang/Integer", "numberOfLeadingZeros", "(I)I"⟩ : MethodName) jdk_33_method_47_code 2 (some .int) :: ws) ({ frames := 0, cells := 0, slots := 0, locals := 0 } : Room)) (fun a U => a = #[(.int (0 : Int32))] ∧ Z.Warmed39 U.vm ∧ U.heap = h0) (fun _ _ _ _ _ => True) (fun _ U o U' => ∃ v L, o = .returned v ∧ Q5_1 w0 w1 h0 v U'.heap L ∧ FrameEnd U o U' L ({ frames := 0, cells := 0, slots := 0, locals := 0 } : Room).cells ({ frames := 0, cells := 0, slots := 0, locals := 0 } : Room).slots) := by
  refine MetFree.of_bodySF (plainFor_of_name pn2) hisR ?_
  intro p e s m args below meth c s₁ Bd hml0 hP hK
  obtain ⟨rfl, hZ, hh⟩ := hP
  have hx := Bd.exec
  have hby := Bd.bytes
  have hml : c.maxLocals = 2 := hml0
  have hown : s.vm.findClass "java/lang/Integer" = some m.cls := findClass_of_methodNamed Bd.named
  have hnm := (name_of_methodNamed Bd.named Bd.method).1
  have hlk := Bd.notSynchronized
  have X0 : Stand p l e ({ frames := 0, cells := 0, slots := 0, locals := 0 } : Room) s m #[(.int (0 : Int32))] below meth c s₁ [] 0 0 := Stand.of_body Bd
  have e0 : s₁.heap = h0 := by rw [← hh, Bd.state]; rfl
  have K0 := K
  obtain ⟨S_w0, S_w1, E_w0, E_w1, F_w0_ordinal, F_w1_ordinal, n_w0_w1⟩ := K
  show own_Go p e below s (Q5_1 w0 w1 h0) 0 0 (s₁.setTop (entryFrame m #[(.int (0 : Int32))] 2))
  rw [show entryFrame m #[(.int (0 : Int32))] 2 = mkF m 0 #[.val (.int (0 : Int32)), .unset] [] from by first | (simp [entryFrame, mkF, argsToLocals, Value.category]; done) | rfl]
  show own_Go p e below s _ _ _ (s₁.setTop (mkF m 0 #[.val (.int (0 : Int32)), .unset] []))
  refine own_via (fun _ k => XS.iloadN X0.here hx rfl (hb hby d5_0) rfl k) ?_
  show own_Go p e below s _ _ _ (s₁.setTop (mkF m 1 #[.val (.int (0 : Int32)), .unset] [(.int (0 : Int32))]))
  refine own_via (fun _ k => XS.ifNo X0.here hx rfl (hb hby d5_1) rfl ((if0 _ _).trans (flt (by decide : ¬ ((0 : Int32) < (0 : Int32)))).2.2.1) k) ?_
  show own_Go p e below s _ _ _ (s₁.setTop (mkF m 4 #[.val (.int (0 : Int32)), .unset] []))
  refine own_via (fun _ k => XS.iloadN X0.here hx rfl (hb hby d5_4) rfl k) ?_
  show own_Go p e below s _ _ _ (s₁.setTop (mkF m 5 #[.val (.int (0 : Int32)), .unset] [(.int (0 : Int32))]))
  refine own_via (fun _ k => XS.ifNo X0.here hx rfl (hb hby d5_5) rfl ((if0 _ _).trans (teq (by decide : (0 : Int32) = (0 : Int32))).2) k) ?_
  show own_Go p e below s _ _ _ (s₁.setTop (mkF m 8 #[.val (.int (0 : Int32)), .unset] []))
  refine own_via (fun _ k => XS.bipush X0.here hx rfl (hb hby d5_8) k) ?_
  show own_Go p e below s _ _ _ (s₁.setTop (mkF m 10 #[.val (.int (0 : Int32)), .unset] [(.int (32 : Int32))]))
  refine own_via (fun _ k => XS.goto X0.here hx rfl (pc0 := 10) (pc' := 14) rfl (hb hby d5_10) (by decide) (by decide) k) ?_
  show own_Go p e below s _ _ _ (s₁.setTop (mkF m 14 #[.val (.int (0 : Int32)), .unset] [(.int (32 : Int32))]))
  exact own_retI X0 hx hlk Bd.returns (hb hby d5_14) ⟨rfl, e0, rfl⟩ (by decide) (by decide)
def Q6_1 (w0 : Addr) (w1 : Addr) (h0 : Heap) (v : Option Value) (h : Heap) (L : List Loc) : Prop := L = [] ∧ h = h0 ∧ ((v = some (.int (0 : Int32))))
set_option maxRecDepth 65536 in
set_option maxHeartbeats 40000000 in
theorem rm6_1 (l : Launch) (Z : State) (a0 : Array Value) (hw : ∀ d ∈ tables_1, d.before a0 Z = true) (ws : List Jvm.Cond) (w0 : Addr) (w1 : Addr) (h0 : Heap) (n0 : Nat) (Z0 : n0 ≤ h0.size) (K : own_K Z h0 w0 w1) :
    MetFree l (⟨"java/lang/Math", "max", "(II)I"⟩ : MethodName) (head1 (Jvm.Cond.code (⟨"java/lang/Math", "max", "(II)I"⟩ : MethodName) jdk_29_method_65_code 2 (some .int) :: ws) ({ frames := 0, cells := 0, slots := 0, locals := 0 } : Room)) (fun a U => a = #[(.int (0 : Int32)), (.int (((31 : Int32) - (32 : Int32)) - (7 : Int32)))] ∧ Z.Warmed39 U.vm ∧ U.heap = h0) (fun _ _ _ _ _ => True) (fun _ U o U' => ∃ v L, o = .returned v ∧ Q6_1 w0 w1 h0 v U'.heap L ∧ FrameEnd U o U' L ({ frames := 0, cells := 0, slots := 0, locals := 0 } : Room).cells ({ frames := 0, cells := 0, slots := 0, locals := 0 } : Room).slots) := by
  refine MetFree.of_bodySF pn3 hisR ?_
  intro p e s m args below meth c s₁ Bd hml0 hP hK
  obtain ⟨rfl, hZ, hh⟩ := hP
  have hx := Bd.exec
  have hby := Bd.bytes
  have hml : c.maxLocals = 2 := hml0
  have hown : s.vm.findClass "java/lang/Math" = some m.cls := findClass_of_methodNamed Bd.named
  have hnm := (name_of_methodNamed Bd.named Bd.method).1
  have hlk := Bd.notSynchronized
  have X0 : Stand p l e ({ frames := 0, cells := 0, slots := 0, locals := 0 } : Room) s m #[(.int (0 : Int32)), (.int (((31 : Int32) - (32 : Int32)) - (7 : Int32)))] below meth c s₁ [] 0 0 := Stand.of_body Bd
  have e0 : s₁.heap = h0 := by rw [← hh, Bd.state]; rfl
  have K0 := K
  obtain ⟨S_w0, S_w1, E_w0, E_w1, F_w0_ordinal, F_w1_ordinal, n_w0_w1⟩ := K
  show own_Go p e below s (Q6_1 w0 w1 h0) 0 0 (s₁.setTop (entryFrame m #[(.int (0 : Int32)), (.int (((31 : Int32) - (32 : Int32)) - (7 : Int32)))] 2))
  rw [show entryFrame m #[(.int (0 : Int32)), (.int (((31 : Int32) - (32 : Int32)) - (7 : Int32)))] 2 = mkF m 0 #[.val (.int (0 : Int32)), .val (.int (((31 : Int32) - (32 : Int32)) - (7 : Int32)))] [] from by first | (simp [entryFrame, mkF, argsToLocals, Value.category]; done) | rfl]
  show own_Go p e below s _ _ _ (s₁.setTop (mkF m 0 #[.val (.int (0 : Int32)), .val (.int (((31 : Int32) - (32 : Int32)) - (7 : Int32)))] []))
  refine own_via (fun _ k => XS.iloadN X0.here hx rfl (hb hby d6_0) rfl k) ?_
  show own_Go p e below s _ _ _ (s₁.setTop (mkF m 1 #[.val (.int (0 : Int32)), .val (.int (((31 : Int32) - (32 : Int32)) - (7 : Int32)))] [(.int (0 : Int32))]))
  refine own_via (fun _ k => XS.iloadN X0.here hx rfl (hb hby d6_1) rfl k) ?_
  show own_Go p e below s _ _ _ (s₁.setTop (mkF m 2 #[.val (.int (0 : Int32)), .val (.int (((31 : Int32) - (32 : Int32)) - (7 : Int32)))] [(.int (((31 : Int32) - (32 : Int32)) - (7 : Int32))), (.int (0 : Int32))]))
  refine own_via (fun _ k => XS.icmpNo X0.here hx rfl (hb hby d6_2) rfl (flt (by decide : ¬ ((0 : Int32) < (((31 : Int32) - (32 : Int32)) - (7 : Int32))))).1 k) ?_
  show own_Go p e below s _ _ _ (s₁.setTop (mkF m 5 #[.val (.int (0 : Int32)), .val (.int (((31 : Int32) - (32 : Int32)) - (7 : Int32)))] []))
  refine own_via (fun _ k => XS.iloadN X0.here hx rfl (hb hby d6_5) rfl k) ?_
  show own_Go p e below s _ _ _ (s₁.setTop (mkF m 6 #[.val (.int (0 : Int32)), .val (.int (((31 : Int32) - (32 : Int32)) - (7 : Int32)))] [(.int (0 : Int32))]))
  refine own_via (fun _ k => XS.goto X0.here hx rfl (pc0 := 6) (pc' := 10) rfl (hb hby d6_6) (by decide) (by decide) k) ?_
  show own_Go p e below s _ _ _ (s₁.setTop (mkF m 10 #[.val (.int (0 : Int32)), .val (.int (((31 : Int32) - (32 : Int32)) - (7 : Int32)))] [(.int (0 : Int32))]))
  exact own_retI X0 hx hlk Bd.returns (hb hby d6_10) ⟨rfl, e0, rfl⟩ (by decide) (by decide)
def Q4_1 (w0 : Addr) (w1 : Addr) (h0 : Heap) (v : Option Value) (h : Heap) (L : List Loc) : Prop := L = [] ∧ h = h0 ∧ ((v = some (.int (0 : Int32))))
set_option maxRecDepth 65536 in
set_option maxHeartbeats 40000000 in
theorem rm4_1 (l : Launch) (Z : State) (a0 : Array Value) (hw : ∀ d ∈ tables_1, d.before a0 Z = true) (ws : List Jvm.Cond) (w0 : Addr) (w1 : Addr) (h0 : Heap) (n0 : Nat) (Z0 : n0 ≤ h0.size) (K : own_K Z h0 w0 w1) :
    MetFree l (⟨"com/example/loudmark/loudmark/audio/G711Law", "segment", "(I)I"⟩ : MethodName) (head1 (Jvm.Cond.code (⟨"com/example/loudmark/loudmark/audio/G711Law", "segment", "(I)I"⟩ : MethodName) prog_2_method_8_code 1 (some .int) :: ws) ({ frames := 1, cells := 0, slots := 0, locals := 15 } : Room)) (fun a U => a = #[(.int (0 : Int32))] ∧ Z.Warmed39 U.vm ∧ U.heap = h0) (fun _ _ _ _ _ => True) (fun _ U o U' => ∃ v L, o = .returned v ∧ Q4_1 w0 w1 h0 v U'.heap L ∧ FrameEnd U o U' L ({ frames := 1, cells := 0, slots := 0, locals := 15 } : Room).cells ({ frames := 1, cells := 0, slots := 0, locals := 15 } : Room).slots) := by
  refine MetFree.of_bodySF (plainFor_of_name pn4) hisR ?_
  intro p e s m args below meth c s₁ Bd hml0 hP hK
  obtain ⟨rfl, hZ, hh⟩ := hP
  have hx := Bd.exec
  have hby := Bd.bytes
  have hml : c.maxLocals = 1 := hml0
  have hown : s.vm.findClass "com/example/loudmark/loudmark/audio/G711Law" = some m.cls := findClass_of_methodNamed Bd.named
  have hnm := (name_of_methodNamed Bd.named Bd.method).1
  have hlk := Bd.notSynchronized
  have X0 : Stand p l e ({ frames := 1, cells := 0, slots := 0, locals := 15 } : Room) s m #[(.int (0 : Int32))] below meth c s₁ [] 0 0 := Stand.of_body Bd
  have e0 : s₁.heap = h0 := by rw [← hh, Bd.state]; rfl
  have K0 := K
  obtain ⟨S_w0, S_w1, E_w0, E_w1, F_w0_ordinal, F_w1_ordinal, n_w0_w1⟩ := K
  show own_Go p e below s (Q4_1 w0 w1 h0) 0 0 (s₁.setTop (entryFrame m #[(.int (0 : Int32))] 1))
  rw [show entryFrame m #[(.int (0 : Int32))] 1 = mkF m 0 #[.val (.int (0 : Int32))] [] from by first | (simp [entryFrame, mkF, argsToLocals, Value.category]; done) | rfl]
  show own_Go p e below s _ _ _ (s₁.setTop (mkF m 0 #[.val (.int (0 : Int32))] []))
  refine own_via (fun _ k => XS.iconst X0.here hx rfl (hb hby d4_0) k) ?_
  show own_Go p e below s _ _ _ (s₁.setTop (mkF m 1 #[.val (.int (0 : Int32))] [(.int (0 : Int32))]))
  refine own_via (fun _ k => XS.bipush X0.here hx rfl (hb hby d4_1) k) ?_
  show own_Go p e below s _ _ _ (s₁.setTop (mkF m 3 #[.val (.int (0 : Int32))] [(.int (31 : Int32)), (.int (0 : Int32))]))
  refine own_via (fun _ k => XS.iloadN X0.here hx rfl (hb hby d4_3) rfl k) ?_
  show own_Go p e below s _ _ _ (s₁.setTop (mkF m 4 #[.val (.int (0 : Int32))] [(.int (0 : Int32)), (.int (31 : Int32)), (.int (0 : Int32))]))
  obtain ⟨_, _, ⟨T1, L1, k1, n1⟩, -, X1, ⟨Lc1, hQ1, l1, y1, z1⟩, st1⟩ := Jvm.LawKit.callS X0 hx (y := (⟨"java/lang/Integer", "numberOfLeadingZeros", "(I)I"⟩ : MethodName)) hown (mvT hZ (hw _ (List.mem_of_getElem? (i := 20) rfl))) (mvT hZ (hw _ (List.mem_of_getElem? (i := 21) rfl))) (mvT hZ (hw _ (List.mem_of_getElem? (i := 22) rfl))) (mvT hZ (hw _ (List.mem_of_getElem? (i := 23) rfl))) (by decide) (backOf (W := 2) (rm5_1 l Z a0 hw [] w0 w1 h0 n0 Z0 K0) hZ (hw _ (List.mem_of_getElem? (i := 23) rfl)) (hw _ (List.mem_of_getElem? (i := 22) rfl)) (by decide) (by decide)) (g := (mkF m 4 #[.val (.int (0 : Int32))] [(.int (0 : Int32)), (.int (31 : Int32)), (.int (0 : Int32))])) rfl (by rw [hml]; rfl) (argsL := [(.int (0 : Int32))]) (rest := [(.int (31 : Int32)), (.int (0 : Int32))]) (lenOf pd0 rfl) rfl (by show 2 * 0 + _ ≤ _; exact Nat.le_of_eq rfl) (hb hby d4_4) (fun _ _ => ⟨rfl, e0, (by decide : 0 + 0 ≤ _), (by decide : 0 + 0 ≤ _)⟩)
  dsimp only [Pt.U, Pt.locs, Pt.cells, Pt.slots] at X1 l1 y1 z1 st1 hQ1
  subst l1 y1 z1
  obtain ⟨rfl, e1, hO1⟩ := hQ1
  obtain rfl := hO1
  refine own_via st1 ?_
  show own_Go p e below s _ _ _ (T1.setTop (mkF m 7 #[.val (.int (0 : Int32))] [(.int (32 : Int32)), (.int (31 : Int32)), (.int (0 : Int32))]))
  refine own_via (fun _ k => XS.isub X1.here hx rfl (hb hby d4_7) rfl k) ?_
  show own_Go p e below s _ _ _ (T1.setTop (mkF m 8 #[.val (.int (0 : Int32))] [(.int ((31 : Int32) - (32 : Int32))), (.int (0 : Int32))]))
  refine own_via (fun _ k => XS.bipush X1.here hx rfl (hb hby d4_8) k) ?_
  show own_Go p e below s _ _ _ (T1.setTop (mkF m 10 #[.val (.int (0 : Int32))] [(.int (7 : Int32)), (.int ((31 : Int32) - (32 : Int32))), (.int (0 : Int32))]))
  refine own_via (fun _ k => XS.isub X1.here hx rfl (hb hby d4_10) rfl k) ?_
  show own_Go p e below s _ _ _ (T1.setTop (mkF m 11 #[.val (.int (0 : Int32))] [(.int (((31 : Int32) - (32 : Int32)) - (7 : Int32))), (.int (0 : Int32))]))
  obtain ⟨_, _, ⟨T2, L2, k2, n2⟩, -, X2, ⟨Lc2, hQ2, l2, y2, z2⟩, st2⟩ := Jvm.LawKit.callS X1 hx (y := (⟨"java/lang/Math", "max", "(II)I"⟩ : MethodName)) hown (mvT hZ (hw _ (List.mem_of_getElem? (i := 24) rfl))) (mvT hZ (hw _ (List.mem_of_getElem? (i := 25) rfl))) (mvT hZ (hw _ (List.mem_of_getElem? (i := 12) rfl))) (mvT hZ (hw _ (List.mem_of_getElem? (i := 26) rfl))) (by decide) (backOf (W := 0) (rm6_1 l Z a0 hw [] w0 w1 h0 n0 Z0 K0) hZ (hw _ (List.mem_of_getElem? (i := 26) rfl)) (hw _ (List.mem_of_getElem? (i := 12) rfl)) (by decide) (by decide)) (g := (mkF m 11 #[.val (.int (0 : Int32))] [(.int (((31 : Int32) - (32 : Int32)) - (7 : Int32))), (.int (0 : Int32))])) rfl (by rw [hml]; rfl) (argsL := [(.int (0 : Int32)), (.int (((31 : Int32) - (32 : Int32)) - (7 : Int32)))]) (rest := []) (lenOf pd1 rfl) rfl (by show 2 * 0 + _ ≤ _; exact Nat.le_of_eq rfl) (hb hby d4_11) (fun _ _ => ⟨rfl, e1, (by decide : 0 + 0 ≤ _), (by decide : 0 + 0 ≤ _)⟩)
  dsimp only [Pt.U, Pt.locs, Pt.cells, Pt.slots] at X2 l2 y2 z2 st2 hQ2
  subst l2 y2 z2
  obtain ⟨rfl, e2, hO2⟩ := hQ2
  obtain rfl := hO2
  refine own_via st2 ?_
  show own_Go p e below s _ _ _ (T2.setTop (mkF m 14 #[.val (.int (0 : Int32))] [(.int (0 : Int32))]))
  exact own_retI X2 hx hlk Bd.returns (hb hby d4_14) ⟨rfl, e2, rfl⟩ (by decide) (by decide)
def Q6_2 (w0 : Addr) (w1 : Addr) (h0 : Heap) (v : Option Value) (h : Heap) (L : List Loc) : Prop := L = [] ∧ h = h0 ∧ ((v = some (.int (1 : Int32))))
set_option maxRecDepth 65536 in
set_option maxHeartbeats 40000000 in
theorem rm6_2 (l : Launch) (Z : State) (a0 : Array Value) (hw : ∀ d ∈ tables_1, d.before a0 Z = true) (ws : List Jvm.Cond) (w0 : Addr) (w1 : Addr) (h0 : Heap) (n0 : Nat) (Z0 : n0 ≤ h0.size) (K : own_K Z h0 w0 w1) :
    MetFree l (⟨"java/lang/Math", "max", "(II)I"⟩ : MethodName) (head1 (Jvm.Cond.code (⟨"java/lang/Math", "max", "(II)I"⟩ : MethodName) jdk_29_method_65_code 2 (some .int) :: ws) ({ frames := 0, cells := 0, slots := 0, locals := 0 } : Room)) (fun a U => a = #[(.int (0 : Int32)), (.int (1 : Int32))] ∧ Z.Warmed39 U.vm ∧ U.heap = h0) (fun _ _ _ _ _ => True) (fun _ U o U' => ∃ v L, o = .returned v ∧ Q6_2 w0 w1 h0 v U'.heap L ∧ FrameEnd U o U' L ({ frames := 0, cells := 0, slots := 0, locals := 0 } : Room).cells ({ frames := 0, cells := 0, slots := 0, locals := 0 } : Room).slots) := by
  refine MetFree.of_bodySF pn3 hisR ?_
  intro p e s m args below meth c s₁ Bd hml0 hP hK
  obtain ⟨rfl, hZ, hh⟩ := hP
  have hx := Bd.exec
  have hby := Bd.bytes
  have hml : c.maxLocals = 2 := hml0
  have hown : s.vm.findClass "java/lang/Math" = some m.cls := findClass_of_methodNamed Bd.named
  have hnm := (name_of_methodNamed Bd.named Bd.method).1
  have hlk := Bd.notSynchronized
  have X0 : Stand p l e ({ frames := 0, cells := 0, slots := 0, locals := 0 } : Room) s m #[(.int (0 : Int32)), (.int (1 : Int32))] below meth c s₁ [] 0 0 := Stand.of_body Bd
  have e0 : s₁.heap = h0 := by rw [← hh, Bd.state]; rfl
  have K0 := K
  obtain ⟨S_w0, S_w1, E_w0, E_w1, F_w0_ordinal, F_w1_ordinal, n_w0_w1⟩ := K
  show own_Go p e below s (Q6_2 w0 w1 h0) 0 0 (s₁.setTop (entryFrame m #[(.int (0 : Int32)), (.int (1 : Int32))] 2))
  rw [show entryFrame m #[(.int (0 : Int32)), (.int (1 : Int32))] 2 = mkF m 0 #[.val (.int (0 : Int32)), .val (.int (1 : Int32))] [] from by first | (simp [entryFrame, mkF, argsToLocals, Value.category]; done) | rfl]
  show own_Go p e below s _ _ _ (s₁.setTop (mkF m 0 #[.val (.int (0 : Int32)), .val (.int (1 : Int32))] []))
  refine own_via (fun _ k => XS.iloadN X0.here hx rfl (hb hby d6_0) rfl k) ?_
  show own_Go p e below s _ _ _ (s₁.setTop (mkF m 1 #[.val (.int (0 : Int32)), .val (.int (1 : Int32))] [(.int (0 : Int32))]))
  refine own_via (fun _ k => XS.iloadN X0.here hx rfl (hb hby d6_1) rfl k) ?_
  show own_Go p e below s _ _ _ (s₁.setTop (mkF m 2 #[.val (.int (0 : Int32)), .val (.int (1 : Int32))] [(.int (1 : Int32)), (.int (0 : Int32))]))
  refine own_via (fun _ k => XS.icmpYes X0.here hx rfl (pc0 := 2) (pc' := 9) rfl (hb hby d6_2) rfl (tlt (by decide : (0 : Int32) < (1 : Int32))).1 (by decide) (by decide) k) ?_
  show own_Go p e below s _ _ _ (s₁.setTop (mkF m 9 #[.val (.int (0 : Int32)), .val (.int (1 : Int32))] []))
  refine own_via (fun _ k => XS.iloadN X0.here hx rfl (hb hby d6_9) rfl k) ?_
  show own_Go p e below s _ _ _ (s₁.setTop (mkF m 10 #[.val (.int (0 : Int32)), .val (.int (1 : Int32))] [(.int (1 : Int32))]))
  exact own_retI X0 hx hlk Bd.returns (hb hby d6_10) ⟨rfl, e0, rfl⟩ (by decide) (by decide)
def Q1_1 (w0 : Addr) (w1 : Addr) (h0 : Heap) (v : Option Value) (h : Heap) (L : List Loc) : Prop := L = [] ∧ h = h0 ∧ ((v = some (.int (-43 : Int32))))
set_option maxRecDepth 65536 in
set_option maxHeartbeats 40000000 in
theorem rm1_1 (l : Launch) (Z : State) (a0 : Array Value) (hw : ∀ d ∈ tables_1, d.before a0 Z = true) (ws : List Jvm.Cond) (w0 : Addr) (w1 : Addr) (h0 : Heap) (n0 : Nat) (Z0 : n0 ≤ h0.size) (K : own_K Z h0 w0 w1) :
    MetFree l (⟨"com/example/loudmark/loudmark/audio/G711Law", "encode", "(S)B"⟩ : MethodName) (head1 (Jvm.Cond.code (⟨"com/example/loudmark/loudmark/audio/G711Law", "encode", "(S)B"⟩ : MethodName) prog_2_method_6_code 6 (some .byte) :: ws) ({ frames := 2, cells := 0, slots := 0, locals := 27 } : Room)) (fun a U => a = #[(.ref w0), (.int (0 : Int32))] ∧ Z.Warmed39 U.vm ∧ U.heap = h0) (fun _ _ _ _ _ => True) (fun _ U o U' => ∃ v L, o = .returned v ∧ Q1_1 w0 w1 h0 v U'.heap L ∧ FrameEnd U o U' L ({ frames := 2, cells := 0, slots := 0, locals := 27 } : Room).cells ({ frames := 2, cells := 0, slots := 0, locals := 27 } : Room).slots) := by
  refine MetFree.of_bodySF (plainFor_of_name pn4) hisR ?_
  intro p e s m args below meth c s₁ Bd hml0 hP hK
  obtain ⟨rfl, hZ, hh⟩ := hP
  have hx := Bd.exec
  have hby := Bd.bytes
  have hml : c.maxLocals = 6 := hml0
  have hown : s.vm.findClass "com/example/loudmark/loudmark/audio/G711Law" = some m.cls := findClass_of_methodNamed Bd.named
  have hnm := (name_of_methodNamed Bd.named Bd.method).1
  have hlk := Bd.notSynchronized
  have X0 : Stand p l e ({ frames := 2, cells := 0, slots := 0, locals := 27 } : Room) s m #[(.ref w0), (.int (0 : Int32))] below meth c s₁ [] 0 0 := Stand.of_body Bd
  have e0 : s₁.heap = h0 := by rw [← hh, Bd.state]; rfl
  have K0 := K
  obtain ⟨S_w0, S_w1, E_w0, E_w1, F_w0_ordinal, F_w1_ordinal, n_w0_w1⟩ := K
  show own_Go p e below s (Q1_1 w0 w1 h0) 0 0 (s₁.setTop (entryFrame m #[(.ref w0), (.int (0 : Int32))] 6))
  rw [show entryFrame m #[(.ref w0), (.int (0 : Int32))] 6 = mkF m 0 #[.val (.ref w0), .val (.int (0 : Int32)), .unset, .unset, .unset, .unset] [] from by first | (simp [entryFrame, mkF, argsToLocals, Value.category]; done) | rfl]
  show own_Go p e below s _ _ _ (s₁.setTop (mkF m 0 #[.val (.ref w0), .val (.int (0 : Int32)), .unset, .unset, .unset, .unset] []))
  refine own_via (fun _ k => XS.aloadN X0.here hx rfl (hb hby d1_0) rfl rfl k) ?_
  show own_Go p e below s _ _ _ (s₁.setTop (mkF m 1 #[.val (.ref w0), .val (.int (0 : Int32)), .unset, .unset, .unset, .unset] [(.ref w0)]))
  obtain ⟨T1, X1, e1, st1⟩ := getS2 X0 hx hZ hown (host := "") (Or.inl (hw _ (List.mem_of_getElem? (i := 8) rfl))) Via.refl e0 S_w1 (g := (mkF m 1 #[.val (.ref w0), .val (.int (0 : Int32)), .unset, .unset, .unset, .unset] [(.ref w0)])) rfl (hb hby d1_1)
  refine own_via st1 ?_
  show own_Go p e below s _ _ _ (T1.setTop (mkF m 4 #[.val (.ref w0), .val (.int (0 : Int32)), .unset, .unset, .unset, .unset] [(.ref w1), (.ref w0)]))
  refine own_via (fun _ k => Jvm.RoadKit.acmp (g := (mkF m 4 #[.val (.ref w0), .val (.int (0 : Int32)), .unset, .unset, .unset, .unset] [(.ref w1), (.ref w0)])) X1 hx rfl rfl rfl (pc0 := 4) (pc' := 65) (same := false) rfl (hb hby d1_4) rfl (decide_eq_false fun q => n_w0_w1 (Value.ref.inj q)) (by decide) (by decide) k) ?_
  show own_Go p e below s _ _ _ (T1.setTop (mkF m 65 #[.val (.ref w0), .val (.int (0 : Int32)), .unset, .unset, .unset, .unset] []))
  refine own_via (fun _ k => XS.iloadN X1.here hx rfl (hb hby d1_65) rfl k) ?_
  show own_Go p e below s _ _ _ (T1.setTop (mkF m 66 #[.val (.ref w0), .val (.int (0 : Int32)), .unset, .unset, .unset, .unset] [(.int (0 : Int32))]))
  obtain ⟨_, _, ⟨T2, L2, k2, n2⟩, -, X2, ⟨Lc2, hQ2, l2, y2, z2⟩, st2⟩ := Jvm.LawKit.callS X1 hx (y := (⟨"java/lang/Math", "abs", "(I)I"⟩ : MethodName)) hown (mvT hZ (hw _ (List.mem_of_getElem? (i := 10) rfl))) (mvT hZ (hw _ (List.mem_of_getElem? (i := 11) rfl))) (mvT hZ (hw _ (List.mem_of_getElem? (i := 12) rfl))) (mvT hZ (hw _ (List.mem_of_getElem? (i := 13) rfl))) (by decide) (backOf (W := 0) (rm2_0 l Z a0 hw [] w0 w1 h0 n0 Z0 K0) hZ (hw _ (List.mem_of_getElem? (i := 13) rfl)) (hw _ (List.mem_of_getElem? (i := 12) rfl)) (by decide) (by decide)) (g := (mkF m 66 #[.val (.ref w0), .val (.int (0 : Int32)), .unset, .unset, .unset, .unset] [(.int (0 : Int32))])) rfl (by rw [hml]; rfl) (argsL := [(.int (0 : Int32))]) (rest := []) (lenOf pd0 rfl) rfl (by show 2 * 0 + _ ≤ _; exact Nat.le_of_eq rfl) (hb hby d1_66) (fun _ _ => ⟨rfl, e1, (by decide : 0 + 0 ≤ _), (by decide : 0 + 0 ≤ _)⟩)
  dsimp only [Pt.U, Pt.locs, Pt.cells, Pt.slots] at X2 l2 y2 z2 st2 hQ2
  subst l2 y2 z2
  obtain ⟨rfl, e2, hO2⟩ := hQ2
  obtain rfl := hO2
  refine own_via st2 ?_
  show own_Go p e below s _ _ _ (T2.setTop (mkF m 69 #[.val (.ref w0), .val (.int (0 : Int32)), .unset, .unset, .unset, .unset] [(.int (0 : Int32))]))
  refine own_via (fun _ k => XS.sipush X2.here hx rfl (hb hby d1_69) k) ?_
  show own_Go p e below s _ _ _ (T2.setTop (mkF m 72 #[.val (.ref w0), .val (.int (0 : Int32)), .unset, .unset, .unset, .unset] [(.int (32767 : Int32)), (.int (0 : Int32))]))
  obtain ⟨_, _, ⟨T3, L3, k3, n3⟩, -, X3, ⟨Lc3, hQ3, l3, y3, z3⟩, st3⟩ := Jvm.LawKit.callS X2 hx (y := (⟨"java/lang/Math", "min", "(II)I"⟩ : MethodName)) hown (mvT hZ (hw _ (List.mem_of_getElem? (i := 14) rfl))) (mvT hZ (hw _ (List.mem_of_getElem? (i := 15) rfl))) (mvT hZ (hw _ (List.mem_of_getElem? (i := 12) rfl))) (mvT hZ (hw _ (List.mem_of_getElem? (i := 16) rfl))) (by decide) (backOf (W := 0) (rm3_1 l Z a0 hw [] w0 w1 h0 n0 Z0 K0) hZ (hw _ (List.mem_of_getElem? (i := 16) rfl)) (hw _ (List.mem_of_getElem? (i := 12) rfl)) (by decide) (by decide)) (g := (mkF m 72 #[.val (.ref w0), .val (.int (0 : Int32)), .unset, .unset, .unset, .unset] [(.int (32767 : Int32)), (.int (0 : Int32))])) rfl (by rw [hml]; rfl) (argsL := [(.int (0 : Int32)), (.int (32767 : Int32))]) (rest := []) (lenOf pd1 rfl) rfl (by show 2 * 0 + _ ≤ _; exact Nat.le_of_eq rfl) (hb hby d1_72) (fun _ _ => ⟨rfl, e2, (by decide : 0 + 0 ≤ _), (by decide : 0 + 0 ≤ _)⟩)
  dsimp only [Pt.U, Pt.locs, Pt.cells, Pt.slots] at X3 l3 y3 z3 st3 hQ3
  subst l3 y3 z3
  obtain ⟨rfl, e3, hO3⟩ := hQ3
  obtain rfl := hO3
  refine own_via st3 ?_
  show own_Go p e below s _ _ _ (T3.setTop (mkF m 75 #[.val (.ref w0), .val (.int (0 : Int32)), .unset, .unset, .unset, .unset] [(.int (0 : Int32))]))
  refine own_via (fun _ k => XS.istoreN X3.here hx rfl (hb hby d1_75) rfl (l' := #[.val (.ref w0), .val (.int (0 : Int32)), .unset, .val (.int (0 : Int32)), .unset, .unset]) rfl k) ?_
  show own_Go p e below s _ _ _ (T3.setTop (mkF m 76 #[.val (.ref w0), .val (.int (0 : Int32)), .unset, .val (.int (0 : Int32)), .unset, .unset] []))
  refine own_via (fun _ k => XS.iloadN X3.here hx rfl (hb hby d1_76) rfl k) ?_
  show own_Go p e below s _ _ _ (T3.setTop (mkF m 77 #[.val (.ref w0), .val (.int (0 : Int32)), .unset, .val (.int (0 : Int32)), .unset, .unset] [(.int (0 : Int32))]))
  obtain ⟨_, _, ⟨T4, L4, k4, n4⟩, -, X4, ⟨Lc4, hQ4, l4, y4, z4⟩, st4⟩ := Jvm.LawKit.callS X3 hx (y := (⟨"com/example/loudmark/loudmark/audio/G711Law", "segment", "(I)I"⟩ : MethodName)) hown (mvT hZ (hw _ (List.mem_of_getElem? (i := 17) rfl))) (mvT hZ (hw _ (List.mem_of_getElem? (i := 18) rfl))) (mvT hZ (hw _ (List.mem_of_getElem? (i := 1) rfl))) (mvT hZ (hw _ (List.mem_of_getElem? (i := 19) rfl))) (by decide) (backOf (W := 0) (rm4_1 l Z a0 hw [] w0 w1 h0 n0 Z0 K0) hZ (hw _ (List.mem_of_getElem? (i := 19) rfl)) (hw _ (List.mem_of_getElem? (i := 1) rfl)) (by decide) (by decide)) (g := (mkF m 77 #[.val (.ref w0), .val (.int (0 : Int32)), .unset, .val (.int (0 : Int32)), .unset, .unset] [(.int (0 : Int32))])) rfl (by rw [hml]; rfl) (argsL := [(.int (0 : Int32))]) (rest := []) (lenOf pd0 rfl) rfl (by show 2 * 0 + _ ≤ _; exact Nat.le_of_eq rfl) (hb hby d1_77) (fun _ _ => ⟨rfl, e3, (by decide : 0 + 0 ≤ _), (by decide : 0 + 0 ≤ _)⟩)
  dsimp only [Pt.U, Pt.locs, Pt.cells, Pt.slots] at X4 l4 y4 z4 st4 hQ4
  subst l4 y4 z4
  obtain ⟨rfl, e4, hO4⟩ := hQ4
  obtain rfl := hO4
  refine own_via st4 ?_
  show own_Go p e below s _ _ _ (T4.setTop (mkF m 80 #[.val (.ref w0), .val (.int (0 : Int32)), .unset, .val (.int (0 : Int32)), .unset, .unset] [(.int (0 : Int32))]))
  refine own_via (fun _ k => XS.istore X4.here hx rfl (hb hby d1_80) rfl (l' := #[.val (.ref w0), .val (.int (0 : Int32)), .unset, .val (.int (0 : Int32)), .val (.int (0 : Int32)), .unset]) rfl k) ?_
  show own_Go p e below s _ _ _ (T4.setTop (mkF m 82 #[.val (.ref w0), .val (.int (0 : Int32)), .unset, .val (.int (0 : Int32)), .val (.int (0 : Int32)), .unset] []))
  refine own_via (fun _ k => XS.iloadN X4.here hx rfl (hb hby d1_82) rfl k) ?_
  show own_Go p e below s _ _ _ (T4.setTop (mkF m 83 #[.val (.ref w0), .val (.int (0 : Int32)), .unset, .val (.int (0 : Int32)), .val (.int (0 : Int32)), .unset] [(.int (0 : Int32))]))
  refine own_via (fun _ k => XS.iload X4.here hx rfl (hb hby d1_83) rfl k) ?_
  show own_Go p e below s _ _ _ (T4.setTop (mkF m 85 #[.val (.ref w0), .val (.int (0 : Int32)), .unset, .val (.int (0 : Int32)), .val (.int (0 : Int32)), .unset] [(.int (0 : Int32)), (.int (0 : Int32))]))
  refine own_via (fun _ k => XS.iconst X4.here hx rfl (hb hby d1_85) k) ?_
  show own_Go p e below s _ _ _ (T4.setTop (mkF m 86 #[.val (.ref w0), .val (.int (0 : Int32)), .unset, .val (.int (0 : Int32)), .val (.int (0 : Int32)), .unset] [(.int (1 : Int32)), (.int (0 : Int32)), (.int (0 : Int32))]))
  obtain ⟨_, _, ⟨T5, L5, k5, n5⟩, -, X5, ⟨Lc5, hQ5, l5, y5, z5⟩, st5⟩ := Jvm.LawKit.callS X4 hx (y := (⟨"java/lang/Math", "max", "(II)I"⟩ : MethodName)) hown (mvT hZ (hw _ (List.mem_of_getElem? (i := 24) rfl))) (mvT hZ (hw _ (List.mem_of_getElem? (i := 25) rfl))) (mvT hZ (hw _ (List.mem_of_getElem? (i := 12) rfl))) (mvT hZ (hw _ (List.mem_of_getElem? (i := 26) rfl))) (by decide) (backOf (W := 1) (rm6_2 l Z a0 hw [] w0 w1 h0 n0 Z0 K0) hZ (hw _ (List.mem_of_getElem? (i := 26) rfl)) (hw _ (List.mem_of_getElem? (i := 12) rfl)) (by decide) (by decide)) (g := (mkF m 86 #[.val (.ref w0), .val (.int (0 : Int32)), .unset, .val (.int (0 : Int32)), .val (.int (0 : Int32)), .unset] [(.int (1 : Int32)), (.int (0 : Int32)), (.int (0 : Int32))])) rfl (by rw [hml]; rfl) (argsL := [(.int (0 : Int32)), (.int (1 : Int32))]) (rest := [(.int (0 : Int32))]) (lenOf pd1 rfl) rfl (by show 2 * 0 + _ ≤ _; exact Nat.le_of_eq rfl) (hb hby d1_86) (fun _ _ => ⟨rfl, e4, (by decide : 0 + 0 ≤ _), (by decide : 0 + 0 ≤ _)⟩)
  dsimp only [Pt.U, Pt.locs, Pt.cells, Pt.slots] at X5 l5 y5 z5 st5 hQ5
  subst l5 y5 z5
  obtain ⟨rfl, e5, hO5⟩ := hQ5
  obtain rfl := hO5
  refine own_via st5 ?_
  show own_Go p e below s _ _ _ (T5.setTop (mkF m 89 #[.val (.ref w0), .val (.int (0 : Int32)), .unset, .val (.int (0 : Int32)), .val (.int (0 : Int32)), .unset] [(.int (1 : Int32)), (.int (0 : Int32))]))
  refine own_via (fun _ k => XS.iconst X5.here hx rfl (hb hby d1_89) k) ?_
  show own_Go p e below s _ _ _ (T5.setTop (mkF m 90 #[.val (.ref w0), .val (.int (0 : Int32)), .unset, .val (.int (0 : Int32)), .val (.int (0 : Int32)), .unset] [(.int (3 : Int32)), (.int (1 : Int32)), (.int (0 : Int32))]))
  refine own_via (fun _ k => XS.iadd X5.here hx rfl (hb hby d1_90) rfl k) ?_
  show own_Go p e below s _ _ _ (T5.setTop (mkF m 91 #[.val (.ref w0), .val (.int (0 : Int32)), .unset, .val (.int (0 : Int32)), .val (.int (0 : Int32)), .unset] [(.int ((1 : Int32) + (3 : Int32))), (.int (0 : Int32))]))
  refine own_via (fun _ k => XS.ishr X5.here hx rfl (hb hby d1_91) rfl k) ?_
  show own_Go p e below s _ _ _ (T5.setTop (mkF m 92 #[.val (.ref w0), .val (.int (0 : Int32)), .unset, .val (.int (0 : Int32)), .val (.int (0 : Int32)), .unset] [(.int ((0 : Int32) >>> (((1 : Int32) + (3 : Int32)) &&& 31)))]))
  refine own_via (fun _ k => XS.bipush X5.here hx rfl (hb hby d1_92) k) ?_
  show own_Go p e below s _ _ _ (T5.setTop (mkF m 94 #[.val (.ref w0), .val (.int (0 : Int32)), .unset, .val (.int (0 : Int32)), .val (.int (0 : Int32)), .unset] [(.int (15 : Int32)), (.int ((0 : Int32) >>> (((1 : Int32) + (3 : Int32)) &&& 31)))]))
  refine own_via (fun _ k => XS.iand X5.here hx rfl (hb hby d1_94) rfl k) ?_
  show own_Go p e below s _ _ _ (T5.setTop (mkF m 95 #[.val (.ref w0), .val (.int (0 : Int32)), .unset, .val (.int (0 : Int32)), .val (.int (0 : Int32)), .unset] [(.int (((0 : Int32) >>> (((1 : Int32) + (3 : Int32)) &&& 31)) &&& (15 : Int32)))]))
  refine own_via (fun _ k => XS.istore X5.here hx rfl (hb hby d1_95) rfl (l' := #[.val (.ref w0), .val (.int (0 : Int32)), .unset, .val (.int (0 : Int32)), .val (.int (0 : Int32)), .val (.int (((0 : Int32) >>> (((1 : Int32) + (3 : Int32)) &&& 31)) &&& (15 : Int32)))]) rfl k) ?_
  show own_Go p e below s _ _ _ (T5.setTop (mkF m 97 #[.val (.ref w0), .val (.int (0 : Int32)), .unset, .val (.int (0 : Int32)), .val (.int (0 : Int32)), .val (.int (((0 : Int32) >>> (((1 : Int32) + (3 : Int32)) &&& 31)) &&& (15 : Int32)))] []))
  refine own_via (fun _ k => XS.iloadN X5.here hx rfl (hb hby d1_97) rfl k) ?_
  show own_Go p e below s _ _ _ (T5.setTop (mkF m 98 #[.val (.ref w0), .val (.int (0 : Int32)), .unset, .val (.int (0 : Int32)), .val (.int (0 : Int32)), .val (.int (((0 : Int32) >>> (((1 : Int32) + (3 : Int32)) &&& 31)) &&& (15 : Int32)))] [(.int (0 : Int32))]))
  refine own_via (fun _ k => XS.ifNo X5.here hx rfl (hb hby d1_98) rfl ((if0 _ _).trans (flt (by decide : ¬ ((0 : Int32) < (0 : Int32)))).1) k) ?_
  show own_Go p e below s _ _ _ (T5.setTop (mkF m 101 #[.val (.ref w0), .val (.int (0 : Int32)), .unset, .val (.int (0 : Int32)), .val (.int (0 : Int32)), .val (.int (((0 : Int32) >>> (((1 : Int32) + (3 : Int32)) &&& 31)) &&& (15 : Int32)))] []))
  refine own_via (fun _ k => XS.sipush X5.here hx rfl (hb hby d1_101) k) ?_
  show own_Go p e below s _ _ _ (T5.setTop (mkF m 104 #[.val (.ref w0), .val (.int (0 : Int32)), .unset, .val (.int (0 : Int32)), .val (.int (0 : Int32)), .val (.int (((0 : Int32) >>> (((1 : Int32) + (3 : Int32)) &&& 31)) &&& (15 : Int32)))] [(.int (128 : Int32))]))
  refine own_via (fun _ k => XS.goto X5.here hx rfl (pc0 := 104) (pc' := 108) rfl (hb hby d1_104) (by decide) (by decide) k) ?_
  show own_Go p e below s _ _ _ (T5.setTop (mkF m 108 #[.val (.ref w0), .val (.int (0 : Int32)), .unset, .val (.int (0 : Int32)), .val (.int (0 : Int32)), .val (.int (((0 : Int32) >>> (((1 : Int32) + (3 : Int32)) &&& 31)) &&& (15 : Int32)))] [(.int (128 : Int32))]))
  refine own_via (fun _ k => XS.iload X5.here hx rfl (hb hby d1_108) rfl k) ?_
  show own_Go p e below s _ _ _ (T5.setTop (mkF m 110 #[.val (.ref w0), .val (.int (0 : Int32)), .unset, .val (.int (0 : Int32)), .val (.int (0 : Int32)), .val (.int (((0 : Int32) >>> (((1 : Int32) + (3 : Int32)) &&& 31)) &&& (15 : Int32)))] [(.int (0 : Int32)), (.int (128 : Int32))]))
  refine own_via (fun _ k => XS.iconst X5.here hx rfl (hb hby d1_110) k) ?_
  show own_Go p e below s _ _ _ (T5.setTop (mkF m 111 #[.val (.ref w0), .val (.int (0 : Int32)), .unset, .val (.int (0 : Int32)), .val (.int (0 : Int32)), .val (.int (((0 : Int32) >>> (((1 : Int32) + (3 : Int32)) &&& 31)) &&& (15 : Int32)))] [(.int (4 : Int32)), (.int (0 : Int32)), (.int (128 : Int32))]))
  refine own_via (fun _ k => XS.ishl X5.here hx rfl (hb hby d1_111) rfl k) ?_
  show own_Go p e below s _ _ _ (T5.setTop (mkF m 112 #[.val (.ref w0), .val (.int (0 : Int32)), .unset, .val (.int (0 : Int32)), .val (.int (0 : Int32)), .val (.int (((0 : Int32) >>> (((1 : Int32) + (3 : Int32)) &&& 31)) &&& (15 : Int32)))] [(.int ((0 : Int32) <<< ((4 : Int32) &&& 31))), (.int (128 : Int32))]))
  refine own_via (fun _ k => XS.ior X5.here hx rfl (hb hby d1_112) rfl k) ?_
  show own_Go p e below s _ _ _ (T5.setTop (mkF m 113 #[.val (.ref w0), .val (.int (0 : Int32)), .unset, .val (.int (0 : Int32)), .val (.int (0 : Int32)), .val (.int (((0 : Int32) >>> (((1 : Int32) + (3 : Int32)) &&& 31)) &&& (15 : Int32)))] [(.int ((128 : Int32) ||| ((0 : Int32) <<< ((4 : Int32) &&& 31))))]))
  refine own_via (fun _ k => XS.iload X5.here hx rfl (hb hby d1_113) rfl k) ?_
  show own_Go p e below s _ _ _ (T5.setTop (mkF m 115 #[.val (.ref w0), .val (.int (0 : Int32)), .unset, .val (.int (0 : Int32)), .val (.int (0 : Int32)), .val (.int (((0 : Int32) >>> (((1 : Int32) + (3 : Int32)) &&& 31)) &&& (15 : Int32)))] [(.int (((0 : Int32) >>> (((1 : Int32) + (3 : Int32)) &&& 31)) &&& (15 : Int32))), (.int ((128 : Int32) ||| ((0 : Int32) <<< ((4 : Int32) &&& 31))))]))
  refine own_via (fun _ k => XS.ior X5.here hx rfl (hb hby d1_115) rfl k) ?_
  show own_Go p e below s _ _ _ (T5.setTop (mkF m 116 #[.val (.ref w0), .val (.int (0 : Int32)), .unset, .val (.int (0 : Int32)), .val (.int (0 : Int32)), .val (.int (((0 : Int32) >>> (((1 : Int32) + (3 : Int32)) &&& 31)) &&& (15 : Int32)))] [(.int (((128 : Int32) ||| ((0 : Int32) <<< ((4 : Int32) &&& 31))) ||| (((0 : Int32) >>> (((1 : Int32) + (3 : Int32)) &&& 31)) &&& (15 : Int32))))]))
  refine own_via (fun _ k => XS.bipush X5.here hx rfl (hb hby d1_116) k) ?_
  show own_Go p e below s _ _ _ (T5.setTop (mkF m 118 #[.val (.ref w0), .val (.int (0 : Int32)), .unset, .val (.int (0 : Int32)), .val (.int (0 : Int32)), .val (.int (((0 : Int32) >>> (((1 : Int32) + (3 : Int32)) &&& 31)) &&& (15 : Int32)))] [(.int (85 : Int32)), (.int (((128 : Int32) ||| ((0 : Int32) <<< ((4 : Int32) &&& 31))) ||| (((0 : Int32) >>> (((1 : Int32) + (3 : Int32)) &&& 31)) &&& (15 : Int32))))]))
  refine own_via (fun _ k => XS.ixor X5.here hx rfl (hb hby d1_118) rfl k) ?_
  show own_Go p e below s _ _ _ (T5.setTop (mkF m 119 #[.val (.ref w0), .val (.int (0 : Int32)), .unset, .val (.int (0 : Int32)), .val (.int (0 : Int32)), .val (.int (((0 : Int32) >>> (((1 : Int32) + (3 : Int32)) &&& 31)) &&& (15 : Int32)))] [(.int ((((128 : Int32) ||| ((0 : Int32) <<< ((4 : Int32) &&& 31))) ||| (((0 : Int32) >>> (((1 : Int32) + (3 : Int32)) &&& 31)) &&& (15 : Int32))) ^^^ (85 : Int32)))]))
  refine own_via (fun _ k => XS.i2b X5.here hx rfl (hb hby d1_119) rfl k) ?_
  show own_Go p e below s _ _ _ (T5.setTop (mkF m 120 #[.val (.ref w0), .val (.int (0 : Int32)), .unset, .val (.int (0 : Int32)), .val (.int (0 : Int32)), .val (.int (((0 : Int32) >>> (((1 : Int32) + (3 : Int32)) &&& 31)) &&& (15 : Int32)))] [(.int (((((128 : Int32) ||| ((0 : Int32) <<< ((4 : Int32) &&& 31))) ||| (((0 : Int32) >>> (((1 : Int32) + (3 : Int32)) &&& 31)) &&& (15 : Int32))) ^^^ (85 : Int32)).toInt8.toInt32))]))
  refine own_via (fun _ k => XS.istoreN X5.here hx rfl (hb hby d1_120) rfl (l' := #[.val (.ref w0), .val (.int (0 : Int32)), .val (.int (((((128 : Int32) ||| ((0 : Int32) <<< ((4 : Int32) &&& 31))) ||| (((0 : Int32) >>> (((1 : Int32) + (3 : Int32)) &&& 31)) &&& (15 : Int32))) ^^^ (85 : Int32)).toInt8.toInt32)), .val (.int (0 : Int32)), .val (.int (0 : Int32)), .val (.int (((0 : Int32) >>> (((1 : Int32) + (3 : Int32)) &&& 31)) &&& (15 : Int32)))]) rfl k) ?_
  show own_Go p e below s _ _ _ (T5.setTop (mkF m 121 #[.val (.ref w0), .val (.int (0 : Int32)), .val (.int (((((128 : Int32) ||| ((0 : Int32) <<< ((4 : Int32) &&& 31))) ||| (((0 : Int32) >>> (((1 : Int32) + (3 : Int32)) &&& 31)) &&& (15 : Int32))) ^^^ (85 : Int32)).toInt8.toInt32)), .val (.int (0 : Int32)), .val (.int (0 : Int32)), .val (.int (((0 : Int32) >>> (((1 : Int32) + (3 : Int32)) &&& 31)) &&& (15 : Int32)))] []))
  refine own_via (fun _ k => XS.iloadN X5.here hx rfl (hb hby d1_121) rfl k) ?_
  show own_Go p e below s _ _ _ (T5.setTop (mkF m 122 #[.val (.ref w0), .val (.int (0 : Int32)), .val (.int (((((128 : Int32) ||| ((0 : Int32) <<< ((4 : Int32) &&& 31))) ||| (((0 : Int32) >>> (((1 : Int32) + (3 : Int32)) &&& 31)) &&& (15 : Int32))) ^^^ (85 : Int32)).toInt8.toInt32)), .val (.int (0 : Int32)), .val (.int (0 : Int32)), .val (.int (((0 : Int32) >>> (((1 : Int32) + (3 : Int32)) &&& 31)) &&& (15 : Int32)))] [(.int (((((128 : Int32) ||| ((0 : Int32) <<< ((4 : Int32) &&& 31))) ||| (((0 : Int32) >>> (((1 : Int32) + (3 : Int32)) &&& 31)) &&& (15 : Int32))) ^^^ (85 : Int32)).toInt8.toInt32))]))
  exact own_retZ X5 hx hlk (t := .byte) Bd.returns (by simp) (hb hby d1_122) (z' := (-43 : Int32)) (by first | rfl | decide) ⟨rfl, e5, rfl⟩ (by decide) (by decide)
def Q7_2 (w0 : Addr) (w1 : Addr) (h0 : Heap) (v : Option Value) (h : Heap) (L : List Loc) : Prop := L = [] ∧ h = h0 ∧ ((v = some (.int (1 : Int32))))
set_option maxRecDepth 65536 in
set_option maxHeartbeats 40000000 in
theorem rm7_2 (l : Launch) (Z : State) (a0 : Array Value) (hw : ∀ d ∈ tables_1, d.before a0 Z = true) (ws : List Jvm.Cond) (w0 : Addr) (w1 : Addr) (h0 : Heap) (n0 : Nat) (Z0 : n0 ≤ h0.size) (K : own_K Z h0 w0 w1) :
    MetFree l (⟨"com/example/loudmark/loudmark/audio/G711Law", "encodesZero", "(B)Z"⟩ : MethodName) (head1 (Jvm.Cond.code (⟨"com/example/loudmark/loudmark/audio/G711Law", "encodesZero", "(B)Z"⟩ : MethodName) prog_2_method_10_code 3 (some .boolean) :: ws) ({ frames := 0, cells := 0, slots := 0, locals := 0 } : Room)) (fun a U => a = #[(.ref w0), (.int (-43 : Int32))] ∧ Z.Warmed39 U.vm ∧ U.heap = h0) (fun _ _ _ _ _ => True) (fun _ U o U' => ∃ v L, o = .returned v ∧ Q7_2 w0 w1 h0 v U'.heap L ∧ FrameEnd U o U' L ({ frames := 0, cells := 0, slots := 0, locals := 0 } : Room).cells ({ frames := 0, cells := 0, slots := 0, locals := 0 } : Room).slots) := by
  refine MetFree.of_bodySF (plainFor_of_name pn4) hisR ?_
  intro p e s m args below meth c s₁ Bd hml0 hP hK
  obtain ⟨rfl, hZ, hh⟩ := hP
  have hx := Bd.exec
  have hby := Bd.bytes
  have hml : c.maxLocals = 3 := hml0
  have hown : s.vm.findClass "com/example/loudmark/loudmark/audio/G711Law" = some m.cls := findClass_of_methodNamed Bd.named
  have hnm := (name_of_methodNamed Bd.named Bd.method).1
  have hlk := Bd.notSynchronized
  have X0 : Stand p l e ({ frames := 0, cells := 0, slots := 0, locals := 0 } : Room) s m #[(.ref w0), (.int (-43 : Int32))] below meth c s₁ [] 0 0 := Stand.of_body Bd
  have e0 : s₁.heap = h0 := by rw [← hh, Bd.state]; rfl
  have K0 := K
  obtain ⟨S_w0, S_w1, E_w0, E_w1, F_w0_ordinal, F_w1_ordinal, n_w0_w1⟩ := K
  show own_Go p e below s (Q7_2 w0 w1 h0) 0 0 (s₁.setTop (entryFrame m #[(.ref w0), (.int (-43 : Int32))] 3))
  rw [show entryFrame m #[(.ref w0), (.int (-43 : Int32))] 3 = mkF m 0 #[.val (.ref w0), .val (.int (-43 : Int32)), .unset] [] from by first | (simp [entryFrame, mkF, argsToLocals, Value.category]; done) | rfl]
  show own_Go p e below s _ _ _ (s₁.setTop (mkF m 0 #[.val (.ref w0), .val (.int (-43 : Int32)), .unset] []))
  refine own_via (fun _ k => XS.iloadN X0.here hx rfl (hb hby d7_0) rfl k) ?_
  show own_Go p e below s _ _ _ (s₁.setTop (mkF m 1 #[.val (.ref w0), .val (.int (-43 : Int32)), .unset] [(.int (-43 : Int32))]))
  refine own_via (fun _ k => XS.bipush X0.here hx rfl (hb hby d7_1) k) ?_
  show own_Go p e below s _ _ _ (s₁.setTop (mkF m 3 #[.val (.ref w0), .val (.int (-43 : Int32)), .unset] [(.int (127 : Int32)), (.int (-43 : Int32))]))
  refine own_via (fun _ k => XS.iand X0.here hx rfl (hb hby d7_3) rfl k) ?_
  show own_Go p e below s _ _ _ (s₁.setTop (mkF m 4 #[.val (.ref w0), .val (.int (-43 : Int32)), .unset] [(.int ((-43 : Int32) &&& (127 : Int32)))]))
  refine own_via (fun _ k => XS.aloadN X0.here hx rfl (hb hby d7_4) rfl rfl k) ?_
  show own_Go p e below s _ _ _ (s₁.setTop (mkF m 5 #[.val (.ref w0), .val (.int (-43 : Int32)), .unset] [(.ref w0), (.int ((-43 : Int32) &&& (127 : Int32)))]))
  obtain ⟨T1, X1, e1, st1⟩ := getS2 X0 hx hZ hown (host := "") (Or.inl (hw _ (List.mem_of_getElem? (i := 8) rfl))) Via.refl e0 S_w1 (g := (mkF m 5 #[.val (.ref w0), .val (.int (-43 : Int32)), .unset] [(.ref w0), (.int ((-43 : Int32) &&& (127 : Int32)))])) rfl (hb hby d7_5)
  refine own_via st1 ?_
  show own_Go p e below s _ _ _ (T1.setTop (mkF m 8 #[.val (.ref w0), .val (.int (-43 : Int32)), .unset] [(.ref w1), (.ref w0), (.int ((-43 : Int32) &&& (127 : Int32)))]))
  refine own_via (fun _ k => Jvm.RoadKit.acmp (g := (mkF m 8 #[.val (.ref w0), .val (.int (-43 : Int32)), .unset] [(.ref w1), (.ref w0), (.int ((-43 : Int32) &&& (127 : Int32)))])) X1 hx rfl rfl rfl (pc0 := 8) (pc' := 16) (same := false) rfl (hb hby d7_8) rfl (decide_eq_false fun q => n_w0_w1 (Value.ref.inj q)) (by decide) (by decide) k) ?_
  show own_Go p e below s _ _ _ (T1.setTop (mkF m 16 #[.val (.ref w0), .val (.int (-43 : Int32)), .unset] [(.int ((-43 : Int32) &&& (127 : Int32)))]))
  refine own_via (fun _ k => XS.bipush X1.here hx rfl (hb hby d7_16) k) ?_
  show own_Go p e below s _ _ _ (T1.setTop (mkF m 18 #[.val (.ref w0), .val (.int (-43 : Int32)), .unset] [(.int (85 : Int32)), (.int ((-43 : Int32) &&& (127 : Int32)))]))
  refine own_via (fun _ k => XS.ixor X1.here hx rfl (hb hby d7_18) rfl k) ?_
  show own_Go p e below s _ _ _ (T1.setTop (mkF m 19 #[.val (.ref w0), .val (.int (-43 : Int32)), .unset] [(.int (((-43 : Int32) &&& (127 : Int32)) ^^^ (85 : Int32)))]))
  refine own_via (fun _ k => XS.istoreN X1.here hx rfl (hb hby d7_19) rfl (l' := #[.val (.ref w0), .val (.int (-43 : Int32)), .val (.int (((-43 : Int32) &&& (127 : Int32)) ^^^ (85 : Int32)))]) rfl k) ?_
  show own_Go p e below s _ _ _ (T1.setTop (mkF m 20 #[.val (.ref w0), .val (.int (-43 : Int32)), .val (.int (((-43 : Int32) &&& (127 : Int32)) ^^^ (85 : Int32)))] []))
  refine own_via (fun _ k => XS.iloadN X1.here hx rfl (hb hby d7_20) rfl k) ?_
  show own_Go p e below s _ _ _ (T1.setTop (mkF m 21 #[.val (.ref w0), .val (.int (-43 : Int32)), .val (.int (((-43 : Int32) &&& (127 : Int32)) ^^^ (85 : Int32)))] [(.int (((-43 : Int32) &&& (127 : Int32)) ^^^ (85 : Int32)))]))
  refine own_via (fun _ k => XS.ifNo X1.here hx rfl (hb hby d7_21) rfl ((if0 _ _).trans (teq (by decide : (((-43 : Int32) &&& (127 : Int32)) ^^^ (85 : Int32)) = (0 : Int32))).2) k) ?_
  show own_Go p e below s _ _ _ (T1.setTop (mkF m 24 #[.val (.ref w0), .val (.int (-43 : Int32)), .val (.int (((-43 : Int32) &&& (127 : Int32)) ^^^ (85 : Int32)))] []))
  refine own_via (fun _ k => XS.iconst X1.here hx rfl (hb hby d7_24) k) ?_
  show own_Go p e below s _ _ _ (T1.setTop (mkF m 25 #[.val (.ref w0), .val (.int (-43 : Int32)), .val (.int (((-43 : Int32) &&& (127 : Int32)) ^^^ (85 : Int32)))] [(.int (1 : Int32))]))
  refine own_via (fun _ k => XS.goto X1.here hx rfl (pc0 := 25) (pc' := 29) rfl (hb hby d7_25) (by decide) (by decide) k) ?_
  show own_Go p e below s _ _ _ (T1.setTop (mkF m 29 #[.val (.ref w0), .val (.int (-43 : Int32)), .val (.int (((-43 : Int32) &&& (127 : Int32)) ^^^ (85 : Int32)))] [(.int (1 : Int32))]))
  exact own_retZ X1 hx hlk (t := .boolean) Bd.returns (by simp) (hb hby d7_29) (z' := (1 : Int32)) (by first | rfl | decide) ⟨rfl, e1, rfl⟩ (by decide) (by decide)
def Q7_3 (x1 : Int32) (w0 : Addr) (w1 : Addr) (h0 : Heap) (v : Option Value) (h : Heap) (L : List Loc) : Prop := L = [] ∧ h = h0 ∧ ((((x1 &&& (127 : Int32)) ^^^ (85 : Int32)) = (0 : Int32) ∧ v = some (.int (1 : Int32))) ∨ (¬ (((x1 &&& (127 : Int32)) ^^^ (85 : Int32)) = (0 : Int32)) ∧ v = some (.int (0 : Int32))))
set_option maxRecDepth 65536 in
set_option maxHeartbeats 40000000 in
theorem rm7_3 (l : Launch) (Z : State) (a0 : Array Value) (hw : ∀ d ∈ tables_1, d.before a0 Z = true) (ws : List Jvm.Cond) (x1 : Int32) (w0 : Addr) (w1 : Addr) (h0 : Heap) (n0 : Nat) (Z0 : n0 ≤ h0.size) (K : own_K Z h0 w0 w1) :
    MetFree l (⟨"com/example/loudmark/loudmark/audio/G711Law", "encodesZero", "(B)Z"⟩ : MethodName) (head1 (Jvm.Cond.code (⟨"com/example/loudmark/loudmark/audio/G711Law", "encodesZero", "(B)Z"⟩ : MethodName) prog_2_method_10_code 3 (some .boolean) :: ws) ({ frames := 0, cells := 0, slots := 0, locals := 0 } : Room)) (fun a U => a = #[(.ref w0), (.int x1)] ∧ Z.Warmed39 U.vm ∧ U.heap = h0) (fun _ _ _ _ _ => True) (fun _ U o U' => ∃ v L, o = .returned v ∧ Q7_3 x1 w0 w1 h0 v U'.heap L ∧ FrameEnd U o U' L ({ frames := 0, cells := 0, slots := 0, locals := 0 } : Room).cells ({ frames := 0, cells := 0, slots := 0, locals := 0 } : Room).slots) := by
  refine MetFree.of_bodySF (plainFor_of_name pn4) hisR ?_
  intro p e s m args below meth c s₁ Bd hml0 hP hK
  obtain ⟨rfl, hZ, hh⟩ := hP
  have hx := Bd.exec
  have hby := Bd.bytes
  have hml : c.maxLocals = 3 := hml0
  have hown : s.vm.findClass "com/example/loudmark/loudmark/audio/G711Law" = some m.cls := findClass_of_methodNamed Bd.named
  have hnm := (name_of_methodNamed Bd.named Bd.method).1
  have hlk := Bd.notSynchronized
  have X0 : Stand p l e ({ frames := 0, cells := 0, slots := 0, locals := 0 } : Room) s m #[(.ref w0), (.int x1)] below meth c s₁ [] 0 0 := Stand.of_body Bd
  have e0 : s₁.heap = h0 := by rw [← hh, Bd.state]; rfl
  have K0 := K
  obtain ⟨S_w0, S_w1, E_w0, E_w1, F_w0_ordinal, F_w1_ordinal, n_w0_w1⟩ := K
  show own_Go p e below s (Q7_3 x1 w0 w1 h0) 0 0 (s₁.setTop (entryFrame m #[(.ref w0), (.int x1)] 3))
  rw [show entryFrame m #[(.ref w0), (.int x1)] 3 = mkF m 0 #[.val (.ref w0), .val (.int x1), .unset] [] from by first | (simp [entryFrame, mkF, argsToLocals, Value.category]; done) | rfl]
  show own_Go p e below s _ _ _ (s₁.setTop (mkF m 0 #[.val (.ref w0), .val (.int x1), .unset] []))
  refine own_via (fun _ k => XS.iloadN X0.here hx rfl (hb hby d7_0) rfl k) ?_
  show own_Go p e below s _ _ _ (s₁.setTop (mkF m 1 #[.val (.ref w0), .val (.int x1), .unset] [(.int x1)]))
  refine own_via (fun _ k => XS.bipush X0.here hx rfl (hb hby d7_1) k) ?_
  show own_Go p e below s _ _ _ (s₁.setTop (mkF m 3 #[.val (.ref w0), .val (.int x1), .unset] [(.int (127 : Int32)), (.int x1)]))
  refine own_via (fun _ k => XS.iand X0.here hx rfl (hb hby d7_3) rfl k) ?_
  show own_Go p e below s _ _ _ (s₁.setTop (mkF m 4 #[.val (.ref w0), .val (.int x1), .unset] [(.int (x1 &&& (127 : Int32)))]))
  refine own_via (fun _ k => XS.aloadN X0.here hx rfl (hb hby d7_4) rfl rfl k) ?_
  show own_Go p e below s _ _ _ (s₁.setTop (mkF m 5 #[.val (.ref w0), .val (.int x1), .unset] [(.ref w0), (.int (x1 &&& (127 : Int32)))]))
  obtain ⟨T1, X1, e1, st1⟩ := getS2 X0 hx hZ hown (host := "") (Or.inl (hw _ (List.mem_of_getElem? (i := 8) rfl))) Via.refl e0 S_w1 (g := (mkF m 5 #[.val (.ref w0), .val (.int x1), .unset] [(.ref w0), (.int (x1 &&& (127 : Int32)))])) rfl (hb hby d7_5)
  refine own_via st1 ?_
  show own_Go p e below s _ _ _ (T1.setTop (mkF m 8 #[.val (.ref w0), .val (.int x1), .unset] [(.ref w1), (.ref w0), (.int (x1 &&& (127 : Int32)))]))
  refine own_via (fun _ k => Jvm.RoadKit.acmp (g := (mkF m 8 #[.val (.ref w0), .val (.int x1), .unset] [(.ref w1), (.ref w0), (.int (x1 &&& (127 : Int32)))])) X1 hx rfl rfl rfl (pc0 := 8) (pc' := 16) (same := false) rfl (hb hby d7_8) rfl (decide_eq_false fun q => n_w0_w1 (Value.ref.inj q)) (by decide) (by decide) k) ?_
  show own_Go p e below s _ _ _ (T1.setTop (mkF m 16 #[.val (.ref w0), .val (.int x1), .unset] [(.int (x1 &&& (127 : Int32)))]))
  refine own_via (fun _ k => XS.bipush X1.here hx rfl (hb hby d7_16) k) ?_
  show own_Go p e below s _ _ _ (T1.setTop (mkF m 18 #[.val (.ref w0), .val (.int x1), .unset] [(.int (85 : Int32)), (.int (x1 &&& (127 : Int32)))]))
  refine own_via (fun _ k => XS.ixor X1.here hx rfl (hb hby d7_18) rfl k) ?_
  show own_Go p e below s _ _ _ (T1.setTop (mkF m 19 #[.val (.ref w0), .val (.int x1), .unset] [(.int ((x1 &&& (127 : Int32)) ^^^ (85 : Int32)))]))
  refine own_via (fun _ k => XS.istoreN X1.here hx rfl (hb hby d7_19) rfl (l' := #[.val (.ref w0), .val (.int x1), .val (.int ((x1 &&& (127 : Int32)) ^^^ (85 : Int32)))]) rfl k) ?_
  show own_Go p e below s _ _ _ (T1.setTop (mkF m 20 #[.val (.ref w0), .val (.int x1), .val (.int ((x1 &&& (127 : Int32)) ^^^ (85 : Int32)))] []))
  refine own_via (fun _ k => XS.iloadN X1.here hx rfl (hb hby d7_20) rfl k) ?_
  show own_Go p e below s _ _ _ (T1.setTop (mkF m 21 #[.val (.ref w0), .val (.int x1), .val (.int ((x1 &&& (127 : Int32)) ^^^ (85 : Int32)))] [(.int ((x1 &&& (127 : Int32)) ^^^ (85 : Int32)))]))
  by_cases hc2 : ((x1 &&& (127 : Int32)) ^^^ (85 : Int32)) = (0 : Int32)
  · refine own_via (fun _ k => XS.ifNo X1.here hx rfl (hb hby d7_21) rfl ((if0 _ _).trans (teq hc2).2) k) ?_
    show own_Go p e below s _ _ _ (T1.setTop (mkF m 24 #[.val (.ref w0), .val (.int x1), .val (.int ((x1 &&& (127 : Int32)) ^^^ (85 : Int32)))] []))
    refine own_via (fun _ k => XS.iconst X1.here hx rfl (hb hby d7_24) k) ?_
    show own_Go p e below s _ _ _ (T1.setTop (mkF m 25 #[.val (.ref w0), .val (.int x1), .val (.int ((x1 &&& (127 : Int32)) ^^^ (85 : Int32)))] [(.int (1 : Int32))]))
    refine own_via (fun _ k => XS.goto X1.here hx rfl (pc0 := 25) (pc' := 29) rfl (hb hby d7_25) (by decide) (by decide) k) ?_
    show own_Go p e below s _ _ _ (T1.setTop (mkF m 29 #[.val (.ref w0), .val (.int x1), .val (.int ((x1 &&& (127 : Int32)) ^^^ (85 : Int32)))] [(.int (1 : Int32))]))
    exact own_retZ X1 hx hlk (t := .boolean) Bd.returns (by simp) (hb hby d7_29) (z' := (1 : Int32)) (by first | rfl | decide) ⟨rfl, e1, Or.inl ⟨hc2, rfl⟩⟩ (by decide) (by decide)
  · refine own_via (fun _ k => XS.ifYes X1.here hx rfl (pc0 := 21) (pc' := 28) rfl (hb hby d7_21) rfl ((if0 _ _).trans (feq hc2).2) (by decide) (by decide) k) ?_
    show own_Go p e below s _ _ _ (T1.setTop (mkF m 28 #[.val (.ref w0), .val (.int x1), .val (.int ((x1 &&& (127 : Int32)) ^^^ (85 : Int32)))] []))
    refine own_via (fun _ k => XS.iconst X1.here hx rfl (hb hby d7_28) k) ?_
    show own_Go p e below s _ _ _ (T1.setTop (mkF m 29 #[.val (.ref w0), .val (.int x1), .val (.int ((x1 &&& (127 : Int32)) ^^^ (85 : Int32)))] [(.int (0 : Int32))]))
    exact own_retZ X1 hx hlk (t := .boolean) Bd.returns (by simp) (hb hby d7_29) (z' := (0 : Int32)) (by first | rfl | decide) ⟨rfl, e1, Or.inr (⟨hc2, rfl⟩)⟩ (by decide) (by decide)
def Q0 (n0 : Nat) (v : Option Value) (h : Heap) (L : List Loc) : Prop := v = some (.int 1) ∧ Fr n0 L
set_option maxRecDepth 65536 in
set_option maxHeartbeats 40000000 in
theorem rm0 (l : Launch) (Z : State) (a0 : Array Value) (hw : ∀ d ∈ tables_1, d.before a0 Z = true) (ws : List Jvm.Cond) (p0 : Int32) (p1 : Int32) (w0 : Addr) (w1 : Addr) (h0 : Heap) (n0 : Nat) (Z0 : n0 ≤ h0.size) (K : own_K Z h0 w0 w1) :
    MetFree l x (head1 (Jvm.Cond.code x code maxLocals ret :: ws) room_1) (fun a U => a = #[(.int p0), (.int p1)] ∧ Z.Warmed39 U.vm ∧ U.heap = h0) (fun _ _ _ _ _ => True) (fun _ U o U' => ∃ v L, o = .returned v ∧ Q0 n0 v U'.heap L ∧ FrameEnd U o U' L 0 0) := by
  refine MetFree.of_bodySF (plainFor_of_name pn5) hisR ?_
  intro p e s m args below meth c s₁ Bd hml0 hP hK
  obtain ⟨rfl, hZ, hh⟩ := hP
  have hx := Bd.exec
  have hby := Bd.bytes
  have hml : c.maxLocals = 8 := hml0
  have hown : s.vm.findClass "com/example/loudmark/loudmark/audio/G711LawEncodesZeroPinLaw" = some m.cls := findClass_of_methodNamed Bd.named
  have hnm := (name_of_methodNamed Bd.named Bd.method).1
  have hlk := Bd.notSynchronized
  have X0 : Stand p l e room_1 s m #[(.int p0), (.int p1)] below meth c s₁ [] 0 0 := Stand.of_body Bd
  have e0 : s₁.heap = h0 := by rw [← hh, Bd.state]; rfl
  have K0 := K
  obtain ⟨S_w0, S_w1, E_w0, E_w1, F_w0_ordinal, F_w1_ordinal, n_w0_w1⟩ := K
  show own_Go p e below s (Q0 n0) 0 0 (s₁.setTop (entryFrame m #[(.int p0), (.int p1)] maxLocals))
  rw [show entryFrame m #[(.int p0), (.int p1)] maxLocals = mkF m 0 #[.val (.int p0), .val (.int p1), .unset, .unset, .unset, .unset, .unset, .unset] [] from by first | (simp [entryFrame, mkF, argsToLocals, Value.category, maxLocals]; done) | rfl]
  show own_Go p e below s _ _ _ (s₁.setTop (mkF m 0 #[.val (.int p0), .val (.int p1), .unset, .unset, .unset, .unset, .unset, .unset] []))
  refine own_via (fun _ k => XS.iloadN X0.here hx rfl (hb hby at_0) rfl k) ?_
  show own_Go p e below s _ _ _ (s₁.setTop (mkF m 1 #[.val (.int p0), .val (.int p1), .unset, .unset, .unset, .unset, .unset, .unset] [(.int p1)]))
  refine own_via (fun _ k => XS.iconst X0.here hx rfl (hb hby at_1) k) ?_
  show own_Go p e below s _ _ _ (s₁.setTop (mkF m 2 #[.val (.int p0), .val (.int p1), .unset, .unset, .unset, .unset, .unset, .unset] [(.int (1 : Int32)), (.int p1)]))
  refine own_via (fun _ k => XS.iand X0.here hx rfl (hb hby at_2) rfl k) ?_
  show own_Go p e below s _ _ _ (s₁.setTop (mkF m 3 #[.val (.int p0), .val (.int p1), .unset, .unset, .unset, .unset, .unset, .unset] [(.int (p1 &&& (1 : Int32)))]))
  by_cases hc1 : (p1 &&& (1 : Int32)) = (0 : Int32)
  · refine own_via (fun _ k => XS.ifNo X0.here hx rfl (hb hby at_3) rfl ((if0 _ _).trans (teq hc1).2) k) ?_
    show own_Go p e below s _ _ _ (s₁.setTop (mkF m 6 #[.val (.int p0), .val (.int p1), .unset, .unset, .unset, .unset, .unset, .unset] []))
    refine own_via (fun _ k => XS.iconst X0.here hx rfl (hb hby at_6) k) ?_
    show own_Go p e below s _ _ _ (s₁.setTop (mkF m 7 #[.val (.int p0), .val (.int p1), .unset, .unset, .unset, .unset, .unset, .unset] [(.int (1 : Int32))]))
    refine own_via (fun _ k => XS.goto X0.here hx rfl (pc0 := 7) (pc' := 11) rfl (hb hby at_7) (by decide) (by decide) k) ?_
    show own_Go p e below s _ _ _ (s₁.setTop (mkF m 11 #[.val (.int p0), .val (.int p1), .unset, .unset, .unset, .unset, .unset, .unset] [(.int (1 : Int32))]))
    refine own_via (fun _ k => XS.istoreN X0.here hx rfl (hb hby at_11) rfl (l' := #[.val (.int p0), .val (.int p1), .val (.int (1 : Int32)), .unset, .unset, .unset, .unset, .unset]) rfl k) ?_
    show own_Go p e below s _ _ _ (s₁.setTop (mkF m 12 #[.val (.int p0), .val (.int p1), .val (.int (1 : Int32)), .unset, .unset, .unset, .unset, .unset] []))
    refine own_via (fun _ k => XS.iloadN X0.here hx rfl (hb hby at_12) rfl k) ?_
    show own_Go p e below s _ _ _ (s₁.setTop (mkF m 13 #[.val (.int p0), .val (.int p1), .val (.int (1 : Int32)), .unset, .unset, .unset, .unset, .unset] [(.int (1 : Int32))]))
    refine own_via (fun _ k => XS.ifNo X0.here hx rfl (hb hby at_13) rfl ((if0 _ _).trans (feq (by decide : ¬ ((1 : Int32) = (0 : Int32)))).1) k) ?_
    show own_Go p e below s _ _ _ (s₁.setTop (mkF m 16 #[.val (.int p0), .val (.int p1), .val (.int (1 : Int32)), .unset, .unset, .unset, .unset, .unset] []))
    obtain ⟨T2, X2, e2, st2⟩ := getS2 X0 hx hZ hown (host := "") (Or.inl (hw _ (List.mem_of_getElem? (i := 32) rfl))) Via.refl e0 S_w1 (g := (mkF m 16 #[.val (.int p0), .val (.int p1), .val (.int (1 : Int32)), .unset, .unset, .unset, .unset, .unset] [])) rfl (hb hby at_16)
    refine own_via st2 ?_
    show own_Go p e below s _ _ _ (T2.setTop (mkF m 19 #[.val (.int p0), .val (.int p1), .val (.int (1 : Int32)), .unset, .unset, .unset, .unset, .unset] [(.ref w1)]))
    refine own_via (fun _ k => XS.goto X2.here hx rfl (pc0 := 19) (pc' := 25) rfl (hb hby at_19) (by decide) (by decide) k) ?_
    show own_Go p e below s _ _ _ (T2.setTop (mkF m 25 #[.val (.int p0), .val (.int p1), .val (.int (1 : Int32)), .unset, .unset, .unset, .unset, .unset] [(.ref w1)]))
    refine own_via (fun _ k => XS.astoreN X2.here hx rfl (hb hby at_25) rfl rfl (l' := #[.val (.int p0), .val (.int p1), .val (.int (1 : Int32)), .val (.ref w1), .unset, .unset, .unset, .unset]) rfl k) ?_
    show own_Go p e below s _ _ _ (T2.setTop (mkF m 26 #[.val (.int p0), .val (.int p1), .val (.int (1 : Int32)), .val (.ref w1), .unset, .unset, .unset, .unset] []))
    refine own_via (fun _ k => XS.iloadN X2.here hx rfl (hb hby at_26) rfl k) ?_
    show own_Go p e below s _ _ _ (T2.setTop (mkF m 27 #[.val (.int p0), .val (.int p1), .val (.int (1 : Int32)), .val (.ref w1), .unset, .unset, .unset, .unset] [(.int p0)]))
    refine own_via (fun _ k => XS.i2b X2.here hx rfl (hb hby at_27) rfl k) ?_
    show own_Go p e below s _ _ _ (T2.setTop (mkF m 28 #[.val (.int p0), .val (.int p1), .val (.int (1 : Int32)), .val (.ref w1), .unset, .unset, .unset, .unset] [(.int (p0.toInt8.toInt32))]))
    refine own_via (fun _ k => XS.istore X2.here hx rfl (hb hby at_28) rfl (l' := #[.val (.int p0), .val (.int p1), .val (.int (1 : Int32)), .val (.ref w1), .val (.int (p0.toInt8.toInt32)), .unset, .unset, .unset]) rfl k) ?_
    show own_Go p e below s _ _ _ (T2.setTop (mkF m 30 #[.val (.int p0), .val (.int p1), .val (.int (1 : Int32)), .val (.ref w1), .val (.int (p0.toInt8.toInt32)), .unset, .unset, .unset] []))
    refine own_via (fun _ k => XS.iload X2.here hx rfl (hb hby at_30) rfl k) ?_
    show own_Go p e below s _ _ _ (T2.setTop (mkF m 32 #[.val (.int p0), .val (.int p1), .val (.int (1 : Int32)), .val (.ref w1), .val (.int (p0.toInt8.toInt32)), .unset, .unset, .unset] [(.int (p0.toInt8.toInt32))]))
    refine own_via (fun _ k => XS.sipush X2.here hx rfl (hb hby at_32) k) ?_
    show own_Go p e below s _ _ _ (T2.setTop (mkF m 35 #[.val (.int p0), .val (.int p1), .val (.int (1 : Int32)), .val (.ref w1), .val (.int (p0.toInt8.toInt32)), .unset, .unset, .unset] [(.int (255 : Int32)), (.int (p0.toInt8.toInt32))]))
    refine own_via (fun _ k => XS.iand X2.here hx rfl (hb hby at_35) rfl k) ?_
    show own_Go p e below s _ _ _ (T2.setTop (mkF m 36 #[.val (.int p0), .val (.int p1), .val (.int (1 : Int32)), .val (.ref w1), .val (.int (p0.toInt8.toInt32)), .unset, .unset, .unset] [(.int ((p0.toInt8.toInt32) &&& (255 : Int32)))]))
    refine own_via (fun _ k => XS.istore X2.here hx rfl (hb hby at_36) rfl (l' := #[.val (.int p0), .val (.int p1), .val (.int (1 : Int32)), .val (.ref w1), .val (.int (p0.toInt8.toInt32)), .val (.int ((p0.toInt8.toInt32) &&& (255 : Int32))), .unset, .unset]) rfl k) ?_
    show own_Go p e below s _ _ _ (T2.setTop (mkF m 38 #[.val (.int p0), .val (.int p1), .val (.int (1 : Int32)), .val (.ref w1), .val (.int (p0.toInt8.toInt32)), .val (.int ((p0.toInt8.toInt32) &&& (255 : Int32))), .unset, .unset] []))
    refine own_via (fun _ k => XS.iloadN X2.here hx rfl (hb hby at_38) rfl k) ?_
    show own_Go p e below s _ _ _ (T2.setTop (mkF m 39 #[.val (.int p0), .val (.int p1), .val (.int (1 : Int32)), .val (.ref w1), .val (.int (p0.toInt8.toInt32)), .val (.int ((p0.toInt8.toInt32) &&& (255 : Int32))), .unset, .unset] [(.int (1 : Int32))]))
    refine own_via (fun _ k => XS.ifNo X2.here hx rfl (hb hby at_39) rfl ((if0 _ _).trans (feq (by decide : ¬ ((1 : Int32) = (0 : Int32)))).1) k) ?_
    show own_Go p e below s _ _ _ (T2.setTop (mkF m 42 #[.val (.int p0), .val (.int p1), .val (.int (1 : Int32)), .val (.ref w1), .val (.int (p0.toInt8.toInt32)), .val (.int ((p0.toInt8.toInt32) &&& (255 : Int32))), .unset, .unset] []))
    refine own_via (fun _ k => XS.iload X2.here hx rfl (hb hby at_42) rfl k) ?_
    show own_Go p e below s _ _ _ (T2.setTop (mkF m 44 #[.val (.int p0), .val (.int p1), .val (.int (1 : Int32)), .val (.ref w1), .val (.int (p0.toInt8.toInt32)), .val (.int ((p0.toInt8.toInt32) &&& (255 : Int32))), .unset, .unset] [(.int ((p0.toInt8.toInt32) &&& (255 : Int32)))]))
    refine own_via (fun _ k => XS.sipush X2.here hx rfl (hb hby at_44) k) ?_
    show own_Go p e below s _ _ _ (T2.setTop (mkF m 47 #[.val (.int p0), .val (.int p1), .val (.int (1 : Int32)), .val (.ref w1), .val (.int (p0.toInt8.toInt32)), .val (.int ((p0.toInt8.toInt32) &&& (255 : Int32))), .unset, .unset] [(.int (255 : Int32)), (.int ((p0.toInt8.toInt32) &&& (255 : Int32)))]))
    by_cases hc3 : ((p0.toInt8.toInt32) &&& (255 : Int32)) = (255 : Int32)
    · refine own_via (fun _ k => XS.icmpYes X2.here hx rfl (pc0 := 47) (pc' := 57) rfl (hb hby at_47) rfl (teq hc3).1 (by decide) (by decide) k) ?_
      show own_Go p e below s _ _ _ (T2.setTop (mkF m 57 #[.val (.int p0), .val (.int p1), .val (.int (1 : Int32)), .val (.ref w1), .val (.int (p0.toInt8.toInt32)), .val (.int ((p0.toInt8.toInt32) &&& (255 : Int32))), .unset, .unset] []))
      refine own_via (fun _ k => XS.iconst X2.here hx rfl (hb hby at_57) k) ?_
      show own_Go p e below s _ _ _ (T2.setTop (mkF m 58 #[.val (.int p0), .val (.int p1), .val (.int (1 : Int32)), .val (.ref w1), .val (.int (p0.toInt8.toInt32)), .val (.int ((p0.toInt8.toInt32) &&& (255 : Int32))), .unset, .unset] [(.int (1 : Int32))]))
      refine own_via (fun _ k => XS.goto X2.here hx rfl (pc0 := 58) (pc' := 62) rfl (hb hby at_58) (by decide) (by decide) k) ?_
      show own_Go p e below s _ _ _ (T2.setTop (mkF m 62 #[.val (.int p0), .val (.int p1), .val (.int (1 : Int32)), .val (.ref w1), .val (.int (p0.toInt8.toInt32)), .val (.int ((p0.toInt8.toInt32) &&& (255 : Int32))), .unset, .unset] [(.int (1 : Int32))]))
      refine own_via (fun _ k => XS.istore X2.here hx rfl (hb hby at_62) rfl (l' := #[.val (.int p0), .val (.int p1), .val (.int (1 : Int32)), .val (.ref w1), .val (.int (p0.toInt8.toInt32)), .val (.int ((p0.toInt8.toInt32) &&& (255 : Int32))), .val (.int (1 : Int32)), .unset]) rfl k) ?_
      show own_Go p e below s _ _ _ (T2.setTop (mkF m 64 #[.val (.int p0), .val (.int p1), .val (.int (1 : Int32)), .val (.ref w1), .val (.int (p0.toInt8.toInt32)), .val (.int ((p0.toInt8.toInt32) &&& (255 : Int32))), .val (.int (1 : Int32)), .unset] []))
      refine own_via (fun _ k => XS.goto X2.here hx rfl (pc0 := 64) (pc' := 89) rfl (hb hby at_64) (by decide) (by decide) k) ?_
      show own_Go p e below s _ _ _ (T2.setTop (mkF m 89 #[.val (.int p0), .val (.int p1), .val (.int (1 : Int32)), .val (.ref w1), .val (.int (p0.toInt8.toInt32)), .val (.int ((p0.toInt8.toInt32) &&& (255 : Int32))), .val (.int (1 : Int32)), .unset] []))
      refine own_via (fun _ k => XS.aloadN X2.here hx rfl (hb hby at_89) rfl rfl k) ?_
      show own_Go p e below s _ _ _ (T2.setTop (mkF m 90 #[.val (.int p0), .val (.int p1), .val (.int (1 : Int32)), .val (.ref w1), .val (.int (p0.toInt8.toInt32)), .val (.int ((p0.toInt8.toInt32) &&& (255 : Int32))), .val (.int (1 : Int32)), .unset] [(.ref w1)]))
      refine own_via (fun _ k => XS.aloadN X2.here hx rfl (hb hby at_90) rfl rfl k) ?_
      show own_Go p e below s _ _ _ (T2.setTop (mkF m 91 #[.val (.int p0), .val (.int p1), .val (.int (1 : Int32)), .val (.ref w1), .val (.int (p0.toInt8.toInt32)), .val (.int ((p0.toInt8.toInt32) &&& (255 : Int32))), .val (.int (1 : Int32)), .unset] [(.ref w1), (.ref w1)]))
      refine own_via (fun _ k => XS.iconst X2.here hx rfl (hb hby at_91) k) ?_
      show own_Go p e below s _ _ _ (T2.setTop (mkF m 92 #[.val (.int p0), .val (.int p1), .val (.int (1 : Int32)), .val (.ref w1), .val (.int (p0.toInt8.toInt32)), .val (.int ((p0.toInt8.toInt32) &&& (255 : Int32))), .val (.int (1 : Int32)), .unset] [(.int (0 : Int32)), (.ref w1), (.ref w1)]))
      obtain ⟨cq4, kq4, q4a, q4b, q4c⟩ := isOf hZ e2 E_w1
      obtain ⟨_, _, ⟨T4, L4, k4, n4⟩, -, X4, ⟨Lc4, hQ4, l4, y4, z4⟩, st4⟩ := X2.virtualBack hx (y := (⟨"com/example/loudmark/loudmark/audio/G711Law", "encode", "(S)B"⟩ : MethodName)) (z := (⟨"com/example/loudmark/loudmark/audio/G711Law", "encode", "(S)B"⟩ : MethodName)) hown (mvT hZ (hw _ (List.mem_of_getElem? (i := 3) rfl))) (mvT hZ (hw _ (List.mem_of_getElem? (i := 4) rfl))) (notFace_of_selects (args := #[]) (mvT hZ (hw _ (List.mem_of_getElem? (i := 6) rfl)))) (mvT hZ (hw _ (List.mem_of_getElem? (i := 6) rfl))) (mvT hZ (hw _ (List.mem_of_getElem? (i := 5) rfl))) (by decide) (backOf (W := 1) (rm1_0 l Z a0 hw [] w0 w1 h0 n0 Z0 K0) hZ (hw _ (List.mem_of_getElem? (i := 7) rfl)) (hw _ (List.mem_of_getElem? (i := 1) rfl)) (by decide) (by decide)) q4a q4c (g := (mkF m 92 #[.val (.int p0), .val (.int p1), .val (.int (1 : Int32)), .val (.ref w1), .val (.int (p0.toInt8.toInt32)), .val (.int ((p0.toInt8.toInt32) &&& (255 : Int32))), .val (.int (1 : Int32)), .unset] [(.int (0 : Int32)), (.ref w1), (.ref w1)])) rfl (by rw [hml]; rfl) (Steps.refl _) (argsL := [(.int (0 : Int32))]) (rest := [(.ref w1)]) (lenOf pd2 rfl) rfl (by show 2 * 0 + _ ≤ _; exact Nat.le_of_eq rfl) (hb hby at_92) (fun _ _ => ⟨rfl, e2, (by decide : 0 + 0 ≤ _), (by decide : 0 + 0 ≤ _)⟩)
      dsimp only [Pt.U, Pt.locs, Pt.cells, Pt.slots] at X4 l4 y4 z4 st4 hQ4
      subst l4 y4 z4
      obtain ⟨rfl, e4, hO4⟩ := hQ4
      obtain rfl := hO4
      refine own_tr st4 ?_
      show own_Go p e below s _ _ _ (T4.setTop (mkF m 95 #[.val (.int p0), .val (.int p1), .val (.int (1 : Int32)), .val (.ref w1), .val (.int (p0.toInt8.toInt32)), .val (.int ((p0.toInt8.toInt32) &&& (255 : Int32))), .val (.int (1 : Int32)), .unset] [(.int (-1 : Int32)), (.ref w1)]))
      obtain ⟨cq5, kq5, q5a, q5b, q5c⟩ := isOf hZ e4 E_w1
      obtain ⟨_, _, ⟨T5, L5, k5, n5⟩, -, X5, ⟨Lc5, hQ5, l5, y5, z5⟩, st5⟩ := X4.virtualBack hx (y := (⟨"com/example/loudmark/loudmark/audio/G711Law", "encodesZero", "(B)Z"⟩ : MethodName)) (z := (⟨"com/example/loudmark/loudmark/audio/G711Law", "encodesZero", "(B)Z"⟩ : MethodName)) hown (mvT hZ (hw _ (List.mem_of_getElem? (i := 27) rfl))) (mvT hZ (hw _ (List.mem_of_getElem? (i := 28) rfl))) (notFace_of_selects (args := #[]) (mvT hZ (hw _ (List.mem_of_getElem? (i := 30) rfl)))) (mvT hZ (hw _ (List.mem_of_getElem? (i := 30) rfl))) (mvT hZ (hw _ (List.mem_of_getElem? (i := 29) rfl))) (by decide) (backOf (W := 0) (rm7_0 l Z a0 hw [] w0 w1 h0 n0 Z0 K0) hZ (hw _ (List.mem_of_getElem? (i := 31) rfl)) (hw _ (List.mem_of_getElem? (i := 1) rfl)) (by decide) (by decide)) q5a q5c (g := (mkF m 95 #[.val (.int p0), .val (.int p1), .val (.int (1 : Int32)), .val (.ref w1), .val (.int (p0.toInt8.toInt32)), .val (.int ((p0.toInt8.toInt32) &&& (255 : Int32))), .val (.int (1 : Int32)), .unset] [(.int (-1 : Int32)), (.ref w1)])) rfl (by rw [hml]; rfl) (Steps.refl _) (argsL := [(.int (-1 : Int32))]) (rest := []) (lenOf pd3 rfl) rfl (by show 2 * 0 + _ ≤ _; exact Nat.le_of_eq rfl) (hb hby at_95) (fun _ _ => ⟨rfl, e4, (by decide : 0 + 0 ≤ _), (by decide : 0 + 0 ≤ _)⟩)
      dsimp only [Pt.U, Pt.locs, Pt.cells, Pt.slots] at X5 l5 y5 z5 st5 hQ5
      subst l5 y5 z5
      obtain ⟨rfl, e5, hO5⟩ := hQ5
      obtain rfl := hO5
      refine own_tr st5 ?_
      show own_Go p e below s _ _ _ (T5.setTop (mkF m 98 #[.val (.int p0), .val (.int p1), .val (.int (1 : Int32)), .val (.ref w1), .val (.int (p0.toInt8.toInt32)), .val (.int ((p0.toInt8.toInt32) &&& (255 : Int32))), .val (.int (1 : Int32)), .unset] [(.int (1 : Int32))]))
      refine own_via (fun _ k => XS.istore X5.here hx rfl (hb hby at_98) rfl (l' := #[.val (.int p0), .val (.int p1), .val (.int (1 : Int32)), .val (.ref w1), .val (.int (p0.toInt8.toInt32)), .val (.int ((p0.toInt8.toInt32) &&& (255 : Int32))), .val (.int (1 : Int32)), .val (.int (1 : Int32))]) rfl k) ?_
      show own_Go p e below s _ _ _ (T5.setTop (mkF m 100 #[.val (.int p0), .val (.int p1), .val (.int (1 : Int32)), .val (.ref w1), .val (.int (p0.toInt8.toInt32)), .val (.int ((p0.toInt8.toInt32) &&& (255 : Int32))), .val (.int (1 : Int32)), .val (.int (1 : Int32))] []))
      refine own_via (fun _ k => XS.aloadN X5.here hx rfl (hb hby at_100) rfl rfl k) ?_
      show own_Go p e below s _ _ _ (T5.setTop (mkF m 101 #[.val (.int p0), .val (.int p1), .val (.int (1 : Int32)), .val (.ref w1), .val (.int (p0.toInt8.toInt32)), .val (.int ((p0.toInt8.toInt32) &&& (255 : Int32))), .val (.int (1 : Int32)), .val (.int (1 : Int32))] [(.ref w1)]))
      refine own_via (fun _ k => XS.iload X5.here hx rfl (hb hby at_101) rfl k) ?_
      show own_Go p e below s _ _ _ (T5.setTop (mkF m 103 #[.val (.int p0), .val (.int p1), .val (.int (1 : Int32)), .val (.ref w1), .val (.int (p0.toInt8.toInt32)), .val (.int ((p0.toInt8.toInt32) &&& (255 : Int32))), .val (.int (1 : Int32)), .val (.int (1 : Int32))] [(.int (p0.toInt8.toInt32)), (.ref w1)]))
      obtain ⟨cq6, kq6, q6a, q6b, q6c⟩ := isOf hZ e5 E_w1
      obtain ⟨_, _, ⟨T6, L6, k6, n6⟩, -, X6, ⟨Lc6, hQ6, l6, y6, z6⟩, st6⟩ := X5.virtualBack hx (y := (⟨"com/example/loudmark/loudmark/audio/G711Law", "encodesZero", "(B)Z"⟩ : MethodName)) (z := (⟨"com/example/loudmark/loudmark/audio/G711Law", "encodesZero", "(B)Z"⟩ : MethodName)) hown (mvT hZ (hw _ (List.mem_of_getElem? (i := 27) rfl))) (mvT hZ (hw _ (List.mem_of_getElem? (i := 28) rfl))) (notFace_of_selects (args := #[]) (mvT hZ (hw _ (List.mem_of_getElem? (i := 30) rfl)))) (mvT hZ (hw _ (List.mem_of_getElem? (i := 30) rfl))) (mvT hZ (hw _ (List.mem_of_getElem? (i := 29) rfl))) (by decide) (backOf (W := 0) (rm7_1 l Z a0 hw [] (p0.toInt8.toInt32) w0 w1 h0 n0 Z0 K0) hZ (hw _ (List.mem_of_getElem? (i := 31) rfl)) (hw _ (List.mem_of_getElem? (i := 1) rfl)) (by decide) (by decide)) q6a q6c (g := (mkF m 103 #[.val (.int p0), .val (.int p1), .val (.int (1 : Int32)), .val (.ref w1), .val (.int (p0.toInt8.toInt32)), .val (.int ((p0.toInt8.toInt32) &&& (255 : Int32))), .val (.int (1 : Int32)), .val (.int (1 : Int32))] [(.int (p0.toInt8.toInt32)), (.ref w1)])) rfl (by rw [hml]; rfl) (Steps.refl _) (argsL := [(.int (p0.toInt8.toInt32))]) (rest := []) (lenOf pd3 rfl) rfl (by show 2 * 0 + _ ≤ _; exact Nat.le_of_eq rfl) (hb hby at_103) (fun _ _ => ⟨rfl, e5, (by decide : 0 + 0 ≤ _), (by decide : 0 + 0 ≤ _)⟩)
      dsimp only [Pt.U, Pt.locs, Pt.cells, Pt.slots] at X6 l6 y6 z6 st6 hQ6
      subst l6 y6 z6
      obtain ⟨rfl, e6, hO6⟩ := hQ6
      rcases hO6 with ⟨hr6_0_0, rfl⟩ | ⟨hr6_1_0, rfl⟩
      · refine own_tr st6 ?_
        show own_Go p e below s _ _ _ (T6.setTop (mkF m 106 #[.val (.int p0), .val (.int p1), .val (.int (1 : Int32)), .val (.ref w1), .val (.int (p0.toInt8.toInt32)), .val (.int ((p0.toInt8.toInt32) &&& (255 : Int32))), .val (.int (1 : Int32)), .val (.int (1 : Int32))] [(.int (1 : Int32))]))
        refine own_via (fun _ k => XS.iload X6.here hx rfl (hb hby at_106) rfl k) ?_
        show own_Go p e below s _ _ _ (T6.setTop (mkF m 108 #[.val (.int p0), .val (.int p1), .val (.int (1 : Int32)), .val (.ref w1), .val (.int (p0.toInt8.toInt32)), .val (.int ((p0.toInt8.toInt32) &&& (255 : Int32))), .val (.int (1 : Int32)), .val (.int (1 : Int32))] [(.int (1 : Int32)), (.int (1 : Int32))]))
        refine own_via (fun _ k => XS.icmpNo X6.here hx rfl (hb hby at_108) rfl (teq (by decide : (1 : Int32) = (1 : Int32))).2 k) ?_
        show own_Go p e below s _ _ _ (T6.setTop (mkF m 111 #[.val (.int p0), .val (.int p1), .val (.int (1 : Int32)), .val (.ref w1), .val (.int (p0.toInt8.toInt32)), .val (.int ((p0.toInt8.toInt32) &&& (255 : Int32))), .val (.int (1 : Int32)), .val (.int (1 : Int32))] []))
        refine own_via (fun _ k => XS.iload X6.here hx rfl (hb hby at_111) rfl k) ?_
        show own_Go p e below s _ _ _ (T6.setTop (mkF m 113 #[.val (.int p0), .val (.int p1), .val (.int (1 : Int32)), .val (.ref w1), .val (.int (p0.toInt8.toInt32)), .val (.int ((p0.toInt8.toInt32) &&& (255 : Int32))), .val (.int (1 : Int32)), .val (.int (1 : Int32))] [(.int (1 : Int32))]))
        refine own_via (fun _ k => XS.ifNo X6.here hx rfl (hb hby at_113) rfl ((if0 _ _).trans (feq (by decide : ¬ ((1 : Int32) = (0 : Int32)))).1) k) ?_
        show own_Go p e below s _ _ _ (T6.setTop (mkF m 116 #[.val (.int p0), .val (.int p1), .val (.int (1 : Int32)), .val (.ref w1), .val (.int (p0.toInt8.toInt32)), .val (.int ((p0.toInt8.toInt32) &&& (255 : Int32))), .val (.int (1 : Int32)), .val (.int (1 : Int32))] []))
        refine own_via (fun _ k => XS.iconst X6.here hx rfl (hb hby at_116) k) ?_
        show own_Go p e below s _ _ _ (T6.setTop (mkF m 117 #[.val (.int p0), .val (.int p1), .val (.int (1 : Int32)), .val (.ref w1), .val (.int (p0.toInt8.toInt32)), .val (.int ((p0.toInt8.toInt32) &&& (255 : Int32))), .val (.int (1 : Int32)), .val (.int (1 : Int32))] [(.int (1 : Int32))]))
        refine own_via (fun _ k => XS.goto X6.here hx rfl (pc0 := 117) (pc' := 121) rfl (hb hby at_117) (by decide) (by decide) k) ?_
        show own_Go p e below s _ _ _ (T6.setTop (mkF m 121 #[.val (.int p0), .val (.int p1), .val (.int (1 : Int32)), .val (.ref w1), .val (.int (p0.toInt8.toInt32)), .val (.int ((p0.toInt8.toInt32) &&& (255 : Int32))), .val (.int (1 : Int32)), .val (.int (1 : Int32))] [(.int (1 : Int32))]))
        exact own_retZ X6 hx hlk (t := .boolean) Bd.returns (by simp) (hb hby at_121) (z' := (1 : Int32)) (by first | rfl | decide) ⟨rfl, (Fr.nil n0)⟩ (by decide) (by decide)
      · refine own_tr st6 ?_
        show own_Go p e below s _ _ _ (T6.setTop (mkF m 106 #[.val (.int p0), .val (.int p1), .val (.int (1 : Int32)), .val (.ref w1), .val (.int (p0.toInt8.toInt32)), .val (.int ((p0.toInt8.toInt32) &&& (255 : Int32))), .val (.int (1 : Int32)), .val (.int (1 : Int32))] [(.int (0 : Int32))]))
        refine own_via (fun _ k => XS.iload X6.here hx rfl (hb hby at_106) rfl k) ?_
        show own_Go p e below s _ _ _ (T6.setTop (mkF m 108 #[.val (.int p0), .val (.int p1), .val (.int (1 : Int32)), .val (.ref w1), .val (.int (p0.toInt8.toInt32)), .val (.int ((p0.toInt8.toInt32) &&& (255 : Int32))), .val (.int (1 : Int32)), .val (.int (1 : Int32))] [(.int (1 : Int32)), (.int (0 : Int32))]))
        refine own_via (fun _ k => XS.icmpYes X6.here hx rfl (pc0 := 108) (pc' := 120) rfl (hb hby at_108) rfl (feq (by decide : ¬ ((0 : Int32) = (1 : Int32)))).2 (by decide) (by decide) k) ?_
        show own_Go p e below s _ _ _ (T6.setTop (mkF m 120 #[.val (.int p0), .val (.int p1), .val (.int (1 : Int32)), .val (.ref w1), .val (.int (p0.toInt8.toInt32)), .val (.int ((p0.toInt8.toInt32) &&& (255 : Int32))), .val (.int (1 : Int32)), .val (.int (1 : Int32))] []))
        refine own_via (fun _ k => XS.iconst X6.here hx rfl (hb hby at_120) k) ?_
        show own_Go p e below s _ _ _ (T6.setTop (mkF m 121 #[.val (.int p0), .val (.int p1), .val (.int (1 : Int32)), .val (.ref w1), .val (.int (p0.toInt8.toInt32)), .val (.int ((p0.toInt8.toInt32) &&& (255 : Int32))), .val (.int (1 : Int32)), .val (.int (1 : Int32))] [(.int (0 : Int32))]))
        exact (own_low (fun b u => ((b &&& (255 : Int32)) = (255 : Int32)) → (¬ (((b &&& (127 : Int32)) ^^^ (127 : Int32)) = (0 : Int32))) → False) (by decide +kernel) p0 hc3 hr6_1_0).elim
    · refine own_via (fun _ k => XS.icmpNo X2.here hx rfl (hb hby at_47) rfl (feq hc3).1 k) ?_
      show own_Go p e below s _ _ _ (T2.setTop (mkF m 50 #[.val (.int p0), .val (.int p1), .val (.int (1 : Int32)), .val (.ref w1), .val (.int (p0.toInt8.toInt32)), .val (.int ((p0.toInt8.toInt32) &&& (255 : Int32))), .unset, .unset] []))
      refine own_via (fun _ k => XS.iload X2.here hx rfl (hb hby at_50) rfl k) ?_
      show own_Go p e below s _ _ _ (T2.setTop (mkF m 52 #[.val (.int p0), .val (.int p1), .val (.int (1 : Int32)), .val (.ref w1), .val (.int (p0.toInt8.toInt32)), .val (.int ((p0.toInt8.toInt32) &&& (255 : Int32))), .unset, .unset] [(.int ((p0.toInt8.toInt32) &&& (255 : Int32)))]))
      refine own_via (fun _ k => XS.bipush X2.here hx rfl (hb hby at_52) k) ?_
      show own_Go p e below s _ _ _ (T2.setTop (mkF m 54 #[.val (.int p0), .val (.int p1), .val (.int (1 : Int32)), .val (.ref w1), .val (.int (p0.toInt8.toInt32)), .val (.int ((p0.toInt8.toInt32) &&& (255 : Int32))), .unset, .unset] [(.int (127 : Int32)), (.int ((p0.toInt8.toInt32) &&& (255 : Int32)))]))
      by_cases hc7 : ((p0.toInt8.toInt32) &&& (255 : Int32)) = (127 : Int32)
      · refine own_via (fun _ k => XS.icmpNo X2.here hx rfl (hb hby at_54) rfl (teq hc7).2 k) ?_
        show own_Go p e below s _ _ _ (T2.setTop (mkF m 57 #[.val (.int p0), .val (.int p1), .val (.int (1 : Int32)), .val (.ref w1), .val (.int (p0.toInt8.toInt32)), .val (.int ((p0.toInt8.toInt32) &&& (255 : Int32))), .unset, .unset] []))
        refine own_via (fun _ k => XS.iconst X2.here hx rfl (hb hby at_57) k) ?_
        show own_Go p e below s _ _ _ (T2.setTop (mkF m 58 #[.val (.int p0), .val (.int p1), .val (.int (1 : Int32)), .val (.ref w1), .val (.int (p0.toInt8.toInt32)), .val (.int ((p0.toInt8.toInt32) &&& (255 : Int32))), .unset, .unset] [(.int (1 : Int32))]))
        refine own_via (fun _ k => XS.goto X2.here hx rfl (pc0 := 58) (pc' := 62) rfl (hb hby at_58) (by decide) (by decide) k) ?_
        show own_Go p e below s _ _ _ (T2.setTop (mkF m 62 #[.val (.int p0), .val (.int p1), .val (.int (1 : Int32)), .val (.ref w1), .val (.int (p0.toInt8.toInt32)), .val (.int ((p0.toInt8.toInt32) &&& (255 : Int32))), .unset, .unset] [(.int (1 : Int32))]))
        refine own_via (fun _ k => XS.istore X2.here hx rfl (hb hby at_62) rfl (l' := #[.val (.int p0), .val (.int p1), .val (.int (1 : Int32)), .val (.ref w1), .val (.int (p0.toInt8.toInt32)), .val (.int ((p0.toInt8.toInt32) &&& (255 : Int32))), .val (.int (1 : Int32)), .unset]) rfl k) ?_
        show own_Go p e below s _ _ _ (T2.setTop (mkF m 64 #[.val (.int p0), .val (.int p1), .val (.int (1 : Int32)), .val (.ref w1), .val (.int (p0.toInt8.toInt32)), .val (.int ((p0.toInt8.toInt32) &&& (255 : Int32))), .val (.int (1 : Int32)), .unset] []))
        refine own_via (fun _ k => XS.goto X2.here hx rfl (pc0 := 64) (pc' := 89) rfl (hb hby at_64) (by decide) (by decide) k) ?_
        show own_Go p e below s _ _ _ (T2.setTop (mkF m 89 #[.val (.int p0), .val (.int p1), .val (.int (1 : Int32)), .val (.ref w1), .val (.int (p0.toInt8.toInt32)), .val (.int ((p0.toInt8.toInt32) &&& (255 : Int32))), .val (.int (1 : Int32)), .unset] []))
        refine own_via (fun _ k => XS.aloadN X2.here hx rfl (hb hby at_89) rfl rfl k) ?_
        show own_Go p e below s _ _ _ (T2.setTop (mkF m 90 #[.val (.int p0), .val (.int p1), .val (.int (1 : Int32)), .val (.ref w1), .val (.int (p0.toInt8.toInt32)), .val (.int ((p0.toInt8.toInt32) &&& (255 : Int32))), .val (.int (1 : Int32)), .unset] [(.ref w1)]))
        refine own_via (fun _ k => XS.aloadN X2.here hx rfl (hb hby at_90) rfl rfl k) ?_
        show own_Go p e below s _ _ _ (T2.setTop (mkF m 91 #[.val (.int p0), .val (.int p1), .val (.int (1 : Int32)), .val (.ref w1), .val (.int (p0.toInt8.toInt32)), .val (.int ((p0.toInt8.toInt32) &&& (255 : Int32))), .val (.int (1 : Int32)), .unset] [(.ref w1), (.ref w1)]))
        refine own_via (fun _ k => XS.iconst X2.here hx rfl (hb hby at_91) k) ?_
        show own_Go p e below s _ _ _ (T2.setTop (mkF m 92 #[.val (.int p0), .val (.int p1), .val (.int (1 : Int32)), .val (.ref w1), .val (.int (p0.toInt8.toInt32)), .val (.int ((p0.toInt8.toInt32) &&& (255 : Int32))), .val (.int (1 : Int32)), .unset] [(.int (0 : Int32)), (.ref w1), (.ref w1)]))
        obtain ⟨cq8, kq8, q8a, q8b, q8c⟩ := isOf hZ e2 E_w1
        obtain ⟨_, _, ⟨T8, L8, k8, n8⟩, -, X8, ⟨Lc8, hQ8, l8, y8, z8⟩, st8⟩ := X2.virtualBack hx (y := (⟨"com/example/loudmark/loudmark/audio/G711Law", "encode", "(S)B"⟩ : MethodName)) (z := (⟨"com/example/loudmark/loudmark/audio/G711Law", "encode", "(S)B"⟩ : MethodName)) hown (mvT hZ (hw _ (List.mem_of_getElem? (i := 3) rfl))) (mvT hZ (hw _ (List.mem_of_getElem? (i := 4) rfl))) (notFace_of_selects (args := #[]) (mvT hZ (hw _ (List.mem_of_getElem? (i := 6) rfl)))) (mvT hZ (hw _ (List.mem_of_getElem? (i := 6) rfl))) (mvT hZ (hw _ (List.mem_of_getElem? (i := 5) rfl))) (by decide) (backOf (W := 1) (rm1_0 l Z a0 hw [] w0 w1 h0 n0 Z0 K0) hZ (hw _ (List.mem_of_getElem? (i := 7) rfl)) (hw _ (List.mem_of_getElem? (i := 1) rfl)) (by decide) (by decide)) q8a q8c (g := (mkF m 92 #[.val (.int p0), .val (.int p1), .val (.int (1 : Int32)), .val (.ref w1), .val (.int (p0.toInt8.toInt32)), .val (.int ((p0.toInt8.toInt32) &&& (255 : Int32))), .val (.int (1 : Int32)), .unset] [(.int (0 : Int32)), (.ref w1), (.ref w1)])) rfl (by rw [hml]; rfl) (Steps.refl _) (argsL := [(.int (0 : Int32))]) (rest := [(.ref w1)]) (lenOf pd2 rfl) rfl (by show 2 * 0 + _ ≤ _; exact Nat.le_of_eq rfl) (hb hby at_92) (fun _ _ => ⟨rfl, e2, (by decide : 0 + 0 ≤ _), (by decide : 0 + 0 ≤ _)⟩)
        dsimp only [Pt.U, Pt.locs, Pt.cells, Pt.slots] at X8 l8 y8 z8 st8 hQ8
        subst l8 y8 z8
        obtain ⟨rfl, e8, hO8⟩ := hQ8
        obtain rfl := hO8
        refine own_tr st8 ?_
        show own_Go p e below s _ _ _ (T8.setTop (mkF m 95 #[.val (.int p0), .val (.int p1), .val (.int (1 : Int32)), .val (.ref w1), .val (.int (p0.toInt8.toInt32)), .val (.int ((p0.toInt8.toInt32) &&& (255 : Int32))), .val (.int (1 : Int32)), .unset] [(.int (-1 : Int32)), (.ref w1)]))
        obtain ⟨cq9, kq9, q9a, q9b, q9c⟩ := isOf hZ e8 E_w1
        obtain ⟨_, _, ⟨T9, L9, k9, n9⟩, -, X9, ⟨Lc9, hQ9, l9, y9, z9⟩, st9⟩ := X8.virtualBack hx (y := (⟨"com/example/loudmark/loudmark/audio/G711Law", "encodesZero", "(B)Z"⟩ : MethodName)) (z := (⟨"com/example/loudmark/loudmark/audio/G711Law", "encodesZero", "(B)Z"⟩ : MethodName)) hown (mvT hZ (hw _ (List.mem_of_getElem? (i := 27) rfl))) (mvT hZ (hw _ (List.mem_of_getElem? (i := 28) rfl))) (notFace_of_selects (args := #[]) (mvT hZ (hw _ (List.mem_of_getElem? (i := 30) rfl)))) (mvT hZ (hw _ (List.mem_of_getElem? (i := 30) rfl))) (mvT hZ (hw _ (List.mem_of_getElem? (i := 29) rfl))) (by decide) (backOf (W := 0) (rm7_0 l Z a0 hw [] w0 w1 h0 n0 Z0 K0) hZ (hw _ (List.mem_of_getElem? (i := 31) rfl)) (hw _ (List.mem_of_getElem? (i := 1) rfl)) (by decide) (by decide)) q9a q9c (g := (mkF m 95 #[.val (.int p0), .val (.int p1), .val (.int (1 : Int32)), .val (.ref w1), .val (.int (p0.toInt8.toInt32)), .val (.int ((p0.toInt8.toInt32) &&& (255 : Int32))), .val (.int (1 : Int32)), .unset] [(.int (-1 : Int32)), (.ref w1)])) rfl (by rw [hml]; rfl) (Steps.refl _) (argsL := [(.int (-1 : Int32))]) (rest := []) (lenOf pd3 rfl) rfl (by show 2 * 0 + _ ≤ _; exact Nat.le_of_eq rfl) (hb hby at_95) (fun _ _ => ⟨rfl, e8, (by decide : 0 + 0 ≤ _), (by decide : 0 + 0 ≤ _)⟩)
        dsimp only [Pt.U, Pt.locs, Pt.cells, Pt.slots] at X9 l9 y9 z9 st9 hQ9
        subst l9 y9 z9
        obtain ⟨rfl, e9, hO9⟩ := hQ9
        obtain rfl := hO9
        refine own_tr st9 ?_
        show own_Go p e below s _ _ _ (T9.setTop (mkF m 98 #[.val (.int p0), .val (.int p1), .val (.int (1 : Int32)), .val (.ref w1), .val (.int (p0.toInt8.toInt32)), .val (.int ((p0.toInt8.toInt32) &&& (255 : Int32))), .val (.int (1 : Int32)), .unset] [(.int (1 : Int32))]))
        refine own_via (fun _ k => XS.istore X9.here hx rfl (hb hby at_98) rfl (l' := #[.val (.int p0), .val (.int p1), .val (.int (1 : Int32)), .val (.ref w1), .val (.int (p0.toInt8.toInt32)), .val (.int ((p0.toInt8.toInt32) &&& (255 : Int32))), .val (.int (1 : Int32)), .val (.int (1 : Int32))]) rfl k) ?_
        show own_Go p e below s _ _ _ (T9.setTop (mkF m 100 #[.val (.int p0), .val (.int p1), .val (.int (1 : Int32)), .val (.ref w1), .val (.int (p0.toInt8.toInt32)), .val (.int ((p0.toInt8.toInt32) &&& (255 : Int32))), .val (.int (1 : Int32)), .val (.int (1 : Int32))] []))
        refine own_via (fun _ k => XS.aloadN X9.here hx rfl (hb hby at_100) rfl rfl k) ?_
        show own_Go p e below s _ _ _ (T9.setTop (mkF m 101 #[.val (.int p0), .val (.int p1), .val (.int (1 : Int32)), .val (.ref w1), .val (.int (p0.toInt8.toInt32)), .val (.int ((p0.toInt8.toInt32) &&& (255 : Int32))), .val (.int (1 : Int32)), .val (.int (1 : Int32))] [(.ref w1)]))
        refine own_via (fun _ k => XS.iload X9.here hx rfl (hb hby at_101) rfl k) ?_
        show own_Go p e below s _ _ _ (T9.setTop (mkF m 103 #[.val (.int p0), .val (.int p1), .val (.int (1 : Int32)), .val (.ref w1), .val (.int (p0.toInt8.toInt32)), .val (.int ((p0.toInt8.toInt32) &&& (255 : Int32))), .val (.int (1 : Int32)), .val (.int (1 : Int32))] [(.int (p0.toInt8.toInt32)), (.ref w1)]))
        obtain ⟨cq10, kq10, q10a, q10b, q10c⟩ := isOf hZ e9 E_w1
        obtain ⟨_, _, ⟨T10, L10, k10, n10⟩, -, X10, ⟨Lc10, hQ10, l10, y10, z10⟩, st10⟩ := X9.virtualBack hx (y := (⟨"com/example/loudmark/loudmark/audio/G711Law", "encodesZero", "(B)Z"⟩ : MethodName)) (z := (⟨"com/example/loudmark/loudmark/audio/G711Law", "encodesZero", "(B)Z"⟩ : MethodName)) hown (mvT hZ (hw _ (List.mem_of_getElem? (i := 27) rfl))) (mvT hZ (hw _ (List.mem_of_getElem? (i := 28) rfl))) (notFace_of_selects (args := #[]) (mvT hZ (hw _ (List.mem_of_getElem? (i := 30) rfl)))) (mvT hZ (hw _ (List.mem_of_getElem? (i := 30) rfl))) (mvT hZ (hw _ (List.mem_of_getElem? (i := 29) rfl))) (by decide) (backOf (W := 0) (rm7_1 l Z a0 hw [] (p0.toInt8.toInt32) w0 w1 h0 n0 Z0 K0) hZ (hw _ (List.mem_of_getElem? (i := 31) rfl)) (hw _ (List.mem_of_getElem? (i := 1) rfl)) (by decide) (by decide)) q10a q10c (g := (mkF m 103 #[.val (.int p0), .val (.int p1), .val (.int (1 : Int32)), .val (.ref w1), .val (.int (p0.toInt8.toInt32)), .val (.int ((p0.toInt8.toInt32) &&& (255 : Int32))), .val (.int (1 : Int32)), .val (.int (1 : Int32))] [(.int (p0.toInt8.toInt32)), (.ref w1)])) rfl (by rw [hml]; rfl) (Steps.refl _) (argsL := [(.int (p0.toInt8.toInt32))]) (rest := []) (lenOf pd3 rfl) rfl (by show 2 * 0 + _ ≤ _; exact Nat.le_of_eq rfl) (hb hby at_103) (fun _ _ => ⟨rfl, e9, (by decide : 0 + 0 ≤ _), (by decide : 0 + 0 ≤ _)⟩)
        dsimp only [Pt.U, Pt.locs, Pt.cells, Pt.slots] at X10 l10 y10 z10 st10 hQ10
        subst l10 y10 z10
        obtain ⟨rfl, e10, hO10⟩ := hQ10
        rcases hO10 with ⟨hr10_0_0, rfl⟩ | ⟨hr10_1_0, rfl⟩
        · refine own_tr st10 ?_
          show own_Go p e below s _ _ _ (T10.setTop (mkF m 106 #[.val (.int p0), .val (.int p1), .val (.int (1 : Int32)), .val (.ref w1), .val (.int (p0.toInt8.toInt32)), .val (.int ((p0.toInt8.toInt32) &&& (255 : Int32))), .val (.int (1 : Int32)), .val (.int (1 : Int32))] [(.int (1 : Int32))]))
          refine own_via (fun _ k => XS.iload X10.here hx rfl (hb hby at_106) rfl k) ?_
          show own_Go p e below s _ _ _ (T10.setTop (mkF m 108 #[.val (.int p0), .val (.int p1), .val (.int (1 : Int32)), .val (.ref w1), .val (.int (p0.toInt8.toInt32)), .val (.int ((p0.toInt8.toInt32) &&& (255 : Int32))), .val (.int (1 : Int32)), .val (.int (1 : Int32))] [(.int (1 : Int32)), (.int (1 : Int32))]))
          refine own_via (fun _ k => XS.icmpNo X10.here hx rfl (hb hby at_108) rfl (teq (by decide : (1 : Int32) = (1 : Int32))).2 k) ?_
          show own_Go p e below s _ _ _ (T10.setTop (mkF m 111 #[.val (.int p0), .val (.int p1), .val (.int (1 : Int32)), .val (.ref w1), .val (.int (p0.toInt8.toInt32)), .val (.int ((p0.toInt8.toInt32) &&& (255 : Int32))), .val (.int (1 : Int32)), .val (.int (1 : Int32))] []))
          refine own_via (fun _ k => XS.iload X10.here hx rfl (hb hby at_111) rfl k) ?_
          show own_Go p e below s _ _ _ (T10.setTop (mkF m 113 #[.val (.int p0), .val (.int p1), .val (.int (1 : Int32)), .val (.ref w1), .val (.int (p0.toInt8.toInt32)), .val (.int ((p0.toInt8.toInt32) &&& (255 : Int32))), .val (.int (1 : Int32)), .val (.int (1 : Int32))] [(.int (1 : Int32))]))
          refine own_via (fun _ k => XS.ifNo X10.here hx rfl (hb hby at_113) rfl ((if0 _ _).trans (feq (by decide : ¬ ((1 : Int32) = (0 : Int32)))).1) k) ?_
          show own_Go p e below s _ _ _ (T10.setTop (mkF m 116 #[.val (.int p0), .val (.int p1), .val (.int (1 : Int32)), .val (.ref w1), .val (.int (p0.toInt8.toInt32)), .val (.int ((p0.toInt8.toInt32) &&& (255 : Int32))), .val (.int (1 : Int32)), .val (.int (1 : Int32))] []))
          refine own_via (fun _ k => XS.iconst X10.here hx rfl (hb hby at_116) k) ?_
          show own_Go p e below s _ _ _ (T10.setTop (mkF m 117 #[.val (.int p0), .val (.int p1), .val (.int (1 : Int32)), .val (.ref w1), .val (.int (p0.toInt8.toInt32)), .val (.int ((p0.toInt8.toInt32) &&& (255 : Int32))), .val (.int (1 : Int32)), .val (.int (1 : Int32))] [(.int (1 : Int32))]))
          refine own_via (fun _ k => XS.goto X10.here hx rfl (pc0 := 117) (pc' := 121) rfl (hb hby at_117) (by decide) (by decide) k) ?_
          show own_Go p e below s _ _ _ (T10.setTop (mkF m 121 #[.val (.int p0), .val (.int p1), .val (.int (1 : Int32)), .val (.ref w1), .val (.int (p0.toInt8.toInt32)), .val (.int ((p0.toInt8.toInt32) &&& (255 : Int32))), .val (.int (1 : Int32)), .val (.int (1 : Int32))] [(.int (1 : Int32))]))
          exact own_retZ X10 hx hlk (t := .boolean) Bd.returns (by simp) (hb hby at_121) (z' := (1 : Int32)) (by first | rfl | decide) ⟨rfl, (Fr.nil n0)⟩ (by decide) (by decide)
        · refine own_tr st10 ?_
          show own_Go p e below s _ _ _ (T10.setTop (mkF m 106 #[.val (.int p0), .val (.int p1), .val (.int (1 : Int32)), .val (.ref w1), .val (.int (p0.toInt8.toInt32)), .val (.int ((p0.toInt8.toInt32) &&& (255 : Int32))), .val (.int (1 : Int32)), .val (.int (1 : Int32))] [(.int (0 : Int32))]))
          refine own_via (fun _ k => XS.iload X10.here hx rfl (hb hby at_106) rfl k) ?_
          show own_Go p e below s _ _ _ (T10.setTop (mkF m 108 #[.val (.int p0), .val (.int p1), .val (.int (1 : Int32)), .val (.ref w1), .val (.int (p0.toInt8.toInt32)), .val (.int ((p0.toInt8.toInt32) &&& (255 : Int32))), .val (.int (1 : Int32)), .val (.int (1 : Int32))] [(.int (1 : Int32)), (.int (0 : Int32))]))
          refine own_via (fun _ k => XS.icmpYes X10.here hx rfl (pc0 := 108) (pc' := 120) rfl (hb hby at_108) rfl (feq (by decide : ¬ ((0 : Int32) = (1 : Int32)))).2 (by decide) (by decide) k) ?_
          show own_Go p e below s _ _ _ (T10.setTop (mkF m 120 #[.val (.int p0), .val (.int p1), .val (.int (1 : Int32)), .val (.ref w1), .val (.int (p0.toInt8.toInt32)), .val (.int ((p0.toInt8.toInt32) &&& (255 : Int32))), .val (.int (1 : Int32)), .val (.int (1 : Int32))] []))
          refine own_via (fun _ k => XS.iconst X10.here hx rfl (hb hby at_120) k) ?_
          show own_Go p e below s _ _ _ (T10.setTop (mkF m 121 #[.val (.int p0), .val (.int p1), .val (.int (1 : Int32)), .val (.ref w1), .val (.int (p0.toInt8.toInt32)), .val (.int ((p0.toInt8.toInt32) &&& (255 : Int32))), .val (.int (1 : Int32)), .val (.int (1 : Int32))] [(.int (0 : Int32))]))
          exact (own_low (fun b u => (¬ ((b &&& (255 : Int32)) = (255 : Int32))) → ((b &&& (255 : Int32)) = (127 : Int32)) → (¬ (((b &&& (127 : Int32)) ^^^ (127 : Int32)) = (0 : Int32))) → False) (by decide +kernel) p0 hc3 hc7 hr10_1_0).elim
      · refine own_via (fun _ k => XS.icmpYes X2.here hx rfl (pc0 := 54) (pc' := 61) rfl (hb hby at_54) rfl (feq hc7).2 (by decide) (by decide) k) ?_
        show own_Go p e below s _ _ _ (T2.setTop (mkF m 61 #[.val (.int p0), .val (.int p1), .val (.int (1 : Int32)), .val (.ref w1), .val (.int (p0.toInt8.toInt32)), .val (.int ((p0.toInt8.toInt32) &&& (255 : Int32))), .unset, .unset] []))
        refine own_via (fun _ k => XS.iconst X2.here hx rfl (hb hby at_61) k) ?_
        show own_Go p e below s _ _ _ (T2.setTop (mkF m 62 #[.val (.int p0), .val (.int p1), .val (.int (1 : Int32)), .val (.ref w1), .val (.int (p0.toInt8.toInt32)), .val (.int ((p0.toInt8.toInt32) &&& (255 : Int32))), .unset, .unset] [(.int (0 : Int32))]))
        refine own_via (fun _ k => XS.istore X2.here hx rfl (hb hby at_62) rfl (l' := #[.val (.int p0), .val (.int p1), .val (.int (1 : Int32)), .val (.ref w1), .val (.int (p0.toInt8.toInt32)), .val (.int ((p0.toInt8.toInt32) &&& (255 : Int32))), .val (.int (0 : Int32)), .unset]) rfl k) ?_
        show own_Go p e below s _ _ _ (T2.setTop (mkF m 64 #[.val (.int p0), .val (.int p1), .val (.int (1 : Int32)), .val (.ref w1), .val (.int (p0.toInt8.toInt32)), .val (.int ((p0.toInt8.toInt32) &&& (255 : Int32))), .val (.int (0 : Int32)), .unset] []))
        refine own_via (fun _ k => XS.goto X2.here hx rfl (pc0 := 64) (pc' := 89) rfl (hb hby at_64) (by decide) (by decide) k) ?_
        show own_Go p e below s _ _ _ (T2.setTop (mkF m 89 #[.val (.int p0), .val (.int p1), .val (.int (1 : Int32)), .val (.ref w1), .val (.int (p0.toInt8.toInt32)), .val (.int ((p0.toInt8.toInt32) &&& (255 : Int32))), .val (.int (0 : Int32)), .unset] []))
        refine own_via (fun _ k => XS.aloadN X2.here hx rfl (hb hby at_89) rfl rfl k) ?_
        show own_Go p e below s _ _ _ (T2.setTop (mkF m 90 #[.val (.int p0), .val (.int p1), .val (.int (1 : Int32)), .val (.ref w1), .val (.int (p0.toInt8.toInt32)), .val (.int ((p0.toInt8.toInt32) &&& (255 : Int32))), .val (.int (0 : Int32)), .unset] [(.ref w1)]))
        refine own_via (fun _ k => XS.aloadN X2.here hx rfl (hb hby at_90) rfl rfl k) ?_
        show own_Go p e below s _ _ _ (T2.setTop (mkF m 91 #[.val (.int p0), .val (.int p1), .val (.int (1 : Int32)), .val (.ref w1), .val (.int (p0.toInt8.toInt32)), .val (.int ((p0.toInt8.toInt32) &&& (255 : Int32))), .val (.int (0 : Int32)), .unset] [(.ref w1), (.ref w1)]))
        refine own_via (fun _ k => XS.iconst X2.here hx rfl (hb hby at_91) k) ?_
        show own_Go p e below s _ _ _ (T2.setTop (mkF m 92 #[.val (.int p0), .val (.int p1), .val (.int (1 : Int32)), .val (.ref w1), .val (.int (p0.toInt8.toInt32)), .val (.int ((p0.toInt8.toInt32) &&& (255 : Int32))), .val (.int (0 : Int32)), .unset] [(.int (0 : Int32)), (.ref w1), (.ref w1)]))
        obtain ⟨cq11, kq11, q11a, q11b, q11c⟩ := isOf hZ e2 E_w1
        obtain ⟨_, _, ⟨T11, L11, k11, n11⟩, -, X11, ⟨Lc11, hQ11, l11, y11, z11⟩, st11⟩ := X2.virtualBack hx (y := (⟨"com/example/loudmark/loudmark/audio/G711Law", "encode", "(S)B"⟩ : MethodName)) (z := (⟨"com/example/loudmark/loudmark/audio/G711Law", "encode", "(S)B"⟩ : MethodName)) hown (mvT hZ (hw _ (List.mem_of_getElem? (i := 3) rfl))) (mvT hZ (hw _ (List.mem_of_getElem? (i := 4) rfl))) (notFace_of_selects (args := #[]) (mvT hZ (hw _ (List.mem_of_getElem? (i := 6) rfl)))) (mvT hZ (hw _ (List.mem_of_getElem? (i := 6) rfl))) (mvT hZ (hw _ (List.mem_of_getElem? (i := 5) rfl))) (by decide) (backOf (W := 1) (rm1_0 l Z a0 hw [] w0 w1 h0 n0 Z0 K0) hZ (hw _ (List.mem_of_getElem? (i := 7) rfl)) (hw _ (List.mem_of_getElem? (i := 1) rfl)) (by decide) (by decide)) q11a q11c (g := (mkF m 92 #[.val (.int p0), .val (.int p1), .val (.int (1 : Int32)), .val (.ref w1), .val (.int (p0.toInt8.toInt32)), .val (.int ((p0.toInt8.toInt32) &&& (255 : Int32))), .val (.int (0 : Int32)), .unset] [(.int (0 : Int32)), (.ref w1), (.ref w1)])) rfl (by rw [hml]; rfl) (Steps.refl _) (argsL := [(.int (0 : Int32))]) (rest := [(.ref w1)]) (lenOf pd2 rfl) rfl (by show 2 * 0 + _ ≤ _; exact Nat.le_of_eq rfl) (hb hby at_92) (fun _ _ => ⟨rfl, e2, (by decide : 0 + 0 ≤ _), (by decide : 0 + 0 ≤ _)⟩)
        dsimp only [Pt.U, Pt.locs, Pt.cells, Pt.slots] at X11 l11 y11 z11 st11 hQ11
        subst l11 y11 z11
        obtain ⟨rfl, e11, hO11⟩ := hQ11
        obtain rfl := hO11
        refine own_tr st11 ?_
        show own_Go p e below s _ _ _ (T11.setTop (mkF m 95 #[.val (.int p0), .val (.int p1), .val (.int (1 : Int32)), .val (.ref w1), .val (.int (p0.toInt8.toInt32)), .val (.int ((p0.toInt8.toInt32) &&& (255 : Int32))), .val (.int (0 : Int32)), .unset] [(.int (-1 : Int32)), (.ref w1)]))
        obtain ⟨cq12, kq12, q12a, q12b, q12c⟩ := isOf hZ e11 E_w1
        obtain ⟨_, _, ⟨T12, L12, k12, n12⟩, -, X12, ⟨Lc12, hQ12, l12, y12, z12⟩, st12⟩ := X11.virtualBack hx (y := (⟨"com/example/loudmark/loudmark/audio/G711Law", "encodesZero", "(B)Z"⟩ : MethodName)) (z := (⟨"com/example/loudmark/loudmark/audio/G711Law", "encodesZero", "(B)Z"⟩ : MethodName)) hown (mvT hZ (hw _ (List.mem_of_getElem? (i := 27) rfl))) (mvT hZ (hw _ (List.mem_of_getElem? (i := 28) rfl))) (notFace_of_selects (args := #[]) (mvT hZ (hw _ (List.mem_of_getElem? (i := 30) rfl)))) (mvT hZ (hw _ (List.mem_of_getElem? (i := 30) rfl))) (mvT hZ (hw _ (List.mem_of_getElem? (i := 29) rfl))) (by decide) (backOf (W := 0) (rm7_0 l Z a0 hw [] w0 w1 h0 n0 Z0 K0) hZ (hw _ (List.mem_of_getElem? (i := 31) rfl)) (hw _ (List.mem_of_getElem? (i := 1) rfl)) (by decide) (by decide)) q12a q12c (g := (mkF m 95 #[.val (.int p0), .val (.int p1), .val (.int (1 : Int32)), .val (.ref w1), .val (.int (p0.toInt8.toInt32)), .val (.int ((p0.toInt8.toInt32) &&& (255 : Int32))), .val (.int (0 : Int32)), .unset] [(.int (-1 : Int32)), (.ref w1)])) rfl (by rw [hml]; rfl) (Steps.refl _) (argsL := [(.int (-1 : Int32))]) (rest := []) (lenOf pd3 rfl) rfl (by show 2 * 0 + _ ≤ _; exact Nat.le_of_eq rfl) (hb hby at_95) (fun _ _ => ⟨rfl, e11, (by decide : 0 + 0 ≤ _), (by decide : 0 + 0 ≤ _)⟩)
        dsimp only [Pt.U, Pt.locs, Pt.cells, Pt.slots] at X12 l12 y12 z12 st12 hQ12
        subst l12 y12 z12
        obtain ⟨rfl, e12, hO12⟩ := hQ12
        obtain rfl := hO12
        refine own_tr st12 ?_
        show own_Go p e below s _ _ _ (T12.setTop (mkF m 98 #[.val (.int p0), .val (.int p1), .val (.int (1 : Int32)), .val (.ref w1), .val (.int (p0.toInt8.toInt32)), .val (.int ((p0.toInt8.toInt32) &&& (255 : Int32))), .val (.int (0 : Int32)), .unset] [(.int (1 : Int32))]))
        refine own_via (fun _ k => XS.istore X12.here hx rfl (hb hby at_98) rfl (l' := #[.val (.int p0), .val (.int p1), .val (.int (1 : Int32)), .val (.ref w1), .val (.int (p0.toInt8.toInt32)), .val (.int ((p0.toInt8.toInt32) &&& (255 : Int32))), .val (.int (0 : Int32)), .val (.int (1 : Int32))]) rfl k) ?_
        show own_Go p e below s _ _ _ (T12.setTop (mkF m 100 #[.val (.int p0), .val (.int p1), .val (.int (1 : Int32)), .val (.ref w1), .val (.int (p0.toInt8.toInt32)), .val (.int ((p0.toInt8.toInt32) &&& (255 : Int32))), .val (.int (0 : Int32)), .val (.int (1 : Int32))] []))
        refine own_via (fun _ k => XS.aloadN X12.here hx rfl (hb hby at_100) rfl rfl k) ?_
        show own_Go p e below s _ _ _ (T12.setTop (mkF m 101 #[.val (.int p0), .val (.int p1), .val (.int (1 : Int32)), .val (.ref w1), .val (.int (p0.toInt8.toInt32)), .val (.int ((p0.toInt8.toInt32) &&& (255 : Int32))), .val (.int (0 : Int32)), .val (.int (1 : Int32))] [(.ref w1)]))
        refine own_via (fun _ k => XS.iload X12.here hx rfl (hb hby at_101) rfl k) ?_
        show own_Go p e below s _ _ _ (T12.setTop (mkF m 103 #[.val (.int p0), .val (.int p1), .val (.int (1 : Int32)), .val (.ref w1), .val (.int (p0.toInt8.toInt32)), .val (.int ((p0.toInt8.toInt32) &&& (255 : Int32))), .val (.int (0 : Int32)), .val (.int (1 : Int32))] [(.int (p0.toInt8.toInt32)), (.ref w1)]))
        obtain ⟨cq13, kq13, q13a, q13b, q13c⟩ := isOf hZ e12 E_w1
        obtain ⟨_, _, ⟨T13, L13, k13, n13⟩, -, X13, ⟨Lc13, hQ13, l13, y13, z13⟩, st13⟩ := X12.virtualBack hx (y := (⟨"com/example/loudmark/loudmark/audio/G711Law", "encodesZero", "(B)Z"⟩ : MethodName)) (z := (⟨"com/example/loudmark/loudmark/audio/G711Law", "encodesZero", "(B)Z"⟩ : MethodName)) hown (mvT hZ (hw _ (List.mem_of_getElem? (i := 27) rfl))) (mvT hZ (hw _ (List.mem_of_getElem? (i := 28) rfl))) (notFace_of_selects (args := #[]) (mvT hZ (hw _ (List.mem_of_getElem? (i := 30) rfl)))) (mvT hZ (hw _ (List.mem_of_getElem? (i := 30) rfl))) (mvT hZ (hw _ (List.mem_of_getElem? (i := 29) rfl))) (by decide) (backOf (W := 0) (rm7_1 l Z a0 hw [] (p0.toInt8.toInt32) w0 w1 h0 n0 Z0 K0) hZ (hw _ (List.mem_of_getElem? (i := 31) rfl)) (hw _ (List.mem_of_getElem? (i := 1) rfl)) (by decide) (by decide)) q13a q13c (g := (mkF m 103 #[.val (.int p0), .val (.int p1), .val (.int (1 : Int32)), .val (.ref w1), .val (.int (p0.toInt8.toInt32)), .val (.int ((p0.toInt8.toInt32) &&& (255 : Int32))), .val (.int (0 : Int32)), .val (.int (1 : Int32))] [(.int (p0.toInt8.toInt32)), (.ref w1)])) rfl (by rw [hml]; rfl) (Steps.refl _) (argsL := [(.int (p0.toInt8.toInt32))]) (rest := []) (lenOf pd3 rfl) rfl (by show 2 * 0 + _ ≤ _; exact Nat.le_of_eq rfl) (hb hby at_103) (fun _ _ => ⟨rfl, e12, (by decide : 0 + 0 ≤ _), (by decide : 0 + 0 ≤ _)⟩)
        dsimp only [Pt.U, Pt.locs, Pt.cells, Pt.slots] at X13 l13 y13 z13 st13 hQ13
        subst l13 y13 z13
        obtain ⟨rfl, e13, hO13⟩ := hQ13
        rcases hO13 with ⟨hr13_0_0, rfl⟩ | ⟨hr13_1_0, rfl⟩
        · refine own_tr st13 ?_
          show own_Go p e below s _ _ _ (T13.setTop (mkF m 106 #[.val (.int p0), .val (.int p1), .val (.int (1 : Int32)), .val (.ref w1), .val (.int (p0.toInt8.toInt32)), .val (.int ((p0.toInt8.toInt32) &&& (255 : Int32))), .val (.int (0 : Int32)), .val (.int (1 : Int32))] [(.int (1 : Int32))]))
          refine own_via (fun _ k => XS.iload X13.here hx rfl (hb hby at_106) rfl k) ?_
          show own_Go p e below s _ _ _ (T13.setTop (mkF m 108 #[.val (.int p0), .val (.int p1), .val (.int (1 : Int32)), .val (.ref w1), .val (.int (p0.toInt8.toInt32)), .val (.int ((p0.toInt8.toInt32) &&& (255 : Int32))), .val (.int (0 : Int32)), .val (.int (1 : Int32))] [(.int (0 : Int32)), (.int (1 : Int32))]))
          refine own_via (fun _ k => XS.icmpYes X13.here hx rfl (pc0 := 108) (pc' := 120) rfl (hb hby at_108) rfl (feq (by decide : ¬ ((1 : Int32) = (0 : Int32)))).2 (by decide) (by decide) k) ?_
          show own_Go p e below s _ _ _ (T13.setTop (mkF m 120 #[.val (.int p0), .val (.int p1), .val (.int (1 : Int32)), .val (.ref w1), .val (.int (p0.toInt8.toInt32)), .val (.int ((p0.toInt8.toInt32) &&& (255 : Int32))), .val (.int (0 : Int32)), .val (.int (1 : Int32))] []))
          refine own_via (fun _ k => XS.iconst X13.here hx rfl (hb hby at_120) k) ?_
          show own_Go p e below s _ _ _ (T13.setTop (mkF m 121 #[.val (.int p0), .val (.int p1), .val (.int (1 : Int32)), .val (.ref w1), .val (.int (p0.toInt8.toInt32)), .val (.int ((p0.toInt8.toInt32) &&& (255 : Int32))), .val (.int (0 : Int32)), .val (.int (1 : Int32))] [(.int (0 : Int32))]))
          exact (own_low (fun b u => (¬ ((b &&& (255 : Int32)) = (255 : Int32))) → (¬ ((b &&& (255 : Int32)) = (127 : Int32))) → (((b &&& (127 : Int32)) ^^^ (127 : Int32)) = (0 : Int32)) → False) (by decide +kernel) p0 hc3 hc7 hr13_0_0).elim
        · refine own_tr st13 ?_
          show own_Go p e below s _ _ _ (T13.setTop (mkF m 106 #[.val (.int p0), .val (.int p1), .val (.int (1 : Int32)), .val (.ref w1), .val (.int (p0.toInt8.toInt32)), .val (.int ((p0.toInt8.toInt32) &&& (255 : Int32))), .val (.int (0 : Int32)), .val (.int (1 : Int32))] [(.int (0 : Int32))]))
          refine own_via (fun _ k => XS.iload X13.here hx rfl (hb hby at_106) rfl k) ?_
          show own_Go p e below s _ _ _ (T13.setTop (mkF m 108 #[.val (.int p0), .val (.int p1), .val (.int (1 : Int32)), .val (.ref w1), .val (.int (p0.toInt8.toInt32)), .val (.int ((p0.toInt8.toInt32) &&& (255 : Int32))), .val (.int (0 : Int32)), .val (.int (1 : Int32))] [(.int (0 : Int32)), (.int (0 : Int32))]))
          refine own_via (fun _ k => XS.icmpNo X13.here hx rfl (hb hby at_108) rfl (teq (by decide : (0 : Int32) = (0 : Int32))).2 k) ?_
          show own_Go p e below s _ _ _ (T13.setTop (mkF m 111 #[.val (.int p0), .val (.int p1), .val (.int (1 : Int32)), .val (.ref w1), .val (.int (p0.toInt8.toInt32)), .val (.int ((p0.toInt8.toInt32) &&& (255 : Int32))), .val (.int (0 : Int32)), .val (.int (1 : Int32))] []))
          refine own_via (fun _ k => XS.iload X13.here hx rfl (hb hby at_111) rfl k) ?_
          show own_Go p e below s _ _ _ (T13.setTop (mkF m 113 #[.val (.int p0), .val (.int p1), .val (.int (1 : Int32)), .val (.ref w1), .val (.int (p0.toInt8.toInt32)), .val (.int ((p0.toInt8.toInt32) &&& (255 : Int32))), .val (.int (0 : Int32)), .val (.int (1 : Int32))] [(.int (1 : Int32))]))
          refine own_via (fun _ k => XS.ifNo X13.here hx rfl (hb hby at_113) rfl ((if0 _ _).trans (feq (by decide : ¬ ((1 : Int32) = (0 : Int32)))).1) k) ?_
          show own_Go p e below s _ _ _ (T13.setTop (mkF m 116 #[.val (.int p0), .val (.int p1), .val (.int (1 : Int32)), .val (.ref w1), .val (.int (p0.toInt8.toInt32)), .val (.int ((p0.toInt8.toInt32) &&& (255 : Int32))), .val (.int (0 : Int32)), .val (.int (1 : Int32))] []))
          refine own_via (fun _ k => XS.iconst X13.here hx rfl (hb hby at_116) k) ?_
          show own_Go p e below s _ _ _ (T13.setTop (mkF m 117 #[.val (.int p0), .val (.int p1), .val (.int (1 : Int32)), .val (.ref w1), .val (.int (p0.toInt8.toInt32)), .val (.int ((p0.toInt8.toInt32) &&& (255 : Int32))), .val (.int (0 : Int32)), .val (.int (1 : Int32))] [(.int (1 : Int32))]))
          refine own_via (fun _ k => XS.goto X13.here hx rfl (pc0 := 117) (pc' := 121) rfl (hb hby at_117) (by decide) (by decide) k) ?_
          show own_Go p e below s _ _ _ (T13.setTop (mkF m 121 #[.val (.int p0), .val (.int p1), .val (.int (1 : Int32)), .val (.ref w1), .val (.int (p0.toInt8.toInt32)), .val (.int ((p0.toInt8.toInt32) &&& (255 : Int32))), .val (.int (0 : Int32)), .val (.int (1 : Int32))] [(.int (1 : Int32))]))
          exact own_retZ X13 hx hlk (t := .boolean) Bd.returns (by simp) (hb hby at_121) (z' := (1 : Int32)) (by first | rfl | decide) ⟨rfl, (Fr.nil n0)⟩ (by decide) (by decide)
  · refine own_via (fun _ k => XS.ifYes X0.here hx rfl (pc0 := 3) (pc' := 10) rfl (hb hby at_3) rfl ((if0 _ _).trans (feq hc1).2) (by decide) (by decide) k) ?_
    show own_Go p e below s _ _ _ (s₁.setTop (mkF m 10 #[.val (.int p0), .val (.int p1), .unset, .unset, .unset, .unset, .unset, .unset] []))
    refine own_via (fun _ k => XS.iconst X0.here hx rfl (hb hby at_10) k) ?_
    show own_Go p e below s _ _ _ (s₁.setTop (mkF m 11 #[.val (.int p0), .val (.int p1), .unset, .unset, .unset, .unset, .unset, .unset] [(.int (0 : Int32))]))
    refine own_via (fun _ k => XS.istoreN X0.here hx rfl (hb hby at_11) rfl (l' := #[.val (.int p0), .val (.int p1), .val (.int (0 : Int32)), .unset, .unset, .unset, .unset, .unset]) rfl k) ?_
    show own_Go p e below s _ _ _ (s₁.setTop (mkF m 12 #[.val (.int p0), .val (.int p1), .val (.int (0 : Int32)), .unset, .unset, .unset, .unset, .unset] []))
    refine own_via (fun _ k => XS.iloadN X0.here hx rfl (hb hby at_12) rfl k) ?_
    show own_Go p e below s _ _ _ (s₁.setTop (mkF m 13 #[.val (.int p0), .val (.int p1), .val (.int (0 : Int32)), .unset, .unset, .unset, .unset, .unset] [(.int (0 : Int32))]))
    refine own_via (fun _ k => XS.ifYes X0.here hx rfl (pc0 := 13) (pc' := 22) rfl (hb hby at_13) rfl ((if0 _ _).trans (teq (by decide : (0 : Int32) = (0 : Int32))).1) (by decide) (by decide) k) ?_
    show own_Go p e below s _ _ _ (s₁.setTop (mkF m 22 #[.val (.int p0), .val (.int p1), .val (.int (0 : Int32)), .unset, .unset, .unset, .unset, .unset] []))
    obtain ⟨T14, X14, e14, st14⟩ := getS2 X0 hx hZ hown (host := "") (Or.inl (hw _ (List.mem_of_getElem? (i := 0) rfl))) Via.refl e0 S_w0 (g := (mkF m 22 #[.val (.int p0), .val (.int p1), .val (.int (0 : Int32)), .unset, .unset, .unset, .unset, .unset] [])) rfl (hb hby at_22)
    refine own_via st14 ?_
    show own_Go p e below s _ _ _ (T14.setTop (mkF m 25 #[.val (.int p0), .val (.int p1), .val (.int (0 : Int32)), .unset, .unset, .unset, .unset, .unset] [(.ref w0)]))
    refine own_via (fun _ k => XS.astoreN X14.here hx rfl (hb hby at_25) rfl rfl (l' := #[.val (.int p0), .val (.int p1), .val (.int (0 : Int32)), .val (.ref w0), .unset, .unset, .unset, .unset]) rfl k) ?_
    show own_Go p e below s _ _ _ (T14.setTop (mkF m 26 #[.val (.int p0), .val (.int p1), .val (.int (0 : Int32)), .val (.ref w0), .unset, .unset, .unset, .unset] []))
    refine own_via (fun _ k => XS.iloadN X14.here hx rfl (hb hby at_26) rfl k) ?_
    show own_Go p e below s _ _ _ (T14.setTop (mkF m 27 #[.val (.int p0), .val (.int p1), .val (.int (0 : Int32)), .val (.ref w0), .unset, .unset, .unset, .unset] [(.int p0)]))
    refine own_via (fun _ k => XS.i2b X14.here hx rfl (hb hby at_27) rfl k) ?_
    show own_Go p e below s _ _ _ (T14.setTop (mkF m 28 #[.val (.int p0), .val (.int p1), .val (.int (0 : Int32)), .val (.ref w0), .unset, .unset, .unset, .unset] [(.int (p0.toInt8.toInt32))]))
    refine own_via (fun _ k => XS.istore X14.here hx rfl (hb hby at_28) rfl (l' := #[.val (.int p0), .val (.int p1), .val (.int (0 : Int32)), .val (.ref w0), .val (.int (p0.toInt8.toInt32)), .unset, .unset, .unset]) rfl k) ?_
    show own_Go p e below s _ _ _ (T14.setTop (mkF m 30 #[.val (.int p0), .val (.int p1), .val (.int (0 : Int32)), .val (.ref w0), .val (.int (p0.toInt8.toInt32)), .unset, .unset, .unset] []))
    refine own_via (fun _ k => XS.iload X14.here hx rfl (hb hby at_30) rfl k) ?_
    show own_Go p e below s _ _ _ (T14.setTop (mkF m 32 #[.val (.int p0), .val (.int p1), .val (.int (0 : Int32)), .val (.ref w0), .val (.int (p0.toInt8.toInt32)), .unset, .unset, .unset] [(.int (p0.toInt8.toInt32))]))
    refine own_via (fun _ k => XS.sipush X14.here hx rfl (hb hby at_32) k) ?_
    show own_Go p e below s _ _ _ (T14.setTop (mkF m 35 #[.val (.int p0), .val (.int p1), .val (.int (0 : Int32)), .val (.ref w0), .val (.int (p0.toInt8.toInt32)), .unset, .unset, .unset] [(.int (255 : Int32)), (.int (p0.toInt8.toInt32))]))
    refine own_via (fun _ k => XS.iand X14.here hx rfl (hb hby at_35) rfl k) ?_
    show own_Go p e below s _ _ _ (T14.setTop (mkF m 36 #[.val (.int p0), .val (.int p1), .val (.int (0 : Int32)), .val (.ref w0), .val (.int (p0.toInt8.toInt32)), .unset, .unset, .unset] [(.int ((p0.toInt8.toInt32) &&& (255 : Int32)))]))
    refine own_via (fun _ k => XS.istore X14.here hx rfl (hb hby at_36) rfl (l' := #[.val (.int p0), .val (.int p1), .val (.int (0 : Int32)), .val (.ref w0), .val (.int (p0.toInt8.toInt32)), .val (.int ((p0.toInt8.toInt32) &&& (255 : Int32))), .unset, .unset]) rfl k) ?_
    show own_Go p e below s _ _ _ (T14.setTop (mkF m 38 #[.val (.int p0), .val (.int p1), .val (.int (0 : Int32)), .val (.ref w0), .val (.int (p0.toInt8.toInt32)), .val (.int ((p0.toInt8.toInt32) &&& (255 : Int32))), .unset, .unset] []))
    refine own_via (fun _ k => XS.iloadN X14.here hx rfl (hb hby at_38) rfl k) ?_
    show own_Go p e below s _ _ _ (T14.setTop (mkF m 39 #[.val (.int p0), .val (.int p1), .val (.int (0 : Int32)), .val (.ref w0), .val (.int (p0.toInt8.toInt32)), .val (.int ((p0.toInt8.toInt32) &&& (255 : Int32))), .unset, .unset] [(.int (0 : Int32))]))
    refine own_via (fun _ k => XS.ifYes X14.here hx rfl (pc0 := 39) (pc' := 67) rfl (hb hby at_39) rfl ((if0 _ _).trans (teq (by decide : (0 : Int32) = (0 : Int32))).1) (by decide) (by decide) k) ?_
    show own_Go p e below s _ _ _ (T14.setTop (mkF m 67 #[.val (.int p0), .val (.int p1), .val (.int (0 : Int32)), .val (.ref w0), .val (.int (p0.toInt8.toInt32)), .val (.int ((p0.toInt8.toInt32) &&& (255 : Int32))), .unset, .unset] []))
    refine own_via (fun _ k => XS.iload X14.here hx rfl (hb hby at_67) rfl k) ?_
    show own_Go p e below s _ _ _ (T14.setTop (mkF m 69 #[.val (.int p0), .val (.int p1), .val (.int (0 : Int32)), .val (.ref w0), .val (.int (p0.toInt8.toInt32)), .val (.int ((p0.toInt8.toInt32) &&& (255 : Int32))), .unset, .unset] [(.int ((p0.toInt8.toInt32) &&& (255 : Int32)))]))
    refine own_via (fun _ k => XS.sipush X14.here hx rfl (hb hby at_69) k) ?_
    show own_Go p e below s _ _ _ (T14.setTop (mkF m 72 #[.val (.int p0), .val (.int p1), .val (.int (0 : Int32)), .val (.ref w0), .val (.int (p0.toInt8.toInt32)), .val (.int ((p0.toInt8.toInt32) &&& (255 : Int32))), .unset, .unset] [(.int (213 : Int32)), (.int ((p0.toInt8.toInt32) &&& (255 : Int32)))]))
    by_cases hc15 : ((p0.toInt8.toInt32) &&& (255 : Int32)) = (213 : Int32)
    · refine own_via (fun _ k => XS.icmpYes X14.here hx rfl (pc0 := 72) (pc' := 82) rfl (hb hby at_72) rfl (teq hc15).1 (by decide) (by decide) k) ?_
      show own_Go p e below s _ _ _ (T14.setTop (mkF m 82 #[.val (.int p0), .val (.int p1), .val (.int (0 : Int32)), .val (.ref w0), .val (.int (p0.toInt8.toInt32)), .val (.int ((p0.toInt8.toInt32) &&& (255 : Int32))), .unset, .unset] []))
      refine own_via (fun _ k => XS.iconst X14.here hx rfl (hb hby at_82) k) ?_
      show own_Go p e below s _ _ _ (T14.setTop (mkF m 83 #[.val (.int p0), .val (.int p1), .val (.int (0 : Int32)), .val (.ref w0), .val (.int (p0.toInt8.toInt32)), .val (.int ((p0.toInt8.toInt32) &&& (255 : Int32))), .unset, .unset] [(.int (1 : Int32))]))
      refine own_via (fun _ k => XS.goto X14.here hx rfl (pc0 := 83) (pc' := 87) rfl (hb hby at_83) (by decide) (by decide) k) ?_
      show own_Go p e below s _ _ _ (T14.setTop (mkF m 87 #[.val (.int p0), .val (.int p1), .val (.int (0 : Int32)), .val (.ref w0), .val (.int (p0.toInt8.toInt32)), .val (.int ((p0.toInt8.toInt32) &&& (255 : Int32))), .unset, .unset] [(.int (1 : Int32))]))
      refine own_via (fun _ k => XS.istore X14.here hx rfl (hb hby at_87) rfl (l' := #[.val (.int p0), .val (.int p1), .val (.int (0 : Int32)), .val (.ref w0), .val (.int (p0.toInt8.toInt32)), .val (.int ((p0.toInt8.toInt32) &&& (255 : Int32))), .val (.int (1 : Int32)), .unset]) rfl k) ?_
      show own_Go p e below s _ _ _ (T14.setTop (mkF m 89 #[.val (.int p0), .val (.int p1), .val (.int (0 : Int32)), .val (.ref w0), .val (.int (p0.toInt8.toInt32)), .val (.int ((p0.toInt8.toInt32) &&& (255 : Int32))), .val (.int (1 : Int32)), .unset] []))
      refine own_via (fun _ k => XS.aloadN X14.here hx rfl (hb hby at_89) rfl rfl k) ?_
      show own_Go p e below s _ _ _ (T14.setTop (mkF m 90 #[.val (.int p0), .val (.int p1), .val (.int (0 : Int32)), .val (.ref w0), .val (.int (p0.toInt8.toInt32)), .val (.int ((p0.toInt8.toInt32) &&& (255 : Int32))), .val (.int (1 : Int32)), .unset] [(.ref w0)]))
      refine own_via (fun _ k => XS.aloadN X14.here hx rfl (hb hby at_90) rfl rfl k) ?_
      show own_Go p e below s _ _ _ (T14.setTop (mkF m 91 #[.val (.int p0), .val (.int p1), .val (.int (0 : Int32)), .val (.ref w0), .val (.int (p0.toInt8.toInt32)), .val (.int ((p0.toInt8.toInt32) &&& (255 : Int32))), .val (.int (1 : Int32)), .unset] [(.ref w0), (.ref w0)]))
      refine own_via (fun _ k => XS.iconst X14.here hx rfl (hb hby at_91) k) ?_
      show own_Go p e below s _ _ _ (T14.setTop (mkF m 92 #[.val (.int p0), .val (.int p1), .val (.int (0 : Int32)), .val (.ref w0), .val (.int (p0.toInt8.toInt32)), .val (.int ((p0.toInt8.toInt32) &&& (255 : Int32))), .val (.int (1 : Int32)), .unset] [(.int (0 : Int32)), (.ref w0), (.ref w0)]))
      obtain ⟨cq16, kq16, q16a, q16b, q16c⟩ := isOf hZ e14 E_w0
      obtain ⟨_, _, ⟨T16, L16, k16, n16⟩, -, X16, ⟨Lc16, hQ16, l16, y16, z16⟩, st16⟩ := X14.virtualBack hx (y := (⟨"com/example/loudmark/loudmark/audio/G711Law", "encode", "(S)B"⟩ : MethodName)) (z := (⟨"com/example/loudmark/loudmark/audio/G711Law", "encode", "(S)B"⟩ : MethodName)) hown (mvT hZ (hw _ (List.mem_of_getElem? (i := 3) rfl))) (mvT hZ (hw _ (List.mem_of_getElem? (i := 4) rfl))) (notFace_of_selects (args := #[]) (mvT hZ (hw _ (List.mem_of_getElem? (i := 6) rfl)))) (mvT hZ (hw _ (List.mem_of_getElem? (i := 6) rfl))) (mvT hZ (hw _ (List.mem_of_getElem? (i := 5) rfl))) (by decide) (backOf (W := 1) (rm1_1 l Z a0 hw [] w0 w1 h0 n0 Z0 K0) hZ (hw _ (List.mem_of_getElem? (i := 7) rfl)) (hw _ (List.mem_of_getElem? (i := 1) rfl)) (by decide) (by decide)) q16a q16c (g := (mkF m 92 #[.val (.int p0), .val (.int p1), .val (.int (0 : Int32)), .val (.ref w0), .val (.int (p0.toInt8.toInt32)), .val (.int ((p0.toInt8.toInt32) &&& (255 : Int32))), .val (.int (1 : Int32)), .unset] [(.int (0 : Int32)), (.ref w0), (.ref w0)])) rfl (by rw [hml]; rfl) (Steps.refl _) (argsL := [(.int (0 : Int32))]) (rest := [(.ref w0)]) (lenOf pd2 rfl) rfl (by show 2 * 0 + _ ≤ _; exact Nat.le_of_eq rfl) (hb hby at_92) (fun _ _ => ⟨rfl, e14, (by decide : 0 + 0 ≤ _), (by decide : 0 + 0 ≤ _)⟩)
      dsimp only [Pt.U, Pt.locs, Pt.cells, Pt.slots] at X16 l16 y16 z16 st16 hQ16
      subst l16 y16 z16
      obtain ⟨rfl, e16, hO16⟩ := hQ16
      obtain rfl := hO16
      refine own_tr st16 ?_
      show own_Go p e below s _ _ _ (T16.setTop (mkF m 95 #[.val (.int p0), .val (.int p1), .val (.int (0 : Int32)), .val (.ref w0), .val (.int (p0.toInt8.toInt32)), .val (.int ((p0.toInt8.toInt32) &&& (255 : Int32))), .val (.int (1 : Int32)), .unset] [(.int (-43 : Int32)), (.ref w0)]))
      obtain ⟨cq17, kq17, q17a, q17b, q17c⟩ := isOf hZ e16 E_w0
      obtain ⟨_, _, ⟨T17, L17, k17, n17⟩, -, X17, ⟨Lc17, hQ17, l17, y17, z17⟩, st17⟩ := X16.virtualBack hx (y := (⟨"com/example/loudmark/loudmark/audio/G711Law", "encodesZero", "(B)Z"⟩ : MethodName)) (z := (⟨"com/example/loudmark/loudmark/audio/G711Law", "encodesZero", "(B)Z"⟩ : MethodName)) hown (mvT hZ (hw _ (List.mem_of_getElem? (i := 27) rfl))) (mvT hZ (hw _ (List.mem_of_getElem? (i := 28) rfl))) (notFace_of_selects (args := #[]) (mvT hZ (hw _ (List.mem_of_getElem? (i := 30) rfl)))) (mvT hZ (hw _ (List.mem_of_getElem? (i := 30) rfl))) (mvT hZ (hw _ (List.mem_of_getElem? (i := 29) rfl))) (by decide) (backOf (W := 0) (rm7_2 l Z a0 hw [] w0 w1 h0 n0 Z0 K0) hZ (hw _ (List.mem_of_getElem? (i := 31) rfl)) (hw _ (List.mem_of_getElem? (i := 1) rfl)) (by decide) (by decide)) q17a q17c (g := (mkF m 95 #[.val (.int p0), .val (.int p1), .val (.int (0 : Int32)), .val (.ref w0), .val (.int (p0.toInt8.toInt32)), .val (.int ((p0.toInt8.toInt32) &&& (255 : Int32))), .val (.int (1 : Int32)), .unset] [(.int (-43 : Int32)), (.ref w0)])) rfl (by rw [hml]; rfl) (Steps.refl _) (argsL := [(.int (-43 : Int32))]) (rest := []) (lenOf pd3 rfl) rfl (by show 2 * 0 + _ ≤ _; exact Nat.le_of_eq rfl) (hb hby at_95) (fun _ _ => ⟨rfl, e16, (by decide : 0 + 0 ≤ _), (by decide : 0 + 0 ≤ _)⟩)
      dsimp only [Pt.U, Pt.locs, Pt.cells, Pt.slots] at X17 l17 y17 z17 st17 hQ17
      subst l17 y17 z17
      obtain ⟨rfl, e17, hO17⟩ := hQ17
      obtain rfl := hO17
      refine own_tr st17 ?_
      show own_Go p e below s _ _ _ (T17.setTop (mkF m 98 #[.val (.int p0), .val (.int p1), .val (.int (0 : Int32)), .val (.ref w0), .val (.int (p0.toInt8.toInt32)), .val (.int ((p0.toInt8.toInt32) &&& (255 : Int32))), .val (.int (1 : Int32)), .unset] [(.int (1 : Int32))]))
      refine own_via (fun _ k => XS.istore X17.here hx rfl (hb hby at_98) rfl (l' := #[.val (.int p0), .val (.int p1), .val (.int (0 : Int32)), .val (.ref w0), .val (.int (p0.toInt8.toInt32)), .val (.int ((p0.toInt8.toInt32) &&& (255 : Int32))), .val (.int (1 : Int32)), .val (.int (1 : Int32))]) rfl k) ?_
      show own_Go p e below s _ _ _ (T17.setTop (mkF m 100 #[.val (.int p0), .val (.int p1), .val (.int (0 : Int32)), .val (.ref w0), .val (.int (p0.toInt8.toInt32)), .val (.int ((p0.toInt8.toInt32) &&& (255 : Int32))), .val (.int (1 : Int32)), .val (.int (1 : Int32))] []))
      refine own_via (fun _ k => XS.aloadN X17.here hx rfl (hb hby at_100) rfl rfl k) ?_
      show own_Go p e below s _ _ _ (T17.setTop (mkF m 101 #[.val (.int p0), .val (.int p1), .val (.int (0 : Int32)), .val (.ref w0), .val (.int (p0.toInt8.toInt32)), .val (.int ((p0.toInt8.toInt32) &&& (255 : Int32))), .val (.int (1 : Int32)), .val (.int (1 : Int32))] [(.ref w0)]))
      refine own_via (fun _ k => XS.iload X17.here hx rfl (hb hby at_101) rfl k) ?_
      show own_Go p e below s _ _ _ (T17.setTop (mkF m 103 #[.val (.int p0), .val (.int p1), .val (.int (0 : Int32)), .val (.ref w0), .val (.int (p0.toInt8.toInt32)), .val (.int ((p0.toInt8.toInt32) &&& (255 : Int32))), .val (.int (1 : Int32)), .val (.int (1 : Int32))] [(.int (p0.toInt8.toInt32)), (.ref w0)]))
      obtain ⟨cq18, kq18, q18a, q18b, q18c⟩ := isOf hZ e17 E_w0
      obtain ⟨_, _, ⟨T18, L18, k18, n18⟩, -, X18, ⟨Lc18, hQ18, l18, y18, z18⟩, st18⟩ := X17.virtualBack hx (y := (⟨"com/example/loudmark/loudmark/audio/G711Law", "encodesZero", "(B)Z"⟩ : MethodName)) (z := (⟨"com/example/loudmark/loudmark/audio/G711Law", "encodesZero", "(B)Z"⟩ : MethodName)) hown (mvT hZ (hw _ (List.mem_of_getElem? (i := 27) rfl))) (mvT hZ (hw _ (List.mem_of_getElem? (i := 28) rfl))) (notFace_of_selects (args := #[]) (mvT hZ (hw _ (List.mem_of_getElem? (i := 30) rfl)))) (mvT hZ (hw _ (List.mem_of_getElem? (i := 30) rfl))) (mvT hZ (hw _ (List.mem_of_getElem? (i := 29) rfl))) (by decide) (backOf (W := 0) (rm7_3 l Z a0 hw [] (p0.toInt8.toInt32) w0 w1 h0 n0 Z0 K0) hZ (hw _ (List.mem_of_getElem? (i := 31) rfl)) (hw _ (List.mem_of_getElem? (i := 1) rfl)) (by decide) (by decide)) q18a q18c (g := (mkF m 103 #[.val (.int p0), .val (.int p1), .val (.int (0 : Int32)), .val (.ref w0), .val (.int (p0.toInt8.toInt32)), .val (.int ((p0.toInt8.toInt32) &&& (255 : Int32))), .val (.int (1 : Int32)), .val (.int (1 : Int32))] [(.int (p0.toInt8.toInt32)), (.ref w0)])) rfl (by rw [hml]; rfl) (Steps.refl _) (argsL := [(.int (p0.toInt8.toInt32))]) (rest := []) (lenOf pd3 rfl) rfl (by show 2 * 0 + _ ≤ _; exact Nat.le_of_eq rfl) (hb hby at_103) (fun _ _ => ⟨rfl, e17, (by decide : 0 + 0 ≤ _), (by decide : 0 + 0 ≤ _)⟩)
      dsimp only [Pt.U, Pt.locs, Pt.cells, Pt.slots] at X18 l18 y18 z18 st18 hQ18
      subst l18 y18 z18
      obtain ⟨rfl, e18, hO18⟩ := hQ18
      rcases hO18 with ⟨hr18_0_0, rfl⟩ | ⟨hr18_1_0, rfl⟩
      · refine own_tr st18 ?_
        show own_Go p e below s _ _ _ (T18.setTop (mkF m 106 #[.val (.int p0), .val (.int p1), .val (.int (0 : Int32)), .val (.ref w0), .val (.int (p0.toInt8.toInt32)), .val (.int ((p0.toInt8.toInt32) &&& (255 : Int32))), .val (.int (1 : Int32)), .val (.int (1 : Int32))] [(.int (1 : Int32))]))
        refine own_via (fun _ k => XS.iload X18.here hx rfl (hb hby at_106) rfl k) ?_
        show own_Go p e below s _ _ _ (T18.setTop (mkF m 108 #[.val (.int p0), .val (.int p1), .val (.int (0 : Int32)), .val (.ref w0), .val (.int (p0.toInt8.toInt32)), .val (.int ((p0.toInt8.toInt32) &&& (255 : Int32))), .val (.int (1 : Int32)), .val (.int (1 : Int32))] [(.int (1 : Int32)), (.int (1 : Int32))]))
        refine own_via (fun _ k => XS.icmpNo X18.here hx rfl (hb hby at_108) rfl (teq (by decide : (1 : Int32) = (1 : Int32))).2 k) ?_
        show own_Go p e below s _ _ _ (T18.setTop (mkF m 111 #[.val (.int p0), .val (.int p1), .val (.int (0 : Int32)), .val (.ref w0), .val (.int (p0.toInt8.toInt32)), .val (.int ((p0.toInt8.toInt32) &&& (255 : Int32))), .val (.int (1 : Int32)), .val (.int (1 : Int32))] []))
        refine own_via (fun _ k => XS.iload X18.here hx rfl (hb hby at_111) rfl k) ?_
        show own_Go p e below s _ _ _ (T18.setTop (mkF m 113 #[.val (.int p0), .val (.int p1), .val (.int (0 : Int32)), .val (.ref w0), .val (.int (p0.toInt8.toInt32)), .val (.int ((p0.toInt8.toInt32) &&& (255 : Int32))), .val (.int (1 : Int32)), .val (.int (1 : Int32))] [(.int (1 : Int32))]))
        refine own_via (fun _ k => XS.ifNo X18.here hx rfl (hb hby at_113) rfl ((if0 _ _).trans (feq (by decide : ¬ ((1 : Int32) = (0 : Int32)))).1) k) ?_
        show own_Go p e below s _ _ _ (T18.setTop (mkF m 116 #[.val (.int p0), .val (.int p1), .val (.int (0 : Int32)), .val (.ref w0), .val (.int (p0.toInt8.toInt32)), .val (.int ((p0.toInt8.toInt32) &&& (255 : Int32))), .val (.int (1 : Int32)), .val (.int (1 : Int32))] []))
        refine own_via (fun _ k => XS.iconst X18.here hx rfl (hb hby at_116) k) ?_
        show own_Go p e below s _ _ _ (T18.setTop (mkF m 117 #[.val (.int p0), .val (.int p1), .val (.int (0 : Int32)), .val (.ref w0), .val (.int (p0.toInt8.toInt32)), .val (.int ((p0.toInt8.toInt32) &&& (255 : Int32))), .val (.int (1 : Int32)), .val (.int (1 : Int32))] [(.int (1 : Int32))]))
        refine own_via (fun _ k => XS.goto X18.here hx rfl (pc0 := 117) (pc' := 121) rfl (hb hby at_117) (by decide) (by decide) k) ?_
        show own_Go p e below s _ _ _ (T18.setTop (mkF m 121 #[.val (.int p0), .val (.int p1), .val (.int (0 : Int32)), .val (.ref w0), .val (.int (p0.toInt8.toInt32)), .val (.int ((p0.toInt8.toInt32) &&& (255 : Int32))), .val (.int (1 : Int32)), .val (.int (1 : Int32))] [(.int (1 : Int32))]))
        exact own_retZ X18 hx hlk (t := .boolean) Bd.returns (by simp) (hb hby at_121) (z' := (1 : Int32)) (by first | rfl | decide) ⟨rfl, (Fr.nil n0)⟩ (by decide) (by decide)
      · refine own_tr st18 ?_
        show own_Go p e below s _ _ _ (T18.setTop (mkF m 106 #[.val (.int p0), .val (.int p1), .val (.int (0 : Int32)), .val (.ref w0), .val (.int (p0.toInt8.toInt32)), .val (.int ((p0.toInt8.toInt32) &&& (255 : Int32))), .val (.int (1 : Int32)), .val (.int (1 : Int32))] [(.int (0 : Int32))]))
        refine own_via (fun _ k => XS.iload X18.here hx rfl (hb hby at_106) rfl k) ?_
        show own_Go p e below s _ _ _ (T18.setTop (mkF m 108 #[.val (.int p0), .val (.int p1), .val (.int (0 : Int32)), .val (.ref w0), .val (.int (p0.toInt8.toInt32)), .val (.int ((p0.toInt8.toInt32) &&& (255 : Int32))), .val (.int (1 : Int32)), .val (.int (1 : Int32))] [(.int (1 : Int32)), (.int (0 : Int32))]))
        refine own_via (fun _ k => XS.icmpYes X18.here hx rfl (pc0 := 108) (pc' := 120) rfl (hb hby at_108) rfl (feq (by decide : ¬ ((0 : Int32) = (1 : Int32)))).2 (by decide) (by decide) k) ?_
        show own_Go p e below s _ _ _ (T18.setTop (mkF m 120 #[.val (.int p0), .val (.int p1), .val (.int (0 : Int32)), .val (.ref w0), .val (.int (p0.toInt8.toInt32)), .val (.int ((p0.toInt8.toInt32) &&& (255 : Int32))), .val (.int (1 : Int32)), .val (.int (1 : Int32))] []))
        refine own_via (fun _ k => XS.iconst X18.here hx rfl (hb hby at_120) k) ?_
        show own_Go p e below s _ _ _ (T18.setTop (mkF m 121 #[.val (.int p0), .val (.int p1), .val (.int (0 : Int32)), .val (.ref w0), .val (.int (p0.toInt8.toInt32)), .val (.int ((p0.toInt8.toInt32) &&& (255 : Int32))), .val (.int (1 : Int32)), .val (.int (1 : Int32))] [(.int (0 : Int32))]))
        exact (own_low (fun b u => ((b &&& (255 : Int32)) = (213 : Int32)) → (¬ (((b &&& (127 : Int32)) ^^^ (85 : Int32)) = (0 : Int32))) → False) (by decide +kernel) p0 hc15 hr18_1_0).elim
    · refine own_via (fun _ k => XS.icmpNo X14.here hx rfl (hb hby at_72) rfl (feq hc15).1 k) ?_
      show own_Go p e below s _ _ _ (T14.setTop (mkF m 75 #[.val (.int p0), .val (.int p1), .val (.int (0 : Int32)), .val (.ref w0), .val (.int (p0.toInt8.toInt32)), .val (.int ((p0.toInt8.toInt32) &&& (255 : Int32))), .unset, .unset] []))
      refine own_via (fun _ k => XS.iload X14.here hx rfl (hb hby at_75) rfl k) ?_
      show own_Go p e below s _ _ _ (T14.setTop (mkF m 77 #[.val (.int p0), .val (.int p1), .val (.int (0 : Int32)), .val (.ref w0), .val (.int (p0.toInt8.toInt32)), .val (.int ((p0.toInt8.toInt32) &&& (255 : Int32))), .unset, .unset] [(.int ((p0.toInt8.toInt32) &&& (255 : Int32)))]))
      refine own_via (fun _ k => XS.bipush X14.here hx rfl (hb hby at_77) k) ?_
      show own_Go p e below s _ _ _ (T14.setTop (mkF m 79 #[.val (.int p0), .val (.int p1), .val (.int (0 : Int32)), .val (.ref w0), .val (.int (p0.toInt8.toInt32)), .val (.int ((p0.toInt8.toInt32) &&& (255 : Int32))), .unset, .unset] [(.int (85 : Int32)), (.int ((p0.toInt8.toInt32) &&& (255 : Int32)))]))
      by_cases hc19 : ((p0.toInt8.toInt32) &&& (255 : Int32)) = (85 : Int32)
      · refine own_via (fun _ k => XS.icmpNo X14.here hx rfl (hb hby at_79) rfl (teq hc19).2 k) ?_
        show own_Go p e below s _ _ _ (T14.setTop (mkF m 82 #[.val (.int p0), .val (.int p1), .val (.int (0 : Int32)), .val (.ref w0), .val (.int (p0.toInt8.toInt32)), .val (.int ((p0.toInt8.toInt32) &&& (255 : Int32))), .unset, .unset] []))
        refine own_via (fun _ k => XS.iconst X14.here hx rfl (hb hby at_82) k) ?_
        show own_Go p e below s _ _ _ (T14.setTop (mkF m 83 #[.val (.int p0), .val (.int p1), .val (.int (0 : Int32)), .val (.ref w0), .val (.int (p0.toInt8.toInt32)), .val (.int ((p0.toInt8.toInt32) &&& (255 : Int32))), .unset, .unset] [(.int (1 : Int32))]))
        refine own_via (fun _ k => XS.goto X14.here hx rfl (pc0 := 83) (pc' := 87) rfl (hb hby at_83) (by decide) (by decide) k) ?_
        show own_Go p e below s _ _ _ (T14.setTop (mkF m 87 #[.val (.int p0), .val (.int p1), .val (.int (0 : Int32)), .val (.ref w0), .val (.int (p0.toInt8.toInt32)), .val (.int ((p0.toInt8.toInt32) &&& (255 : Int32))), .unset, .unset] [(.int (1 : Int32))]))
        refine own_via (fun _ k => XS.istore X14.here hx rfl (hb hby at_87) rfl (l' := #[.val (.int p0), .val (.int p1), .val (.int (0 : Int32)), .val (.ref w0), .val (.int (p0.toInt8.toInt32)), .val (.int ((p0.toInt8.toInt32) &&& (255 : Int32))), .val (.int (1 : Int32)), .unset]) rfl k) ?_
        show own_Go p e below s _ _ _ (T14.setTop (mkF m 89 #[.val (.int p0), .val (.int p1), .val (.int (0 : Int32)), .val (.ref w0), .val (.int (p0.toInt8.toInt32)), .val (.int ((p0.toInt8.toInt32) &&& (255 : Int32))), .val (.int (1 : Int32)), .unset] []))
        refine own_via (fun _ k => XS.aloadN X14.here hx rfl (hb hby at_89) rfl rfl k) ?_
        show own_Go p e below s _ _ _ (T14.setTop (mkF m 90 #[.val (.int p0), .val (.int p1), .val (.int (0 : Int32)), .val (.ref w0), .val (.int (p0.toInt8.toInt32)), .val (.int ((p0.toInt8.toInt32) &&& (255 : Int32))), .val (.int (1 : Int32)), .unset] [(.ref w0)]))
        refine own_via (fun _ k => XS.aloadN X14.here hx rfl (hb hby at_90) rfl rfl k) ?_
        show own_Go p e below s _ _ _ (T14.setTop (mkF m 91 #[.val (.int p0), .val (.int p1), .val (.int (0 : Int32)), .val (.ref w0), .val (.int (p0.toInt8.toInt32)), .val (.int ((p0.toInt8.toInt32) &&& (255 : Int32))), .val (.int (1 : Int32)), .unset] [(.ref w0), (.ref w0)]))
        refine own_via (fun _ k => XS.iconst X14.here hx rfl (hb hby at_91) k) ?_
        show own_Go p e below s _ _ _ (T14.setTop (mkF m 92 #[.val (.int p0), .val (.int p1), .val (.int (0 : Int32)), .val (.ref w0), .val (.int (p0.toInt8.toInt32)), .val (.int ((p0.toInt8.toInt32) &&& (255 : Int32))), .val (.int (1 : Int32)), .unset] [(.int (0 : Int32)), (.ref w0), (.ref w0)]))
        obtain ⟨cq20, kq20, q20a, q20b, q20c⟩ := isOf hZ e14 E_w0
        obtain ⟨_, _, ⟨T20, L20, k20, n20⟩, -, X20, ⟨Lc20, hQ20, l20, y20, z20⟩, st20⟩ := X14.virtualBack hx (y := (⟨"com/example/loudmark/loudmark/audio/G711Law", "encode", "(S)B"⟩ : MethodName)) (z := (⟨"com/example/loudmark/loudmark/audio/G711Law", "encode", "(S)B"⟩ : MethodName)) hown (mvT hZ (hw _ (List.mem_of_getElem? (i := 3) rfl))) (mvT hZ (hw _ (List.mem_of_getElem? (i := 4) rfl))) (notFace_of_selects (args := #[]) (mvT hZ (hw _ (List.mem_of_getElem? (i := 6) rfl)))) (mvT hZ (hw _ (List.mem_of_getElem? (i := 6) rfl))) (mvT hZ (hw _ (List.mem_of_getElem? (i := 5) rfl))) (by decide) (backOf (W := 1) (rm1_1 l Z a0 hw [] w0 w1 h0 n0 Z0 K0) hZ (hw _ (List.mem_of_getElem? (i := 7) rfl)) (hw _ (List.mem_of_getElem? (i := 1) rfl)) (by decide) (by decide)) q20a q20c (g := (mkF m 92 #[.val (.int p0), .val (.int p1), .val (.int (0 : Int32)), .val (.ref w0), .val (.int (p0.toInt8.toInt32)), .val (.int ((p0.toInt8.toInt32) &&& (255 : Int32))), .val (.int (1 : Int32)), .unset] [(.int (0 : Int32)), (.ref w0), (.ref w0)])) rfl (by rw [hml]; rfl) (Steps.refl _) (argsL := [(.int (0 : Int32))]) (rest := [(.ref w0)]) (lenOf pd2 rfl) rfl (by show 2 * 0 + _ ≤ _; exact Nat.le_of_eq rfl) (hb hby at_92) (fun _ _ => ⟨rfl, e14, (by decide : 0 + 0 ≤ _), (by decide : 0 + 0 ≤ _)⟩)
        dsimp only [Pt.U, Pt.locs, Pt.cells, Pt.slots] at X20 l20 y20 z20 st20 hQ20
        subst l20 y20 z20
        obtain ⟨rfl, e20, hO20⟩ := hQ20
        obtain rfl := hO20
        refine own_tr st20 ?_
        show own_Go p e below s _ _ _ (T20.setTop (mkF m 95 #[.val (.int p0), .val (.int p1), .val (.int (0 : Int32)), .val (.ref w0), .val (.int (p0.toInt8.toInt32)), .val (.int ((p0.toInt8.toInt32) &&& (255 : Int32))), .val (.int (1 : Int32)), .unset] [(.int (-43 : Int32)), (.ref w0)]))
        obtain ⟨cq21, kq21, q21a, q21b, q21c⟩ := isOf hZ e20 E_w0
        obtain ⟨_, _, ⟨T21, L21, k21, n21⟩, -, X21, ⟨Lc21, hQ21, l21, y21, z21⟩, st21⟩ := X20.virtualBack hx (y := (⟨"com/example/loudmark/loudmark/audio/G711Law", "encodesZero", "(B)Z"⟩ : MethodName)) (z := (⟨"com/example/loudmark/loudmark/audio/G711Law", "encodesZero", "(B)Z"⟩ : MethodName)) hown (mvT hZ (hw _ (List.mem_of_getElem? (i := 27) rfl))) (mvT hZ (hw _ (List.mem_of_getElem? (i := 28) rfl))) (notFace_of_selects (args := #[]) (mvT hZ (hw _ (List.mem_of_getElem? (i := 30) rfl)))) (mvT hZ (hw _ (List.mem_of_getElem? (i := 30) rfl))) (mvT hZ (hw _ (List.mem_of_getElem? (i := 29) rfl))) (by decide) (backOf (W := 0) (rm7_2 l Z a0 hw [] w0 w1 h0 n0 Z0 K0) hZ (hw _ (List.mem_of_getElem? (i := 31) rfl)) (hw _ (List.mem_of_getElem? (i := 1) rfl)) (by decide) (by decide)) q21a q21c (g := (mkF m 95 #[.val (.int p0), .val (.int p1), .val (.int (0 : Int32)), .val (.ref w0), .val (.int (p0.toInt8.toInt32)), .val (.int ((p0.toInt8.toInt32) &&& (255 : Int32))), .val (.int (1 : Int32)), .unset] [(.int (-43 : Int32)), (.ref w0)])) rfl (by rw [hml]; rfl) (Steps.refl _) (argsL := [(.int (-43 : Int32))]) (rest := []) (lenOf pd3 rfl) rfl (by show 2 * 0 + _ ≤ _; exact Nat.le_of_eq rfl) (hb hby at_95) (fun _ _ => ⟨rfl, e20, (by decide : 0 + 0 ≤ _), (by decide : 0 + 0 ≤ _)⟩)
        dsimp only [Pt.U, Pt.locs, Pt.cells, Pt.slots] at X21 l21 y21 z21 st21 hQ21
        subst l21 y21 z21
        obtain ⟨rfl, e21, hO21⟩ := hQ21
        obtain rfl := hO21
        refine own_tr st21 ?_
        show own_Go p e below s _ _ _ (T21.setTop (mkF m 98 #[.val (.int p0), .val (.int p1), .val (.int (0 : Int32)), .val (.ref w0), .val (.int (p0.toInt8.toInt32)), .val (.int ((p0.toInt8.toInt32) &&& (255 : Int32))), .val (.int (1 : Int32)), .unset] [(.int (1 : Int32))]))
        refine own_via (fun _ k => XS.istore X21.here hx rfl (hb hby at_98) rfl (l' := #[.val (.int p0), .val (.int p1), .val (.int (0 : Int32)), .val (.ref w0), .val (.int (p0.toInt8.toInt32)), .val (.int ((p0.toInt8.toInt32) &&& (255 : Int32))), .val (.int (1 : Int32)), .val (.int (1 : Int32))]) rfl k) ?_
        show own_Go p e below s _ _ _ (T21.setTop (mkF m 100 #[.val (.int p0), .val (.int p1), .val (.int (0 : Int32)), .val (.ref w0), .val (.int (p0.toInt8.toInt32)), .val (.int ((p0.toInt8.toInt32) &&& (255 : Int32))), .val (.int (1 : Int32)), .val (.int (1 : Int32))] []))
        refine own_via (fun _ k => XS.aloadN X21.here hx rfl (hb hby at_100) rfl rfl k) ?_
        show own_Go p e below s _ _ _ (T21.setTop (mkF m 101 #[.val (.int p0), .val (.int p1), .val (.int (0 : Int32)), .val (.ref w0), .val (.int (p0.toInt8.toInt32)), .val (.int ((p0.toInt8.toInt32) &&& (255 : Int32))), .val (.int (1 : Int32)), .val (.int (1 : Int32))] [(.ref w0)]))
        refine own_via (fun _ k => XS.iload X21.here hx rfl (hb hby at_101) rfl k) ?_
        show own_Go p e below s _ _ _ (T21.setTop (mkF m 103 #[.val (.int p0), .val (.int p1), .val (.int (0 : Int32)), .val (.ref w0), .val (.int (p0.toInt8.toInt32)), .val (.int ((p0.toInt8.toInt32) &&& (255 : Int32))), .val (.int (1 : Int32)), .val (.int (1 : Int32))] [(.int (p0.toInt8.toInt32)), (.ref w0)]))
        obtain ⟨cq22, kq22, q22a, q22b, q22c⟩ := isOf hZ e21 E_w0
        obtain ⟨_, _, ⟨T22, L22, k22, n22⟩, -, X22, ⟨Lc22, hQ22, l22, y22, z22⟩, st22⟩ := X21.virtualBack hx (y := (⟨"com/example/loudmark/loudmark/audio/G711Law", "encodesZero", "(B)Z"⟩ : MethodName)) (z := (⟨"com/example/loudmark/loudmark/audio/G711Law", "encodesZero", "(B)Z"⟩ : MethodName)) hown (mvT hZ (hw _ (List.mem_of_getElem? (i := 27) rfl))) (mvT hZ (hw _ (List.mem_of_getElem? (i := 28) rfl))) (notFace_of_selects (args := #[]) (mvT hZ (hw _ (List.mem_of_getElem? (i := 30) rfl)))) (mvT hZ (hw _ (List.mem_of_getElem? (i := 30) rfl))) (mvT hZ (hw _ (List.mem_of_getElem? (i := 29) rfl))) (by decide) (backOf (W := 0) (rm7_3 l Z a0 hw [] (p0.toInt8.toInt32) w0 w1 h0 n0 Z0 K0) hZ (hw _ (List.mem_of_getElem? (i := 31) rfl)) (hw _ (List.mem_of_getElem? (i := 1) rfl)) (by decide) (by decide)) q22a q22c (g := (mkF m 103 #[.val (.int p0), .val (.int p1), .val (.int (0 : Int32)), .val (.ref w0), .val (.int (p0.toInt8.toInt32)), .val (.int ((p0.toInt8.toInt32) &&& (255 : Int32))), .val (.int (1 : Int32)), .val (.int (1 : Int32))] [(.int (p0.toInt8.toInt32)), (.ref w0)])) rfl (by rw [hml]; rfl) (Steps.refl _) (argsL := [(.int (p0.toInt8.toInt32))]) (rest := []) (lenOf pd3 rfl) rfl (by show 2 * 0 + _ ≤ _; exact Nat.le_of_eq rfl) (hb hby at_103) (fun _ _ => ⟨rfl, e21, (by decide : 0 + 0 ≤ _), (by decide : 0 + 0 ≤ _)⟩)
        dsimp only [Pt.U, Pt.locs, Pt.cells, Pt.slots] at X22 l22 y22 z22 st22 hQ22
        subst l22 y22 z22
        obtain ⟨rfl, e22, hO22⟩ := hQ22
        rcases hO22 with ⟨hr22_0_0, rfl⟩ | ⟨hr22_1_0, rfl⟩
        · refine own_tr st22 ?_
          show own_Go p e below s _ _ _ (T22.setTop (mkF m 106 #[.val (.int p0), .val (.int p1), .val (.int (0 : Int32)), .val (.ref w0), .val (.int (p0.toInt8.toInt32)), .val (.int ((p0.toInt8.toInt32) &&& (255 : Int32))), .val (.int (1 : Int32)), .val (.int (1 : Int32))] [(.int (1 : Int32))]))
          refine own_via (fun _ k => XS.iload X22.here hx rfl (hb hby at_106) rfl k) ?_
          show own_Go p e below s _ _ _ (T22.setTop (mkF m 108 #[.val (.int p0), .val (.int p1), .val (.int (0 : Int32)), .val (.ref w0), .val (.int (p0.toInt8.toInt32)), .val (.int ((p0.toInt8.toInt32) &&& (255 : Int32))), .val (.int (1 : Int32)), .val (.int (1 : Int32))] [(.int (1 : Int32)), (.int (1 : Int32))]))
          refine own_via (fun _ k => XS.icmpNo X22.here hx rfl (hb hby at_108) rfl (teq (by decide : (1 : Int32) = (1 : Int32))).2 k) ?_
          show own_Go p e below s _ _ _ (T22.setTop (mkF m 111 #[.val (.int p0), .val (.int p1), .val (.int (0 : Int32)), .val (.ref w0), .val (.int (p0.toInt8.toInt32)), .val (.int ((p0.toInt8.toInt32) &&& (255 : Int32))), .val (.int (1 : Int32)), .val (.int (1 : Int32))] []))
          refine own_via (fun _ k => XS.iload X22.here hx rfl (hb hby at_111) rfl k) ?_
          show own_Go p e below s _ _ _ (T22.setTop (mkF m 113 #[.val (.int p0), .val (.int p1), .val (.int (0 : Int32)), .val (.ref w0), .val (.int (p0.toInt8.toInt32)), .val (.int ((p0.toInt8.toInt32) &&& (255 : Int32))), .val (.int (1 : Int32)), .val (.int (1 : Int32))] [(.int (1 : Int32))]))
          refine own_via (fun _ k => XS.ifNo X22.here hx rfl (hb hby at_113) rfl ((if0 _ _).trans (feq (by decide : ¬ ((1 : Int32) = (0 : Int32)))).1) k) ?_
          show own_Go p e below s _ _ _ (T22.setTop (mkF m 116 #[.val (.int p0), .val (.int p1), .val (.int (0 : Int32)), .val (.ref w0), .val (.int (p0.toInt8.toInt32)), .val (.int ((p0.toInt8.toInt32) &&& (255 : Int32))), .val (.int (1 : Int32)), .val (.int (1 : Int32))] []))
          refine own_via (fun _ k => XS.iconst X22.here hx rfl (hb hby at_116) k) ?_
          show own_Go p e below s _ _ _ (T22.setTop (mkF m 117 #[.val (.int p0), .val (.int p1), .val (.int (0 : Int32)), .val (.ref w0), .val (.int (p0.toInt8.toInt32)), .val (.int ((p0.toInt8.toInt32) &&& (255 : Int32))), .val (.int (1 : Int32)), .val (.int (1 : Int32))] [(.int (1 : Int32))]))
          refine own_via (fun _ k => XS.goto X22.here hx rfl (pc0 := 117) (pc' := 121) rfl (hb hby at_117) (by decide) (by decide) k) ?_
          show own_Go p e below s _ _ _ (T22.setTop (mkF m 121 #[.val (.int p0), .val (.int p1), .val (.int (0 : Int32)), .val (.ref w0), .val (.int (p0.toInt8.toInt32)), .val (.int ((p0.toInt8.toInt32) &&& (255 : Int32))), .val (.int (1 : Int32)), .val (.int (1 : Int32))] [(.int (1 : Int32))]))
          exact own_retZ X22 hx hlk (t := .boolean) Bd.returns (by simp) (hb hby at_121) (z' := (1 : Int32)) (by first | rfl | decide) ⟨rfl, (Fr.nil n0)⟩ (by decide) (by decide)
        · refine own_tr st22 ?_
          show own_Go p e below s _ _ _ (T22.setTop (mkF m 106 #[.val (.int p0), .val (.int p1), .val (.int (0 : Int32)), .val (.ref w0), .val (.int (p0.toInt8.toInt32)), .val (.int ((p0.toInt8.toInt32) &&& (255 : Int32))), .val (.int (1 : Int32)), .val (.int (1 : Int32))] [(.int (0 : Int32))]))
          refine own_via (fun _ k => XS.iload X22.here hx rfl (hb hby at_106) rfl k) ?_
          show own_Go p e below s _ _ _ (T22.setTop (mkF m 108 #[.val (.int p0), .val (.int p1), .val (.int (0 : Int32)), .val (.ref w0), .val (.int (p0.toInt8.toInt32)), .val (.int ((p0.toInt8.toInt32) &&& (255 : Int32))), .val (.int (1 : Int32)), .val (.int (1 : Int32))] [(.int (1 : Int32)), (.int (0 : Int32))]))
          refine own_via (fun _ k => XS.icmpYes X22.here hx rfl (pc0 := 108) (pc' := 120) rfl (hb hby at_108) rfl (feq (by decide : ¬ ((0 : Int32) = (1 : Int32)))).2 (by decide) (by decide) k) ?_
          show own_Go p e below s _ _ _ (T22.setTop (mkF m 120 #[.val (.int p0), .val (.int p1), .val (.int (0 : Int32)), .val (.ref w0), .val (.int (p0.toInt8.toInt32)), .val (.int ((p0.toInt8.toInt32) &&& (255 : Int32))), .val (.int (1 : Int32)), .val (.int (1 : Int32))] []))
          refine own_via (fun _ k => XS.iconst X22.here hx rfl (hb hby at_120) k) ?_
          show own_Go p e below s _ _ _ (T22.setTop (mkF m 121 #[.val (.int p0), .val (.int p1), .val (.int (0 : Int32)), .val (.ref w0), .val (.int (p0.toInt8.toInt32)), .val (.int ((p0.toInt8.toInt32) &&& (255 : Int32))), .val (.int (1 : Int32)), .val (.int (1 : Int32))] [(.int (0 : Int32))]))
          exact (own_low (fun b u => (¬ ((b &&& (255 : Int32)) = (213 : Int32))) → ((b &&& (255 : Int32)) = (85 : Int32)) → (¬ (((b &&& (127 : Int32)) ^^^ (85 : Int32)) = (0 : Int32))) → False) (by decide +kernel) p0 hc15 hc19 hr22_1_0).elim
      · refine own_via (fun _ k => XS.icmpYes X14.here hx rfl (pc0 := 79) (pc' := 86) rfl (hb hby at_79) rfl (feq hc19).2 (by decide) (by decide) k) ?_
        show own_Go p e below s _ _ _ (T14.setTop (mkF m 86 #[.val (.int p0), .val (.int p1), .val (.int (0 : Int32)), .val (.ref w0), .val (.int (p0.toInt8.toInt32)), .val (.int ((p0.toInt8.toInt32) &&& (255 : Int32))), .unset, .unset] []))
        refine own_via (fun _ k => XS.iconst X14.here hx rfl (hb hby at_86) k) ?_
        show own_Go p e below s _ _ _ (T14.setTop (mkF m 87 #[.val (.int p0), .val (.int p1), .val (.int (0 : Int32)), .val (.ref w0), .val (.int (p0.toInt8.toInt32)), .val (.int ((p0.toInt8.toInt32) &&& (255 : Int32))), .unset, .unset] [(.int (0 : Int32))]))
        refine own_via (fun _ k => XS.istore X14.here hx rfl (hb hby at_87) rfl (l' := #[.val (.int p0), .val (.int p1), .val (.int (0 : Int32)), .val (.ref w0), .val (.int (p0.toInt8.toInt32)), .val (.int ((p0.toInt8.toInt32) &&& (255 : Int32))), .val (.int (0 : Int32)), .unset]) rfl k) ?_
        show own_Go p e below s _ _ _ (T14.setTop (mkF m 89 #[.val (.int p0), .val (.int p1), .val (.int (0 : Int32)), .val (.ref w0), .val (.int (p0.toInt8.toInt32)), .val (.int ((p0.toInt8.toInt32) &&& (255 : Int32))), .val (.int (0 : Int32)), .unset] []))
        refine own_via (fun _ k => XS.aloadN X14.here hx rfl (hb hby at_89) rfl rfl k) ?_
        show own_Go p e below s _ _ _ (T14.setTop (mkF m 90 #[.val (.int p0), .val (.int p1), .val (.int (0 : Int32)), .val (.ref w0), .val (.int (p0.toInt8.toInt32)), .val (.int ((p0.toInt8.toInt32) &&& (255 : Int32))), .val (.int (0 : Int32)), .unset] [(.ref w0)]))
        refine own_via (fun _ k => XS.aloadN X14.here hx rfl (hb hby at_90) rfl rfl k) ?_
        show own_Go p e below s _ _ _ (T14.setTop (mkF m 91 #[.val (.int p0), .val (.int p1), .val (.int (0 : Int32)), .val (.ref w0), .val (.int (p0.toInt8.toInt32)), .val (.int ((p0.toInt8.toInt32) &&& (255 : Int32))), .val (.int (0 : Int32)), .unset] [(.ref w0), (.ref w0)]))
        refine own_via (fun _ k => XS.iconst X14.here hx rfl (hb hby at_91) k) ?_
        show own_Go p e below s _ _ _ (T14.setTop (mkF m 92 #[.val (.int p0), .val (.int p1), .val (.int (0 : Int32)), .val (.ref w0), .val (.int (p0.toInt8.toInt32)), .val (.int ((p0.toInt8.toInt32) &&& (255 : Int32))), .val (.int (0 : Int32)), .unset] [(.int (0 : Int32)), (.ref w0), (.ref w0)]))
        obtain ⟨cq23, kq23, q23a, q23b, q23c⟩ := isOf hZ e14 E_w0
        obtain ⟨_, _, ⟨T23, L23, k23, n23⟩, -, X23, ⟨Lc23, hQ23, l23, y23, z23⟩, st23⟩ := X14.virtualBack hx (y := (⟨"com/example/loudmark/loudmark/audio/G711Law", "encode", "(S)B"⟩ : MethodName)) (z := (⟨"com/example/loudmark/loudmark/audio/G711Law", "encode", "(S)B"⟩ : MethodName)) hown (mvT hZ (hw _ (List.mem_of_getElem? (i := 3) rfl))) (mvT hZ (hw _ (List.mem_of_getElem? (i := 4) rfl))) (notFace_of_selects (args := #[]) (mvT hZ (hw _ (List.mem_of_getElem? (i := 6) rfl)))) (mvT hZ (hw _ (List.mem_of_getElem? (i := 6) rfl))) (mvT hZ (hw _ (List.mem_of_getElem? (i := 5) rfl))) (by decide) (backOf (W := 1) (rm1_1 l Z a0 hw [] w0 w1 h0 n0 Z0 K0) hZ (hw _ (List.mem_of_getElem? (i := 7) rfl)) (hw _ (List.mem_of_getElem? (i := 1) rfl)) (by decide) (by decide)) q23a q23c (g := (mkF m 92 #[.val (.int p0), .val (.int p1), .val (.int (0 : Int32)), .val (.ref w0), .val (.int (p0.toInt8.toInt32)), .val (.int ((p0.toInt8.toInt32) &&& (255 : Int32))), .val (.int (0 : Int32)), .unset] [(.int (0 : Int32)), (.ref w0), (.ref w0)])) rfl (by rw [hml]; rfl) (Steps.refl _) (argsL := [(.int (0 : Int32))]) (rest := [(.ref w0)]) (lenOf pd2 rfl) rfl (by show 2 * 0 + _ ≤ _; exact Nat.le_of_eq rfl) (hb hby at_92) (fun _ _ => ⟨rfl, e14, (by decide : 0 + 0 ≤ _), (by decide : 0 + 0 ≤ _)⟩)
        dsimp only [Pt.U, Pt.locs, Pt.cells, Pt.slots] at X23 l23 y23 z23 st23 hQ23
        subst l23 y23 z23
        obtain ⟨rfl, e23, hO23⟩ := hQ23
        obtain rfl := hO23
        refine own_tr st23 ?_
        show own_Go p e below s _ _ _ (T23.setTop (mkF m 95 #[.val (.int p0), .val (.int p1), .val (.int (0 : Int32)), .val (.ref w0), .val (.int (p0.toInt8.toInt32)), .val (.int ((p0.toInt8.toInt32) &&& (255 : Int32))), .val (.int (0 : Int32)), .unset] [(.int (-43 : Int32)), (.ref w0)]))
        obtain ⟨cq24, kq24, q24a, q24b, q24c⟩ := isOf hZ e23 E_w0
        obtain ⟨_, _, ⟨T24, L24, k24, n24⟩, -, X24, ⟨Lc24, hQ24, l24, y24, z24⟩, st24⟩ := X23.virtualBack hx (y := (⟨"com/example/loudmark/loudmark/audio/G711Law", "encodesZero", "(B)Z"⟩ : MethodName)) (z := (⟨"com/example/loudmark/loudmark/audio/G711Law", "encodesZero", "(B)Z"⟩ : MethodName)) hown (mvT hZ (hw _ (List.mem_of_getElem? (i := 27) rfl))) (mvT hZ (hw _ (List.mem_of_getElem? (i := 28) rfl))) (notFace_of_selects (args := #[]) (mvT hZ (hw _ (List.mem_of_getElem? (i := 30) rfl)))) (mvT hZ (hw _ (List.mem_of_getElem? (i := 30) rfl))) (mvT hZ (hw _ (List.mem_of_getElem? (i := 29) rfl))) (by decide) (backOf (W := 0) (rm7_2 l Z a0 hw [] w0 w1 h0 n0 Z0 K0) hZ (hw _ (List.mem_of_getElem? (i := 31) rfl)) (hw _ (List.mem_of_getElem? (i := 1) rfl)) (by decide) (by decide)) q24a q24c (g := (mkF m 95 #[.val (.int p0), .val (.int p1), .val (.int (0 : Int32)), .val (.ref w0), .val (.int (p0.toInt8.toInt32)), .val (.int ((p0.toInt8.toInt32) &&& (255 : Int32))), .val (.int (0 : Int32)), .unset] [(.int (-43 : Int32)), (.ref w0)])) rfl (by rw [hml]; rfl) (Steps.refl _) (argsL := [(.int (-43 : Int32))]) (rest := []) (lenOf pd3 rfl) rfl (by show 2 * 0 + _ ≤ _; exact Nat.le_of_eq rfl) (hb hby at_95) (fun _ _ => ⟨rfl, e23, (by decide : 0 + 0 ≤ _), (by decide : 0 + 0 ≤ _)⟩)
        dsimp only [Pt.U, Pt.locs, Pt.cells, Pt.slots] at X24 l24 y24 z24 st24 hQ24
        subst l24 y24 z24
        obtain ⟨rfl, e24, hO24⟩ := hQ24
        obtain rfl := hO24
        refine own_tr st24 ?_
        show own_Go p e below s _ _ _ (T24.setTop (mkF m 98 #[.val (.int p0), .val (.int p1), .val (.int (0 : Int32)), .val (.ref w0), .val (.int (p0.toInt8.toInt32)), .val (.int ((p0.toInt8.toInt32) &&& (255 : Int32))), .val (.int (0 : Int32)), .unset] [(.int (1 : Int32))]))
        refine own_via (fun _ k => XS.istore X24.here hx rfl (hb hby at_98) rfl (l' := #[.val (.int p0), .val (.int p1), .val (.int (0 : Int32)), .val (.ref w0), .val (.int (p0.toInt8.toInt32)), .val (.int ((p0.toInt8.toInt32) &&& (255 : Int32))), .val (.int (0 : Int32)), .val (.int (1 : Int32))]) rfl k) ?_
        show own_Go p e below s _ _ _ (T24.setTop (mkF m 100 #[.val (.int p0), .val (.int p1), .val (.int (0 : Int32)), .val (.ref w0), .val (.int (p0.toInt8.toInt32)), .val (.int ((p0.toInt8.toInt32) &&& (255 : Int32))), .val (.int (0 : Int32)), .val (.int (1 : Int32))] []))
        refine own_via (fun _ k => XS.aloadN X24.here hx rfl (hb hby at_100) rfl rfl k) ?_
        show own_Go p e below s _ _ _ (T24.setTop (mkF m 101 #[.val (.int p0), .val (.int p1), .val (.int (0 : Int32)), .val (.ref w0), .val (.int (p0.toInt8.toInt32)), .val (.int ((p0.toInt8.toInt32) &&& (255 : Int32))), .val (.int (0 : Int32)), .val (.int (1 : Int32))] [(.ref w0)]))
        refine own_via (fun _ k => XS.iload X24.here hx rfl (hb hby at_101) rfl k) ?_
        show own_Go p e below s _ _ _ (T24.setTop (mkF m 103 #[.val (.int p0), .val (.int p1), .val (.int (0 : Int32)), .val (.ref w0), .val (.int (p0.toInt8.toInt32)), .val (.int ((p0.toInt8.toInt32) &&& (255 : Int32))), .val (.int (0 : Int32)), .val (.int (1 : Int32))] [(.int (p0.toInt8.toInt32)), (.ref w0)]))
        obtain ⟨cq25, kq25, q25a, q25b, q25c⟩ := isOf hZ e24 E_w0
        obtain ⟨_, _, ⟨T25, L25, k25, n25⟩, -, X25, ⟨Lc25, hQ25, l25, y25, z25⟩, st25⟩ := X24.virtualBack hx (y := (⟨"com/example/loudmark/loudmark/audio/G711Law", "encodesZero", "(B)Z"⟩ : MethodName)) (z := (⟨"com/example/loudmark/loudmark/audio/G711Law", "encodesZero", "(B)Z"⟩ : MethodName)) hown (mvT hZ (hw _ (List.mem_of_getElem? (i := 27) rfl))) (mvT hZ (hw _ (List.mem_of_getElem? (i := 28) rfl))) (notFace_of_selects (args := #[]) (mvT hZ (hw _ (List.mem_of_getElem? (i := 30) rfl)))) (mvT hZ (hw _ (List.mem_of_getElem? (i := 30) rfl))) (mvT hZ (hw _ (List.mem_of_getElem? (i := 29) rfl))) (by decide) (backOf (W := 0) (rm7_3 l Z a0 hw [] (p0.toInt8.toInt32) w0 w1 h0 n0 Z0 K0) hZ (hw _ (List.mem_of_getElem? (i := 31) rfl)) (hw _ (List.mem_of_getElem? (i := 1) rfl)) (by decide) (by decide)) q25a q25c (g := (mkF m 103 #[.val (.int p0), .val (.int p1), .val (.int (0 : Int32)), .val (.ref w0), .val (.int (p0.toInt8.toInt32)), .val (.int ((p0.toInt8.toInt32) &&& (255 : Int32))), .val (.int (0 : Int32)), .val (.int (1 : Int32))] [(.int (p0.toInt8.toInt32)), (.ref w0)])) rfl (by rw [hml]; rfl) (Steps.refl _) (argsL := [(.int (p0.toInt8.toInt32))]) (rest := []) (lenOf pd3 rfl) rfl (by show 2 * 0 + _ ≤ _; exact Nat.le_of_eq rfl) (hb hby at_103) (fun _ _ => ⟨rfl, e24, (by decide : 0 + 0 ≤ _), (by decide : 0 + 0 ≤ _)⟩)
        dsimp only [Pt.U, Pt.locs, Pt.cells, Pt.slots] at X25 l25 y25 z25 st25 hQ25
        subst l25 y25 z25
        obtain ⟨rfl, e25, hO25⟩ := hQ25
        rcases hO25 with ⟨hr25_0_0, rfl⟩ | ⟨hr25_1_0, rfl⟩
        · refine own_tr st25 ?_
          show own_Go p e below s _ _ _ (T25.setTop (mkF m 106 #[.val (.int p0), .val (.int p1), .val (.int (0 : Int32)), .val (.ref w0), .val (.int (p0.toInt8.toInt32)), .val (.int ((p0.toInt8.toInt32) &&& (255 : Int32))), .val (.int (0 : Int32)), .val (.int (1 : Int32))] [(.int (1 : Int32))]))
          refine own_via (fun _ k => XS.iload X25.here hx rfl (hb hby at_106) rfl k) ?_
          show own_Go p e below s _ _ _ (T25.setTop (mkF m 108 #[.val (.int p0), .val (.int p1), .val (.int (0 : Int32)), .val (.ref w0), .val (.int (p0.toInt8.toInt32)), .val (.int ((p0.toInt8.toInt32) &&& (255 : Int32))), .val (.int (0 : Int32)), .val (.int (1 : Int32))] [(.int (0 : Int32)), (.int (1 : Int32))]))
          refine own_via (fun _ k => XS.icmpYes X25.here hx rfl (pc0 := 108) (pc' := 120) rfl (hb hby at_108) rfl (feq (by decide : ¬ ((1 : Int32) = (0 : Int32)))).2 (by decide) (by decide) k) ?_
          show own_Go p e below s _ _ _ (T25.setTop (mkF m 120 #[.val (.int p0), .val (.int p1), .val (.int (0 : Int32)), .val (.ref w0), .val (.int (p0.toInt8.toInt32)), .val (.int ((p0.toInt8.toInt32) &&& (255 : Int32))), .val (.int (0 : Int32)), .val (.int (1 : Int32))] []))
          refine own_via (fun _ k => XS.iconst X25.here hx rfl (hb hby at_120) k) ?_
          show own_Go p e below s _ _ _ (T25.setTop (mkF m 121 #[.val (.int p0), .val (.int p1), .val (.int (0 : Int32)), .val (.ref w0), .val (.int (p0.toInt8.toInt32)), .val (.int ((p0.toInt8.toInt32) &&& (255 : Int32))), .val (.int (0 : Int32)), .val (.int (1 : Int32))] [(.int (0 : Int32))]))
          exact (own_low (fun b u => (¬ ((b &&& (255 : Int32)) = (213 : Int32))) → (¬ ((b &&& (255 : Int32)) = (85 : Int32))) → (((b &&& (127 : Int32)) ^^^ (85 : Int32)) = (0 : Int32)) → False) (by decide +kernel) p0 hc15 hc19 hr25_0_0).elim
        · refine own_tr st25 ?_
          show own_Go p e below s _ _ _ (T25.setTop (mkF m 106 #[.val (.int p0), .val (.int p1), .val (.int (0 : Int32)), .val (.ref w0), .val (.int (p0.toInt8.toInt32)), .val (.int ((p0.toInt8.toInt32) &&& (255 : Int32))), .val (.int (0 : Int32)), .val (.int (1 : Int32))] [(.int (0 : Int32))]))
          refine own_via (fun _ k => XS.iload X25.here hx rfl (hb hby at_106) rfl k) ?_
          show own_Go p e below s _ _ _ (T25.setTop (mkF m 108 #[.val (.int p0), .val (.int p1), .val (.int (0 : Int32)), .val (.ref w0), .val (.int (p0.toInt8.toInt32)), .val (.int ((p0.toInt8.toInt32) &&& (255 : Int32))), .val (.int (0 : Int32)), .val (.int (1 : Int32))] [(.int (0 : Int32)), (.int (0 : Int32))]))
          refine own_via (fun _ k => XS.icmpNo X25.here hx rfl (hb hby at_108) rfl (teq (by decide : (0 : Int32) = (0 : Int32))).2 k) ?_
          show own_Go p e below s _ _ _ (T25.setTop (mkF m 111 #[.val (.int p0), .val (.int p1), .val (.int (0 : Int32)), .val (.ref w0), .val (.int (p0.toInt8.toInt32)), .val (.int ((p0.toInt8.toInt32) &&& (255 : Int32))), .val (.int (0 : Int32)), .val (.int (1 : Int32))] []))
          refine own_via (fun _ k => XS.iload X25.here hx rfl (hb hby at_111) rfl k) ?_
          show own_Go p e below s _ _ _ (T25.setTop (mkF m 113 #[.val (.int p0), .val (.int p1), .val (.int (0 : Int32)), .val (.ref w0), .val (.int (p0.toInt8.toInt32)), .val (.int ((p0.toInt8.toInt32) &&& (255 : Int32))), .val (.int (0 : Int32)), .val (.int (1 : Int32))] [(.int (1 : Int32))]))
          refine own_via (fun _ k => XS.ifNo X25.here hx rfl (hb hby at_113) rfl ((if0 _ _).trans (feq (by decide : ¬ ((1 : Int32) = (0 : Int32)))).1) k) ?_
          show own_Go p e below s _ _ _ (T25.setTop (mkF m 116 #[.val (.int p0), .val (.int p1), .val (.int (0 : Int32)), .val (.ref w0), .val (.int (p0.toInt8.toInt32)), .val (.int ((p0.toInt8.toInt32) &&& (255 : Int32))), .val (.int (0 : Int32)), .val (.int (1 : Int32))] []))
          refine own_via (fun _ k => XS.iconst X25.here hx rfl (hb hby at_116) k) ?_
          show own_Go p e below s _ _ _ (T25.setTop (mkF m 117 #[.val (.int p0), .val (.int p1), .val (.int (0 : Int32)), .val (.ref w0), .val (.int (p0.toInt8.toInt32)), .val (.int ((p0.toInt8.toInt32) &&& (255 : Int32))), .val (.int (0 : Int32)), .val (.int (1 : Int32))] [(.int (1 : Int32))]))
          refine own_via (fun _ k => XS.goto X25.here hx rfl (pc0 := 117) (pc' := 121) rfl (hb hby at_117) (by decide) (by decide) k) ?_
          show own_Go p e below s _ _ _ (T25.setTop (mkF m 121 #[.val (.int p0), .val (.int p1), .val (.int (0 : Int32)), .val (.ref w0), .val (.int (p0.toInt8.toInt32)), .val (.int ((p0.toInt8.toInt32) &&& (255 : Int32))), .val (.int (0 : Int32)), .val (.int (1 : Int32))] [(.int (1 : Int32))]))
          exact own_retZ X25 hx hlk (t := .boolean) Bd.returns (by simp) (hb hby at_121) (z' := (1 : Int32)) (by first | rfl | decide) ⟨rfl, (Fr.nil n0)⟩ (by decide) (by decide)
set_option maxRecDepth 65536 in
set_option maxHeartbeats 40000000 in
theorem comes_1 {Post : Tables → Env → Array Value → State → Outcome → State → Prop} (hpost : ∀ tb e args s v u, (limb_1_1.after args s (.returned v) u = true ∧ limb_1_2.after args s (.returned v) u = true ∧ True) → FrameEnd s (.returned v) u (Jvm.fieldLocs frame_1_writes args s ++ Jvm.arrayLocs frame_1_arrays args s ++ Jvm.staticLocs frame_1_statics s) 0 0 → Post tb e args s (.returned v) u) :
    ArmFor flags0 classFile x code maxLocals ret World_1 tables_1 room_1 Calls_1 rest_1 Pre_1 Post := by
  intro l hfl _ _ p e ha hc hk s m args below hf hA hF happ hP
  obtain ⟨hcalls, hrest, hpre⟩ := hP
  obtain ⟨-, -, -, hnamed, -, -, -, hat⟩ := (Spec.applies_iff hf).mp happ
  obtain ⟨hg, hn⟩ := and_e (Cond.before_iff.mp (show (Jvm.Cond.and given_1 narrow_1).before args s = true from hpre))
  obtain ⟨g0, hg0⟩ := and_e hg
  obtain ⟨g1, hg1⟩ := and_e hg0
  obtain ⟨u0, u1, rfl⟩ : ∃ u0 u1 : Value, args = #[u0, u1] := by
    have hs : args.size = 2 := by simpa [Cond.value, given_1] using g0
    obtain ⟨L⟩ := args
    match L, hs with
    | [u0, u1], _ => exact ⟨u0, u1, rfl⟩
  have hw := fun d (hd : d ∈ tables_1) => atoms_spec (ws := Jvm.Cond.code x code maxLocals ret :: tables_1) hat d (List.mem_cons_of_mem _ hd)
  obtain ⟨i0, ei0⟩ := is_v g1
  obtain rfl : u0 = (.int i0) := Option.some.inj ei0
  obtain ⟨i1, ei1⟩ := is_v hg1
  obtain rfl : u1 = (.int i1) := Option.some.inj ei1
  obtain ⟨t0, hn0⟩ := and_e hn
  obtain ⟨t1, hn1⟩ := and_e hn0
  obtain ⟨t2, hn2⟩ := and_e hn1
  obtain ⟨w0, v_w0⟩ := exa_v t0
  have E_w0 := Exa.start v_w0 t0
  have S_w0 := Sta.start v_w0 (Or.inr ⟨(hw _ (List.mem_of_getElem? (i := 1) rfl)), (hw _ (List.mem_of_getElem? (i := 2) rfl))⟩)
  obtain ⟨w1, v_w1⟩ := exa_v t1
  have E_w1 := Exa.start v_w1 t1
  have S_w1 := Sta.start v_w1 (Or.inr ⟨(hw _ (List.mem_of_getElem? (i := 1) rfl)), (hw _ (List.mem_of_getElem? (i := 9) rfl))⟩)
  have F_w0_ordinal := own_fld v_w0 t2
  have F_w1_ordinal := own_fld v_w1 hn2
  have n_w0_w1 : ¬ (w0 = w1) := Fld.ne F_w0_ordinal F_w1_ordinal (by decide)
  obtain ⟨n, o, h1, h2, h3, _, L, rfl, ⟨rfl, N⟩, hq⟩ := rm0 l s _ hw tables_1 i0 i1 w0 w1 s.heap s.heap.size (Nat.le_refl _) ⟨S_w0, S_w1, E_w0, E_w1, F_w0_ordinal, F_w1_ordinal, n_w0_w1⟩ p e ha hc hk s m _ below hf ((Spec.applies_iff_loose hf).mp happ).1 ⟨rfl, State.Warmed39.refl s, rfl⟩ trivial
  refine ⟨n, _, h1, h2, h3, hpost _ _ _ _ _ _ ⟨Cond.after_iff.mpr rfl, Cond.after_iff.mpr (eq_i res_at (Term.int_eval (1)) rfl), trivial⟩ ⟨hq.1, hq.2.1, (hq.2.2.sift fun y hy => Or.inr (N y hy)).mono (by decide) (by decide)⟩⟩
theorem main_1_1 : Claimed_1_1 := comes_1 fun _ _ _ _ _ _ h hF => ⟨h.1, hF⟩
theorem main_1_2 : Claimed_1_2 := comes_1 fun _ _ _ _ _ _ h hF => ⟨h.2.1, hF⟩
end Jvm.Pilot.@@N@@
namespace Jvm.Pilot.@@N@@
open Jvm Jvm.ClassFile Sem Op Lib Jvm.Free Jvm.Stand Jvm.Pilot.@@N@@.Jvm.D
/-! MADE BY PROGRAM (witnessworld.py) out of the Statement's table words and the real class files: 16 classes; the members and pool entries that the words name. The judged class is class 1, her method 1. -/
namespace start1
open Jvm.ClassFile
def u (s : String) : CpInfo := .utf8 (stringToUtf16 s)
/-- a pool by its gaps: so many unusable entries, then the entry; so many at the end -/
def gap : Nat → List CpInfo → List CpInfo
  | 0, r => r
  | n + 1, r => .unusable :: gap n r
def poolList (es : List (Nat × CpInfo)) (last : Nat) : List CpInfo := es.foldr (fun e r => gap e.1 (e.2 :: r)) (gap last [])
def pool (es : List (Nat × CpInfo)) (last : Nat) : Array CpInfo := ⟨poolList es last⟩
def fileOf (pool : Array CpInfo) (this : Nat) (attrs : Array Attribute := #[]) (ms : Array MethodInfo := #[]) (fl : Nat := 33) (sup : Nat := 0) (ifs : Array Nat := #[]) (fds : Array FieldInfo := #[]) : ClassFile where
  minorVersion := 0
  majorVersion := 65
  constantPool := pool
  accessFlags := fl
  thisClass := this
  superClass := sup
  interfaces := ifs
  fields := fds
  methods := ms
  attributes := attrs
def plain (name : String) (sup : Option ClassId) : Class where
  name := name
  kind := .ordinary
  loader := none
  accessFlags := 33
  super := sup
  interfaces := #[]
  cf := none
  fields := #[]
  methods := #[]
  instanceTypes := #[]
  staticTypes := #[]
  resolved := #[]
  callSites := []
  init := .initialized
  statics := none
  mirror := none

def pool0 : Array CpInfo := pool [(5, u "<init>"), (0, u "()V"), (1, .class_ 10), (1, u "java/lang/Object")] 113

def k0m0 : Method := { name := "<init>", desc := "()V", sig := { parameters := [], returnType := none }, accessFlags := 1, code := none }
/-- java/lang/Object -/
def k0 : Class := { plain "java/lang/Object" none with
  accessFlags := 33
  interfaces := #[]
  cf := some (fileOf pool0 8 #[] #[{ accessFlags := 1, nameIndex := 5, descriptorIndex := 6, attributes := #[] }] 33 0 #[] #[])
  fields := #[]
  methods := #[k0m0]
  instanceTypes := #[]
  staticTypes := #[]
  resolved := Array.replicate 124 none
  statics := none }

def pool1 : Array CpInfo := pool [(2, .class_ 4), (1, u "java/lang/Object"), (0, u "<init>"), (0, u "()V"), (0, .fieldref 8 9), (0, .class_ 10), (0, .nameAndType 11 12), (0, u "com/example/loudmark/loudmark/audio/G711Law"), (0, u "MU_LAW"), (0, u "Lcom/example/loudmark/loudmark/audio/G711Law;"), (0, .fieldref 8 14), (0, .nameAndType 15 12), (0, u "A_LAW"), (0, .methodref 8 17), (0, .nameAndType 18 19), (0, u "encode"), (0, u "(S)B"), (0, .methodref 8 21), (0, .nameAndType 22 23), (0, u "encodesZero"), (0, u "(B)Z"), (0, .class_ 25), (0, u "com/example/loudmark/loudmark/audio/G711LawEncodesZeroPinLaw"), (2, u "law"), (0, u "(II)Z")] 3

def k1m0 : Method := { name := "<init>", desc := "()V", sig := { parameters := [], returnType := none }, accessFlags := 2, code := none }
def k1c1 : Code := { maxStack := 3, maxLocals := 8, code := code, exceptionTable := #[], attributes := #[] }
def k1m1 : Method := { name := "law", desc := "(II)Z", sig := { parameters := [.int, .int], returnType := some .boolean }, accessFlags := 9, code := some k1c1 }
/-- com/example/loudmark/loudmark/audio/G711LawEncodesZeroPinLaw -/
def k1 : Class := { plain "com/example/loudmark/loudmark/audio/G711LawEncodesZeroPinLaw" (some 0) with
  accessFlags := 49
  interfaces := #[]
  cf := some (fileOf pool1 24 #[] #[{ accessFlags := 2, nameIndex := 5, descriptorIndex := 6, attributes := #[] }, { accessFlags := 9, nameIndex := 28, descriptorIndex := 29, attributes := #[] }] 49 2 #[] #[])
  fields := #[]
  methods := #[k1m0, k1m1]
  instanceTypes := #[]
  staticTypes := #[]
  resolved := Array.replicate 33 none
  statics := none }

def pool2 : Array CpInfo := pool [(1, .class_ 2), (0, u "java/lang/constant/Constable"), (0, .class_ 4), (0, u "java/lang/Object")] 6

/-- java/lang/constant/Constable -/
def k2 : Class := { plain "java/lang/constant/Constable" (some 0) with
  accessFlags := 1537
  interfaces := #[]
  cf := some (fileOf pool2 1 #[] #[] 1537 3 #[] #[])
  fields := #[]
  methods := #[]
  instanceTypes := #[]
  staticTypes := #[]
  resolved := Array.replicate 11 none
  statics := none }

def pool3 : Array CpInfo := pool [(1, .class_ 2), (0, u "java/lang/Comparable"), (0, .class_ 4), (0, u "java/lang/Object")] 7

/-- java/lang/Comparable -/
def k3 : Class := { plain "java/lang/Comparable" (some 0) with
  accessFlags := 1537
  interfaces := #[]
  cf := some (fileOf pool3 1 #[] #[] 1537 3 #[] #[])
  fields := #[]
  methods := #[]
  instanceTypes := #[]
  staticTypes := #[]
  resolved := Array.replicate 12 none
  statics := none }

def pool4 : Array CpInfo := pool [(1, .class_ 2), (0, u "java/io/Serializable"), (0, .class_ 4), (0, u "java/lang/Object")] 2

/-- java/io/Serializable -/
def k4 : Class := { plain "java/io/Serializable" (some 0) with
  accessFlags := 1537
  interfaces := #[]
  cf := some (fileOf pool4 1 #[] #[] 1537 3 #[] #[])
  fields := #[]
  methods := #[]
  instanceTypes := #[]
  staticTypes := #[]
  resolved := Array.replicate 7 none
  statics := none }

def pool5 : Array CpInfo := pool [(2, .class_ 4), (1, u "java/lang/Enum"), (0, u "name"), (0, u "Ljava/lang/String;"), (2, u "ordinal"), (0, u "I"), (1, .class_ 14), (1, u "java/lang/Object"), (4, u "hash"), (86, .class_ 108), (1, u "java/lang/Enum$EnumDesc"), (2, .class_ 112), (0, u "java/lang/constant/Constable"), (0, .class_ 114), (0, u "java/lang/Comparable"), (0, .class_ 116), (0, u "java/io/Serializable")] 87

/-- java/lang/Enum -/
def k5 : Class := { plain "java/lang/Enum" (some 0) with
  accessFlags := 1057
  interfaces := #[2, 3, 4]
  cf := some (fileOf pool5 2 #[.nestMembers #[106]] #[] 1057 12 #[111, 113, 115] #[{ accessFlags := 18, nameIndex := 5, descriptorIndex := 6, attributes := #[] }, { accessFlags := 18, nameIndex := 9, descriptorIndex := 10, attributes := #[] }, { accessFlags := 2, nameIndex := 19, descriptorIndex := 10, attributes := #[] }])
  fields := #[{ name := "name", type := (.object "java/lang/String"), accessFlags := 18, slot := 0, constantValue := 0 }, { name := "ordinal", type := .int, accessFlags := 18, slot := 1, constantValue := 0 }, { name := "hash", type := .int, accessFlags := 2, slot := 2, constantValue := 0 }]
  methods := #[]
  instanceTypes := #[(.object "java/lang/String"), .int, .int]
  staticTypes := #[]
  resolved := Array.replicate 204 none
  statics := none }

def pool6 : Array CpInfo := pool [(1, .class_ 2), (0, u "com/example/loudmark/loudmark/audio/G711Law"), (0, .fieldref 1 4), (0, .nameAndType 5 6), (0, u "MU_LAW"), (0, u "Lcom/example/loudmark/loudmark/audio/G711Law;"), (2, u "A_LAW"), (2, u "$VALUES"), (0, u "[Lcom/example/loudmark/loudmark/audio/G711Law;"), (6, .class_ 22), (1, u "java/lang/Enum"), (8, u "payloadType"), (0, u "I"), (2, u "overload"), (24, .methodref 61 62), (0, .class_ 63), (0, .nameAndType 64 65), (0, u "java/lang/Math"), (0, u "abs"), (0, u "(I)I"), (0, .methodref 61 67), (0, .nameAndType 68 69), (0, u "min"), (0, u "(II)I"), (0, .methodref 1 71), (0, .nameAndType 72 65), (0, u "segment"), (2, .methodref 61 76), (0, .nameAndType 77 69), (0, u "max"), (8, u "encode"), (0, u "(S)B"), (0, .class_ 89), (0, u "java/lang/Integer"), (0, .methodref 88 91), (0, .nameAndType 92 65), (0, u "numberOfLeadingZeros"), (6, u "encodesZero"), (0, u "(B)Z"), (14, u "SAMPLE_RATE"), (2, u "MU_LAW_BIAS"), (1, u "MU_LAW_CLIP"), (1, u "A_LAW_INVERT"), (1, u "SIGN_BIT")] 47

def k6c0 : Code := { maxStack := 3, maxLocals := 6, code := prog_2_method_6_code, exceptionTable := #[], attributes := #[] }
def k6m0 : Method := { name := "encode", desc := "(S)B", sig := { parameters := [.short], returnType := some .byte }, accessFlags := 1, code := some k6c0 }
def k6c1 : Code := { maxStack := 3, maxLocals := 1, code := prog_2_method_8_code, exceptionTable := #[], attributes := #[] }
def k6m1 : Method := { name := "segment", desc := "(I)I", sig := { parameters := [.int], returnType := some .int }, accessFlags := 10, code := some k6c1 }
def k6c2 : Code := { maxStack := 3, maxLocals := 3, code := prog_2_method_10_code, exceptionTable := #[], attributes := #[] }
def k6m2 : Method := { name := "encodesZero", desc := "(B)Z", sig := { parameters := [.byte], returnType := some .boolean }, accessFlags := 1, code := some k6c2 }
/-- com/example/loudmark/loudmark/audio/G711Law -/
def k6 : Class := { plain "com/example/loudmark/loudmark/audio/G711Law" (some 5) with
  accessFlags := 16433
  interfaces := #[]
  cf := some (fileOf pool6 1 #[] #[{ accessFlags := 1, nameIndex := 86, descriptorIndex := 87, attributes := #[] }, { accessFlags := 10, nameIndex := 72, descriptorIndex := 65, attributes := #[] }, { accessFlags := 1, nameIndex := 99, descriptorIndex := 100, attributes := #[] }] 16433 20 #[] #[{ accessFlags := 16409, nameIndex := 5, descriptorIndex := 6, attributes := #[] }, { accessFlags := 16409, nameIndex := 9, descriptorIndex := 6, attributes := #[] }, { accessFlags := 25, nameIndex := 115, descriptorIndex := 32, attributes := #[] }, { accessFlags := 26, nameIndex := 118, descriptorIndex := 32, attributes := #[] }, { accessFlags := 26, nameIndex := 120, descriptorIndex := 32, attributes := #[] }, { accessFlags := 26, nameIndex := 122, descriptorIndex := 32, attributes := #[] }, { accessFlags := 26, nameIndex := 124, descriptorIndex := 32, attributes := #[] }, { accessFlags := 18, nameIndex := 31, descriptorIndex := 32, attributes := #[] }, { accessFlags := 18, nameIndex := 35, descriptorIndex := 32, attributes := #[] }, { accessFlags := 4122, nameIndex := 12, descriptorIndex := 13, attributes := #[] }])
  fields := #[{ name := "MU_LAW", type := (.object "com/example/loudmark/loudmark/audio/G711Law"), accessFlags := 16409, slot := 0, constantValue := 0 }, { name := "A_LAW", type := (.object "com/example/loudmark/loudmark/audio/G711Law"), accessFlags := 16409, slot := 1, constantValue := 0 }, { name := "SAMPLE_RATE", type := .int, accessFlags := 25, slot := 2, constantValue := 0 }, { name := "MU_LAW_BIAS", type := .int, accessFlags := 26, slot := 3, constantValue := 0 }, { name := "MU_LAW_CLIP", type := .int, accessFlags := 26, slot := 4, constantValue := 0 }, { name := "A_LAW_INVERT", type := .int, accessFlags := 26, slot := 5, constantValue := 0 }, { name := "SIGN_BIT", type := .int, accessFlags := 26, slot := 6, constantValue := 0 }, { name := "payloadType", type := .int, accessFlags := 18, slot := 3, constantValue := 0 }, { name := "overload", type := .int, accessFlags := 18, slot := 4, constantValue := 0 }, { name := "$VALUES", type := (.array (.object "com/example/loudmark/loudmark/audio/G711Law")), accessFlags := 4122, slot := 7, constantValue := 0 }]
  methods := #[k6m0, k6m1, k6m2]
  instanceTypes := #[(.object "java/lang/String"), .int, .int, .int, .int]
  staticTypes := #[(.object "com/example/loudmark/loudmark/audio/G711Law"), (.object "com/example/loudmark/loudmark/audio/G711Law"), .int, .int, .int, .int, .int, (.array (.object "com/example/loudmark/loudmark/audio/G711Law"))]
  resolved := Array.replicate 172 none
  statics := some 0 }

def pool7 : Array CpInfo := pool [(1, .class_ 2), (0, u "java/lang/Math"), (1, .class_ 6), (1, u "java/lang/Object"), (0, u "<init>"), (0, u "()V"), (89, .class_ 100), (1, u "java/lang/Math$RandomNumberGeneratorHolder"), (23, u "abs"), (34, u "(I)I"), (12, u "negativeZeroFloatBits"), (0, u "J"), (2, u "negativeZeroDoubleBits"), (21, u "max"), (2, u "min"), (43, u "$assertionsDisabled"), (0, u "Z"), (88, u "(II)I"), (2, u "twoToTheDoubleScaleDown"), (0, u "D"), (4, u "twoToTheDoubleScaleUp"), (9, u "E"), (3, u "PI"), (2, u "TAU"), (2, u "DEGREES_TO_RADIANS"), (0, u "RADIANS_TO_DEGREES")] 94

def k7m0 : Method := { name := "<init>", desc := "()V", sig := { parameters := [], returnType := none }, accessFlags := 2, code := none }
def k7c1 : Code := { maxStack := 1, maxLocals := 1, code := jdk_29_method_59_code, exceptionTable := #[], attributes := #[] }
def k7m1 : Method := { name := "abs", desc := "(I)I", sig := { parameters := [.int], returnType := some .int }, accessFlags := 9, code := some k7c1 }
def k7c2 : Code := { maxStack := 2, maxLocals := 2, code := jdk_29_method_65_code, exceptionTable := #[], attributes := #[] }
def k7m2 : Method := { name := "max", desc := "(II)I", sig := { parameters := [.int, .int], returnType := some .int }, accessFlags := 9, code := some k7c2 }
def k7c3 : Code := { maxStack := 2, maxLocals := 2, code := jdk_29_method_69_code, exceptionTable := #[], attributes := #[] }
def k7m3 : Method := { name := "min", desc := "(II)I", sig := { parameters := [.int, .int], returnType := some .int }, accessFlags := 9, code := some k7c3 }
/-- java/lang/Math -/
def k7 : Class := { plain "java/lang/Math" (some 0) with
  accessFlags := 49
  interfaces := #[]
  cf := some (fileOf pool7 1 #[.nestMembers #[98]] #[{ accessFlags := 2, nameIndex := 7, descriptorIndex := 8, attributes := #[] }, { accessFlags := 9, nameIndex := 124, descriptorIndex := 159, attributes := #[] }, { accessFlags := 9, nameIndex := 198, descriptorIndex := 335, attributes := #[] }, { accessFlags := 9, nameIndex := 201, descriptorIndex := 335, attributes := #[] }] 49 4 #[] #[{ accessFlags := 25, nameIndex := 354, descriptorIndex := 339, attributes := #[] }, { accessFlags := 25, nameIndex := 358, descriptorIndex := 339, attributes := #[] }, { accessFlags := 25, nameIndex := 361, descriptorIndex := 339, attributes := #[] }, { accessFlags := 26, nameIndex := 364, descriptorIndex := 339, attributes := #[] }, { accessFlags := 26, nameIndex := 365, descriptorIndex := 339, attributes := #[] }, { accessFlags := 26, nameIndex := 172, descriptorIndex := 173, attributes := #[] }, { accessFlags := 26, nameIndex := 176, descriptorIndex := 173, attributes := #[] }, { accessFlags := 8, nameIndex := 344, descriptorIndex := 339, attributes := #[] }, { accessFlags := 8, nameIndex := 338, descriptorIndex := 339, attributes := #[] }, { accessFlags := 4120, nameIndex := 245, descriptorIndex := 246, attributes := #[] }])
  fields := #[{ name := "E", type := .double, accessFlags := 25, slot := 0, constantValue := 0 }, { name := "PI", type := .double, accessFlags := 25, slot := 1, constantValue := 0 }, { name := "TAU", type := .double, accessFlags := 25, slot := 2, constantValue := 0 }, { name := "DEGREES_TO_RADIANS", type := .double, accessFlags := 26, slot := 3, constantValue := 0 }, { name := "RADIANS_TO_DEGREES", type := .double, accessFlags := 26, slot := 4, constantValue := 0 }, { name := "negativeZeroFloatBits", type := .long, accessFlags := 26, slot := 5, constantValue := 0 }, { name := "negativeZeroDoubleBits", type := .long, accessFlags := 26, slot := 6, constantValue := 0 }, { name := "twoToTheDoubleScaleUp", type := .double, accessFlags := 8, slot := 7, constantValue := 0 }, { name := "twoToTheDoubleScaleDown", type := .double, accessFlags := 8, slot := 8, constantValue := 0 }, { name := "$assertionsDisabled", type := .boolean, accessFlags := 4120, slot := 9, constantValue := 0 }]
  methods := #[k7m0, k7m1, k7m2, k7m3]
  instanceTypes := #[]
  staticTypes := #[.double, .double, .double, .double, .double, .long, .long, .double, .double, .boolean]
  resolved := Array.replicate 460 none
  statics := none }

def pool8 : Array CpInfo := pool [(2, .class_ 4), (1, u "java/lang/Object"), (0, u "<init>"), (0, u "()V"), (1, .class_ 10), (1, u "java/lang/Number"), (2, .class_ 14), (0, u "java/io/Serializable"), (0, u "serialVersionUID"), (0, u "J")] 20

def k8m0 : Method := { name := "<init>", desc := "()V", sig := { parameters := [], returnType := none }, accessFlags := 1, code := none }
/-- java/lang/Number -/
def k8 : Class := { plain "java/lang/Number" (some 0) with
  accessFlags := 1057
  interfaces := #[4]
  cf := some (fileOf pool8 8 #[] #[{ accessFlags := 1, nameIndex := 5, descriptorIndex := 6, attributes := #[] }] 1057 2 #[13] #[{ accessFlags := 26, nameIndex := 15, descriptorIndex := 16, attributes := #[] }])
  fields := #[{ name := "serialVersionUID", type := .long, accessFlags := 26, slot := 0, constantValue := 0 }]
  methods := #[k8m0]
  instanceTypes := #[]
  staticTypes := #[.long]
  resolved := Array.replicate 37 none
  statics := none }

def pool9 : Array CpInfo := pool [(1, .class_ 2), (0, u "java/lang/constant/ConstantDesc"), (0, .class_ 4), (0, u "java/lang/Object")] 32

/-- java/lang/constant/ConstantDesc -/
def k9 : Class := { plain "java/lang/constant/ConstantDesc" (some 0) with
  accessFlags := 1537
  interfaces := #[]
  cf := some (fileOf pool9 1 #[] #[] 1537 3 #[] #[])
  fields := #[]
  methods := #[]
  instanceTypes := #[]
  staticTypes := #[]
  resolved := Array.replicate 37 none
  statics := none }

def pool10 : Array CpInfo := pool [(1, .class_ 2), (0, u "java/lang/Integer"), (16, u "digits"), (0, u "[C"), (32, u "numberOfLeadingZeros"), (0, u "(I)I"), (30, u "DigitOnes"), (0, u "[B"), (2, u "DigitTens"), (99, .class_ 190), (0, u "java/lang/Integer$IntegerCache"), (3, u "I"), (8, .class_ 204), (0, u "java/lang/Number"), (2, u "value"), (56, .integer 65536), (37, u "TYPE"), (0, u "Ljava/lang/Class;"), (0, .class_ 305), (0, u "java/lang/Comparable"), (0, .class_ 307), (0, u "java/lang/constant/Constable"), (0, .class_ 309), (0, u "java/lang/constant/ConstantDesc"), (0, u "MIN_VALUE"), (1, u "MAX_VALUE"), (3, u "SIZE"), (1, u "BYTES"), (1, u "serialVersionUID"), (0, u "J")] 131

def k10c0 : Code := { maxStack := 3, maxLocals := 2, code := jdk_33_method_47_code, exceptionTable := #[], attributes := #[] }
def k10m0 : Method := { name := "numberOfLeadingZeros", desc := "(I)I", sig := { parameters := [.int], returnType := some .int }, accessFlags := 9, code := some k10c0 }
/-- java/lang/Integer -/
def k10 : Class := { plain "java/lang/Integer" (some 8) with
  accessFlags := 49
  interfaces := #[3, 2, 9]
  cf := some (fileOf pool10 1 #[.nestMembers #[189]] #[{ accessFlags := 9, nameIndex := 53, descriptorIndex := 54, attributes := #[] }] 49 203 #[304, 306, 308] #[{ accessFlags := 25, nameIndex := 310, descriptorIndex := 194, attributes := #[] }, { accessFlags := 25, nameIndex := 312, descriptorIndex := 194, attributes := #[] }, { accessFlags := 25, nameIndex := 302, descriptorIndex := 303, attributes := #[] }, { accessFlags := 24, nameIndex := 19, descriptorIndex := 20, attributes := #[] }, { accessFlags := 24, nameIndex := 89, descriptorIndex := 86, attributes := #[] }, { accessFlags := 24, nameIndex := 85, descriptorIndex := 86, attributes := #[] }, { accessFlags := 18, nameIndex := 207, descriptorIndex := 194, attributes := #[] }, { accessFlags := 25, nameIndex := 316, descriptorIndex := 194, attributes := #[] }, { accessFlags := 25, nameIndex := 318, descriptorIndex := 194, attributes := #[] }, { accessFlags := 26, nameIndex := 320, descriptorIndex := 321, attributes := #[] }])
  fields := #[{ name := "MIN_VALUE", type := .int, accessFlags := 25, slot := 0, constantValue := 0 }, { name := "MAX_VALUE", type := .int, accessFlags := 25, slot := 1, constantValue := 0 }, { name := "TYPE", type := (.object "java/lang/Class"), accessFlags := 25, slot := 2, constantValue := 0 }, { name := "digits", type := (.array .char), accessFlags := 24, slot := 3, constantValue := 0 }, { name := "DigitTens", type := (.array .byte), accessFlags := 24, slot := 4, constantValue := 0 }, { name := "DigitOnes", type := (.array .byte), accessFlags := 24, slot := 5, constantValue := 0 }, { name := "value", type := .int, accessFlags := 18, slot := 0, constantValue := 0 }, { name := "SIZE", type := .int, accessFlags := 25, slot := 6, constantValue := 0 }, { name := "BYTES", type := .int, accessFlags := 25, slot := 7, constantValue := 0 }, { name := "serialVersionUID", type := .long, accessFlags := 26, slot := 8, constantValue := 0 }]
  methods := #[k10m0]
  instanceTypes := #[.int]
  staticTypes := #[.int, .int, (.object "java/lang/Class"), (.array .char), (.array .byte), (.array .byte), .int, .int, .long]
  resolved := Array.replicate 453 none
  statics := none }

def pool11 : Array CpInfo := pool [(1, u "java/lang/Cloneable"), (0, .class_ 1), (0, u "java/lang/Object"), (0, .class_ 3)] 3

/-- java/lang/Cloneable -/
def k11 : Class := { plain "java/lang/Cloneable" (some 0) with
  accessFlags := 1537
  interfaces := #[]
  cf := some (fileOf pool11 2 #[] #[] 1537 4 #[] #[])
  fields := #[]
  methods := #[]
  instanceTypes := #[]
  staticTypes := #[]
  resolved := Array.replicate 8 none
  statics := none }

/-- the primitive byte -/
def k12 : Class := { plain "byte" none with kind := .primitive 'B', accessFlags := 0x411 }
/-- [B -/
def k13 : Class := { plain "[B" (some 0) with kind := .array 12 .byte, interfaces := #[11, 4], accessFlags := 1041 }

/-- the primitive int -/
def k14 : Class := { plain "int" none with kind := .primitive 'I', accessFlags := 0x411 }
/-- [I -/
def k15 : Class := { plain "[I" (some 0) with kind := .array 14 .int, interfaces := #[11, 4], accessFlags := 1041 }

def heap : Heap := #[{ cls := 6, slots := #[.ref 2, .ref 1, .int 0, .int 0, .int 0, .int 0, .int 0, .null], vm := .statics 6 },
  { cls := 6, slots := #[.null, .int 1, .int 0, .int 0, .int 0], vm := .none },
  { cls := 6, slots := #[.null, .int 0, .int 0, .int 0, .int 0], vm := .none }]
def classes : Array Class := #[k0, k1, k2, k3, k4, k5, k6, k7, k8, k9, k10, k11, k12, k13, k14, k15]
def interned : List (Array UInt16 × Addr) := []
def slotsUsed : Nat := 18
def theMethod : MethodId := ⟨1, 1⟩
def args0 : Array Value := #[.int 5, .int 5]
def aboutOver (below : List Frame) : State where
  vm := { classes := classes, interned := interned.toArray }
  heap := heap
  slotsUsed := slotsUsed
  threads := #[{ frames := .invoking theMethod args0 :: below }]
def below0 : List Frame := [.native { method := ⟨0, 0⟩, args := #[] }]
def about1 : State := aboutOver below0
def p0 : Program := .bare "" "" ""
def e0 : Env := launch0.env 0 0 0
theorem w_frames : about1.frames = Frame.invoking theMethod args0 :: below0 := rfl
set_option maxRecDepth 65536 in
theorem w_args : argsFit about1.vm theMethod args0 = true := by decide +kernel
set_option maxRecDepth 65536 in
theorem w_heap : heapFits about1 = true := by decide +kernel
set_option maxRecDepth 65536 in
theorem w_runnable : about1.curStatus? = some .runnable := by decide +kernel
set_option maxRecDepth 65536 in
theorem w_alone : about1.alone = true := by decide +kernel
set_option maxRecDepth 65536 in
theorem w_named : about1.methodNamed? x = some theMethod := by decide +kernel
set_option maxRecDepth 65536 in
theorem w_hears : about1.hears theMethod below0 = true := by decide +kernel
set_option maxRecDepth 65536 in
theorem w_ripe : about1.ripe theMethod args0 below0 = true := by decide +kernel
theorem w_running : about1.status = .running := rfl
set_option maxRecDepth 65536 in
theorem w_room : about1.hasRoom e0.platform room_1 = true :=
  launch0.hasRoom_least _ room_1 (by decide +kernel) (by decide +kernel) (by decide +kernel) (by decide +kernel) (by decide +kernel) (by decide +kernel)
theorem allAtoms_all (ts : List Jvm.Cond) (a : Array Jvm.Value) (st : Jvm.State) : (allAtoms ts).before a st = ts.all (fun c => c.before a st) := by
  induction ts with
  | nil => rfl
  | cons c t ih =>
    show (Jvm.Cond.and c (allAtoms t)).before a st = _
    rw [Jvm.Cond.before_and, ih, List.all_cons]
def words1 : List Jvm.Cond := Jvm.Cond.code x code maxLocals ret :: tables_1
/-- a 'code' word, met by the world's own term for the bytes: nothing is compared byte by byte -/
theorem code_word {y : MethodName} {bytes : ByteArray} {mx : Nat} {rt : Option FieldType} {a : Array Value} {s : State} {m : MethodId} {meth : Method} {c : Code} (h1 : s.methodNamed? y = some m) (h2 : s.vm.method? m = some meth) (h3 : meth.code = some c) (h4 : c.code = bytes)
    (h5 : (c.maxLocals == mx && c.exceptionTable.isEmpty && decide (c.maxStack ≤ mostOperands) && decide (meth.sig.returnType = rt) && !meth.locks && decide (parseMethodDescriptor y.desc = some meth.sig)) = true) : (Jvm.Cond.code y bytes mx rt).before a s = true := by
  simp only [Bool.and_eq_true, beq_iff_eq, Bool.not_eq_true', decide_eq_true_eq] at h5
  obtain ⟨⟨⟨⟨⟨g1, g2⟩, g3⟩, g4⟩, g5⟩, g6⟩ := h5
  simp [Cond.before, Cond.holds, Cond.value, h1, h2, h3, h4, g1, g2, g3, g4, g5, g6]
def isCode : Jvm.Cond → Bool
  | .code _ _ _ _ => true
  | _ => false
theorem all_split {L : List Jvm.Cond} {P : Jvm.Cond → Bool} (h1 : L.all (fun c => isCode c || P c) = true) (h2 : ∀ c ∈ L.filter isCode, P c = true) : L.all P = true := by
  refine List.all_eq_true.mpr fun c hc => ?_
  have h := List.all_eq_true.mp h1 c hc
  rcases Bool.eq_false_or_eq_true (isCode c) with hi | hi
  · exact h2 c (List.mem_filter.mpr ⟨hc, hi⟩)
  · simpa [hi] using h
set_option maxRecDepth 65536 in
theorem w_c0 : (Jvm.Cond.code x code maxLocals ret).before args0 about1 = true := code_word (m := ⟨1, 1⟩) (meth := k1m1) (c := k1c1) (by decide +kernel) rfl rfl rfl (by decide +kernel)
set_option maxRecDepth 65536 in
theorem w_c1 : (Jvm.Cond.code ({ cls := "com/example/loudmark/loudmark/audio/G711Law", name := "encode", desc := "(S)B" } : Jvm.MethodName) prog_2_method_6_code (6 : Nat) (Option.some Jvm.ClassFile.FieldType.byte)).before args0 about1 = true := code_word (m := ⟨6, 0⟩) (meth := k6m0) (c := k6c0) (by decide +kernel) rfl rfl rfl (by decide +kernel)
set_option maxRecDepth 65536 in
theorem w_c2 : (Jvm.Cond.code ({ cls := "java/lang/Math", name := "abs", desc := "(I)I" } : Jvm.MethodName) jdk_29_method_59_code (1 : Nat) (Option.some Jvm.ClassFile.FieldType.int)).before args0 about1 = true := code_word (m := ⟨7, 1⟩) (meth := k7m1) (c := k7c1) (by decide +kernel) rfl rfl rfl (by decide +kernel)
set_option maxRecDepth 65536 in
theorem w_c3 : (Jvm.Cond.code ({ cls := "java/lang/Math", name := "min", desc := "(II)I" } : Jvm.MethodName) jdk_29_method_69_code (2 : Nat) (Option.some Jvm.ClassFile.FieldType.int)).before args0 about1 = true := code_word (m := ⟨7, 3⟩) (meth := k7m3) (c := k7c3) (by decide +kernel) rfl rfl rfl (by decide +kernel)
set_option maxRecDepth 65536 in
theorem w_c4 : (Jvm.Cond.code ({ cls := "com/example/loudmark/loudmark/audio/G711Law", name := "segment", desc := "(I)I" } : Jvm.MethodName) prog_2_method_8_code (1 : Nat) (Option.some Jvm.ClassFile.FieldType.int)).before args0 about1 = true := code_word (m := ⟨6, 1⟩) (meth := k6m1) (c := k6c1) (by decide +kernel) rfl rfl rfl (by decide +kernel)
set_option maxRecDepth 65536 in
theorem w_c5 : (Jvm.Cond.code ({ cls := "java/lang/Integer", name := "numberOfLeadingZeros", desc := "(I)I" } : Jvm.MethodName) jdk_33_method_47_code (2 : Nat) (Option.some Jvm.ClassFile.FieldType.int)).before args0 about1 = true := code_word (m := ⟨10, 0⟩) (meth := k10m0) (c := k10c0) (by decide +kernel) rfl rfl rfl (by decide +kernel)
set_option maxRecDepth 65536 in
theorem w_c6 : (Jvm.Cond.code ({ cls := "java/lang/Math", name := "max", desc := "(II)I" } : Jvm.MethodName) jdk_29_method_65_code (2 : Nat) (Option.some Jvm.ClassFile.FieldType.int)).before args0 about1 = true := code_word (m := ⟨7, 2⟩) (meth := k7m2) (c := k7c2) (by decide +kernel) rfl rfl rfl (by decide +kernel)
set_option maxRecDepth 65536 in
theorem w_c7 : (Jvm.Cond.code ({ cls := "com/example/loudmark/loudmark/audio/G711Law", name := "encodesZero", desc := "(B)Z" } : Jvm.MethodName) prog_2_method_10_code (3 : Nat) (Option.some Jvm.ClassFile.FieldType.boolean)).before args0 about1 = true := code_word (m := ⟨6, 2⟩) (meth := k6m2) (c := k6c2) (by decide +kernel) rfl rfl rfl (by decide +kernel)
def codes1 : List Jvm.Cond := [Jvm.Cond.code x code maxLocals ret, Jvm.Cond.code ({ cls := "com/example/loudmark/loudmark/audio/G711Law", name := "encode", desc := "(S)B" } : Jvm.MethodName) prog_2_method_6_code (6 : Nat) (Option.some Jvm.ClassFile.FieldType.byte), Jvm.Cond.code ({ cls := "java/lang/Math", name := "abs", desc := "(I)I" } : Jvm.MethodName) jdk_29_method_59_code (1 : Nat) (Option.some Jvm.ClassFile.FieldType.int), Jvm.Cond.code ({ cls := "java/lang/Math", name := "min", desc := "(II)I" } : Jvm.MethodName) jdk_29_method_69_code (2 : Nat) (Option.some Jvm.ClassFile.FieldType.int), Jvm.Cond.code ({ cls := "com/example/loudmark/loudmark/audio/G711Law", name := "segment", desc := "(I)I" } : Jvm.MethodName) prog_2_method_8_code (1 : Nat) (Option.some Jvm.ClassFile.FieldType.int), Jvm.Cond.code ({ cls := "java/lang/Integer", name := "numberOfLeadingZeros", desc := "(I)I" } : Jvm.MethodName) jdk_33_method_47_code (2 : Nat) (Option.some Jvm.ClassFile.FieldType.int), Jvm.Cond.code ({ cls := "java/lang/Math", name := "max", desc := "(II)I" } : Jvm.MethodName) jdk_29_method_65_code (2 : Nat) (Option.some Jvm.ClassFile.FieldType.int), Jvm.Cond.code ({ cls := "com/example/loudmark/loudmark/audio/G711Law", name := "encodesZero", desc := "(B)Z" } : Jvm.MethodName) prog_2_method_10_code (3 : Nat) (Option.some Jvm.ClassFile.FieldType.boolean)]
set_option maxRecDepth 65536 in
theorem codes_eq : words1.filter isCode = codes1 := rfl
theorem w_codes : ∀ c ∈ words1.filter isCode, c.before args0 about1 = true := by
  rw [codes_eq]
  intro c hc
  simp only [codes1, List.mem_cons, List.not_mem_nil, or_false] at hc
  rcases hc with rfl | rfl | rfl | rfl | rfl | rfl | rfl | rfl
  · exact w_c0
  · exact w_c1
  · exact w_c2
  · exact w_c3
  · exact w_c4
  · exact w_c5
  · exact w_c6
  · exact w_c7
set_option maxRecDepth 65536 in
theorem w_t1 : (words1.take 24).all (fun c => isCode c || c.before args0 about1) = true := by decide +kernel
set_option maxRecDepth 65536 in
theorem w_t2 : (words1.drop 24).all (fun c => isCode c || c.before args0 about1) = true := by decide +kernel
theorem w_tables : (allAtoms (Jvm.Cond.code x code maxLocals ret :: tables_1)).before args0 about1 = true := by
  rw [allAtoms_all]
  show words1.all (fun c => c.before args0 about1) = true
  refine all_split ?_ w_codes
  rw [← List.take_append_drop 24 words1, List.all_append, w_t1, w_t2]
  rfl
set_option maxRecDepth 65536 in
theorem w_case : (Jvm.Cond.and given_1 narrow_1).before args0 about1 = true := by decide +kernel
theorem w_applies : (headSpec (Jvm.Cond.code x code maxLocals ret :: tables_1) room_1).applies x e0.platform about1 = true :=
  (Spec.applies_iff w_frames).mpr ⟨w_running, w_runnable, w_alone, w_named, w_hears, w_ripe, w_room, w_tables⟩
theorem atStart : AtStart classFile x code maxLocals ret World_1 tables_1 room_1 Calls_1 rest_1 Pre_1 launch0 p0 e0 about1 theMethod args0 below0 :=
  ⟨lists_1, trivial, launch0.admits_env _ _ _, launch0.least_env, fairChoices_fair.cas, fairChoices_fair.clock, w_frames, w_args, w_heap, w_applies, trivial, trivial, w_case⟩
end start1
theorem witness_1 : WitnessClaimed_1 := ⟨start1.p0, start1.e0, start1.about1, start1.theMethod, start1.args0, start1.below0, start1.atStart⟩
end Jvm.Pilot.@@N@@
