import JvmDerived
import JvmDerived.Pilot.@@N@@Statement
import JvmDerived.Pilot.@@N@@Code
set_option linter.unusedVariables false
set_option linter.unusedSimpArgs false
namespace Jvm.Pilot.@@N@@
open Jvm Jvm.ClassFile Sem Op Lib Jvm.Free Jvm.Stand Jvm.LawKit Jvm.RoadKit Bundle Jvm.Pilot.@@N@@.Jvm.D
def own_Go (p : Program) (e : Env) (below : List Frame) (s : State) (Q : Option Value → Heap → List Loc → Prop) (kc ks : Nat) (A : State) : Prop :=
  ∃ s₂ o, Steps p.tables e below A s₂ ∧ s₂.status = .running ∧ Ended s₂ below o ∧ ∃ v L, o = .returned v ∧ Q v s₂.heap L ∧ FrameEnd s o s₂ L kc ks
section OwnLayer
variable {p : Program} {l : Launch} {e : Env} {R : Room} {s : State} {m : MethodId} {args : Array Value} {below : List Frame} {meth : Method} {c : Code} {T : State} {locs : List Loc} {cells slots : Nat}
variable {Q : Option Value → Heap → List Loc → Prop} {kc ks : Nat} {A B : State}
theorem own_via (h : ∀ t, Steps p.tables e below B t → Steps p.tables e below A t) (g : own_Go p e below s Q kc ks B) : own_Go p e below s Q kc ks A := by
  obtain ⟨t, o, h1, r⟩ := g
  exact ⟨t, o, h _ h1, r⟩
theorem own_tr (h : Steps p.tables e below A B) (g : own_Go p e below s Q kc ks B) : own_Go p e below s Q kc ks A := by
  obtain ⟨t, o, h1, r⟩ := g
  exact ⟨t, o, h.trans h1, r⟩
theorem own_end (X : Stand p l e R s m args below meth c T locs cells slots) (hlk : meth.locks = false) {v : Option Value} (hv : meth.sig.returnType = none → v = none) {A : State}
    (hstep : ∀ fs, (∀ (f : JFrame) (acts : List Action), f.method = m → f.locked = none → f.entered = [] → (doReturn e (T.setTop f) acts v).1 = T.setFrames fs) → Steps p.tables e below A (T.setFrames fs))
    (hQ : Q v T.heap locs) (hc : cells ≤ kc) (hs : slots ≤ ks) : own_Go p e below s Q kc ks A := by
  obtain ⟨fs, hr, hrun, hended, hW, hsame⟩ := X.leave (v := v) hv hlk
  exact ⟨_, _, hstep fs hr, hrun, hended, _, _, rfl, hQ, ⟨_, rfl⟩, hW, hsame.mono hc hs⟩
theorem own_retZ (X : Stand p l e R s m args below meth c T locs cells slots) (hx : p.tables.exec = Jvm.exec) (hlk : meth.locks = false) {pc : Nat} {Ls : Array Slot} {z z' : Int32} {t : FieldType} {rest : List Value} (hret : meth.sig.returnType = some t) (ht : t = .boolean ∨ t = .byte ∨ t = .char ∨ t = .short)
    (hd : decode c.code pc = .ok (.ireturn, 1)) (hz : nar t z = z') (hQ : Q (some (.int z')) T.heap locs) (hc : cells ≤ kc) (hs : slots ≤ ks) : own_Go p e below s Q kc ks (T.setTop (mkF m pc Ls (.int z :: rest))) := by
  subst hz
  exact own_end X hlk (fun h => by rw [hret] at h; cases h) (fun fs hr => retN X hx hret ht hd hr) hQ hc hs
theorem own_retO (X : Stand p l e R s m args below meth c T locs cells slots) (hx : p.tables.exec = Jvm.exec) (hlk : meth.locks = false) {pc : Nat} {Ls : Array Slot} {w : Value} {t : FieldType} {i : Instr} {rest : List Value} (hret : meth.sig.returnType = some t) (hn : narrow t w = w)
    (hi : (i = .ireturn ∧ (t = .int ∨ t = .boolean ∨ t = .byte ∨ t = .char ∨ t = .short) ∧ ∃ z, w = .int z) ∨ (i = .lreturn ∧ t = .long ∧ ∃ z, w = .long z) ∨ (i = .dreturn ∧ t = .double ∧ ∃ z, w = .double z) ∨ (i = .freturn ∧ t = .float ∧ ∃ z, w = .float z) ∨ (i = .areturn ∧ t.isReference = true ∧ w.isRef = true))
    (hd : decode c.code pc = .ok (i, 1)) (hQ : Q (some w) T.heap locs) (hc : cells ≤ kc) (hs : slots ≤ ks) : own_Go p e below s Q kc ks (T.setTop (mkF m pc Ls (w :: rest))) :=
  own_end X hlk (fun h => by rw [hret] at h; cases h) (fun fs hr => retOut X hx hret hn hi hd hr) hQ hc hs
theorem own_retI (X : Stand p l e R s m args below meth c T locs cells slots) (hx : p.tables.exec = Jvm.exec) (hlk : meth.locks = false) {pc : Nat} {Ls : Array Slot} {z : Int32} {rest : List Value} (hret : meth.sig.returnType = some .int)
    (hd : decode c.code pc = .ok (.ireturn, 1)) (hQ : Q (some (.int z)) T.heap locs) (hc : cells ≤ kc) (hs : slots ≤ ks) : own_Go p e below s Q kc ks (T.setTop (mkF m pc Ls (.int z :: rest))) :=
  own_retO X hx hlk hret rfl (Or.inl ⟨rfl, Or.inl rfl, _, rfl⟩) hd hQ hc hs
theorem own_retJ (X : Stand p l e R s m args below meth c T locs cells slots) (hx : p.tables.exec = Jvm.exec) (hlk : meth.locks = false) {pc : Nat} {Ls : Array Slot} {z : Int64} {rest : List Value} (hret : meth.sig.returnType = some .long)
    (hd : decode c.code pc = .ok (.lreturn, 1)) (hQ : Q (some (.long z)) T.heap locs) (hc : cells ≤ kc) (hs : slots ≤ ks) : own_Go p e below s Q kc ks (T.setTop (mkF m pc Ls (.long z :: rest))) :=
  own_retO X hx hlk hret rfl (Or.inr (Or.inl ⟨rfl, rfl, _, rfl⟩)) hd hQ hc hs
theorem own_retR (X : Stand p l e R s m args below meth c T locs cells slots) (hx : p.tables.exec = Jvm.exec) (hlk : meth.locks = false) {pc : Nat} {Ls : Array Slot} {w : Value} {t : FieldType} {rest : List Value} (hret : meth.sig.returnType = some t) (ht : t.isReference = true) (hw : w.isRef = true)
    (hd : decode c.code pc = .ok (.areturn, 1)) (hQ : Q (some w) T.heap locs) (hc : cells ≤ kc) (hs : slots ≤ ks) : own_Go p e below s Q kc ks (T.setTop (mkF m pc Ls (w :: rest))) :=
  own_retO X hx hlk hret (by cases t <;> first | (cases ht; done) | rfl) (Or.inr (Or.inr (Or.inr (Or.inr ⟨rfl, ht, hw⟩)))) hd hQ hc hs
theorem own_retV (X : Stand p l e R s m args below meth c T locs cells slots) (hx : p.tables.exec = Jvm.exec) (hlk : meth.locks = false) {pc : Nat} {Ls : Array Slot} (hret : meth.sig.returnType = none)
    (hd : decode c.code pc = .ok (.return_, 1)) (hQ : Q none T.heap locs) (hc : cells ≤ kc) (hs : slots ≤ ks) : own_Go p e below s Q kc ks (T.setTop (mkF m pc Ls [])) :=
  own_end X hlk (fun _ => rfl) (fun fs hr => X.returnOut hx hret hd hr) hQ hc hs
end OwnLayer
theorem own_eqv {args : Array Value} {Z : State} {t : Term} {k : Int32} (h : (Jvm.Cond.eq t (Term.int k)).value args Z none Z [] = some true) : t.eval args Z none [] Z = some (.int k) := by
  simp only [Jvm.Cond.value, Term.eval] at h
  cases ht : t.eval args Z none [] Z with
  | none => simp [ht] at h
  | some x => cases x <;> simp [ht] at h ⊢; exact h
theorem own_eqvL {args : Array Value} {Z : State} {t : Term} {k : Int64} (h : (Jvm.Cond.eq t (Term.long k)).value args Z none Z [] = some true) : t.eval args Z none [] Z = some (.long k) := by
  simp only [Jvm.Cond.value, Term.eval] at h
  cases ht : t.eval args Z none [] Z with
  | none => simp [ht] at h
  | some x => cases x <;> simp [ht] at h ⊢; exact h
theorem own_fld {args : Array Value} {Z : State} {t : Term} {C n d : String} {a : Addr} {k : Int32} (ev : t.eval args Z none [] Z = some (.ref a)) (h : (Jvm.Cond.eq (Term.field t C n d) (Term.int k)).value args Z none Z [] = some true) : Fld Z Z.heap a C n d (.int k) :=
  Fld.start ((fld_at ev).symm.trans (own_eqv h))
theorem own_fldL {args : Array Value} {Z : State} {t : Term} {C n d : String} {a : Addr} {k : Int64} (ev : t.eval args Z none [] Z = some (.ref a)) (h : (Jvm.Cond.eq (Term.field t C n d) (Term.long k)).value args Z none Z [] = some true) : Fld Z Z.heap a C n d (.long k) :=
  Fld.start ((fld_at ev).symm.trans (own_eqvL h))
theorem own_mod (x : Int32) (n : Int32) (k : Int) (hn : n.toInt = k) (hk : 0 < k) : 0 ≤ ((x &&& 2147483647) % n).toInt ∧ ((x &&& 2147483647) % n).toInt < k := by
  have h := (c_and x 2147483647 (by decide)).1
  rw [Int32.toInt_mod, hn, Int.tmod_eq_emod_of_nonneg h]
  exact ⟨Int.emod_nonneg _ (by omega), Int.emod_lt_of_pos _ hk⟩
theorem own_z {x y : Int32} (h : x.toInt = y.toInt) : x = y := Int32.toInt_inj.mp h
theorem own_mod3 (x : Int32) : (x &&& 2147483647) % 3 = 0 ∨ (x &&& 2147483647) % 3 = 1 ∨ (x &&& 2147483647) % 3 = 2 := by
  have h := own_mod x 3 3 rfl (by decide)
  simp only [← Int32.toInt_inj, show (0 : Int32).toInt = 0 from rfl, show (1 : Int32).toInt = 1 from rfl, show (2 : Int32).toInt = 2 from rfl]
  omega
theorem own_mod5 (x : Int32) : (x &&& 2147483647) % 5 = 0 ∨ (x &&& 2147483647) % 5 = 1 ∨ (x &&& 2147483647) % 5 = 2 ∨ (x &&& 2147483647) % 5 = 3 ∨ (x &&& 2147483647) % 5 = 4 := by
  have h := own_mod x 5 5 rfl (by decide)
  simp only [← Int32.toInt_inj, show (0 : Int32).toInt = 0 from rfl, show (1 : Int32).toInt = 1 from rfl, show (2 : Int32).toInt = 2 from rfl, show (3 : Int32).toInt = 3 from rfl, show (4 : Int32).toInt = 4 from rfl]
  omega
theorem own_mod6 (x : Int32) : (x &&& 2147483647) % 6 = 0 ∨ (x &&& 2147483647) % 6 = 1 ∨ (x &&& 2147483647) % 6 = 2 ∨ (x &&& 2147483647) % 6 = 3 ∨ (x &&& 2147483647) % 6 = 4 ∨ (x &&& 2147483647) % 6 = 5 := by
  have h := own_mod x 6 6 rfl (by decide)
  simp only [← Int32.toInt_inj, show (0 : Int32).toInt = 0 from rfl, show (1 : Int32).toInt = 1 from rfl, show (2 : Int32).toInt = 2 from rfl, show (3 : Int32).toInt = 3 from rfl, show (4 : Int32).toInt = 4 from rfl, show (5 : Int32).toInt = 5 from rfl]
  omega
theorem own_and1 (x : Int32) : x &&& 1 = 0 ∨ x &&& 1 = 1 := by
  have h := c_and x 1 (by decide)
  simp only [← Int32.toInt_inj, show (0 : Int32).toInt = 0 from rfl, show (1 : Int32).toInt = 1 from rfl] at *
  omega
theorem own_and3 (x : Int32) : x &&& 3 = 0 ∨ x &&& 3 = 1 ∨ x &&& 3 = 2 ∨ x &&& 3 = 3 := by
  have h := c_and x 3 (by decide)
  simp only [← Int32.toInt_inj, show (0 : Int32).toInt = 0 from rfl, show (1 : Int32).toInt = 1 from rfl, show (2 : Int32).toInt = 2 from rfl, show (3 : Int32).toInt = 3 from rfl] at *
  omega
theorem own_low (P : Int32 → Int32 → Prop) (h : ∀ i : Fin 256, P (Int32.ofInt (if i.val < 128 then (i.val : Int) else (i.val : Int) - 256)) (Int32.ofInt (i.val : Int))) (x : Int32) : P x.toInt8.toInt32 (x &&& 255) := by
  have h1 := c_mask x 255 8 (by decide) (by decide)
  have h2 := c_i2b x
  have hlt : (x.toInt % 256).toNat < 256 := by omega
  have k := h ⟨(x.toInt % 256).toNat, hlt⟩
  have e1 : Int32.ofInt (((x.toInt % 256).toNat : Nat) : Int) = x &&& 255 := by
    rw [← Int32.toInt_inj, Int32.toInt_ofInt]
    have : (((x.toInt % 256).toNat : Nat) : Int) = x.toInt % 256 := by omega
    rw [this, h1, show Int32.size = 4294967296 from rfl, Int.bmod_eq_of_le (by omega) (by omega)]
    rfl
  have e2 : Int32.ofInt (if (x.toInt % 256).toNat < 128 then (((x.toInt % 256).toNat : Nat) : Int) else (((x.toInt % 256).toNat : Nat) : Int) - 256) = x.toInt8.toInt32 := by
    rw [← Int32.toInt_inj, Int32.toInt_ofInt]
    rw [show Int32.size = 4294967296 from rfl, Int.bmod_eq_of_le (by split <;> omega) (by split <;> omega)]
    split <;> omega
  simp only [e1] at k
  rw [e2] at k
  exact k
theorem own_form (x : Int32) : x &&& (15 ^^^ (-1)) = 4096 ↔ ¬ x < 4096 ∧ ¬ 4111 < x := by
  have e : (15 ^^^ (-1) : Int32) = -16 := by decide
  rw [e]
  have h1 := c_mask x 15 4 (by decide) (by decide)
  have h2 := c_mask (x &&& -16) 15 4 (by decide) (by decide)
  have h3 : (x &&& -16) &&& 15 = 0 := by
    rw [Int32.and_assoc, show (-16 &&& 15 : Int32) = 0 by decide, Int32.and_zero]
  rw [h3, show (0 : Int32).toInt = 0 from rfl] at h2
  have h4 : (x &&& -16) ||| (x &&& 15) = x := by
    have q : (x.toBitVec &&& (-16 : Int32).toBitVec) ||| (x.toBitVec &&& (15 : Int32).toBitVec) = x.toBitVec := by
      rw [← BitVec.and_or_distrib_left, show ((-16 : Int32).toBitVec ||| (15 : Int32).toBitVec) = BitVec.allOnes 32 by decide, BitVec.and_allOnes]
    exact Int32.toBitVec_inj.mp (by rw [Int32.toBitVec_or, Int32.toBitVec_and, Int32.toBitVec_and]; exact q)
  have h5 := c_or (x &&& -16) (x &&& 15) 4 (by decide) 16 (by decide) (by omega) (by omega) (by omega)
  rw [h4] at h5
  have h6 := rng32 (x &&& -16)
  have h7 := rng32 x
  simp only [Int32.lt_iff_toInt_lt, ← Int32.toInt_inj, show (4096 : Int32).toInt = 4096 from rfl, show (4111 : Int32).toInt = 4111 from rfl]
  omega
def own_K (Z : State) (h0 : Heap) (w0 : Addr) (w1 : Addr) : Prop :=
  Sta Z h0 "com/example/loudmark/loudmark/rtp/ExtensionForm" "ONE_BYTE" "Lcom/example/loudmark/loudmark/rtp/ExtensionForm;" (.ref w0) ∧
  Sta Z h0 "com/example/loudmark/loudmark/rtp/ExtensionForm" "TWO_BYTE" "Lcom/example/loudmark/loudmark/rtp/ExtensionForm;" (.ref w1) ∧
  Exa Z h0 w0 "com/example/loudmark/loudmark/rtp/ExtensionForm" ∧
  Exa Z h0 w1 "com/example/loudmark/loudmark/rtp/ExtensionForm" ∧
  Fld Z h0 w0 "com/example/loudmark/loudmark/rtp/ExtensionForm" "profile" "I" (.int (48862 : Int32)) ∧
  Fld Z h0 w1 "com/example/loudmark/loudmark/rtp/ExtensionForm" "appBits" "I" (.int (15 : Int32)) ∧
  Fld Z h0 w1 "com/example/loudmark/loudmark/rtp/ExtensionForm" "profile" "I" (.int (4096 : Int32)) ∧
  Fld Z h0 w0 "com/example/loudmark/loudmark/rtp/ExtensionForm" "appBits" "I" (.int (0 : Int32)) ∧
  ¬ (w0 = w1)
theorem pn0 : plainName "com/example/loudmark/loudmark/rtp/ExtensionFormForProfilePinLaw" = true := by first | (simp [plainName, overriddenIn]; done) | decide +kernel
theorem pn1 : plainName "com/example/loudmark/loudmark/rtp/ExtensionForm" = true := by first | (simp [plainName, overriddenIn]; done) | decide +kernel
theorem pd0 : parseMethodDescriptor "(II)I" = some ⟨[.int, .int], some .int⟩ := by decide +kernel
theorem pd1 : parseMethodDescriptor "(I)Lcom/example/loudmark/loudmark/rtp/ExtensionForm;" = some ⟨[.int], some (.object "com/example/loudmark/loudmark/rtp/ExtensionForm")⟩ := by decide +kernel
theorem d1_0 : decode method_2_code 0 = .ok (.iload_n 1, 1) := by decide +kernel
theorem d1_1 : decode method_2_code 1 = .ok (.bipush 7, 2) := by decide +kernel
theorem d1_3 : decode method_2_code 3 = .ok (.iand, 1) := by decide +kernel
theorem d1_4 : decode method_2_code 4 = .ok (.istore_n 2, 1) := by decide +kernel
theorem d1_5 : decode method_2_code 5 = .ok (.iload_n 2, 1) := by decide +kernel
theorem d1_6 : decode method_2_code 6 = .ok (.iconst 1, 1) := by decide +kernel
theorem d1_7 : decode method_2_code 7 = .ok (.if_icmp .ne 6, 3) := by decide +kernel
theorem d1_10 : decode method_2_code 10 = .ok (.ldc 7, 2) := by decide +kernel
theorem d1_12 : decode method_2_code 12 = .ok (.ireturn, 1) := by decide +kernel
theorem d1_13 : decode method_2_code 13 = .ok (.iload_n 2, 1) := by decide +kernel
theorem d1_14 : decode method_2_code 14 = .ok (.iconst 2, 1) := by decide +kernel
theorem d1_15 : decode method_2_code 15 = .ok (.if_icmp .ne 12, 3) := by decide +kernel
theorem d1_18 : decode method_2_code 18 = .ok (.sipush 4096, 3) := by decide +kernel
theorem d1_21 : decode method_2_code 21 = .ok (.iload_n 0, 1) := by decide +kernel
theorem d1_22 : decode method_2_code 22 = .ok (.bipush 15, 2) := by decide +kernel
theorem d1_24 : decode method_2_code 24 = .ok (.iand, 1) := by decide +kernel
theorem d1_25 : decode method_2_code 25 = .ok (.ior, 1) := by decide +kernel
theorem d1_26 : decode method_2_code 26 = .ok (.ireturn, 1) := by decide +kernel
theorem d1_27 : decode method_2_code 27 = .ok (.iload_n 2, 1) := by decide +kernel
theorem d1_28 : decode method_2_code 28 = .ok (.iconst 3, 1) := by decide +kernel
theorem d1_29 : decode method_2_code 29 = .ok (.if_icmp .ne 12, 3) := by decide +kernel
theorem d1_32 : decode method_2_code 32 = .ok (.sipush 4088, 3) := by decide +kernel
theorem d1_35 : decode method_2_code 35 = .ok (.iload_n 0, 1) := by decide +kernel
theorem d1_36 : decode method_2_code 36 = .ok (.bipush 31, 2) := by decide +kernel
theorem d1_38 : decode method_2_code 38 = .ok (.iand, 1) := by decide +kernel
theorem d1_39 : decode method_2_code 39 = .ok (.iadd, 1) := by decide +kernel
theorem d1_40 : decode method_2_code 40 = .ok (.ireturn, 1) := by decide +kernel
theorem d1_41 : decode method_2_code 41 = .ok (.iload_n 2, 1) := by decide +kernel
theorem d1_42 : decode method_2_code 42 = .ok (.iconst 4, 1) := by decide +kernel
theorem d1_43 : decode method_2_code 43 = .ok (.if_icmp .ne 13, 3) := by decide +kernel
theorem d1_46 : decode method_2_code 46 = .ok (.ldc 7, 2) := by decide +kernel
theorem d1_48 : decode method_2_code 48 = .ok (.iconst 1, 1) := by decide +kernel
theorem d1_49 : decode method_2_code 49 = .ok (.iload_n 0, 1) := by decide +kernel
theorem d1_50 : decode method_2_code 50 = .ok (.bipush 31, 2) := by decide +kernel
theorem d1_52 : decode method_2_code 52 = .ok (.iand, 1) := by decide +kernel
theorem d1_53 : decode method_2_code 53 = .ok (.ishl, 1) := by decide +kernel
theorem d1_54 : decode method_2_code 54 = .ok (.ixor, 1) := by decide +kernel
theorem d1_55 : decode method_2_code 55 = .ok (.ireturn, 1) := by decide +kernel
theorem d1_56 : decode method_2_code 56 = .ok (.iload_n 2, 1) := by decide +kernel
theorem d1_57 : decode method_2_code 57 = .ok (.iconst 5, 1) := by decide +kernel
theorem d1_58 : decode method_2_code 58 = .ok (.if_icmp .ne 21, 3) := by decide +kernel
theorem d1_61 : decode method_2_code 61 = .ok (.sipush 4096, 3) := by decide +kernel
theorem d1_64 : decode method_2_code 64 = .ok (.iload_n 0, 1) := by decide +kernel
theorem d1_65 : decode method_2_code 65 = .ok (.bipush 15, 2) := by decide +kernel
theorem d1_67 : decode method_2_code 67 = .ok (.iand, 1) := by decide +kernel
theorem d1_68 : decode method_2_code 68 = .ok (.ior, 1) := by decide +kernel
theorem d1_69 : decode method_2_code 69 = .ok (.iconst 1, 1) := by decide +kernel
theorem d1_70 : decode method_2_code 70 = .ok (.iload_n 0, 1) := by decide +kernel
theorem d1_71 : decode method_2_code 71 = .ok (.iconst 4, 1) := by decide +kernel
theorem d1_72 : decode method_2_code 72 = .ok (.iushr, 1) := by decide +kernel
theorem d1_73 : decode method_2_code 73 = .ok (.bipush 31, 2) := by decide +kernel
theorem d1_75 : decode method_2_code 75 = .ok (.iand, 1) := by decide +kernel
theorem d1_76 : decode method_2_code 76 = .ok (.ishl, 1) := by decide +kernel
theorem d1_77 : decode method_2_code 77 = .ok (.ixor, 1) := by decide +kernel
theorem d1_78 : decode method_2_code 78 = .ok (.ireturn, 1) := by decide +kernel
theorem d1_79 : decode method_2_code 79 = .ok (.iload_n 0, 1) := by decide +kernel
theorem d1_80 : decode method_2_code 80 = .ok (.ireturn, 1) := by decide +kernel
theorem d2_0 : decode prog_55_method_5_code 0 = .ok (.iload_n 0, 1) := by decide +kernel
theorem d2_1 : decode prog_55_method_5_code 1 = .ok (.getstatic 3, 3) := by decide +kernel
theorem d2_4 : decode prog_55_method_5_code 4 = .ok (.getfield 33, 3) := by decide +kernel
theorem d2_7 : decode prog_55_method_5_code 7 = .ok (.if_icmp .ne 10, 3) := by decide +kernel
theorem d2_10 : decode prog_55_method_5_code 10 = .ok (.getstatic 3, 3) := by decide +kernel
theorem d2_13 : decode prog_55_method_5_code 13 = .ok (.astore_n 1, 1) := by decide +kernel
theorem d2_14 : decode prog_55_method_5_code 14 = .ok (.goto 31, 3) := by decide +kernel
theorem d2_17 : decode prog_55_method_5_code 17 = .ok (.iload_n 0, 1) := by decide +kernel
theorem d2_18 : decode prog_55_method_5_code 18 = .ok (.getstatic 7, 3) := by decide +kernel
theorem d2_21 : decode prog_55_method_5_code 21 = .ok (.getfield 37, 3) := by decide +kernel
theorem d2_24 : decode prog_55_method_5_code 24 = .ok (.iconst (-1), 1) := by decide +kernel
theorem d2_25 : decode prog_55_method_5_code 25 = .ok (.ixor, 1) := by decide +kernel
theorem d2_26 : decode prog_55_method_5_code 26 = .ok (.iand, 1) := by decide +kernel
theorem d2_27 : decode prog_55_method_5_code 27 = .ok (.getstatic 7, 3) := by decide +kernel
theorem d2_30 : decode prog_55_method_5_code 30 = .ok (.getfield 33, 3) := by decide +kernel
theorem d2_33 : decode prog_55_method_5_code 33 = .ok (.if_icmp .ne 10, 3) := by decide +kernel
theorem d2_36 : decode prog_55_method_5_code 36 = .ok (.getstatic 7, 3) := by decide +kernel
theorem d2_39 : decode prog_55_method_5_code 39 = .ok (.astore_n 1, 1) := by decide +kernel
theorem d2_40 : decode prog_55_method_5_code 40 = .ok (.goto 5, 3) := by decide +kernel
theorem d2_43 : decode prog_55_method_5_code 43 = .ok (.aconst_null, 1) := by decide +kernel
theorem d2_44 : decode prog_55_method_5_code 44 = .ok (.astore_n 1, 1) := by decide +kernel
theorem d2_45 : decode prog_55_method_5_code 45 = .ok (.aload_n 1, 1) := by decide +kernel
theorem d2_46 : decode prog_55_method_5_code 46 = .ok (.areturn, 1) := by decide +kernel
def Q1_0 (x0 : Int32) (x1 : Int32) (w0 : Addr) (w1 : Addr) (h0 : Heap) (v : Option Value) (h : Heap) (L : List Loc) : Prop := L = [] ∧ h = h0 ∧ (∃ z : Int32, v = some (.int z))
set_option maxRecDepth 65536 in
set_option maxHeartbeats 40000000 in
theorem rm1_0 (l : Launch) (Z : State) (a0 : Array Value) (hw : ∀ d ∈ tables_1, d.before a0 Z = true) (ws : List Jvm.Cond) (x0 : Int32) (x1 : Int32) (w0 : Addr) (w1 : Addr) (h0 : Heap) (n0 : Nat) (Z0 : n0 ≤ h0.size) (K : own_K Z h0 w0 w1) :
    MetFree l (⟨"com/example/loudmark/loudmark/rtp/ExtensionFormForProfilePinLaw", "pick", "(II)I"⟩ : MethodName) (head1 (Jvm.Cond.code (⟨"com/example/loudmark/loudmark/rtp/ExtensionFormForProfilePinLaw", "pick", "(II)I"⟩ : MethodName) method_2_code 3 (some .int) :: ws) ({ frames := 0, cells := 0, slots := 0, locals := 0 } : Room)) (fun a U => a = #[(.int x0), (.int x1)] ∧ Z.Warmed39 U.vm ∧ U.heap = h0) (fun _ _ _ _ _ => True) (fun _ U o U' => ∃ v L, o = .returned v ∧ Q1_0 x0 x1 w0 w1 h0 v U'.heap L ∧ FrameEnd U o U' L ({ frames := 0, cells := 0, slots := 0, locals := 0 } : Room).cells ({ frames := 0, cells := 0, slots := 0, locals := 0 } : Room).slots) := by
  refine MetFree.of_bodySF (plainFor_of_name pn0) hisR ?_
  intro p e s m args below meth c s₁ Bd hml0 hP hK
  obtain ⟨rfl, hZ, hh⟩ := hP
  have hx := Bd.exec
  have hby := Bd.bytes
  have hml : c.maxLocals = 3 := hml0
  have hown : s.vm.findClass "com/example/loudmark/loudmark/rtp/ExtensionFormForProfilePinLaw" = some m.cls := findClass_of_methodNamed Bd.named
  have hnm := (name_of_methodNamed Bd.named Bd.method).1
  have hlk := Bd.notSynchronized
  have X0 : Stand p l e ({ frames := 0, cells := 0, slots := 0, locals := 0 } : Room) s m #[(.int x0), (.int x1)] below meth c s₁ [] 0 0 := Stand.of_body Bd
  have e0 : s₁.heap = h0 := by rw [← hh, Bd.state]; rfl
  have K0 := K
  obtain ⟨S_w0, S_w1, E_w0, E_w1, F_w0_profile, F_w1_appBits, F_w1_profile, F_w0_appBits, n_w0_w1⟩ := K
  show own_Go p e below s (Q1_0 x0 x1 w0 w1 h0) 0 0 (s₁.setTop (entryFrame m #[(.int x0), (.int x1)] 3))
  rw [show entryFrame m #[(.int x0), (.int x1)] 3 = mkF m 0 #[.val (.int x0), .val (.int x1), .unset] [] from by first | (simp [entryFrame, mkF, argsToLocals, Value.category]; done) | rfl]
  show own_Go p e below s _ _ _ (s₁.setTop (mkF m 0 #[.val (.int x0), .val (.int x1), .unset] []))
  refine own_via (fun _ k => XS.iloadN X0.here hx rfl (hb hby d1_0) rfl k) ?_
  show own_Go p e below s _ _ _ (s₁.setTop (mkF m 1 #[.val (.int x0), .val (.int x1), .unset] [(.int x1)]))
  refine own_via (fun _ k => XS.bipush X0.here hx rfl (hb hby d1_1) k) ?_
  show own_Go p e below s _ _ _ (s₁.setTop (mkF m 3 #[.val (.int x0), .val (.int x1), .unset] [(.int (7 : Int32)), (.int x1)]))
  refine own_via (fun _ k => XS.iand X0.here hx rfl (hb hby d1_3) rfl k) ?_
  show own_Go p e below s _ _ _ (s₁.setTop (mkF m 4 #[.val (.int x0), .val (.int x1), .unset] [(.int (x1 &&& (7 : Int32)))]))
  refine own_via (fun _ k => XS.istoreN X0.here hx rfl (hb hby d1_4) rfl (l' := #[.val (.int x0), .val (.int x1), .val (.int (x1 &&& (7 : Int32)))]) rfl k) ?_
  show own_Go p e below s _ _ _ (s₁.setTop (mkF m 5 #[.val (.int x0), .val (.int x1), .val (.int (x1 &&& (7 : Int32)))] []))
  refine own_via (fun _ k => XS.iloadN X0.here hx rfl (hb hby d1_5) rfl k) ?_
  show own_Go p e below s _ _ _ (s₁.setTop (mkF m 6 #[.val (.int x0), .val (.int x1), .val (.int (x1 &&& (7 : Int32)))] [(.int (x1 &&& (7 : Int32)))]))
  refine own_via (fun _ k => XS.iconst X0.here hx rfl (hb hby d1_6) k) ?_
  show own_Go p e below s _ _ _ (s₁.setTop (mkF m 7 #[.val (.int x0), .val (.int x1), .val (.int (x1 &&& (7 : Int32)))] [(.int (1 : Int32)), (.int (x1 &&& (7 : Int32)))]))
  by_cases hc1 : (x1 &&& (7 : Int32)) = (1 : Int32)
  · refine own_via (fun _ k => XS.icmpNo X0.here hx rfl (hb hby d1_7) rfl (teq hc1).2 k) ?_
    show own_Go p e below s _ _ _ (s₁.setTop (mkF m 10 #[.val (.int x0), .val (.int x1), .val (.int (x1 &&& (7 : Int32)))] []))
    refine own_via (fun _ k => X0.ldcInt hx hown (mvT hZ (hw _ (List.mem_of_getElem? (i := 4) rfl))) (g := (mkF m 10 #[.val (.int x0), .val (.int x1), .val (.int (x1 &&& (7 : Int32)))] [])) rfl (hb hby d1_10) _ k) ?_
    show own_Go p e below s _ _ _ (s₁.setTop (mkF m 12 #[.val (.int x0), .val (.int x1), .val (.int (x1 &&& (7 : Int32)))] [(.int (48862 : Int32))]))
    exact own_retI X0 hx hlk Bd.returns (hb hby d1_12) ⟨rfl, e0, _, rfl⟩ (by decide) (by decide)
  · refine own_via (fun _ k => XS.icmpYes X0.here hx rfl (pc0 := 7) (pc' := 13) rfl (hb hby d1_7) rfl (feq hc1).2 (by decide) (by decide) k) ?_
    show own_Go p e below s _ _ _ (s₁.setTop (mkF m 13 #[.val (.int x0), .val (.int x1), .val (.int (x1 &&& (7 : Int32)))] []))
    refine own_via (fun _ k => XS.iloadN X0.here hx rfl (hb hby d1_13) rfl k) ?_
    show own_Go p e below s _ _ _ (s₁.setTop (mkF m 14 #[.val (.int x0), .val (.int x1), .val (.int (x1 &&& (7 : Int32)))] [(.int (x1 &&& (7 : Int32)))]))
    refine own_via (fun _ k => XS.iconst X0.here hx rfl (hb hby d1_14) k) ?_
    show own_Go p e below s _ _ _ (s₁.setTop (mkF m 15 #[.val (.int x0), .val (.int x1), .val (.int (x1 &&& (7 : Int32)))] [(.int (2 : Int32)), (.int (x1 &&& (7 : Int32)))]))
    by_cases hc2 : (x1 &&& (7 : Int32)) = (2 : Int32)
    · refine own_via (fun _ k => XS.icmpNo X0.here hx rfl (hb hby d1_15) rfl (teq hc2).2 k) ?_
      show own_Go p e below s _ _ _ (s₁.setTop (mkF m 18 #[.val (.int x0), .val (.int x1), .val (.int (x1 &&& (7 : Int32)))] []))
      refine own_via (fun _ k => XS.sipush X0.here hx rfl (hb hby d1_18) k) ?_
      show own_Go p e below s _ _ _ (s₁.setTop (mkF m 21 #[.val (.int x0), .val (.int x1), .val (.int (x1 &&& (7 : Int32)))] [(.int (4096 : Int32))]))
      refine own_via (fun _ k => XS.iloadN X0.here hx rfl (hb hby d1_21) rfl k) ?_
      show own_Go p e below s _ _ _ (s₁.setTop (mkF m 22 #[.val (.int x0), .val (.int x1), .val (.int (x1 &&& (7 : Int32)))] [(.int x0), (.int (4096 : Int32))]))
      refine own_via (fun _ k => XS.bipush X0.here hx rfl (hb hby d1_22) k) ?_
      show own_Go p e below s _ _ _ (s₁.setTop (mkF m 24 #[.val (.int x0), .val (.int x1), .val (.int (x1 &&& (7 : Int32)))] [(.int (15 : Int32)), (.int x0), (.int (4096 : Int32))]))
      refine own_via (fun _ k => XS.iand X0.here hx rfl (hb hby d1_24) rfl k) ?_
      show own_Go p e below s _ _ _ (s₁.setTop (mkF m 25 #[.val (.int x0), .val (.int x1), .val (.int (x1 &&& (7 : Int32)))] [(.int (x0 &&& (15 : Int32))), (.int (4096 : Int32))]))
      refine own_via (fun _ k => XS.ior X0.here hx rfl (hb hby d1_25) rfl k) ?_
      show own_Go p e below s _ _ _ (s₁.setTop (mkF m 26 #[.val (.int x0), .val (.int x1), .val (.int (x1 &&& (7 : Int32)))] [(.int ((4096 : Int32) ||| (x0 &&& (15 : Int32))))]))
      exact own_retI X0 hx hlk Bd.returns (hb hby d1_26) ⟨rfl, e0, _, rfl⟩ (by decide) (by decide)
    · refine own_via (fun _ k => XS.icmpYes X0.here hx rfl (pc0 := 15) (pc' := 27) rfl (hb hby d1_15) rfl (feq hc2).2 (by decide) (by decide) k) ?_
      show own_Go p e below s _ _ _ (s₁.setTop (mkF m 27 #[.val (.int x0), .val (.int x1), .val (.int (x1 &&& (7 : Int32)))] []))
      refine own_via (fun _ k => XS.iloadN X0.here hx rfl (hb hby d1_27) rfl k) ?_
      show own_Go p e below s _ _ _ (s₁.setTop (mkF m 28 #[.val (.int x0), .val (.int x1), .val (.int (x1 &&& (7 : Int32)))] [(.int (x1 &&& (7 : Int32)))]))
      refine own_via (fun _ k => XS.iconst X0.here hx rfl (hb hby d1_28) k) ?_
      show own_Go p e below s _ _ _ (s₁.setTop (mkF m 29 #[.val (.int x0), .val (.int x1), .val (.int (x1 &&& (7 : Int32)))] [(.int (3 : Int32)), (.int (x1 &&& (7 : Int32)))]))
      by_cases hc3 : (x1 &&& (7 : Int32)) = (3 : Int32)
      · refine own_via (fun _ k => XS.icmpNo X0.here hx rfl (hb hby d1_29) rfl (teq hc3).2 k) ?_
        show own_Go p e below s _ _ _ (s₁.setTop (mkF m 32 #[.val (.int x0), .val (.int x1), .val (.int (x1 &&& (7 : Int32)))] []))
        refine own_via (fun _ k => XS.sipush X0.here hx rfl (hb hby d1_32) k) ?_
        show own_Go p e below s _ _ _ (s₁.setTop (mkF m 35 #[.val (.int x0), .val (.int x1), .val (.int (x1 &&& (7 : Int32)))] [(.int (4088 : Int32))]))
        refine own_via (fun _ k => XS.iloadN X0.here hx rfl (hb hby d1_35) rfl k) ?_
        show own_Go p e below s _ _ _ (s₁.setTop (mkF m 36 #[.val (.int x0), .val (.int x1), .val (.int (x1 &&& (7 : Int32)))] [(.int x0), (.int (4088 : Int32))]))
        refine own_via (fun _ k => XS.bipush X0.here hx rfl (hb hby d1_36) k) ?_
        show own_Go p e below s _ _ _ (s₁.setTop (mkF m 38 #[.val (.int x0), .val (.int x1), .val (.int (x1 &&& (7 : Int32)))] [(.int (31 : Int32)), (.int x0), (.int (4088 : Int32))]))
        refine own_via (fun _ k => XS.iand X0.here hx rfl (hb hby d1_38) rfl k) ?_
        show own_Go p e below s _ _ _ (s₁.setTop (mkF m 39 #[.val (.int x0), .val (.int x1), .val (.int (x1 &&& (7 : Int32)))] [(.int (x0 &&& (31 : Int32))), (.int (4088 : Int32))]))
        refine own_via (fun _ k => XS.iadd X0.here hx rfl (hb hby d1_39) rfl k) ?_
        show own_Go p e below s _ _ _ (s₁.setTop (mkF m 40 #[.val (.int x0), .val (.int x1), .val (.int (x1 &&& (7 : Int32)))] [(.int ((4088 : Int32) + (x0 &&& (31 : Int32))))]))
        exact own_retI X0 hx hlk Bd.returns (hb hby d1_40) ⟨rfl, e0, _, rfl⟩ (by decide) (by decide)
      · refine own_via (fun _ k => XS.icmpYes X0.here hx rfl (pc0 := 29) (pc' := 41) rfl (hb hby d1_29) rfl (feq hc3).2 (by decide) (by decide) k) ?_
        show own_Go p e below s _ _ _ (s₁.setTop (mkF m 41 #[.val (.int x0), .val (.int x1), .val (.int (x1 &&& (7 : Int32)))] []))
        refine own_via (fun _ k => XS.iloadN X0.here hx rfl (hb hby d1_41) rfl k) ?_
        show own_Go p e below s _ _ _ (s₁.setTop (mkF m 42 #[.val (.int x0), .val (.int x1), .val (.int (x1 &&& (7 : Int32)))] [(.int (x1 &&& (7 : Int32)))]))
        refine own_via (fun _ k => XS.iconst X0.here hx rfl (hb hby d1_42) k) ?_
        show own_Go p e below s _ _ _ (s₁.setTop (mkF m 43 #[.val (.int x0), .val (.int x1), .val (.int (x1 &&& (7 : Int32)))] [(.int (4 : Int32)), (.int (x1 &&& (7 : Int32)))]))
        by_cases hc4 : (x1 &&& (7 : Int32)) = (4 : Int32)
        · refine own_via (fun _ k => XS.icmpNo X0.here hx rfl (hb hby d1_43) rfl (teq hc4).2 k) ?_
          show own_Go p e below s _ _ _ (s₁.setTop (mkF m 46 #[.val (.int x0), .val (.int x1), .val (.int (x1 &&& (7 : Int32)))] []))
          refine own_via (fun _ k => X0.ldcInt hx hown (mvT hZ (hw _ (List.mem_of_getElem? (i := 4) rfl))) (g := (mkF m 46 #[.val (.int x0), .val (.int x1), .val (.int (x1 &&& (7 : Int32)))] [])) rfl (hb hby d1_46) _ k) ?_
          show own_Go p e below s _ _ _ (s₁.setTop (mkF m 48 #[.val (.int x0), .val (.int x1), .val (.int (x1 &&& (7 : Int32)))] [(.int (48862 : Int32))]))
          refine own_via (fun _ k => XS.iconst X0.here hx rfl (hb hby d1_48) k) ?_
          show own_Go p e below s _ _ _ (s₁.setTop (mkF m 49 #[.val (.int x0), .val (.int x1), .val (.int (x1 &&& (7 : Int32)))] [(.int (1 : Int32)), (.int (48862 : Int32))]))
          refine own_via (fun _ k => XS.iloadN X0.here hx rfl (hb hby d1_49) rfl k) ?_
          show own_Go p e below s _ _ _ (s₁.setTop (mkF m 50 #[.val (.int x0), .val (.int x1), .val (.int (x1 &&& (7 : Int32)))] [(.int x0), (.int (1 : Int32)), (.int (48862 : Int32))]))
          refine own_via (fun _ k => XS.bipush X0.here hx rfl (hb hby d1_50) k) ?_
          show own_Go p e below s _ _ _ (s₁.setTop (mkF m 52 #[.val (.int x0), .val (.int x1), .val (.int (x1 &&& (7 : Int32)))] [(.int (31 : Int32)), (.int x0), (.int (1 : Int32)), (.int (48862 : Int32))]))
          refine own_via (fun _ k => XS.iand X0.here hx rfl (hb hby d1_52) rfl k) ?_
          show own_Go p e below s _ _ _ (s₁.setTop (mkF m 53 #[.val (.int x0), .val (.int x1), .val (.int (x1 &&& (7 : Int32)))] [(.int (x0 &&& (31 : Int32))), (.int (1 : Int32)), (.int (48862 : Int32))]))
          refine own_via (fun _ k => XS.ishl X0.here hx rfl (hb hby d1_53) rfl k) ?_
          show own_Go p e below s _ _ _ (s₁.setTop (mkF m 54 #[.val (.int x0), .val (.int x1), .val (.int (x1 &&& (7 : Int32)))] [(.int ((1 : Int32) <<< ((x0 &&& (31 : Int32)) &&& 31))), (.int (48862 : Int32))]))
          refine own_via (fun _ k => XS.ixor X0.here hx rfl (hb hby d1_54) rfl k) ?_
          show own_Go p e below s _ _ _ (s₁.setTop (mkF m 55 #[.val (.int x0), .val (.int x1), .val (.int (x1 &&& (7 : Int32)))] [(.int ((48862 : Int32) ^^^ ((1 : Int32) <<< ((x0 &&& (31 : Int32)) &&& 31))))]))
          exact own_retI X0 hx hlk Bd.returns (hb hby d1_55) ⟨rfl, e0, _, rfl⟩ (by decide) (by decide)
        · refine own_via (fun _ k => XS.icmpYes X0.here hx rfl (pc0 := 43) (pc' := 56) rfl (hb hby d1_43) rfl (feq hc4).2 (by decide) (by decide) k) ?_
          show own_Go p e below s _ _ _ (s₁.setTop (mkF m 56 #[.val (.int x0), .val (.int x1), .val (.int (x1 &&& (7 : Int32)))] []))
          refine own_via (fun _ k => XS.iloadN X0.here hx rfl (hb hby d1_56) rfl k) ?_
          show own_Go p e below s _ _ _ (s₁.setTop (mkF m 57 #[.val (.int x0), .val (.int x1), .val (.int (x1 &&& (7 : Int32)))] [(.int (x1 &&& (7 : Int32)))]))
          refine own_via (fun _ k => XS.iconst X0.here hx rfl (hb hby d1_57) k) ?_
          show own_Go p e below s _ _ _ (s₁.setTop (mkF m 58 #[.val (.int x0), .val (.int x1), .val (.int (x1 &&& (7 : Int32)))] [(.int (5 : Int32)), (.int (x1 &&& (7 : Int32)))]))
          by_cases hc5 : (x1 &&& (7 : Int32)) = (5 : Int32)
          · refine own_via (fun _ k => XS.icmpNo X0.here hx rfl (hb hby d1_58) rfl (teq hc5).2 k) ?_
            show own_Go p e below s _ _ _ (s₁.setTop (mkF m 61 #[.val (.int x0), .val (.int x1), .val (.int (x1 &&& (7 : Int32)))] []))
            refine own_via (fun _ k => XS.sipush X0.here hx rfl (hb hby d1_61) k) ?_
            show own_Go p e below s _ _ _ (s₁.setTop (mkF m 64 #[.val (.int x0), .val (.int x1), .val (.int (x1 &&& (7 : Int32)))] [(.int (4096 : Int32))]))
            refine own_via (fun _ k => XS.iloadN X0.here hx rfl (hb hby d1_64) rfl k) ?_
            show own_Go p e below s _ _ _ (s₁.setTop (mkF m 65 #[.val (.int x0), .val (.int x1), .val (.int (x1 &&& (7 : Int32)))] [(.int x0), (.int (4096 : Int32))]))
            refine own_via (fun _ k => XS.bipush X0.here hx rfl (hb hby d1_65) k) ?_
            show own_Go p e below s _ _ _ (s₁.setTop (mkF m 67 #[.val (.int x0), .val (.int x1), .val (.int (x1 &&& (7 : Int32)))] [(.int (15 : Int32)), (.int x0), (.int (4096 : Int32))]))
            refine own_via (fun _ k => XS.iand X0.here hx rfl (hb hby d1_67) rfl k) ?_
            show own_Go p e below s _ _ _ (s₁.setTop (mkF m 68 #[.val (.int x0), .val (.int x1), .val (.int (x1 &&& (7 : Int32)))] [(.int (x0 &&& (15 : Int32))), (.int (4096 : Int32))]))
            refine own_via (fun _ k => XS.ior X0.here hx rfl (hb hby d1_68) rfl k) ?_
            show own_Go p e below s _ _ _ (s₁.setTop (mkF m 69 #[.val (.int x0), .val (.int x1), .val (.int (x1 &&& (7 : Int32)))] [(.int ((4096 : Int32) ||| (x0 &&& (15 : Int32))))]))
            refine own_via (fun _ k => XS.iconst X0.here hx rfl (hb hby d1_69) k) ?_
            show own_Go p e below s _ _ _ (s₁.setTop (mkF m 70 #[.val (.int x0), .val (.int x1), .val (.int (x1 &&& (7 : Int32)))] [(.int (1 : Int32)), (.int ((4096 : Int32) ||| (x0 &&& (15 : Int32))))]))
            refine own_via (fun _ k => XS.iloadN X0.here hx rfl (hb hby d1_70) rfl k) ?_
            show own_Go p e below s _ _ _ (s₁.setTop (mkF m 71 #[.val (.int x0), .val (.int x1), .val (.int (x1 &&& (7 : Int32)))] [(.int x0), (.int (1 : Int32)), (.int ((4096 : Int32) ||| (x0 &&& (15 : Int32))))]))
            refine own_via (fun _ k => XS.iconst X0.here hx rfl (hb hby d1_71) k) ?_
            show own_Go p e below s _ _ _ (s₁.setTop (mkF m 72 #[.val (.int x0), .val (.int x1), .val (.int (x1 &&& (7 : Int32)))] [(.int (4 : Int32)), (.int x0), (.int (1 : Int32)), (.int ((4096 : Int32) ||| (x0 &&& (15 : Int32))))]))
            refine own_via (fun _ k => XS.iushr X0.here hx rfl (hb hby d1_72) rfl k) ?_
            show own_Go p e below s _ _ _ (s₁.setTop (mkF m 73 #[.val (.int x0), .val (.int x1), .val (.int (x1 &&& (7 : Int32)))] [(.int ((x0.toUInt32 >>> ((4 : Int32) &&& 31).toUInt32).toInt32)), (.int (1 : Int32)), (.int ((4096 : Int32) ||| (x0 &&& (15 : Int32))))]))
            refine own_via (fun _ k => XS.bipush X0.here hx rfl (hb hby d1_73) k) ?_
            show own_Go p e below s _ _ _ (s₁.setTop (mkF m 75 #[.val (.int x0), .val (.int x1), .val (.int (x1 &&& (7 : Int32)))] [(.int (31 : Int32)), (.int ((x0.toUInt32 >>> ((4 : Int32) &&& 31).toUInt32).toInt32)), (.int (1 : Int32)), (.int ((4096 : Int32) ||| (x0 &&& (15 : Int32))))]))
            refine own_via (fun _ k => XS.iand X0.here hx rfl (hb hby d1_75) rfl k) ?_
            show own_Go p e below s _ _ _ (s₁.setTop (mkF m 76 #[.val (.int x0), .val (.int x1), .val (.int (x1 &&& (7 : Int32)))] [(.int (((x0.toUInt32 >>> ((4 : Int32) &&& 31).toUInt32).toInt32) &&& (31 : Int32))), (.int (1 : Int32)), (.int ((4096 : Int32) ||| (x0 &&& (15 : Int32))))]))
            refine own_via (fun _ k => XS.ishl X0.here hx rfl (hb hby d1_76) rfl k) ?_
            show own_Go p e below s _ _ _ (s₁.setTop (mkF m 77 #[.val (.int x0), .val (.int x1), .val (.int (x1 &&& (7 : Int32)))] [(.int ((1 : Int32) <<< ((((x0.toUInt32 >>> ((4 : Int32) &&& 31).toUInt32).toInt32) &&& (31 : Int32)) &&& 31))), (.int ((4096 : Int32) ||| (x0 &&& (15 : Int32))))]))
            refine own_via (fun _ k => XS.ixor X0.here hx rfl (hb hby d1_77) rfl k) ?_
            show own_Go p e below s _ _ _ (s₁.setTop (mkF m 78 #[.val (.int x0), .val (.int x1), .val (.int (x1 &&& (7 : Int32)))] [(.int (((4096 : Int32) ||| (x0 &&& (15 : Int32))) ^^^ ((1 : Int32) <<< ((((x0.toUInt32 >>> ((4 : Int32) &&& 31).toUInt32).toInt32) &&& (31 : Int32)) &&& 31))))]))
            exact own_retI X0 hx hlk Bd.returns (hb hby d1_78) ⟨rfl, e0, _, rfl⟩ (by decide) (by decide)
          · refine own_via (fun _ k => XS.icmpYes X0.here hx rfl (pc0 := 58) (pc' := 79) rfl (hb hby d1_58) rfl (feq hc5).2 (by decide) (by decide) k) ?_
            show own_Go p e below s _ _ _ (s₁.setTop (mkF m 79 #[.val (.int x0), .val (.int x1), .val (.int (x1 &&& (7 : Int32)))] []))
            refine own_via (fun _ k => XS.iloadN X0.here hx rfl (hb hby d1_79) rfl k) ?_
            show own_Go p e below s _ _ _ (s₁.setTop (mkF m 80 #[.val (.int x0), .val (.int x1), .val (.int (x1 &&& (7 : Int32)))] [(.int x0)]))
            exact own_retI X0 hx hlk Bd.returns (hb hby d1_80) ⟨rfl, e0, _, rfl⟩ (by decide) (by decide)
def Q2_0 (x0 : Int32) (w0 : Addr) (w1 : Addr) (h0 : Heap) (v : Option Value) (h : Heap) (L : List Loc) : Prop := L = [] ∧ h = h0 ∧ ((x0 = (48862 : Int32) ∧ v = some (.ref w0)) ∨ (¬ (x0 = (48862 : Int32)) ∧ (x0 &&& ((15 : Int32) ^^^ (-1 : Int32))) = (4096 : Int32) ∧ v = some (.ref w1)) ∨ (¬ (x0 = (48862 : Int32)) ∧ ¬ ((x0 &&& ((15 : Int32) ^^^ (-1 : Int32))) = (4096 : Int32)) ∧ v = some .null))
set_option maxRecDepth 65536 in
set_option maxHeartbeats 40000000 in
theorem rm2_0 (l : Launch) (Z : State) (a0 : Array Value) (hw : ∀ d ∈ tables_1, d.before a0 Z = true) (ws : List Jvm.Cond) (x0 : Int32) (w0 : Addr) (w1 : Addr) (h0 : Heap) (n0 : Nat) (Z0 : n0 ≤ h0.size) (K : own_K Z h0 w0 w1) :
    MetFree l (⟨"com/example/loudmark/loudmark/rtp/ExtensionForm", "forProfile", "(I)Lcom/example/loudmark/loudmark/rtp/ExtensionForm;"⟩ : MethodName) (head1 (Jvm.Cond.code (⟨"com/example/loudmark/loudmark/rtp/ExtensionForm", "forProfile", "(I)Lcom/example/loudmark/loudmark/rtp/ExtensionForm;"⟩ : MethodName) prog_55_method_5_code 2 (some (.object "com/example/loudmark/loudmark/rtp/ExtensionForm")) :: ws) ({ frames := 0, cells := 0, slots := 0, locals := 0 } : Room)) (fun a U => a = #[(.int x0)] ∧ Z.Warmed39 U.vm ∧ U.heap = h0) (fun _ _ _ _ _ => True) (fun _ U o U' => ∃ v L, o = .returned v ∧ Q2_0 x0 w0 w1 h0 v U'.heap L ∧ FrameEnd U o U' L ({ frames := 0, cells := 0, slots := 0, locals := 0 } : Room).cells ({ frames := 0, cells := 0, slots := 0, locals := 0 } : Room).slots) := by
  refine MetFree.of_bodySF (plainFor_of_name pn1) hisR ?_
  intro p e s m args below meth c s₁ Bd hml0 hP hK
  obtain ⟨rfl, hZ, hh⟩ := hP
  have hx := Bd.exec
  have hby := Bd.bytes
  have hml : c.maxLocals = 2 := hml0
  have hown : s.vm.findClass "com/example/loudmark/loudmark/rtp/ExtensionForm" = some m.cls := findClass_of_methodNamed Bd.named
  have hnm := (name_of_methodNamed Bd.named Bd.method).1
  have hlk := Bd.notSynchronized
  have X0 : Stand p l e ({ frames := 0, cells := 0, slots := 0, locals := 0 } : Room) s m #[(.int x0)] below meth c s₁ [] 0 0 := Stand.of_body Bd
  have e0 : s₁.heap = h0 := by rw [← hh, Bd.state]; rfl
  have K0 := K
  obtain ⟨S_w0, S_w1, E_w0, E_w1, F_w0_profile, F_w1_appBits, F_w1_profile, F_w0_appBits, n_w0_w1⟩ := K
  show own_Go p e below s (Q2_0 x0 w0 w1 h0) 0 0 (s₁.setTop (entryFrame m #[(.int x0)] 2))
  rw [show entryFrame m #[(.int x0)] 2 = mkF m 0 #[.val (.int x0), .unset] [] from by first | (simp [entryFrame, mkF, argsToLocals, Value.category]; done) | rfl]
  show own_Go p e below s _ _ _ (s₁.setTop (mkF m 0 #[.val (.int x0), .unset] []))
  refine own_via (fun _ k => XS.iloadN X0.here hx rfl (hb hby d2_0) rfl k) ?_
  show own_Go p e below s _ _ _ (s₁.setTop (mkF m 1 #[.val (.int x0), .unset] [(.int x0)]))
  obtain ⟨T1, X1, e1, st1⟩ := getS2 X0 hx hZ hown (host := "") (Or.inl (hw _ (List.mem_of_getElem? (i := 9) rfl))) Via.refl e0 S_w0 (g := (mkF m 1 #[.val (.int x0), .unset] [(.int x0)])) rfl (hb hby d2_1)
  refine own_via st1 ?_
  show own_Go p e below s _ _ _ (T1.setTop (mkF m 4 #[.val (.int x0), .unset] [(.ref w0), (.int x0)]))
  obtain ⟨T2, X2, e2, st2⟩ := getF X1 hx hZ hown (host := "") (Or.inl (hw _ (List.mem_of_getElem? (i := 11) rfl))) Via.refl e1 F_w0_profile (g := (mkF m 4 #[.val (.int x0), .unset] [(.ref w0), (.int x0)])) rfl rfl (hb hby d2_4)
  refine own_via st2 ?_
  show own_Go p e below s _ _ _ (T2.setTop (mkF m 7 #[.val (.int x0), .unset] [(.int (48862 : Int32)), (.int x0)]))
  by_cases hc3 : x0 = (48862 : Int32)
  · refine own_via (fun _ k => XS.icmpNo X2.here hx rfl (hb hby d2_7) rfl (teq hc3).2 k) ?_
    show own_Go p e below s _ _ _ (T2.setTop (mkF m 10 #[.val (.int x0), .unset] []))
    obtain ⟨T4, X4, e4, st4⟩ := getS2 X2 hx hZ hown (host := "") (Or.inl (hw _ (List.mem_of_getElem? (i := 9) rfl))) Via.refl e2 S_w0 (g := (mkF m 10 #[.val (.int x0), .unset] [])) rfl (hb hby d2_10)
    refine own_via st4 ?_
    show own_Go p e below s _ _ _ (T4.setTop (mkF m 13 #[.val (.int x0), .unset] [(.ref w0)]))
    refine own_via (fun _ k => XS.astoreN X4.here hx rfl (hb hby d2_13) rfl rfl (l' := #[.val (.int x0), .val (.ref w0)]) rfl k) ?_
    show own_Go p e below s _ _ _ (T4.setTop (mkF m 14 #[.val (.int x0), .val (.ref w0)] []))
    refine own_via (fun _ k => XS.goto X4.here hx rfl (pc0 := 14) (pc' := 45) rfl (hb hby d2_14) (by decide) (by decide) k) ?_
    show own_Go p e below s _ _ _ (T4.setTop (mkF m 45 #[.val (.int x0), .val (.ref w0)] []))
    refine own_via (fun _ k => XS.aloadN X4.here hx rfl (hb hby d2_45) rfl rfl k) ?_
    show own_Go p e below s _ _ _ (T4.setTop (mkF m 46 #[.val (.int x0), .val (.ref w0)] [(.ref w0)]))
    exact own_retR X4 hx hlk Bd.returns rfl rfl (hb hby d2_46) ⟨rfl, e4, Or.inl ⟨hc3, rfl⟩⟩ (by decide) (by decide)
  · refine own_via (fun _ k => XS.icmpYes X2.here hx rfl (pc0 := 7) (pc' := 17) rfl (hb hby d2_7) rfl (feq hc3).2 (by decide) (by decide) k) ?_
    show own_Go p e below s _ _ _ (T2.setTop (mkF m 17 #[.val (.int x0), .unset] []))
    refine own_via (fun _ k => XS.iloadN X2.here hx rfl (hb hby d2_17) rfl k) ?_
    show own_Go p e below s _ _ _ (T2.setTop (mkF m 18 #[.val (.int x0), .unset] [(.int x0)]))
    obtain ⟨T5, X5, e5, st5⟩ := getS2 X2 hx hZ hown (host := "") (Or.inl (hw _ (List.mem_of_getElem? (i := 13) rfl))) Via.refl e2 S_w1 (g := (mkF m 18 #[.val (.int x0), .unset] [(.int x0)])) rfl (hb hby d2_18)
    refine own_via st5 ?_
    show own_Go p e below s _ _ _ (T5.setTop (mkF m 21 #[.val (.int x0), .unset] [(.ref w1), (.int x0)]))
    obtain ⟨T6, X6, e6, st6⟩ := getF X5 hx hZ hown (host := "") (Or.inl (hw _ (List.mem_of_getElem? (i := 15) rfl))) Via.refl e5 F_w1_appBits (g := (mkF m 21 #[.val (.int x0), .unset] [(.ref w1), (.int x0)])) rfl rfl (hb hby d2_21)
    refine own_via st6 ?_
    show own_Go p e below s _ _ _ (T6.setTop (mkF m 24 #[.val (.int x0), .unset] [(.int (15 : Int32)), (.int x0)]))
    refine own_via (fun _ k => XS.iconst X6.here hx rfl (hb hby d2_24) k) ?_
    show own_Go p e below s _ _ _ (T6.setTop (mkF m 25 #[.val (.int x0), .unset] [(.int (-1 : Int32)), (.int (15 : Int32)), (.int x0)]))
    refine own_via (fun _ k => XS.ixor X6.here hx rfl (hb hby d2_25) rfl k) ?_
    show own_Go p e below s _ _ _ (T6.setTop (mkF m 26 #[.val (.int x0), .unset] [(.int ((15 : Int32) ^^^ (-1 : Int32))), (.int x0)]))
    refine own_via (fun _ k => XS.iand X6.here hx rfl (hb hby d2_26) rfl k) ?_
    show own_Go p e below s _ _ _ (T6.setTop (mkF m 27 #[.val (.int x0), .unset] [(.int (x0 &&& ((15 : Int32) ^^^ (-1 : Int32))))]))
    obtain ⟨T7, X7, e7, st7⟩ := getS2 X6 hx hZ hown (host := "") (Or.inl (hw _ (List.mem_of_getElem? (i := 13) rfl))) Via.refl e6 S_w1 (g := (mkF m 27 #[.val (.int x0), .unset] [(.int (x0 &&& ((15 : Int32) ^^^ (-1 : Int32))))])) rfl (hb hby d2_27)
    refine own_via st7 ?_
    show own_Go p e below s _ _ _ (T7.setTop (mkF m 30 #[.val (.int x0), .unset] [(.ref w1), (.int (x0 &&& ((15 : Int32) ^^^ (-1 : Int32))))]))
    obtain ⟨T8, X8, e8, st8⟩ := getF X7 hx hZ hown (host := "") (Or.inl (hw _ (List.mem_of_getElem? (i := 11) rfl))) Via.refl e7 F_w1_profile (g := (mkF m 30 #[.val (.int x0), .unset] [(.ref w1), (.int (x0 &&& ((15 : Int32) ^^^ (-1 : Int32))))])) rfl rfl (hb hby d2_30)
    refine own_via st8 ?_
    show own_Go p e below s _ _ _ (T8.setTop (mkF m 33 #[.val (.int x0), .unset] [(.int (4096 : Int32)), (.int (x0 &&& ((15 : Int32) ^^^ (-1 : Int32))))]))
    by_cases hc9 : (x0 &&& ((15 : Int32) ^^^ (-1 : Int32))) = (4096 : Int32)
    · refine own_via (fun _ k => XS.icmpNo X8.here hx rfl (hb hby d2_33) rfl (teq hc9).2 k) ?_
      show own_Go p e below s _ _ _ (T8.setTop (mkF m 36 #[.val (.int x0), .unset] []))
      obtain ⟨T10, X10, e10, st10⟩ := getS2 X8 hx hZ hown (host := "") (Or.inl (hw _ (List.mem_of_getElem? (i := 13) rfl))) Via.refl e8 S_w1 (g := (mkF m 36 #[.val (.int x0), .unset] [])) rfl (hb hby d2_36)
      refine own_via st10 ?_
      show own_Go p e below s _ _ _ (T10.setTop (mkF m 39 #[.val (.int x0), .unset] [(.ref w1)]))
      refine own_via (fun _ k => XS.astoreN X10.here hx rfl (hb hby d2_39) rfl rfl (l' := #[.val (.int x0), .val (.ref w1)]) rfl k) ?_
      show own_Go p e below s _ _ _ (T10.setTop (mkF m 40 #[.val (.int x0), .val (.ref w1)] []))
      refine own_via (fun _ k => XS.goto X10.here hx rfl (pc0 := 40) (pc' := 45) rfl (hb hby d2_40) (by decide) (by decide) k) ?_
      show own_Go p e below s _ _ _ (T10.setTop (mkF m 45 #[.val (.int x0), .val (.ref w1)] []))
      refine own_via (fun _ k => XS.aloadN X10.here hx rfl (hb hby d2_45) rfl rfl k) ?_
      show own_Go p e below s _ _ _ (T10.setTop (mkF m 46 #[.val (.int x0), .val (.ref w1)] [(.ref w1)]))
      exact own_retR X10 hx hlk Bd.returns rfl rfl (hb hby d2_46) ⟨rfl, e10, Or.inr (Or.inl ⟨hc3, hc9, rfl⟩)⟩ (by decide) (by decide)
    · refine own_via (fun _ k => XS.icmpYes X8.here hx rfl (pc0 := 33) (pc' := 43) rfl (hb hby d2_33) rfl (feq hc9).2 (by decide) (by decide) k) ?_
      show own_Go p e below s _ _ _ (T8.setTop (mkF m 43 #[.val (.int x0), .unset] []))
      refine own_via (fun _ k => XS.aconstNull X8.here hx rfl (hb hby d2_43) k) ?_
      show own_Go p e below s _ _ _ (T8.setTop (mkF m 44 #[.val (.int x0), .unset] [.null]))
      refine own_via (fun _ k => XS.astoreN X8.here hx rfl (hb hby d2_44) rfl rfl (l' := #[.val (.int x0), .val .null]) rfl k) ?_
      show own_Go p e below s _ _ _ (T8.setTop (mkF m 45 #[.val (.int x0), .val .null] []))
      refine own_via (fun _ k => XS.aloadN X8.here hx rfl (hb hby d2_45) rfl rfl k) ?_
      show own_Go p e below s _ _ _ (T8.setTop (mkF m 46 #[.val (.int x0), .val .null] [.null]))
      exact own_retR X8 hx hlk Bd.returns rfl rfl (hb hby d2_46) ⟨rfl, e8, Or.inr (Or.inr (⟨hc3, hc9, rfl⟩))⟩ (by decide) (by decide)
def Q0 (n0 : Nat) (v : Option Value) (h : Heap) (L : List Loc) : Prop := v = some (.int 1) ∧ Fr n0 L
set_option maxRecDepth 65536 in
set_option maxHeartbeats 40000000 in
theorem rm0 (l : Launch) (Z : State) (a0 : Array Value) (hw : ∀ d ∈ tables_1, d.before a0 Z = true) (ws : List Jvm.Cond) (p0 : Int32) (p1 : Int32) (w0 : Addr) (w1 : Addr) (h0 : Heap) (n0 : Nat) (Z0 : n0 ≤ h0.size) (K : own_K Z h0 w0 w1) :
    MetFree l x (head1 (Jvm.Cond.code x code maxLocals ret :: ws) room_1) (fun a U => a = #[(.int p0), (.int p1)] ∧ Z.Warmed39 U.vm ∧ U.heap = h0) (fun _ _ _ _ _ => True) (fun _ U o U' => ∃ v L, o = .returned v ∧ Q0 n0 v U'.heap L ∧ FrameEnd U o U' L 0 0) := by
  refine MetFree.of_bodySF (plainFor_of_name pn0) hisR ?_
  intro p e s m args below meth c s₁ Bd hml0 hP hK
  obtain ⟨rfl, hZ, hh⟩ := hP
  have hx := Bd.exec
  have hby := Bd.bytes
  have hml : c.maxLocals = 5 := hml0
  have hown : s.vm.findClass "com/example/loudmark/loudmark/rtp/ExtensionFormForProfilePinLaw" = some m.cls := findClass_of_methodNamed Bd.named
  have hnm := (name_of_methodNamed Bd.named Bd.method).1
  have hlk := Bd.notSynchronized
  have X0 : Stand p l e room_1 s m #[(.int p0), (.int p1)] below meth c s₁ [] 0 0 := Stand.of_body Bd
  have e0 : s₁.heap = h0 := by rw [← hh, Bd.state]; rfl
  have K0 := K
  obtain ⟨S_w0, S_w1, E_w0, E_w1, F_w0_profile, F_w1_appBits, F_w1_profile, F_w0_appBits, n_w0_w1⟩ := K
  show own_Go p e below s (Q0 n0) 0 0 (s₁.setTop (entryFrame m #[(.int p0), (.int p1)] maxLocals))
  rw [show entryFrame m #[(.int p0), (.int p1)] maxLocals = mkF m 0 #[.val (.int p0), .val (.int p1), .unset, .unset, .unset] [] from by first | (simp [entryFrame, mkF, argsToLocals, Value.category, maxLocals]; done) | rfl]
  show own_Go p e below s _ _ _ (s₁.setTop (mkF m 0 #[.val (.int p0), .val (.int p1), .unset, .unset, .unset] []))
  refine own_via (fun _ k => XS.iloadN X0.here hx rfl (hb hby at_0) rfl k) ?_
  show own_Go p e below s _ _ _ (s₁.setTop (mkF m 1 #[.val (.int p0), .val (.int p1), .unset, .unset, .unset] [(.int p0)]))
  refine own_via (fun _ k => XS.iloadN X0.here hx rfl (hb hby at_1) rfl k) ?_
  show own_Go p e below s _ _ _ (s₁.setTop (mkF m 2 #[.val (.int p0), .val (.int p1), .unset, .unset, .unset] [(.int p1), (.int p0)]))
  obtain ⟨_, _, ⟨T1, L1, k1, n1⟩, -, X1, ⟨Lc1, hQ1, l1, y1, z1⟩, st1⟩ := Jvm.LawKit.callS X0 hx (y := (⟨"com/example/loudmark/loudmark/rtp/ExtensionFormForProfilePinLaw", "pick", "(II)I"⟩ : MethodName)) hown (mvT hZ (hw _ (List.mem_of_getElem? (i := 0) rfl))) (mvT hZ (hw _ (List.mem_of_getElem? (i := 1) rfl))) (mvT hZ (hw _ (List.mem_of_getElem? (i := 2) rfl))) (mvT hZ (hw _ (List.mem_of_getElem? (i := 3) rfl))) (by decide) (backOf (W := 0) (rm1_0 l Z a0 hw [] p0 p1 w0 w1 h0 n0 Z0 K0) hZ (hw _ (List.mem_of_getElem? (i := 3) rfl)) (hw _ (List.mem_of_getElem? (i := 2) rfl)) (by decide) (by decide)) (g := (mkF m 2 #[.val (.int p0), .val (.int p1), .unset, .unset, .unset] [(.int p1), (.int p0)])) rfl (by rw [hml]; rfl) (argsL := [(.int p0), (.int p1)]) (rest := []) (lenOf pd0 rfl) rfl (by show 2 * 0 + _ ≤ _; exact Nat.le_of_eq rfl) (hb hby at_2) (fun _ _ => ⟨rfl, e0, (by decide : 0 + 0 ≤ _), (by decide : 0 + 0 ≤ _)⟩)
  dsimp only [Pt.U, Pt.locs, Pt.cells, Pt.slots] at X1 l1 y1 z1 st1 hQ1
  subst l1 y1 z1
  obtain ⟨rfl, e1, z1, rfl⟩ := hQ1
  refine own_via st1 ?_
  show own_Go p e below s _ _ _ (T1.setTop (mkF m 5 #[.val (.int p0), .val (.int p1), .unset, .unset, .unset] [(.int z1)]))
  refine own_via (fun _ k => XS.istoreN X1.here hx rfl (hb hby at_5) rfl (l' := #[.val (.int p0), .val (.int p1), .val (.int z1), .unset, .unset]) rfl k) ?_
  show own_Go p e below s _ _ _ (T1.setTop (mkF m 6 #[.val (.int p0), .val (.int p1), .val (.int z1), .unset, .unset] []))
  refine own_via (fun _ k => XS.iloadN X1.here hx rfl (hb hby at_6) rfl k) ?_
  show own_Go p e below s _ _ _ (T1.setTop (mkF m 7 #[.val (.int p0), .val (.int p1), .val (.int z1), .unset, .unset] [(.int z1)]))
  refine own_via (fun _ k => X1.ldcInt hx hown (mvT hZ (hw _ (List.mem_of_getElem? (i := 4) rfl))) (g := (mkF m 7 #[.val (.int p0), .val (.int p1), .val (.int z1), .unset, .unset] [(.int z1)])) rfl (hb hby at_7) _ k) ?_
  show own_Go p e below s _ _ _ (T1.setTop (mkF m 9 #[.val (.int p0), .val (.int p1), .val (.int z1), .unset, .unset] [(.int (48862 : Int32)), (.int z1)]))
  by_cases hc2 : z1 = (48862 : Int32)
  · refine own_via (fun _ k => XS.icmpNo X1.here hx rfl (hb hby at_9) rfl (teq hc2).2 k) ?_
    show own_Go p e below s _ _ _ (T1.setTop (mkF m 12 #[.val (.int p0), .val (.int p1), .val (.int z1), .unset, .unset] []))
    obtain ⟨T3, X3, e3, st3⟩ := getS2 X1 hx hZ hown (host := "") (Or.inl (hw _ (List.mem_of_getElem? (i := 17) rfl))) Via.refl e1 S_w0 (g := (mkF m 12 #[.val (.int p0), .val (.int p1), .val (.int z1), .unset, .unset] [])) rfl (hb hby at_12)
    refine own_via st3 ?_
    show own_Go p e below s _ _ _ (T3.setTop (mkF m 15 #[.val (.int p0), .val (.int p1), .val (.int z1), .unset, .unset] [(.ref w0)]))
    refine own_via (fun _ k => XS.astoreN X3.here hx rfl (hb hby at_15) rfl rfl (l' := #[.val (.int p0), .val (.int p1), .val (.int z1), .val (.ref w0), .unset]) rfl k) ?_
    show own_Go p e below s _ _ _ (T3.setTop (mkF m 16 #[.val (.int p0), .val (.int p1), .val (.int z1), .val (.ref w0), .unset] []))
    refine own_via (fun _ k => XS.goto X3.here hx rfl (pc0 := 16) (pc' := 42) rfl (hb hby at_16) (by decide) (by decide) k) ?_
    show own_Go p e below s _ _ _ (T3.setTop (mkF m 42 #[.val (.int p0), .val (.int p1), .val (.int z1), .val (.ref w0), .unset] []))
    refine own_via (fun _ k => XS.iloadN X3.here hx rfl (hb hby at_42) rfl k) ?_
    show own_Go p e below s _ _ _ (T3.setTop (mkF m 43 #[.val (.int p0), .val (.int p1), .val (.int z1), .val (.ref w0), .unset] [(.int z1)]))
    obtain ⟨_, _, ⟨T4, L4, k4, n4⟩, -, X4, ⟨Lc4, hQ4, l4, y4, z4⟩, st4⟩ := Jvm.LawKit.callS X3 hx (y := (⟨"com/example/loudmark/loudmark/rtp/ExtensionForm", "forProfile", "(I)Lcom/example/loudmark/loudmark/rtp/ExtensionForm;"⟩ : MethodName)) hown (mvT hZ (hw _ (List.mem_of_getElem? (i := 5) rfl))) (mvT hZ (hw _ (List.mem_of_getElem? (i := 6) rfl))) (mvT hZ (hw _ (List.mem_of_getElem? (i := 7) rfl))) (mvT hZ (hw _ (List.mem_of_getElem? (i := 8) rfl))) (by decide) (backOf (W := 0) (rm2_0 l Z a0 hw [] z1 w0 w1 h0 n0 Z0 K0) hZ (hw _ (List.mem_of_getElem? (i := 8) rfl)) (hw _ (List.mem_of_getElem? (i := 7) rfl)) (by decide) (by decide)) (g := (mkF m 43 #[.val (.int p0), .val (.int p1), .val (.int z1), .val (.ref w0), .unset] [(.int z1)])) rfl (by rw [hml]; rfl) (argsL := [(.int z1)]) (rest := []) (lenOf pd1 rfl) rfl (by show 2 * 0 + _ ≤ _; exact Nat.le_of_eq rfl) (hb hby at_43) (fun _ _ => ⟨rfl, e3, (by decide : 0 + 0 ≤ _), (by decide : 0 + 0 ≤ _)⟩)
    dsimp only [Pt.U, Pt.locs, Pt.cells, Pt.slots] at X4 l4 y4 z4 st4 hQ4
    subst l4 y4 z4
    obtain ⟨rfl, e4, hO4⟩ := hQ4
    rcases hO4 with ⟨hr4_0_0, rfl⟩ | ⟨hr4_1_0, hr4_1_1, rfl⟩ | ⟨hr4_2_0, hr4_2_1, rfl⟩
    · refine own_via st4 ?_
      show own_Go p e below s _ _ _ (T4.setTop (mkF m 46 #[.val (.int p0), .val (.int p1), .val (.int z1), .val (.ref w0), .unset] [(.ref w0)]))
      refine own_via (fun _ k => XS.astore X4.here hx rfl (hb hby at_46) rfl rfl (l' := #[.val (.int p0), .val (.int p1), .val (.int z1), .val (.ref w0), .val (.ref w0)]) rfl k) ?_
      show own_Go p e below s _ _ _ (T4.setTop (mkF m 48 #[.val (.int p0), .val (.int p1), .val (.int z1), .val (.ref w0), .val (.ref w0)] []))
      refine own_via (fun _ k => XS.aload X4.here hx rfl (hb hby at_48) rfl rfl k) ?_
      show own_Go p e below s _ _ _ (T4.setTop (mkF m 50 #[.val (.int p0), .val (.int p1), .val (.int z1), .val (.ref w0), .val (.ref w0)] [(.ref w0)]))
      refine own_via (fun _ k => XS.aloadN X4.here hx rfl (hb hby at_50) rfl rfl k) ?_
      show own_Go p e below s _ _ _ (T4.setTop (mkF m 51 #[.val (.int p0), .val (.int p1), .val (.int z1), .val (.ref w0), .val (.ref w0)] [(.ref w0), (.ref w0)]))
      refine own_via (fun _ k => Jvm.RoadKit.acmp (g := (mkF m 51 #[.val (.int p0), .val (.int p1), .val (.int z1), .val (.ref w0), .val (.ref w0)] [(.ref w0), (.ref w0)])) X4 hx rfl rfl rfl (pc0 := 51) (pc' := 54) (same := true) rfl (hb hby at_51) rfl (decide_eq_true rfl) (by decide) (by decide) k) ?_
      show own_Go p e below s _ _ _ (T4.setTop (mkF m 54 #[.val (.int p0), .val (.int p1), .val (.int z1), .val (.ref w0), .val (.ref w0)] []))
      refine own_via (fun _ k => XS.iconst X4.here hx rfl (hb hby at_54) k) ?_
      show own_Go p e below s _ _ _ (T4.setTop (mkF m 55 #[.val (.int p0), .val (.int p1), .val (.int z1), .val (.ref w0), .val (.ref w0)] [(.int (1 : Int32))]))
      refine own_via (fun _ k => XS.goto X4.here hx rfl (pc0 := 55) (pc' := 59) rfl (hb hby at_55) (by decide) (by decide) k) ?_
      show own_Go p e below s _ _ _ (T4.setTop (mkF m 59 #[.val (.int p0), .val (.int p1), .val (.int z1), .val (.ref w0), .val (.ref w0)] [(.int (1 : Int32))]))
      exact own_retZ X4 hx hlk (t := .boolean) Bd.returns (by simp) (hb hby at_59) (z' := (1 : Int32)) (by first | rfl | decide) ⟨rfl, (Fr.nil n0)⟩ (by decide) (by decide)
    · exact absurd hc2 hr4_1_0
    · exact absurd hc2 hr4_2_0
  · refine own_via (fun _ k => XS.icmpYes X1.here hx rfl (pc0 := 9) (pc' := 19) rfl (hb hby at_9) rfl (feq hc2).2 (by decide) (by decide) k) ?_
    show own_Go p e below s _ _ _ (T1.setTop (mkF m 19 #[.val (.int p0), .val (.int p1), .val (.int z1), .unset, .unset] []))
    refine own_via (fun _ k => XS.iloadN X1.here hx rfl (hb hby at_19) rfl k) ?_
    show own_Go p e below s _ _ _ (T1.setTop (mkF m 20 #[.val (.int p0), .val (.int p1), .val (.int z1), .unset, .unset] [(.int z1)]))
    refine own_via (fun _ k => XS.sipush X1.here hx rfl (hb hby at_20) k) ?_
    show own_Go p e below s _ _ _ (T1.setTop (mkF m 23 #[.val (.int p0), .val (.int p1), .val (.int z1), .unset, .unset] [(.int (4096 : Int32)), (.int z1)]))
    by_cases hc5 : z1 < (4096 : Int32)
    · refine own_via (fun _ k => XS.icmpYes X1.here hx rfl (pc0 := 23) (pc' := 40) rfl (hb hby at_23) rfl (tlt hc5).1 (by decide) (by decide) k) ?_
      show own_Go p e below s _ _ _ (T1.setTop (mkF m 40 #[.val (.int p0), .val (.int p1), .val (.int z1), .unset, .unset] []))
      refine own_via (fun _ k => XS.aconstNull X1.here hx rfl (hb hby at_40) k) ?_
      show own_Go p e below s _ _ _ (T1.setTop (mkF m 41 #[.val (.int p0), .val (.int p1), .val (.int z1), .unset, .unset] [.null]))
      refine own_via (fun _ k => XS.astoreN X1.here hx rfl (hb hby at_41) rfl rfl (l' := #[.val (.int p0), .val (.int p1), .val (.int z1), .val .null, .unset]) rfl k) ?_
      show own_Go p e below s _ _ _ (T1.setTop (mkF m 42 #[.val (.int p0), .val (.int p1), .val (.int z1), .val .null, .unset] []))
      refine own_via (fun _ k => XS.iloadN X1.here hx rfl (hb hby at_42) rfl k) ?_
      show own_Go p e below s _ _ _ (T1.setTop (mkF m 43 #[.val (.int p0), .val (.int p1), .val (.int z1), .val .null, .unset] [(.int z1)]))
      obtain ⟨_, _, ⟨T6, L6, k6, n6⟩, -, X6, ⟨Lc6, hQ6, l6, y6, z6⟩, st6⟩ := Jvm.LawKit.callS X1 hx (y := (⟨"com/example/loudmark/loudmark/rtp/ExtensionForm", "forProfile", "(I)Lcom/example/loudmark/loudmark/rtp/ExtensionForm;"⟩ : MethodName)) hown (mvT hZ (hw _ (List.mem_of_getElem? (i := 5) rfl))) (mvT hZ (hw _ (List.mem_of_getElem? (i := 6) rfl))) (mvT hZ (hw _ (List.mem_of_getElem? (i := 7) rfl))) (mvT hZ (hw _ (List.mem_of_getElem? (i := 8) rfl))) (by decide) (backOf (W := 0) (rm2_0 l Z a0 hw [] z1 w0 w1 h0 n0 Z0 K0) hZ (hw _ (List.mem_of_getElem? (i := 8) rfl)) (hw _ (List.mem_of_getElem? (i := 7) rfl)) (by decide) (by decide)) (g := (mkF m 43 #[.val (.int p0), .val (.int p1), .val (.int z1), .val .null, .unset] [(.int z1)])) rfl (by rw [hml]; rfl) (argsL := [(.int z1)]) (rest := []) (lenOf pd1 rfl) rfl (by show 2 * 0 + _ ≤ _; exact Nat.le_of_eq rfl) (hb hby at_43) (fun _ _ => ⟨rfl, e1, (by decide : 0 + 0 ≤ _), (by decide : 0 + 0 ≤ _)⟩)
      dsimp only [Pt.U, Pt.locs, Pt.cells, Pt.slots] at X6 l6 y6 z6 st6 hQ6
      subst l6 y6 z6
      obtain ⟨rfl, e6, hO6⟩ := hQ6
      rcases hO6 with ⟨hr6_0_0, rfl⟩ | ⟨hr6_1_0, hr6_1_1, rfl⟩ | ⟨hr6_2_0, hr6_2_1, rfl⟩
      · exact absurd hr6_0_0 hc2
      · refine own_via st6 ?_
        show own_Go p e below s _ _ _ (T6.setTop (mkF m 46 #[.val (.int p0), .val (.int p1), .val (.int z1), .val .null, .unset] [(.ref w1)]))
        refine own_via (fun _ k => XS.astore X6.here hx rfl (hb hby at_46) rfl rfl (l' := #[.val (.int p0), .val (.int p1), .val (.int z1), .val .null, .val (.ref w1)]) rfl k) ?_
        show own_Go p e below s _ _ _ (T6.setTop (mkF m 48 #[.val (.int p0), .val (.int p1), .val (.int z1), .val .null, .val (.ref w1)] []))
        refine own_via (fun _ k => XS.aload X6.here hx rfl (hb hby at_48) rfl rfl k) ?_
        show own_Go p e below s _ _ _ (T6.setTop (mkF m 50 #[.val (.int p0), .val (.int p1), .val (.int z1), .val .null, .val (.ref w1)] [(.ref w1)]))
        refine own_via (fun _ k => XS.aloadN X6.here hx rfl (hb hby at_50) rfl rfl k) ?_
        show own_Go p e below s _ _ _ (T6.setTop (mkF m 51 #[.val (.int p0), .val (.int p1), .val (.int z1), .val .null, .val (.ref w1)] [.null, (.ref w1)]))
        refine own_via (fun _ k => Jvm.RoadKit.acmp (g := (mkF m 51 #[.val (.int p0), .val (.int p1), .val (.int z1), .val .null, .val (.ref w1)] [.null, (.ref w1)])) X6 hx rfl rfl rfl (pc0 := 51) (pc' := 58) (same := false) rfl (hb hby at_51) rfl (decide_eq_false nofun) (by decide) (by decide) k) ?_
        show own_Go p e below s _ _ _ (T6.setTop (mkF m 58 #[.val (.int p0), .val (.int p1), .val (.int z1), .val .null, .val (.ref w1)] []))
        refine own_via (fun _ k => XS.iconst X6.here hx rfl (hb hby at_58) k) ?_
        show own_Go p e below s _ _ _ (T6.setTop (mkF m 59 #[.val (.int p0), .val (.int p1), .val (.int z1), .val .null, .val (.ref w1)] [(.int (0 : Int32))]))
        exact absurd hc5 ((own_form _).mp hr6_1_1).1
      · refine own_via st6 ?_
        show own_Go p e below s _ _ _ (T6.setTop (mkF m 46 #[.val (.int p0), .val (.int p1), .val (.int z1), .val .null, .unset] [.null]))
        refine own_via (fun _ k => XS.astore X6.here hx rfl (hb hby at_46) rfl rfl (l' := #[.val (.int p0), .val (.int p1), .val (.int z1), .val .null, .val .null]) rfl k) ?_
        show own_Go p e below s _ _ _ (T6.setTop (mkF m 48 #[.val (.int p0), .val (.int p1), .val (.int z1), .val .null, .val .null] []))
        refine own_via (fun _ k => XS.aload X6.here hx rfl (hb hby at_48) rfl rfl k) ?_
        show own_Go p e below s _ _ _ (T6.setTop (mkF m 50 #[.val (.int p0), .val (.int p1), .val (.int z1), .val .null, .val .null] [.null]))
        refine own_via (fun _ k => XS.aloadN X6.here hx rfl (hb hby at_50) rfl rfl k) ?_
        show own_Go p e below s _ _ _ (T6.setTop (mkF m 51 #[.val (.int p0), .val (.int p1), .val (.int z1), .val .null, .val .null] [.null, .null]))
        refine own_via (fun _ k => Jvm.RoadKit.acmp (g := (mkF m 51 #[.val (.int p0), .val (.int p1), .val (.int z1), .val .null, .val .null] [.null, .null])) X6 hx rfl rfl rfl (pc0 := 51) (pc' := 54) (same := true) rfl (hb hby at_51) rfl (decide_eq_true rfl) (by decide) (by decide) k) ?_
        show own_Go p e below s _ _ _ (T6.setTop (mkF m 54 #[.val (.int p0), .val (.int p1), .val (.int z1), .val .null, .val .null] []))
        refine own_via (fun _ k => XS.iconst X6.here hx rfl (hb hby at_54) k) ?_
        show own_Go p e below s _ _ _ (T6.setTop (mkF m 55 #[.val (.int p0), .val (.int p1), .val (.int z1), .val .null, .val .null] [(.int (1 : Int32))]))
        refine own_via (fun _ k => XS.goto X6.here hx rfl (pc0 := 55) (pc' := 59) rfl (hb hby at_55) (by decide) (by decide) k) ?_
        show own_Go p e below s _ _ _ (T6.setTop (mkF m 59 #[.val (.int p0), .val (.int p1), .val (.int z1), .val .null, .val .null] [(.int (1 : Int32))]))
        exact own_retZ X6 hx hlk (t := .boolean) Bd.returns (by simp) (hb hby at_59) (z' := (1 : Int32)) (by first | rfl | decide) ⟨rfl, (Fr.nil n0)⟩ (by decide) (by decide)
    · refine own_via (fun _ k => XS.icmpNo X1.here hx rfl (hb hby at_23) rfl (flt hc5).1 k) ?_
      show own_Go p e below s _ _ _ (T1.setTop (mkF m 26 #[.val (.int p0), .val (.int p1), .val (.int z1), .unset, .unset] []))
      refine own_via (fun _ k => XS.iloadN X1.here hx rfl (hb hby at_26) rfl k) ?_
      show own_Go p e below s _ _ _ (T1.setTop (mkF m 27 #[.val (.int p0), .val (.int p1), .val (.int z1), .unset, .unset] [(.int z1)]))
      refine own_via (fun _ k => XS.sipush X1.here hx rfl (hb hby at_27) k) ?_
      show own_Go p e below s _ _ _ (T1.setTop (mkF m 30 #[.val (.int p0), .val (.int p1), .val (.int z1), .unset, .unset] [(.int (4111 : Int32)), (.int z1)]))
      by_cases hc7 : (4111 : Int32) < z1
      · refine own_via (fun _ k => XS.icmpYes X1.here hx rfl (pc0 := 30) (pc' := 40) rfl (hb hby at_30) rfl (tlt hc7).2.2.1 (by decide) (by decide) k) ?_
        show own_Go p e below s _ _ _ (T1.setTop (mkF m 40 #[.val (.int p0), .val (.int p1), .val (.int z1), .unset, .unset] []))
        refine own_via (fun _ k => XS.aconstNull X1.here hx rfl (hb hby at_40) k) ?_
        show own_Go p e below s _ _ _ (T1.setTop (mkF m 41 #[.val (.int p0), .val (.int p1), .val (.int z1), .unset, .unset] [.null]))
        refine own_via (fun _ k => XS.astoreN X1.here hx rfl (hb hby at_41) rfl rfl (l' := #[.val (.int p0), .val (.int p1), .val (.int z1), .val .null, .unset]) rfl k) ?_
        show own_Go p e below s _ _ _ (T1.setTop (mkF m 42 #[.val (.int p0), .val (.int p1), .val (.int z1), .val .null, .unset] []))
        refine own_via (fun _ k => XS.iloadN X1.here hx rfl (hb hby at_42) rfl k) ?_
        show own_Go p e below s _ _ _ (T1.setTop (mkF m 43 #[.val (.int p0), .val (.int p1), .val (.int z1), .val .null, .unset] [(.int z1)]))
        obtain ⟨_, _, ⟨T8, L8, k8, n8⟩, -, X8, ⟨Lc8, hQ8, l8, y8, z8⟩, st8⟩ := Jvm.LawKit.callS X1 hx (y := (⟨"com/example/loudmark/loudmark/rtp/ExtensionForm", "forProfile", "(I)Lcom/example/loudmark/loudmark/rtp/ExtensionForm;"⟩ : MethodName)) hown (mvT hZ (hw _ (List.mem_of_getElem? (i := 5) rfl))) (mvT hZ (hw _ (List.mem_of_getElem? (i := 6) rfl))) (mvT hZ (hw _ (List.mem_of_getElem? (i := 7) rfl))) (mvT hZ (hw _ (List.mem_of_getElem? (i := 8) rfl))) (by decide) (backOf (W := 0) (rm2_0 l Z a0 hw [] z1 w0 w1 h0 n0 Z0 K0) hZ (hw _ (List.mem_of_getElem? (i := 8) rfl)) (hw _ (List.mem_of_getElem? (i := 7) rfl)) (by decide) (by decide)) (g := (mkF m 43 #[.val (.int p0), .val (.int p1), .val (.int z1), .val .null, .unset] [(.int z1)])) rfl (by rw [hml]; rfl) (argsL := [(.int z1)]) (rest := []) (lenOf pd1 rfl) rfl (by show 2 * 0 + _ ≤ _; exact Nat.le_of_eq rfl) (hb hby at_43) (fun _ _ => ⟨rfl, e1, (by decide : 0 + 0 ≤ _), (by decide : 0 + 0 ≤ _)⟩)
        dsimp only [Pt.U, Pt.locs, Pt.cells, Pt.slots] at X8 l8 y8 z8 st8 hQ8
        subst l8 y8 z8
        obtain ⟨rfl, e8, hO8⟩ := hQ8
        rcases hO8 with ⟨hr8_0_0, rfl⟩ | ⟨hr8_1_0, hr8_1_1, rfl⟩ | ⟨hr8_2_0, hr8_2_1, rfl⟩
        · exact absurd hr8_0_0 hc2
        · refine own_via st8 ?_
          show own_Go p e below s _ _ _ (T8.setTop (mkF m 46 #[.val (.int p0), .val (.int p1), .val (.int z1), .val .null, .unset] [(.ref w1)]))
          refine own_via (fun _ k => XS.astore X8.here hx rfl (hb hby at_46) rfl rfl (l' := #[.val (.int p0), .val (.int p1), .val (.int z1), .val .null, .val (.ref w1)]) rfl k) ?_
          show own_Go p e below s _ _ _ (T8.setTop (mkF m 48 #[.val (.int p0), .val (.int p1), .val (.int z1), .val .null, .val (.ref w1)] []))
          refine own_via (fun _ k => XS.aload X8.here hx rfl (hb hby at_48) rfl rfl k) ?_
          show own_Go p e below s _ _ _ (T8.setTop (mkF m 50 #[.val (.int p0), .val (.int p1), .val (.int z1), .val .null, .val (.ref w1)] [(.ref w1)]))
          refine own_via (fun _ k => XS.aloadN X8.here hx rfl (hb hby at_50) rfl rfl k) ?_
          show own_Go p e below s _ _ _ (T8.setTop (mkF m 51 #[.val (.int p0), .val (.int p1), .val (.int z1), .val .null, .val (.ref w1)] [.null, (.ref w1)]))
          refine own_via (fun _ k => Jvm.RoadKit.acmp (g := (mkF m 51 #[.val (.int p0), .val (.int p1), .val (.int z1), .val .null, .val (.ref w1)] [.null, (.ref w1)])) X8 hx rfl rfl rfl (pc0 := 51) (pc' := 58) (same := false) rfl (hb hby at_51) rfl (decide_eq_false nofun) (by decide) (by decide) k) ?_
          show own_Go p e below s _ _ _ (T8.setTop (mkF m 58 #[.val (.int p0), .val (.int p1), .val (.int z1), .val .null, .val (.ref w1)] []))
          refine own_via (fun _ k => XS.iconst X8.here hx rfl (hb hby at_58) k) ?_
          show own_Go p e below s _ _ _ (T8.setTop (mkF m 59 #[.val (.int p0), .val (.int p1), .val (.int z1), .val .null, .val (.ref w1)] [(.int (0 : Int32))]))
          exact absurd hc7 ((own_form _).mp hr8_1_1).2
        · refine own_via st8 ?_
          show own_Go p e below s _ _ _ (T8.setTop (mkF m 46 #[.val (.int p0), .val (.int p1), .val (.int z1), .val .null, .unset] [.null]))
          refine own_via (fun _ k => XS.astore X8.here hx rfl (hb hby at_46) rfl rfl (l' := #[.val (.int p0), .val (.int p1), .val (.int z1), .val .null, .val .null]) rfl k) ?_
          show own_Go p e below s _ _ _ (T8.setTop (mkF m 48 #[.val (.int p0), .val (.int p1), .val (.int z1), .val .null, .val .null] []))
          refine own_via (fun _ k => XS.aload X8.here hx rfl (hb hby at_48) rfl rfl k) ?_
          show own_Go p e below s _ _ _ (T8.setTop (mkF m 50 #[.val (.int p0), .val (.int p1), .val (.int z1), .val .null, .val .null] [.null]))
          refine own_via (fun _ k => XS.aloadN X8.here hx rfl (hb hby at_50) rfl rfl k) ?_
          show own_Go p e below s _ _ _ (T8.setTop (mkF m 51 #[.val (.int p0), .val (.int p1), .val (.int z1), .val .null, .val .null] [.null, .null]))
          refine own_via (fun _ k => Jvm.RoadKit.acmp (g := (mkF m 51 #[.val (.int p0), .val (.int p1), .val (.int z1), .val .null, .val .null] [.null, .null])) X8 hx rfl rfl rfl (pc0 := 51) (pc' := 54) (same := true) rfl (hb hby at_51) rfl (decide_eq_true rfl) (by decide) (by decide) k) ?_
          show own_Go p e below s _ _ _ (T8.setTop (mkF m 54 #[.val (.int p0), .val (.int p1), .val (.int z1), .val .null, .val .null] []))
          refine own_via (fun _ k => XS.iconst X8.here hx rfl (hb hby at_54) k) ?_
          show own_Go p e below s _ _ _ (T8.setTop (mkF m 55 #[.val (.int p0), .val (.int p1), .val (.int z1), .val .null, .val .null] [(.int (1 : Int32))]))
          refine own_via (fun _ k => XS.goto X8.here hx rfl (pc0 := 55) (pc' := 59) rfl (hb hby at_55) (by decide) (by decide) k) ?_
          show own_Go p e below s _ _ _ (T8.setTop (mkF m 59 #[.val (.int p0), .val (.int p1), .val (.int z1), .val .null, .val .null] [(.int (1 : Int32))]))
          exact own_retZ X8 hx hlk (t := .boolean) Bd.returns (by simp) (hb hby at_59) (z' := (1 : Int32)) (by first | rfl | decide) ⟨rfl, (Fr.nil n0)⟩ (by decide) (by decide)
      · refine own_via (fun _ k => XS.icmpNo X1.here hx rfl (hb hby at_30) rfl (flt hc7).2.2.1 k) ?_
        show own_Go p e below s _ _ _ (T1.setTop (mkF m 33 #[.val (.int p0), .val (.int p1), .val (.int z1), .unset, .unset] []))
        obtain ⟨T9, X9, e9, st9⟩ := getS2 X1 hx hZ hown (host := "") (Or.inl (hw _ (List.mem_of_getElem? (i := 18) rfl))) Via.refl e1 S_w1 (g := (mkF m 33 #[.val (.int p0), .val (.int p1), .val (.int z1), .unset, .unset] [])) rfl (hb hby at_33)
        refine own_via st9 ?_
        show own_Go p e below s _ _ _ (T9.setTop (mkF m 36 #[.val (.int p0), .val (.int p1), .val (.int z1), .unset, .unset] [(.ref w1)]))
        refine own_via (fun _ k => XS.astoreN X9.here hx rfl (hb hby at_36) rfl rfl (l' := #[.val (.int p0), .val (.int p1), .val (.int z1), .val (.ref w1), .unset]) rfl k) ?_
        show own_Go p e below s _ _ _ (T9.setTop (mkF m 37 #[.val (.int p0), .val (.int p1), .val (.int z1), .val (.ref w1), .unset] []))
        refine own_via (fun _ k => XS.goto X9.here hx rfl (pc0 := 37) (pc' := 42) rfl (hb hby at_37) (by decide) (by decide) k) ?_
        show own_Go p e below s _ _ _ (T9.setTop (mkF m 42 #[.val (.int p0), .val (.int p1), .val (.int z1), .val (.ref w1), .unset] []))
        refine own_via (fun _ k => XS.iloadN X9.here hx rfl (hb hby at_42) rfl k) ?_
        show own_Go p e below s _ _ _ (T9.setTop (mkF m 43 #[.val (.int p0), .val (.int p1), .val (.int z1), .val (.ref w1), .unset] [(.int z1)]))
        obtain ⟨_, _, ⟨T10, L10, k10, n10⟩, -, X10, ⟨Lc10, hQ10, l10, y10, z10⟩, st10⟩ := Jvm.LawKit.callS X9 hx (y := (⟨"com/example/loudmark/loudmark/rtp/ExtensionForm", "forProfile", "(I)Lcom/example/loudmark/loudmark/rtp/ExtensionForm;"⟩ : MethodName)) hown (mvT hZ (hw _ (List.mem_of_getElem? (i := 5) rfl))) (mvT hZ (hw _ (List.mem_of_getElem? (i := 6) rfl))) (mvT hZ (hw _ (List.mem_of_getElem? (i := 7) rfl))) (mvT hZ (hw _ (List.mem_of_getElem? (i := 8) rfl))) (by decide) (backOf (W := 0) (rm2_0 l Z a0 hw [] z1 w0 w1 h0 n0 Z0 K0) hZ (hw _ (List.mem_of_getElem? (i := 8) rfl)) (hw _ (List.mem_of_getElem? (i := 7) rfl)) (by decide) (by decide)) (g := (mkF m 43 #[.val (.int p0), .val (.int p1), .val (.int z1), .val (.ref w1), .unset] [(.int z1)])) rfl (by rw [hml]; rfl) (argsL := [(.int z1)]) (rest := []) (lenOf pd1 rfl) rfl (by show 2 * 0 + _ ≤ _; exact Nat.le_of_eq rfl) (hb hby at_43) (fun _ _ => ⟨rfl, e9, (by decide : 0 + 0 ≤ _), (by decide : 0 + 0 ≤ _)⟩)
        dsimp only [Pt.U, Pt.locs, Pt.cells, Pt.slots] at X10 l10 y10 z10 st10 hQ10
        subst l10 y10 z10
        obtain ⟨rfl, e10, hO10⟩ := hQ10
        rcases hO10 with ⟨hr10_0_0, rfl⟩ | ⟨hr10_1_0, hr10_1_1, rfl⟩ | ⟨hr10_2_0, hr10_2_1, rfl⟩
        · exact absurd hr10_0_0 hc2
        · refine own_via st10 ?_
          show own_Go p e below s _ _ _ (T10.setTop (mkF m 46 #[.val (.int p0), .val (.int p1), .val (.int z1), .val (.ref w1), .unset] [(.ref w1)]))
          refine own_via (fun _ k => XS.astore X10.here hx rfl (hb hby at_46) rfl rfl (l' := #[.val (.int p0), .val (.int p1), .val (.int z1), .val (.ref w1), .val (.ref w1)]) rfl k) ?_
          show own_Go p e below s _ _ _ (T10.setTop (mkF m 48 #[.val (.int p0), .val (.int p1), .val (.int z1), .val (.ref w1), .val (.ref w1)] []))
          refine own_via (fun _ k => XS.aload X10.here hx rfl (hb hby at_48) rfl rfl k) ?_
          show own_Go p e below s _ _ _ (T10.setTop (mkF m 50 #[.val (.int p0), .val (.int p1), .val (.int z1), .val (.ref w1), .val (.ref w1)] [(.ref w1)]))
          refine own_via (fun _ k => XS.aloadN X10.here hx rfl (hb hby at_50) rfl rfl k) ?_
          show own_Go p e below s _ _ _ (T10.setTop (mkF m 51 #[.val (.int p0), .val (.int p1), .val (.int z1), .val (.ref w1), .val (.ref w1)] [(.ref w1), (.ref w1)]))
          refine own_via (fun _ k => Jvm.RoadKit.acmp (g := (mkF m 51 #[.val (.int p0), .val (.int p1), .val (.int z1), .val (.ref w1), .val (.ref w1)] [(.ref w1), (.ref w1)])) X10 hx rfl rfl rfl (pc0 := 51) (pc' := 54) (same := true) rfl (hb hby at_51) rfl (decide_eq_true rfl) (by decide) (by decide) k) ?_
          show own_Go p e below s _ _ _ (T10.setTop (mkF m 54 #[.val (.int p0), .val (.int p1), .val (.int z1), .val (.ref w1), .val (.ref w1)] []))
          refine own_via (fun _ k => XS.iconst X10.here hx rfl (hb hby at_54) k) ?_
          show own_Go p e below s _ _ _ (T10.setTop (mkF m 55 #[.val (.int p0), .val (.int p1), .val (.int z1), .val (.ref w1), .val (.ref w1)] [(.int (1 : Int32))]))
          refine own_via (fun _ k => XS.goto X10.here hx rfl (pc0 := 55) (pc' := 59) rfl (hb hby at_55) (by decide) (by decide) k) ?_
          show own_Go p e below s _ _ _ (T10.setTop (mkF m 59 #[.val (.int p0), .val (.int p1), .val (.int z1), .val (.ref w1), .val (.ref w1)] [(.int (1 : Int32))]))
          exact own_retZ X10 hx hlk (t := .boolean) Bd.returns (by simp) (hb hby at_59) (z' := (1 : Int32)) (by first | rfl | decide) ⟨rfl, (Fr.nil n0)⟩ (by decide) (by decide)
        · refine own_via st10 ?_
          show own_Go p e below s _ _ _ (T10.setTop (mkF m 46 #[.val (.int p0), .val (.int p1), .val (.int z1), .val (.ref w1), .unset] [.null]))
          refine own_via (fun _ k => XS.astore X10.here hx rfl (hb hby at_46) rfl rfl (l' := #[.val (.int p0), .val (.int p1), .val (.int z1), .val (.ref w1), .val .null]) rfl k) ?_
          show own_Go p e below s _ _ _ (T10.setTop (mkF m 48 #[.val (.int p0), .val (.int p1), .val (.int z1), .val (.ref w1), .val .null] []))
          refine own_via (fun _ k => XS.aload X10.here hx rfl (hb hby at_48) rfl rfl k) ?_
          show own_Go p e below s _ _ _ (T10.setTop (mkF m 50 #[.val (.int p0), .val (.int p1), .val (.int z1), .val (.ref w1), .val .null] [.null]))
          refine own_via (fun _ k => XS.aloadN X10.here hx rfl (hb hby at_50) rfl rfl k) ?_
          show own_Go p e below s _ _ _ (T10.setTop (mkF m 51 #[.val (.int p0), .val (.int p1), .val (.int z1), .val (.ref w1), .val .null] [(.ref w1), .null]))
          refine own_via (fun _ k => Jvm.RoadKit.acmp (g := (mkF m 51 #[.val (.int p0), .val (.int p1), .val (.int z1), .val (.ref w1), .val .null] [(.ref w1), .null])) X10 hx rfl rfl rfl (pc0 := 51) (pc' := 58) (same := false) rfl (hb hby at_51) rfl (decide_eq_false nofun) (by decide) (by decide) k) ?_
          show own_Go p e below s _ _ _ (T10.setTop (mkF m 58 #[.val (.int p0), .val (.int p1), .val (.int z1), .val (.ref w1), .val .null] []))
          refine own_via (fun _ k => XS.iconst X10.here hx rfl (hb hby at_58) k) ?_
          show own_Go p e below s _ _ _ (T10.setTop (mkF m 59 #[.val (.int p0), .val (.int p1), .val (.int z1), .val (.ref w1), .val .null] [(.int (0 : Int32))]))
          exact absurd ((own_form _).mpr ⟨hc5, hc7⟩) hr10_2_1
set_option maxRecDepth 65536 in
set_option maxHeartbeats 40000000 in
theorem comes_1 {Post : Tables → Env → Array Value → State → Outcome → State → Prop} (hpost : ∀ tb e args s v u, (limb_1_1.after args s (.returned v) u = true ∧ limb_1_2.after args s (.returned v) u = true ∧ True) → FrameEnd s (.returned v) u (Jvm.fieldLocs frame_1_writes args s ++ Jvm.arrayLocs frame_1_arrays args s ++ Jvm.staticLocs frame_1_statics s) 0 0 → Post tb e args s (.returned v) u) :
    ArmFor flags0 classFile x code maxLocals ret World_1 tables_1 room_1 Calls_1 rest_1 Pre_1 Post := by
  intro l hfl _ _ p e ha hc hk s m args below hf hA hF happ hP
  obtain ⟨hcalls, hrest, hpre⟩ := hP
  obtain ⟨-, -, -, hnamed, -, -, -, hat⟩ := (Spec.applies_iff hf).mp happ
  obtain ⟨hg, hn⟩ := and_e (Cond.before_iff.mp (show (Jvm.Cond.and given_1 narrow_1).before args s = true from hpre))
  obtain ⟨g0, hg0⟩ := and_e hg
  obtain ⟨g1, hg1⟩ := and_e hg0
  obtain ⟨u0, u1, rfl⟩ : ∃ u0 u1 : Value, args = #[u0, u1] := by
    have hs : args.size = 2 := by simpa [Cond.value, given_1] using g0
    obtain ⟨L⟩ := args
    match L, hs with
    | [u0, u1], _ => exact ⟨u0, u1, rfl⟩
  have hw := fun d (hd : d ∈ tables_1) => atoms_spec (ws := Jvm.Cond.code x code maxLocals ret :: tables_1) hat d (List.mem_cons_of_mem _ hd)
  obtain ⟨i0, ei0⟩ := is_v g1
  obtain rfl : u0 = (.int i0) := Option.some.inj ei0
  obtain ⟨i1, ei1⟩ := is_v hg1
  obtain rfl : u1 = (.int i1) := Option.some.inj ei1
  obtain ⟨t0, hn0⟩ := and_e hn
  obtain ⟨t1, hn1⟩ := and_e hn0
  obtain ⟨t2, hn2⟩ := and_e hn1
  obtain ⟨t3, hn3⟩ := and_e hn2
  obtain ⟨t4, hn4⟩ := and_e hn3
  obtain ⟨w0, v_w0⟩ := exa_v t0
  have E_w0 := Exa.start v_w0 t0
  have S_w0 := Sta.start v_w0 (Or.inr ⟨(hw _ (List.mem_of_getElem? (i := 7) rfl)), (hw _ (List.mem_of_getElem? (i := 10) rfl))⟩)
  obtain ⟨w1, v_w1⟩ := exa_v t2
  have E_w1 := Exa.start v_w1 t2
  have S_w1 := Sta.start v_w1 (Or.inr ⟨(hw _ (List.mem_of_getElem? (i := 7) rfl)), (hw _ (List.mem_of_getElem? (i := 14) rfl))⟩)
  have F_w0_profile := own_fld v_w0 t1
  have F_w1_appBits := own_fld v_w1 t3
  have F_w1_profile := own_fld v_w1 t4
  have F_w0_appBits := own_fld v_w0 hn4
  have n_w0_w1 : ¬ (w0 = w1) := Fld.ne F_w0_profile F_w1_profile (by decide)
  obtain ⟨n, o, h1, h2, h3, _, L, rfl, ⟨rfl, N⟩, hq⟩ := rm0 l s _ hw tables_1 i0 i1 w0 w1 s.heap s.heap.size (Nat.le_refl _) ⟨S_w0, S_w1, E_w0, E_w1, F_w0_profile, F_w1_appBits, F_w1_profile, F_w0_appBits, n_w0_w1⟩ p e ha hc hk s m _ below hf ((Spec.applies_iff_loose hf).mp happ).1 ⟨rfl, State.Warmed39.refl s, rfl⟩ trivial
  refine ⟨n, _, h1, h2, h3, hpost _ _ _ _ _ _ ⟨Cond.after_iff.mpr rfl, Cond.after_iff.mpr (eq_i res_at (Term.int_eval (1)) rfl), trivial⟩ ⟨hq.1, hq.2.1, (hq.2.2.sift fun y hy => Or.inr (N y hy)).mono (by decide) (by decide)⟩⟩
theorem main_1_1 : Claimed_1_1 := comes_1 fun _ _ _ _ _ _ h hF => ⟨h.1, hF⟩
theorem main_1_2 : Claimed_1_2 := comes_1 fun _ _ _ _ _ _ h hF => ⟨h.2.1, hF⟩
end Jvm.Pilot.@@N@@
namespace Jvm.Pilot.@@N@@
open Jvm Jvm.ClassFile Sem Op Lib Jvm.Free Jvm.Stand Jvm.Pilot.@@N@@.Jvm.D
/-! MADE BY PROGRAM (witnessworld.py) out of the Statement's table words and the real class files: 12 classes; the members and pool entries that the words name. The judged class is class 1, her method 2. -/
namespace start1
open Jvm.ClassFile
def u (s : String) : CpInfo := .utf8 (stringToUtf16 s)
/-- a pool by its gaps: so many unusable entries, then the entry; so many at the end -/
def gap : Nat → List CpInfo → List CpInfo
  | 0, r => r
  | n + 1, r => .unusable :: gap n r
def poolList (es : List (Nat × CpInfo)) (last : Nat) : List CpInfo := es.foldr (fun e r => gap e.1 (e.2 :: r)) (gap last [])
def pool (es : List (Nat × CpInfo)) (last : Nat) : Array CpInfo := ⟨poolList es last⟩
def fileOf (pool : Array CpInfo) (this : Nat) (attrs : Array Attribute := #[]) (ms : Array MethodInfo := #[]) (fl : Nat := 33) (sup : Nat := 0) (ifs : Array Nat := #[]) (fds : Array FieldInfo := #[]) : ClassFile where
  minorVersion := 0
  majorVersion := 65
  constantPool := pool
  accessFlags := fl
  thisClass := this
  superClass := sup
  interfaces := ifs
  fields := fds
  methods := ms
  attributes := attrs
def plain (name : String) (sup : Option ClassId) : Class where
  name := name
  kind := .ordinary
  loader := none
  accessFlags := 33
  super := sup
  interfaces := #[]
  cf := none
  fields := #[]
  methods := #[]
  instanceTypes := #[]
  staticTypes := #[]
  resolved := #[]
  callSites := []
  init := .initialized
  statics := none
  mirror := none

def pool0 : Array CpInfo := pool [(5, u "<init>"), (0, u "()V"), (1, .class_ 10), (1, u "java/lang/Object")] 113

def k0m0 : Method := { name := "<init>", desc := "()V", sig := { parameters := [], returnType := none }, accessFlags := 1, code := none }
/-- java/lang/Object -/
def k0 : Class := { plain "java/lang/Object" none with
  accessFlags := 33
  interfaces := #[]
  cf := some (fileOf pool0 8 #[] #[{ accessFlags := 1, nameIndex := 5, descriptorIndex := 6, attributes := #[] }] 33 0 #[] #[])
  fields := #[]
  methods := #[k0m0]
  instanceTypes := #[]
  staticTypes := #[]
  resolved := Array.replicate 124 none
  statics := none }

def pool1 : Array CpInfo := pool [(2, .class_ 4), (1, u "java/lang/Object"), (0, u "<init>"), (0, u "()V"), (0, .integer 48862), (0, .methodref 9 10), (0, .class_ 11), (0, .nameAndType 12 13), (0, u "com/example/loudmark/loudmark/rtp/ExtensionFormForProfilePinLaw"), (0, u "pick"), (0, u "(II)I"), (0, .fieldref 15 16), (0, .class_ 17), (0, .nameAndType 18 19), (0, u "com/example/loudmark/loudmark/rtp/ExtensionForm"), (0, u "ONE_BYTE"), (0, u "Lcom/example/loudmark/loudmark/rtp/ExtensionForm;"), (0, .fieldref 15 21), (0, .nameAndType 22 19), (0, u "TWO_BYTE"), (0, .methodref 15 24), (0, .nameAndType 25 26), (0, u "forProfile"), (0, u "(I)Lcom/example/loudmark/loudmark/rtp/ExtensionForm;"), (3, u "law"), (0, u "(II)Z")] 2

def k1m0 : Method := { name := "<init>", desc := "()V", sig := { parameters := [], returnType := none }, accessFlags := 2, code := none }
def k1c1 : Code := { maxStack := 4, maxLocals := 3, code := method_2_code, exceptionTable := #[], attributes := #[] }
def k1m1 : Method := { name := "pick", desc := "(II)I", sig := { parameters := [.int, .int], returnType := some .int }, accessFlags := 10, code := some k1c1 }
def k1c2 : Code := { maxStack := 2, maxLocals := 5, code := code, exceptionTable := #[], attributes := #[] }
def k1m2 : Method := { name := "law", desc := "(II)Z", sig := { parameters := [.int, .int], returnType := some .boolean }, accessFlags := 9, code := some k1c2 }
/-- com/example/loudmark/loudmark/rtp/ExtensionFormForProfilePinLaw -/
def k1 : Class := { plain "com/example/loudmark/loudmark/rtp/ExtensionFormForProfilePinLaw" (some 0) with
  accessFlags := 49
  interfaces := #[]
  cf := some (fileOf pool1 9 #[] #[{ accessFlags := 2, nameIndex := 5, descriptorIndex := 6, attributes := #[] }, { accessFlags := 10, nameIndex := 12, descriptorIndex := 13, attributes := #[] }, { accessFlags := 9, nameIndex := 30, descriptorIndex := 31, attributes := #[] }] 49 2 #[] #[])
  fields := #[]
  methods := #[k1m0, k1m1, k1m2]
  instanceTypes := #[]
  staticTypes := #[]
  resolved := Array.replicate 34 none
  statics := none }

def pool2 : Array CpInfo := pool [(1, .class_ 2), (0, u "java/lang/constant/Constable"), (0, .class_ 4), (0, u "java/lang/Object")] 6

/-- java/lang/constant/Constable -/
def k2 : Class := { plain "java/lang/constant/Constable" (some 0) with
  accessFlags := 1537
  interfaces := #[]
  cf := some (fileOf pool2 1 #[] #[] 1537 3 #[] #[])
  fields := #[]
  methods := #[]
  instanceTypes := #[]
  staticTypes := #[]
  resolved := Array.replicate 11 none
  statics := none }

def pool3 : Array CpInfo := pool [(1, .class_ 2), (0, u "java/lang/Comparable"), (0, .class_ 4), (0, u "java/lang/Object")] 7

/-- java/lang/Comparable -/
def k3 : Class := { plain "java/lang/Comparable" (some 0) with
  accessFlags := 1537
  interfaces := #[]
  cf := some (fileOf pool3 1 #[] #[] 1537 3 #[] #[])
  fields := #[]
  methods := #[]
  instanceTypes := #[]
  staticTypes := #[]
  resolved := Array.replicate 12 none
  statics := none }

def pool4 : Array CpInfo := pool [(1, .class_ 2), (0, u "java/io/Serializable"), (0, .class_ 4), (0, u "java/lang/Object")] 2

/-- java/io/Serializable -/
def k4 : Class := { plain "java/io/Serializable" (some 0) with
  accessFlags := 1537
  interfaces := #[]
  cf := some (fileOf pool4 1 #[] #[] 1537 3 #[] #[])
  fields := #[]
  methods := #[]
  instanceTypes := #[]
  staticTypes := #[]
  resolved := Array.replicate 7 none
  statics := none }

def pool5 : Array CpInfo := pool [(2, .class_ 4), (1, u "java/lang/Enum"), (0, u "name"), (0, u "Ljava/lang/String;"), (2, u "ordinal"), (0, u "I"), (1, .class_ 14), (1, u "java/lang/Object"), (4, u "hash"), (86, .class_ 108), (1, u "java/lang/Enum$EnumDesc"), (2, .class_ 112), (0, u "java/lang/constant/Constable"), (0, .class_ 114), (0, u "java/lang/Comparable"), (0, .class_ 116), (0, u "java/io/Serializable")] 87

/-- java/lang/Enum -/
def k5 : Class := { plain "java/lang/Enum" (some 0) with
  accessFlags := 1057
  interfaces := #[2, 3, 4]
  cf := some (fileOf pool5 2 #[.nestMembers #[106]] #[] 1057 12 #[111, 113, 115] #[{ accessFlags := 18, nameIndex := 5, descriptorIndex := 6, attributes := #[] }, { accessFlags := 18, nameIndex := 9, descriptorIndex := 10, attributes := #[] }, { accessFlags := 2, nameIndex := 19, descriptorIndex := 10, attributes := #[] }])
  fields := #[{ name := "name", type := (.object "java/lang/String"), accessFlags := 18, slot := 0, constantValue := 0 }, { name := "ordinal", type := .int, accessFlags := 18, slot := 1, constantValue := 0 }, { name := "hash", type := .int, accessFlags := 2, slot := 2, constantValue := 0 }]
  methods := #[]
  instanceTypes := #[(.object "java/lang/String"), .int, .int]
  staticTypes := #[]
  resolved := Array.replicate 204 none
  statics := none }

def pool6 : Array CpInfo := pool [(1, .class_ 2), (0, u "com/example/loudmark/loudmark/rtp/ExtensionForm"), (0, .fieldref 1 4), (0, .nameAndType 5 6), (0, u "ONE_BYTE"), (0, u "Lcom/example/loudmark/loudmark/rtp/ExtensionForm;"), (0, .fieldref 1 8), (0, .nameAndType 9 6), (0, u "TWO_BYTE"), (2, u "$VALUES"), (0, u "[Lcom/example/loudmark/loudmark/rtp/ExtensionForm;"), (6, .class_ 22), (1, u "java/lang/Enum"), (8, u "label"), (0, u "Ljava/lang/String;"), (0, .fieldref 1 34), (0, .nameAndType 35 36), (0, u "profile"), (0, u "I"), (0, .fieldref 1 38), (0, .nameAndType 39 36), (0, u "appBits"), (2, u "maxId"), (2, u "minDataLength"), (2, u "maxDataLength"), (2, u "headerLength"), (2, u "FORMS"), (86, .class_ 143), (1, u "com/example/loudmark/loudmark/rtp/ExtensionForm$ElementVisitor"), (26, u "PADDING"), (2, u "MIN_ID"), (1, u "ONE_BYTE_STOP_ID"), (7, u "forProfile"), (0, u "(I)Lcom/example/loudmark/loudmark/rtp/ExtensionForm;")] 65

def k6c0 : Code := { maxStack := 3, maxLocals := 2, code := prog_55_method_5_code, exceptionTable := #[], attributes := #[] }
def k6m0 : Method := { name := "forProfile", desc := "(I)Lcom/example/loudmark/loudmark/rtp/ExtensionForm;", sig := { parameters := [.int], returnType := some (.object "com/example/loudmark/loudmark/rtp/ExtensionForm") }, accessFlags := 8, code := some k6c0 }
/-- com/example/loudmark/loudmark/rtp/ExtensionForm -/
def k6 : Class := { plain "com/example/loudmark/loudmark/rtp/ExtensionForm" (some 5) with
  accessFlags := 16433
  interfaces := #[]
  cf := some (fileOf pool6 1 #[.nestMembers #[141]] #[{ accessFlags := 8, nameIndex := 183, descriptorIndex := 184, attributes := #[] }] 16433 20 #[] #[{ accessFlags := 16409, nameIndex := 5, descriptorIndex := 6, attributes := #[] }, { accessFlags := 16409, nameIndex := 9, descriptorIndex := 6, attributes := #[] }, { accessFlags := 26, nameIndex := 170, descriptorIndex := 36, attributes := #[] }, { accessFlags := 26, nameIndex := 173, descriptorIndex := 36, attributes := #[] }, { accessFlags := 26, nameIndex := 175, descriptorIndex := 36, attributes := #[] }, { accessFlags := 26, nameIndex := 54, descriptorIndex := 13, attributes := #[] }, { accessFlags := 18, nameIndex := 31, descriptorIndex := 32, attributes := #[] }, { accessFlags := 18, nameIndex := 35, descriptorIndex := 36, attributes := #[] }, { accessFlags := 18, nameIndex := 39, descriptorIndex := 36, attributes := #[] }, { accessFlags := 18, nameIndex := 42, descriptorIndex := 36, attributes := #[] }, { accessFlags := 18, nameIndex := 45, descriptorIndex := 36, attributes := #[] }, { accessFlags := 18, nameIndex := 48, descriptorIndex := 36, attributes := #[] }, { accessFlags := 18, nameIndex := 51, descriptorIndex := 36, attributes := #[] }, { accessFlags := 4122, nameIndex := 12, descriptorIndex := 13, attributes := #[] }])
  fields := #[{ name := "ONE_BYTE", type := (.object "com/example/loudmark/loudmark/rtp/ExtensionForm"), accessFlags := 16409, slot := 0, constantValue := 0 }, { name := "TWO_BYTE", type := (.object "com/example/loudmark/loudmark/rtp/ExtensionForm"), accessFlags := 16409, slot := 1, constantValue := 0 }, { name := "PADDING", type := .int, accessFlags := 26, slot := 2, constantValue := 0 }, { name := "MIN_ID", type := .int, accessFlags := 26, slot := 3, constantValue := 0 }, { name := "ONE_BYTE_STOP_ID", type := .int, accessFlags := 26, slot := 4, constantValue := 0 }, { name := "FORMS", type := (.array (.object "com/example/loudmark/loudmark/rtp/ExtensionForm")), accessFlags := 26, slot := 5, constantValue := 0 }, { name := "label", type := (.object "java/lang/String"), accessFlags := 18, slot := 3, constantValue := 0 }, { name := "profile", type := .int, accessFlags := 18, slot := 4, constantValue := 0 }, { name := "appBits", type := .int, accessFlags := 18, slot := 5, constantValue := 0 }, { name := "maxId", type := .int, accessFlags := 18, slot := 6, constantValue := 0 }, { name := "minDataLength", type := .int, accessFlags := 18, slot := 7, constantValue := 0 }, { name := "maxDataLength", type := .int, accessFlags := 18, slot := 8, constantValue := 0 }, { name := "headerLength", type := .int, accessFlags := 18, slot := 9, constantValue := 0 }, { name := "$VALUES", type := (.array (.object "com/example/loudmark/loudmark/rtp/ExtensionForm")), accessFlags := 4122, slot := 6, constantValue := 0 }]
  methods := #[k6m0]
  instanceTypes := #[(.object "java/lang/String"), .int, .int, (.object "java/lang/String"), .int, .int, .int, .int, .int, .int]
  staticTypes := #[(.object "com/example/loudmark/loudmark/rtp/ExtensionForm"), (.object "com/example/loudmark/loudmark/rtp/ExtensionForm"), .int, .int, .int, (.array (.object "com/example/loudmark/loudmark/rtp/ExtensionForm")), (.array (.object "com/example/loudmark/loudmark/rtp/ExtensionForm"))]
  resolved := Array.replicate 250 none
  statics := some 0 }

def pool7 : Array CpInfo := pool [(1, u "java/lang/Cloneable"), (0, .class_ 1), (0, u "java/lang/Object"), (0, .class_ 3)] 3

/-- java/lang/Cloneable -/
def k7 : Class := { plain "java/lang/Cloneable" (some 0) with
  accessFlags := 1537
  interfaces := #[]
  cf := some (fileOf pool7 2 #[] #[] 1537 4 #[] #[])
  fields := #[]
  methods := #[]
  instanceTypes := #[]
  staticTypes := #[]
  resolved := Array.replicate 8 none
  statics := none }

/-- the primitive byte -/
def k8 : Class := { plain "byte" none with kind := .primitive 'B', accessFlags := 0x411 }
/-- [B -/
def k9 : Class := { plain "[B" (some 0) with kind := .array 8 .byte, interfaces := #[7, 4], accessFlags := 1041 }

/-- the primitive int -/
def k10 : Class := { plain "int" none with kind := .primitive 'I', accessFlags := 0x411 }
/-- [I -/
def k11 : Class := { plain "[I" (some 0) with kind := .array 10 .int, interfaces := #[7, 4], accessFlags := 1041 }

def heap : Heap := #[{ cls := 6, slots := #[.ref 1, .ref 2, .int 0, .int 0, .int 0, .null, .null], vm := .statics 6 },
  { cls := 6, slots := #[.null, .int 0, .int 0, .null, .int 48862, .int 0, .int 0, .int 0, .int 0, .int 0], vm := .none },
  { cls := 6, slots := #[.null, .int 0, .int 0, .null, .int 4096, .int 15, .int 0, .int 0, .int 0, .int 0], vm := .none }]
def classes : Array Class := #[k0, k1, k2, k3, k4, k5, k6, k7, k8, k9, k10, k11]
def interned : List (Array UInt16 × Addr) := []
def slotsUsed : Nat := 27
def theMethod : MethodId := ⟨1, 2⟩
def args0 : Array Value := #[.int 5, .int 5]
def aboutOver (below : List Frame) : State where
  vm := { classes := classes, interned := interned.toArray }
  heap := heap
  slotsUsed := slotsUsed
  threads := #[{ frames := .invoking theMethod args0 :: below }]
def below0 : List Frame := [.native { method := ⟨0, 0⟩, args := #[] }]
def about1 : State := aboutOver below0
def p0 : Program := .bare "" "" ""
def e0 : Env := launch0.env 0 0 0
theorem w_frames : about1.frames = Frame.invoking theMethod args0 :: below0 := rfl
set_option maxRecDepth 65536 in
theorem w_args : argsFit about1.vm theMethod args0 = true := by decide +kernel
set_option maxRecDepth 65536 in
theorem w_heap : heapFits about1 = true := by decide +kernel
set_option maxRecDepth 65536 in
theorem w_runnable : about1.curStatus? = some .runnable := by decide +kernel
set_option maxRecDepth 65536 in
theorem w_alone : about1.alone = true := by decide +kernel
set_option maxRecDepth 65536 in
theorem w_named : about1.methodNamed? x = some theMethod := by decide +kernel
set_option maxRecDepth 65536 in
theorem w_hears : about1.hears theMethod below0 = true := by decide +kernel
set_option maxRecDepth 65536 in
theorem w_ripe : about1.ripe theMethod args0 below0 = true := by decide +kernel
theorem w_running : about1.status = .running := rfl
set_option maxRecDepth 65536 in
theorem w_room : about1.hasRoom e0.platform room_1 = true :=
  launch0.hasRoom_least _ room_1 (by decide +kernel) (by decide +kernel) (by decide +kernel) (by decide +kernel) (by decide +kernel) (by decide +kernel)
theorem allAtoms_all (ts : List Jvm.Cond) (a : Array Jvm.Value) (st : Jvm.State) : (allAtoms ts).before a st = ts.all (fun c => c.before a st) := by
  induction ts with
  | nil => rfl
  | cons c t ih =>
    show (Jvm.Cond.and c (allAtoms t)).before a st = _
    rw [Jvm.Cond.before_and, ih, List.all_cons]
def words1 : List Jvm.Cond := Jvm.Cond.code x code maxLocals ret :: tables_1
/-- a 'code' word, met by the world's own term for the bytes: nothing is compared byte by byte -/
theorem code_word {y : MethodName} {bytes : ByteArray} {mx : Nat} {rt : Option FieldType} {a : Array Value} {s : State} {m : MethodId} {meth : Method} {c : Code} (h1 : s.methodNamed? y = some m) (h2 : s.vm.method? m = some meth) (h3 : meth.code = some c) (h4 : c.code = bytes)
    (h5 : (c.maxLocals == mx && c.exceptionTable.isEmpty && decide (c.maxStack ≤ mostOperands) && decide (meth.sig.returnType = rt) && !meth.locks && decide (parseMethodDescriptor y.desc = some meth.sig)) = true) : (Jvm.Cond.code y bytes mx rt).before a s = true := by
  simp only [Bool.and_eq_true, beq_iff_eq, Bool.not_eq_true', decide_eq_true_eq] at h5
  obtain ⟨⟨⟨⟨⟨g1, g2⟩, g3⟩, g4⟩, g5⟩, g6⟩ := h5
  simp [Cond.before, Cond.holds, Cond.value, h1, h2, h3, h4, g1, g2, g3, g4, g5, g6]
def isCode : Jvm.Cond → Bool
  | .code _ _ _ _ => true
  | _ => false
theorem all_split {L : List Jvm.Cond} {P : Jvm.Cond → Bool} (h1 : L.all (fun c => isCode c || P c) = true) (h2 : ∀ c ∈ L.filter isCode, P c = true) : L.all P = true := by
  refine List.all_eq_true.mpr fun c hc => ?_
  have h := List.all_eq_true.mp h1 c hc
  rcases Bool.eq_false_or_eq_true (isCode c) with hi | hi
  · exact h2 c (List.mem_filter.mpr ⟨hc, hi⟩)
  · simpa [hi] using h
set_option maxRecDepth 65536 in
theorem w_c0 : (Jvm.Cond.code x code maxLocals ret).before args0 about1 = true := code_word (m := ⟨1, 2⟩) (meth := k1m2) (c := k1c2) (by decide +kernel) rfl rfl rfl (by decide +kernel)
set_option maxRecDepth 65536 in
theorem w_c1 : (Jvm.Cond.code ({ cls := "com/example/loudmark/loudmark/rtp/ExtensionFormForProfilePinLaw", name := "pick", desc := "(II)I" } : Jvm.MethodName) method_2_code (3 : Nat) (Option.some Jvm.ClassFile.FieldType.int)).before args0 about1 = true := code_word (m := ⟨1, 1⟩) (meth := k1m1) (c := k1c1) (by decide +kernel) rfl rfl rfl (by decide +kernel)
set_option maxRecDepth 65536 in
theorem w_c2 : (Jvm.Cond.code ({ cls := "com/example/loudmark/loudmark/rtp/ExtensionForm", name := "forProfile", desc := "(I)Lcom/example/loudmark/loudmark/rtp/ExtensionForm;" } : Jvm.MethodName) prog_55_method_5_code (2 : Nat) (Option.some (Jvm.ClassFile.FieldType.object "com/example/loudmark/loudmark/rtp/ExtensionForm"))).before args0 about1 = true := code_word (m := ⟨6, 0⟩) (meth := k6m0) (c := k6c0) (by decide +kernel) rfl rfl rfl (by decide +kernel)
def codes1 : List Jvm.Cond := [Jvm.Cond.code x code maxLocals ret, Jvm.Cond.code ({ cls := "com/example/loudmark/loudmark/rtp/ExtensionFormForProfilePinLaw", name := "pick", desc := "(II)I" } : Jvm.MethodName) method_2_code (3 : Nat) (Option.some Jvm.ClassFile.FieldType.int), Jvm.Cond.code ({ cls := "com/example/loudmark/loudmark/rtp/ExtensionForm", name := "forProfile", desc := "(I)Lcom/example/loudmark/loudmark/rtp/ExtensionForm;" } : Jvm.MethodName) prog_55_method_5_code (2 : Nat) (Option.some (Jvm.ClassFile.FieldType.object "com/example/loudmark/loudmark/rtp/ExtensionForm"))]
set_option maxRecDepth 65536 in
theorem codes_eq : words1.filter isCode = codes1 := rfl
theorem w_codes : ∀ c ∈ words1.filter isCode, c.before args0 about1 = true := by
  rw [codes_eq]
  intro c hc
  simp only [codes1, List.mem_cons, List.not_mem_nil, or_false] at hc
  rcases hc with rfl | rfl | rfl
  · exact w_c0
  · exact w_c1
  · exact w_c2
set_option maxRecDepth 65536 in
theorem w_t1 : words1.all (fun c => isCode c || c.before args0 about1) = true := by decide +kernel
theorem w_tables : (allAtoms (Jvm.Cond.code x code maxLocals ret :: tables_1)).before args0 about1 = true := by
  rw [allAtoms_all]
  show words1.all (fun c => c.before args0 about1) = true
  refine all_split ?_ w_codes
  rw [w_t1]
set_option maxRecDepth 65536 in
theorem w_case : (Jvm.Cond.and given_1 narrow_1).before args0 about1 = true := by decide +kernel
theorem w_applies : (headSpec (Jvm.Cond.code x code maxLocals ret :: tables_1) room_1).applies x e0.platform about1 = true :=
  (Spec.applies_iff w_frames).mpr ⟨w_running, w_runnable, w_alone, w_named, w_hears, w_ripe, w_room, w_tables⟩
theorem atStart : AtStart classFile x code maxLocals ret World_1 tables_1 room_1 Calls_1 rest_1 Pre_1 launch0 p0 e0 about1 theMethod args0 below0 :=
  ⟨lists_1, trivial, launch0.admits_env _ _ _, launch0.least_env, fairChoices_fair.cas, fairChoices_fair.clock, w_frames, w_args, w_heap, w_applies, trivial, trivial, w_case⟩
end start1
theorem witness_1 : WitnessClaimed_1 := ⟨start1.p0, start1.e0, start1.about1, start1.theMethod, start1.args0, start1.below0, start1.atStart⟩
end Jvm.Pilot.@@N@@
